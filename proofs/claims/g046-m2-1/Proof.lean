import JvmDerived
import JvmDerived.Pilot.@@N@@Statement
import JvmDerived.Pilot.@@N@@Code
set_option linter.unusedVariables false
set_option linter.unusedSimpArgs false
namespace Jvm.RoadKit
open Sem ClassFile Op Lib Jvm.Stand Jvm.Free Jvm.LawKit
section New
variable {p : Program} {l : Launch} {e : Env} {R : Room} {s : State} {m : MethodId} {args : Array Value} {below : List Frame} {meth : Method} {c : Code} {T : State} {locs : List Loc} {cells slots : Nat}
theorem retI (X : Stand p l e R s m args below meth c T locs cells slots) (hx : p.tables.exec = Jvm.exec) {pc : Nat} {Ls : Array Slot} {z : Int32} {rest : List Value} (hret : meth.sig.returnType = some .int) (hd : decode c.code pc = .ok (.ireturn, 1)) {fs : List Frame}
    (hl : ∀ (f : JFrame) (acts : List Action), f.method = m → f.locked = none → f.entered = [] → (doReturn e (T.setTop f) acts (some (.int z))).1 = T.setFrames fs) : Steps p.tables e below (T.setTop (mkF m pc Ls (.int z :: rest))) (T.setFrames fs) := by
  have hm' : T.vm.method? m = some meth := X.method'
  have hn : narrow .int (.int z) = .int z := rfl
  show Steps p.tables e below (T.setTop { method := m, pc := pc, locals := Ls, stack := _ :: rest, locked := none }) _
  jvm_step X.here [X.here.top, hx, hd, hm', hret, hn]
  first | (intro acts; rw [hl _ acts rfl rfl rfl]) | rw [hl _ _ rfl rfl rfl]
  exact Steps.refl _
end New
end Jvm.RoadKit
namespace Jvm.Pilot.@@N@@
open Jvm Jvm.ClassFile Sem Op Lib Jvm.Free Jvm.Stand Jvm.LawKit Jvm.RoadKit Bundle Jvm.Pilot.@@N@@.Jvm.D

/-! what is known of the heap -/
/-- the list at a -/
def own_Lst (Z : State) (h : Heap) (a : Addr) (mo : Int32) (d : Addr) (n : Int32) : Prop := Exa Z h a "java/util/ArrayList" ∧ Fld Z h a "java/util/AbstractList" "modCount" "I" (.int mo) ∧ Fld Z h a "java/util/ArrayList" "elementData" "[Ljava/lang/Object;" (.ref d) ∧ Fld Z h a "java/util/ArrayList" "size" "I" (.int n)
theorem own_Lst_keep {Z : State} {h h' : Heap} {a d : Addr} {mo n : Int32} {ws : List Addr} (F : own_Lst Z h a mo d n) (K : Keep h h' ws) (q : a ∉ ws) : own_Lst Z h' a mo d n := ⟨F.1.keep K, F.2.1.keep K q, F.2.2.1.keep K q, F.2.2.2.keep K q⟩
/-- its array of ten places, whose first hold vs -/
def own_Dat (Z : State) (h : Heap) (d : Addr) (vs : List Value) : Prop := ∃ k, Ovr Z k "java/lang/Object" ∧ Arv Z h d k (.object "java/lang/Object") 10 vs .null
theorem own_Dat_keep {Z : State} {h h' : Heap} {d : Addr} {vs : List Value} {ws : List Addr} (F : own_Dat Z h d vs) (K : Keep h h' ws) (q : d ∉ ws) : own_Dat Z h' d vs := by obtain ⟨k, O, A⟩ := F; exact ⟨k, O, A.keep K q⟩
/-- a double[2] at x -/
def own_Pr (Z : State) (h : Heap) (x : Addr) (f t : UInt64) : Prop := Exa Z h x "[D" ∧ ∃ k, Arv Z h x k .double 2 [.double f, .double t] (.double 0)
theorem own_Pr_keep {Z : State} {h h' : Heap} {x : Addr} {f t : UInt64} {ws : List Addr} (F : own_Pr Z h x f t) (K : Keep h h' ws) (q : x ∉ ws) : own_Pr Z h' x f t := by obtain ⟨E, k, A⟩ := F; exact ⟨E.keep K, k, A.keep K q⟩
/-- the empty array that a new list holds -/
def own_Emp (Z : State) (h : Heap) (w : Addr) : Prop := Sta Z h "java/util/ArrayList" "DEFAULTCAPACITY_EMPTY_ELEMENTDATA" "[Ljava/lang/Object;" (.ref w) ∧ ∃ cl : Cell, Arr Z h w cl (.object "java/lang/Object") ∧ cl.slots.size = (0 : Int32).toNatClampNeg
theorem own_Emp_ext {Z : State} {h h' : Heap} {w : Addr} (F : own_Emp Z h w) (E : Ext h h') : own_Emp Z h' w := by obtain ⟨S, cl, A, q⟩ := F; exact ⟨S.ext E, cl, A.ext E, q⟩
theorem own_Emp_wr {Z : State} {h h' : Heap} {w a : Addr} {sl : Nat} {v : Value} (F : own_Emp Z h w) (W : Wr h h' a sl v) (q : w ≠ a) : own_Emp Z h' w := by obtain ⟨S, cl, A, r⟩ := F; exact ⟨S.wr W, cl, A.other W q, r⟩
theorem own_Emp_lt {Z : State} {h : Heap} {w : Addr} (F : own_Emp Z h w) : w < h.size := by obtain ⟨S, cl, A, r⟩ := F; exact A.lt
theorem own_sta {Z : State} {h h' : Heap} {a : Addr} {C n d C' : String} {v : Value} (F : Sta Z h C n d v) (K : Keep h h' [a]) (E : Exa Z h a C') : Sta Z h' C n d v := by
  obtain ⟨cf, i, k, f, st, cell, h1, h2, h3, h4, h5, h6, h7⟩ := F
  refine ⟨cf, i, k, f, st, cell, h1, h2, h3, h4, K.2.1 _ _ h5 ?_, h6, h7⟩
  intro hm
  have e := List.mem_singleton.mp hm
  subst e
  obtain ⟨c2, k2, g1, -, -, g4, -⟩ := E
  cases h5.symm.trans g1
  rw [h6] at g4
  cases g4
theorem own_Emp_ne {Z : State} {h : Heap} {w a : Addr} {C : String} {k : Nat} {a0 : Array Value} (F : own_Emp Z h w) (E : Exa Z h a C) (wi : (Cond.instantiable C k).before a0 Z = true) : w ≠ a := by
  obtain ⟨S, cl, A, r⟩ := F
  exact (ne_arr E wi A).symm
theorem own_Emp_keep {Z : State} {h h' : Heap} {w a : Addr} {C : String} {k : Nat} {a0 : Array Value} (F : own_Emp Z h w) (K : Keep h h' [a]) (E : Exa Z h a C) (wi : (Cond.instantiable C k).before a0 Z = true) : own_Emp Z h' w := by
  have ne := own_Emp_ne F E wi
  obtain ⟨S, cl, A, r⟩ := F
  exact ⟨own_sta S K E, cl, ⟨K.2.1 _ _ A.1 (ninS ne nin0), A.2⟩, r⟩
/-- an array of doubles isn't one of objects -/
theorem own_ne {Z : State} {h : Heap} {x d : Addr} {f t : UInt64} {vs : List Value} (P : own_Pr Z h x f t) (D : own_Dat Z h d vs) : x ≠ d := by
  obtain ⟨-, k, c, A, -⟩ := P
  obtain ⟨k2, -, c2, A2, -⟩ := D
  intro e
  subst e
  cases A.1.symm.trans A2.1
  obtain ⟨-, q1, q2, q3, q4⟩ := A.2.1
  obtain ⟨-, r1, r2, r3, r4⟩ := A2.2.1
  cases q2.symm.trans r2
  rw [q4] at r4
  cases r4
theorem own_Dat_ne {Z : State} {h : Heap} {a d : Addr} {C : String} {k : Nat} {a0 : Array Value} {vs : List Value} (E : Exa Z h a C) (wi : (Cond.instantiable C k).before a0 Z = true) (D : own_Dat Z h d vs) : a ≠ d := by
  obtain ⟨k2, -, c2, A2, -⟩ := D
  exact ne_arr E wi A2
theorem own_Dat_lt {Z : State} {h : Heap} {d : Addr} {vs : List Value} (D : own_Dat Z h d vs) : d < h.size := by obtain ⟨k2, -, A⟩ := D; exact A.lt
/-- the iterator at it, over the list a -/
def own_It (Z : State) (h : Heap) (it a : Addr) (cu mo : Int32) : Prop := Exa Z h it "java/util/ArrayList$Itr" ∧ Fld Z h it "java/util/ArrayList$Itr" "this$0" "Ljava/util/ArrayList;" (.ref a) ∧ Fld Z h it "java/util/ArrayList$Itr" "cursor" "I" (.int cu) ∧ Fld Z h it "java/util/ArrayList$Itr" "expectedModCount" "I" (.int mo) ∧ ∃ r : Value, Fld Z h it "java/util/ArrayList$Itr" "lastRet" "I" r

theorem d3_0 : decode jdk_22_method_1_code 0 = .ok (.aload_n 0, 1) := by decide +kernel
theorem d3_1 : decode jdk_22_method_1_code 1 = .ok (.invokespecial 1, 3) := by decide +kernel
theorem d3_4 : decode jdk_22_method_1_code 4 = .ok (.return_, 1) := by decide +kernel
theorem pn_3 : plainName "java/util/AbstractCollection" = true := by first | (simp [plainName, overriddenIn]; done) | decide +kernel
theorem ef_3 (m : MethodId) (x0 : Addr) : entryFrame m #[(.ref x0)] 1 = mkF m 0 #[.val (.ref x0)] [] := by first | (simp [entryFrame, mkF, argsToLocals, Value.category]; done) | rfl
def Q3 (h0 : Heap) (n0 : Nat) (v : Option Value) (h : Heap) (L : List Loc) : Prop := v = none ∧ Fr n0 L ∧ h = h0
set_option maxRecDepth 65536 in
set_option maxHeartbeats 40000000 in
theorem rm3 (l : Launch) (Z : State) (a0 : Array Value) (hw : ∀ d ∈ tables_1, d.before a0 Z = true) (ws : List Jvm.Cond) (a1 : Addr) (h0 : Heap) (n0 : Nat) (Z0 : n0 ≤ h0.size)  :
    MetFree l (⟨"java/util/AbstractCollection", "<init>", "()V"⟩ : MethodName) (head1 (Jvm.Cond.code (⟨"java/util/AbstractCollection", "<init>", "()V"⟩ : MethodName) jdk_22_method_1_code 1 none :: ws) ({ frames := 1, cells := 0, slots := 0, locals := 12 } : Room)) (fun a U => a = #[(.ref a1)] ∧ Z.Warmed39 U.vm ∧ U.heap = h0) (fun _ _ _ _ _ => True) (fun _ U o U' => ∃ v L, o = .returned v ∧ Q3 h0 n0 v U'.heap L ∧ FrameEnd U o U' L ({ frames := 1, cells := 0, slots := 0, locals := 12 } : Room).cells ({ frames := 1, cells := 0, slots := 0, locals := 12 } : Room).slots) := by
  refine MetFree.of_bodySF (plainFor_of_name pn_3) hisR ?_
  intro p e s m args below meth c s₁ Bd hml0 hP hK
  obtain ⟨rfl, hZ, hh⟩ := hP
  have hx := Bd.exec
  have hby := Bd.bytes
  have hml : c.maxLocals = 1 := hml0
  have hown : s.vm.findClass "java/util/AbstractCollection" = some m.cls := findClass_of_methodNamed Bd.named
  have hnm := (name_of_methodNamed Bd.named Bd.method).1
  have X0 : Stand p l e ({ frames := 1, cells := 0, slots := 0, locals := 12 } : Room) s m #[(.ref a1)] below meth c s₁ [] 0 0 := Stand.of_body Bd
  have e0 : s₁.heap = h0 := by rw [← hh, Bd.state]; rfl
  have N0 := Fr.nil n0
  have pre0 : ∀ t, Steps p.tables e below (s₁.setTop (mkF m 0 #[.val (.ref a1)] [])) t → Steps p.tables e below (s₁.setTop (entryFrame m #[(.ref a1)] 1)) t := fun t k => castTop (ef_3 m a1) k
  obtain ⟨T2, X2, e2, st2⟩ := initO X0 hx hZ hown (hw _ (List.mem_of_getElem? (i := 20) rfl)) (hw _ (List.mem_of_getElem? (i := 21) rfl)) (hw _ (List.mem_of_getElem? (i := 22) rfl)) e0 (g := (mkF m 1 #[.val (.ref a1)] [(.ref a1)])) rfl (by rw [hml]; rfl) rfl (hb hby d3_1) (by decide) (W := 0) (by show 2 * 0 + _ ≤ _; exact Nat.le_of_eq rfl) (by decide)
  obtain ⟨fs, hr, hrun, hended, hW, hsame⟩ := X2.leave (v := none) (fun _ => rfl)
  refine ⟨_, _, pre0 _ ?_, hrun, hended, _, _, rfl, ?_, ⟨_, rfl⟩, hW, hsame.mono (by decide) (by decide)⟩
  · show Steps p.tables e below (s₁.setTop (mkF m 0 #[.val (.ref a1)] [])) _
    refine XS.aloadN X0.here hx rfl (hb hby d3_0) rfl rfl ?_
    show Steps p.tables e below (s₁.setTop (mkF m 1 #[.val (.ref a1)] [(.ref a1)])) _
    refine st2 _ ?_
    show Steps p.tables e below (T2.setTop (mkF m 4 #[.val (.ref a1)] [])) _
    exact X2.returnOut hx Bd.returns (hb hby d3_4) hr
  · show Q3 h0 n0 _ T2.heap _
    rw [e2]
    exact ⟨rfl, N0, rfl⟩
theorem d2_0 : decode jdk_39_method_1_code 0 = .ok (.aload_n 0, 1) := by decide +kernel
theorem d2_1 : decode jdk_39_method_1_code 1 = .ok (.invokespecial 1, 3) := by decide +kernel
theorem d2_4 : decode jdk_39_method_1_code 4 = .ok (.aload_n 0, 1) := by decide +kernel
theorem d2_5 : decode jdk_39_method_1_code 5 = .ok (.iconst 0, 1) := by decide +kernel
theorem d2_6 : decode jdk_39_method_1_code 6 = .ok (.putfield 7, 3) := by decide +kernel
theorem d2_9 : decode jdk_39_method_1_code 9 = .ok (.return_, 1) := by decide +kernel
theorem pn_2 : plainName "java/util/AbstractList" = true := by first | (simp [plainName, overriddenIn]; done) | decide +kernel
theorem pd_2_0 : parseMethodDescriptor "()V" = some ⟨[], none⟩ := by decide +kernel
theorem ef_2 (m : MethodId) (x0 : Addr) : entryFrame m #[(.ref x0)] 1 = mkF m 0 #[.val (.ref x0)] [] := by first | (simp [entryFrame, mkF, argsToLocals, Value.category]; done) | rfl
def Q2 (Z : State) (a1 : Addr) (el sz : Value) (h0 : Heap) (n0 : Nat) (v : Option Value) (h : Heap) (L : List Loc) : Prop := v = none ∧ Fr n0 L ∧ Keep h0 h [a1] ∧ Exa Z h a1 "java/util/ArrayList" ∧ Fld Z h a1 "java/util/AbstractList" "modCount" "I" (.int (0 : Int32)) ∧ Fld Z h a1 "java/util/ArrayList" "elementData" "[Ljava/lang/Object;" el ∧ Fld Z h a1 "java/util/ArrayList" "size" "I" sz
set_option maxRecDepth 65536 in
set_option maxHeartbeats 40000000 in
theorem rm2 (l : Launch) (Z : State) (a0 : Array Value) (hw : ∀ d ∈ tables_1, d.before a0 Z = true) (ws : List Jvm.Cond) (a1 : Addr) (um el sz : Value) (h0 : Heap) (n0 : Nat) (Z0 : n0 ≤ h0.size) (E_a1 : Exa Z h0 a1 "java/util/ArrayList") (F_modCount_a1 : Fld Z h0 a1 "java/util/AbstractList" "modCount" "I" um) (F_el : Fld Z h0 a1 "java/util/ArrayList" "elementData" "[Ljava/lang/Object;" el) (F_sz : Fld Z h0 a1 "java/util/ArrayList" "size" "I" sz) (g_a1 : n0 ≤ a1) :
    MetFree l (⟨"java/util/AbstractList", "<init>", "()V"⟩ : MethodName) (head1 (Jvm.Cond.code (⟨"java/util/AbstractList", "<init>", "()V"⟩ : MethodName) jdk_39_method_1_code 1 none :: ws) ({ frames := 2, cells := 0, slots := 0, locals := 24 } : Room)) (fun a U => a = #[(.ref a1)] ∧ Z.Warmed39 U.vm ∧ U.heap = h0) (fun _ _ _ _ _ => True) (fun _ U o U' => ∃ v L, o = .returned v ∧ Q2 Z a1 el sz h0 n0 v U'.heap L ∧ FrameEnd U o U' L ({ frames := 2, cells := 0, slots := 0, locals := 24 } : Room).cells ({ frames := 2, cells := 0, slots := 0, locals := 24 } : Room).slots) := by
  refine MetFree.of_bodySF (plainFor_of_name pn_2) hisR ?_
  intro p e s m args below meth c s₁ Bd hml0 hP hK
  obtain ⟨rfl, hZ, hh⟩ := hP
  have hx := Bd.exec
  have hby := Bd.bytes
  have hml : c.maxLocals = 1 := hml0
  have hown : s.vm.findClass "java/util/AbstractList" = some m.cls := findClass_of_methodNamed Bd.named
  have hnm := (name_of_methodNamed Bd.named Bd.method).1
  have X0 : Stand p l e ({ frames := 2, cells := 0, slots := 0, locals := 24 } : Room) s m #[(.ref a1)] below meth c s₁ [] 0 0 := Stand.of_body Bd
  have e0 : s₁.heap = h0 := by rw [← hh, Bd.state]; rfl
  have N0 := Fr.nil n0
  have pre0 : ∀ t, Steps p.tables e below (s₁.setTop (mkF m 0 #[.val (.ref a1)] [])) t → Steps p.tables e below (s₁.setTop (entryFrame m #[(.ref a1)] 1)) t := fun t k => castTop (ef_2 m a1) k
  obtain ⟨_, _, ⟨T2, L2, k2, n2⟩, -, X2, ⟨Lc2, hQ2, l2, y2, z2⟩, st2⟩ := X0.specialBack hx (y := (⟨"java/util/AbstractCollection", "<init>", "()V"⟩ : MethodName)) rfl hown (mvT hZ (hw _ (List.mem_of_getElem? (i := 14) rfl))) (mvT hZ (hw _ (List.mem_of_getElem? (i := 15) rfl))) (mvT hZ (hw _ (List.mem_of_getElem? (i := 19) rfl))) (by decide) (backOf (W := 0) (rm3 l Z a0 hw [] a1 h0 n0 Z0) hZ (hw _ (List.mem_of_getElem? (i := 19) rfl)) (hw _ (List.mem_of_getElem? (i := 18) rfl)) (by decide) (by decide)) (g := (mkF m 1 #[.val (.ref a1)] [(.ref a1)])) rfl (by rw [hml]; rfl) (Steps.refl _) (a := a1) (argsL := []) (rest := []) (lenOf pd_2_0 rfl) rfl (by show 2 * 0 + _ ≤ _; exact Nat.le_of_eq rfl) (hb hby d2_1) (fun _ _ => ⟨rfl, e0, (by decide : 0 + 0 ≤ _), (by decide : 0 + 0 ≤ _)⟩)
  dsimp only [Pt.U, Pt.locs, Pt.cells, Pt.slots] at X2 l2 y2 z2 st2 hQ2
  subst l2 y2 z2
  obtain ⟨rfl, N2q, eh2⟩ := hQ2
  have N2 := Fr.app N0 N2q
  obtain ⟨T3, h3, X3, e3, W3, st3⟩ := putF X2 hx hZ hown (host := "") (Or.inl (hw _ (List.mem_of_getElem? (i := 23) rfl))) Via.refl eh2 F_modCount_a1 E_a1 (Or.inl (hw _ (List.mem_of_getElem? (i := 24) rfl))) (hw _ (List.mem_of_getElem? (i := 3) rfl)) (ty := .int) (by decide) rfl rfl (g := (mkF m 6 #[.val (.ref a1)] [(.int (0 : Int32)), (.ref a1)])) rfl rfl (hb hby d2_6)
  have Fw3 := F_modCount_a1.same W3
  have K3 : Keep h0 h3 [a1] := (Keep.refl h0 [a1]).wr W3 (Or.inl (List.mem_of_getElem? (i := 0) rfl))
  have N3 := Fr.snoc X3 N2 g_a1
  obtain ⟨fs, hr, hrun, hended, hW, hsame⟩ := X3.leave (v := none) (fun _ => rfl)
  refine ⟨_, _, pre0 _ ?_, hrun, hended, _, _, rfl, ?_, ⟨_, rfl⟩, hW, hsame.mono (by decide) (by decide)⟩
  · show Steps p.tables e below (s₁.setTop (mkF m 0 #[.val (.ref a1)] [])) _
    refine XS.aloadN X0.here hx rfl (hb hby d2_0) rfl rfl ?_
    show Steps p.tables e below (s₁.setTop (mkF m 1 #[.val (.ref a1)] [(.ref a1)])) _
    refine st2.trans ?_
    show Steps p.tables e below (T2.setTop (mkF m 4 #[.val (.ref a1)] [])) _
    refine XS.aloadN X2.here hx rfl (hb hby d2_4) rfl rfl ?_
    show Steps p.tables e below (T2.setTop (mkF m 5 #[.val (.ref a1)] [(.ref a1)])) _
    refine XS.iconst X2.here hx rfl (hb hby d2_5) ?_
    show Steps p.tables e below (T2.setTop (mkF m 6 #[.val (.ref a1)] [(.int (0 : Int32)), (.ref a1)])) _
    refine st3 _ ?_
    show Steps p.tables e below (T3.setTop (mkF m 9 #[.val (.ref a1)] [])) _
    exact X3.returnOut hx Bd.returns (hb hby d2_9) hr
  · show Q2 Z a1 el sz h0 n0 _ T3.heap _
    rw [e3]
    exact ⟨rfl, N3, K3, E_a1.wr W3, Fw3, F_el.other W3 (Or.inr (slot_ne (Or.inl (hw _ (List.mem_of_getElem? (i := 27) rfl))) (Or.inl (hw _ (List.mem_of_getElem? (i := 24) rfl))) (by decide) (t := (.array (.object "java/lang/Object"))) (t' := .int) (by decide) (by decide))), F_sz.other W3 (Or.inr (slot_ne (Or.inl (hw _ (List.mem_of_getElem? (i := 41) rfl))) (Or.inl (hw _ (List.mem_of_getElem? (i := 24) rfl))) (by decide) (t := .int) (t' := .int) (by decide) (by decide)))⟩
theorem d1_0 : decode jdk_38_method_2_code 0 = .ok (.aload_n 0, 1) := by decide +kernel
theorem d1_1 : decode jdk_38_method_2_code 1 = .ok (.invokespecial 1, 3) := by decide +kernel
theorem d1_4 : decode jdk_38_method_2_code 4 = .ok (.aload_n 0, 1) := by decide +kernel
theorem d1_5 : decode jdk_38_method_2_code 5 = .ok (.getstatic 39, 3) := by decide +kernel
theorem d1_8 : decode jdk_38_method_2_code 8 = .ok (.putfield 9, 3) := by decide +kernel
theorem d1_11 : decode jdk_38_method_2_code 11 = .ok (.return_, 1) := by decide +kernel
theorem pn_1 : plainName "java/util/ArrayList" = true := by first | (simp [plainName, overriddenIn]; done) | decide +kernel
theorem pd_1_0 : parseMethodDescriptor "()V" = some ⟨[], none⟩ := by decide +kernel
theorem ef_1 (m : MethodId) (x0 : Addr) : entryFrame m #[(.ref x0)] 1 = mkF m 0 #[.val (.ref x0)] [] := by first | (simp [entryFrame, mkF, argsToLocals, Value.category]; done) | rfl
def Q1 (Z : State) (a1 w3 : Addr) (sz : Value) (h0 : Heap) (n0 : Nat) (v : Option Value) (h : Heap) (L : List Loc) : Prop := v = none ∧ Fr n0 L ∧ Keep h0 h [a1] ∧ Exa Z h a1 "java/util/ArrayList" ∧ Fld Z h a1 "java/util/AbstractList" "modCount" "I" (.int (0 : Int32)) ∧ Fld Z h a1 "java/util/ArrayList" "elementData" "[Ljava/lang/Object;" (.ref w3) ∧ Fld Z h a1 "java/util/ArrayList" "size" "I" sz
set_option maxRecDepth 65536 in
set_option maxHeartbeats 40000000 in
theorem rm1 (l : Launch) (Z : State) (a0 : Array Value) (hw : ∀ d ∈ tables_1, d.before a0 Z = true) (ws : List Jvm.Cond) (a1 : Addr) (w3 : Addr) (um el sz : Value) (h0 : Heap) (n0 : Nat) (Z0 : n0 ≤ h0.size) (S_D : Sta Z h0 "java/util/ArrayList" "DEFAULTCAPACITY_EMPTY_ELEMENTDATA" "[Ljava/lang/Object;" (.ref w3)) (E_a1 : Exa Z h0 a1 "java/util/ArrayList") (F_modCount_a1 : Fld Z h0 a1 "java/util/AbstractList" "modCount" "I" um) (F_elementData_a1 : Fld Z h0 a1 "java/util/ArrayList" "elementData" "[Ljava/lang/Object;" el) (F_sz : Fld Z h0 a1 "java/util/ArrayList" "size" "I" sz) (g_a1 : n0 ≤ a1) :
    MetFree l (⟨"java/util/ArrayList", "<init>", "()V"⟩ : MethodName) (head1 (Jvm.Cond.code (⟨"java/util/ArrayList", "<init>", "()V"⟩ : MethodName) jdk_38_method_2_code 1 none :: ws) ({ frames := 3, cells := 0, slots := 0, locals := 36 } : Room)) (fun a U => a = #[(.ref a1)] ∧ Z.Warmed39 U.vm ∧ U.heap = h0) (fun _ _ _ _ _ => True) (fun _ U o U' => ∃ v L, o = .returned v ∧ Q1 Z a1 w3 sz h0 n0 v U'.heap L ∧ FrameEnd U o U' L ({ frames := 3, cells := 0, slots := 0, locals := 36 } : Room).cells ({ frames := 3, cells := 0, slots := 0, locals := 36 } : Room).slots) := by
  refine MetFree.of_bodySF (plainFor_of_name pn_1) hisR ?_
  intro p e s m args below meth c s₁ Bd hml0 hP hK
  obtain ⟨rfl, hZ, hh⟩ := hP
  have hx := Bd.exec
  have hby := Bd.bytes
  have hml : c.maxLocals = 1 := hml0
  have hown : s.vm.findClass "java/util/ArrayList" = some m.cls := findClass_of_methodNamed Bd.named
  have hnm := (name_of_methodNamed Bd.named Bd.method).1
  have X0 : Stand p l e ({ frames := 3, cells := 0, slots := 0, locals := 36 } : Room) s m #[(.ref a1)] below meth c s₁ [] 0 0 := Stand.of_body Bd
  have e0 : s₁.heap = h0 := by rw [← hh, Bd.state]; rfl
  have N0 := Fr.nil n0
  have pre0 : ∀ t, Steps p.tables e below (s₁.setTop (mkF m 0 #[.val (.ref a1)] [])) t → Steps p.tables e below (s₁.setTop (entryFrame m #[(.ref a1)] 1)) t := fun t k => castTop (ef_1 m a1) k
  obtain ⟨_, _, ⟨T2, L2, k2, n2⟩, -, X2, ⟨Lc2, hQ2, l2, y2, z2⟩, st2⟩ := X0.specialBack hx (y := (⟨"java/util/AbstractList", "<init>", "()V"⟩ : MethodName)) rfl hown (mvT hZ (hw _ (List.mem_of_getElem? (i := 8) rfl))) (mvT hZ (hw _ (List.mem_of_getElem? (i := 9) rfl))) (mvT hZ (hw _ (List.mem_of_getElem? (i := 13) rfl))) (by decide) (backOf (W := 0) (rm2 l Z a0 hw [] a1 um el sz h0 n0 Z0 E_a1 F_modCount_a1 F_elementData_a1 F_sz g_a1) hZ (hw _ (List.mem_of_getElem? (i := 13) rfl)) (hw _ (List.mem_of_getElem? (i := 12) rfl)) (by decide) (by decide)) (g := (mkF m 1 #[.val (.ref a1)] [(.ref a1)])) rfl (by rw [hml]; rfl) (Steps.refl _) (a := a1) (argsL := []) (rest := []) (lenOf pd_1_0 rfl) rfl (by show 2 * 0 + _ ≤ _; exact Nat.le_of_eq rfl) (hb hby d1_1) (fun _ _ => ⟨rfl, e0, (by decide : 0 + 0 ≤ _), (by decide : 0 + 0 ≤ _)⟩)
  dsimp only [Pt.U, Pt.locs, Pt.cells, Pt.slots] at X2 l2 y2 z2 st2 hQ2
  subst l2 y2 z2
  obtain ⟨rfl, N2q, K2, E2, Fm2, Fe2, Fs2⟩ := hQ2
  have N2 := Fr.app N0 N2q
  obtain ⟨T4, X4, e4, st4⟩ := getS2 X2 hx hZ hown (host := "") (Or.inl (hw _ (List.mem_of_getElem? (i := 25) rfl))) Via.refl rfl (own_sta S_D K2 E_a1) (g := (mkF m 5 #[.val (.ref a1)] [(.ref a1)])) rfl (hb hby d1_5)
  obtain ⟨T5, h5, X5, e5, W5, st5⟩ := putF X4 hx hZ hown (host := "") (Or.inl (hw _ (List.mem_of_getElem? (i := 26) rfl))) Via.refl e4 Fe2 E2 (Or.inl (hw _ (List.mem_of_getElem? (i := 27) rfl))) (hw _ (List.mem_of_getElem? (i := 3) rfl)) (ty := (.array (.object "java/lang/Object"))) (by decide) rfl rfl (g := (mkF m 8 #[.val (.ref a1)] [(.ref w3), (.ref a1)])) rfl rfl (hb hby d1_8)
  have Fw5 := Fe2.same W5
  have K5 : Keep h0 h5 [a1] := K2.wr W5 (Or.inl (List.mem_of_getElem? (i := 0) rfl))
  have N5 := Fr.snoc X5 N2 g_a1
  obtain ⟨fs, hr, hrun, hended, hW, hsame⟩ := X5.leave (v := none) (fun _ => rfl)
  refine ⟨_, _, pre0 _ ?_, hrun, hended, _, _, rfl, ?_, ⟨_, rfl⟩, hW, hsame.mono (by decide) (by decide)⟩
  · show Steps p.tables e below (s₁.setTop (mkF m 0 #[.val (.ref a1)] [])) _
    refine XS.aloadN X0.here hx rfl (hb hby d1_0) rfl rfl ?_
    show Steps p.tables e below (s₁.setTop (mkF m 1 #[.val (.ref a1)] [(.ref a1)])) _
    refine st2.trans ?_
    show Steps p.tables e below (T2.setTop (mkF m 4 #[.val (.ref a1)] [])) _
    refine XS.aloadN X2.here hx rfl (hb hby d1_4) rfl rfl ?_
    show Steps p.tables e below (T2.setTop (mkF m 5 #[.val (.ref a1)] [(.ref a1)])) _
    refine st4 _ ?_
    show Steps p.tables e below (T4.setTop (mkF m 8 #[.val (.ref a1)] [(.ref w3), (.ref a1)])) _
    refine st5 _ ?_
    show Steps p.tables e below (T5.setTop (mkF m 11 #[.val (.ref a1)] [])) _
    exact X5.returnOut hx Bd.returns (hb hby d1_11) hr
  · show Q1 Z a1 w3 sz h0 n0 _ T5.heap _
    rw [e5]
    exact ⟨rfl, N5, K5, E2.wr W5, Fm2.other W5 (Or.inr (slot_ne (Or.inl (hw _ (List.mem_of_getElem? (i := 24) rfl))) (Or.inl (hw _ (List.mem_of_getElem? (i := 27) rfl))) (by decide) (t := .int) (t' := (.array (.object "java/lang/Object"))) (by decide) (by decide))), Fw5, Fs2.other W5 (Or.inr (slot_ne (Or.inl (hw _ (List.mem_of_getElem? (i := 41) rfl))) (Or.inl (hw _ (List.mem_of_getElem? (i := 27) rfl))) (by decide) (t := .int) (t' := (.array (.object "java/lang/Object"))) (by decide) (by decide)))⟩
theorem d9_0 : decode jdk_29_method_65_code 0 = .ok (.iload_n 0, 1) := by decide +kernel
theorem d9_1 : decode jdk_29_method_65_code 1 = .ok (.iload_n 1, 1) := by decide +kernel
theorem d9_2 : decode jdk_29_method_65_code 2 = .ok (.if_icmp .lt 7, 3) := by decide +kernel
theorem d9_5 : decode jdk_29_method_65_code 5 = .ok (.iload_n 0, 1) := by decide +kernel
theorem d9_6 : decode jdk_29_method_65_code 6 = .ok (.goto 4, 3) := by decide +kernel
theorem d9_10 : decode jdk_29_method_65_code 10 = .ok (.ireturn, 1) := by decide +kernel
theorem ef_9 (m : MethodId) (x0 : Int32) (x1 : Int32) : entryFrame m #[(.int x0), (.int x1)] 2 = mkF m 0 #[.val (.int x0), .val (.int x1)] [] := by first | (simp [entryFrame, mkF, argsToLocals, Value.category]; done) | rfl
def Q9 (p1 : Int32) (h0 : Heap) (n0 : Nat) (v : Option Value) (h : Heap) (L : List Loc) : Prop := v = some (.int p1) ∧ Fr n0 L ∧ h = h0
set_option maxRecDepth 65536 in
set_option maxHeartbeats 40000000 in
theorem rm9 (l : Launch) (Z : State) (a0 : Array Value) (hw : ∀ d ∈ tables_1, d.before a0 Z = true) (ws : List Jvm.Cond) (p1 p2 : Int32) (h0 : Heap) (n0 : Nat) (Z0 : n0 ≤ h0.size) (hc2 : ¬ (p1 < p2)) :
    MetFree l (⟨"java/lang/Math", "max", "(II)I"⟩ : MethodName) (head1 (Jvm.Cond.code (⟨"java/lang/Math", "max", "(II)I"⟩ : MethodName) jdk_29_method_65_code 2 (some .int) :: ws) ({ frames := 0, cells := 0, slots := 0, locals := 0 } : Room)) (fun a U => a = #[(.int p1), (.int p2)] ∧ Z.Warmed39 U.vm ∧ U.heap = h0) (fun _ _ _ _ _ => True) (fun _ U o U' => ∃ v L, o = .returned v ∧ Q9 p1 h0 n0 v U'.heap L ∧ FrameEnd U o U' L ({ frames := 0, cells := 0, slots := 0, locals := 0 } : Room).cells ({ frames := 0, cells := 0, slots := 0, locals := 0 } : Room).slots) := by
  refine MetFree.of_bodySF (Jvm.Free.JP.mathPlain rfl (by decide +kernel)) hisR ?_
  intro p e s m args below meth c s₁ Bd hml0 hP hK
  obtain ⟨rfl, hZ, hh⟩ := hP
  have hx := Bd.exec
  have hby := Bd.bytes
  have hml : c.maxLocals = 2 := hml0
  have hown : s.vm.findClass "java/lang/Math" = some m.cls := findClass_of_methodNamed Bd.named
  have hnm := (name_of_methodNamed Bd.named Bd.method).1
  have X0 : Stand p l e ({ frames := 0, cells := 0, slots := 0, locals := 0 } : Room) s m #[(.int p1), (.int p2)] below meth c s₁ [] 0 0 := Stand.of_body Bd
  have e0 : s₁.heap = h0 := by rw [← hh, Bd.state]; rfl
  have N0 := Fr.nil n0
  have pre0 : ∀ t, Steps p.tables e below (s₁.setTop (mkF m 0 #[.val (.int p1), .val (.int p2)] [])) t → Steps p.tables e below (s₁.setTop (entryFrame m #[(.int p1), (.int p2)] 2)) t := fun t k => castTop (ef_9 m p1 p2) k

  obtain ⟨fs, hr, hrun, hended, hW, hsame⟩ := X0.leave (v := some (.int p1)) (fun h => by rw [Bd.returns] at h; cases h)
  refine ⟨_, _, pre0 _ ?_, hrun, hended, _, _, rfl, ?_, ⟨_, rfl⟩, hW, hsame.mono (by decide) (by decide)⟩
  · show Steps p.tables e below (s₁.setTop (mkF m 0 #[.val (.int p1), .val (.int p2)] [])) _
    refine XS.iloadN X0.here hx rfl (hb hby d9_0) rfl ?_
    show Steps p.tables e below (s₁.setTop (mkF m 1 #[.val (.int p1), .val (.int p2)] [(.int p1)])) _
    refine XS.iloadN X0.here hx rfl (hb hby d9_1) rfl ?_
    show Steps p.tables e below (s₁.setTop (mkF m 2 #[.val (.int p1), .val (.int p2)] [(.int p2), (.int p1)])) _
    refine XS.icmpNo X0.here hx rfl (hb hby d9_2) rfl (flt hc2).1 ?_
    show Steps p.tables e below (s₁.setTop (mkF m 5 #[.val (.int p1), .val (.int p2)] [])) _
    refine XS.iloadN X0.here hx rfl (hb hby d9_5) rfl ?_
    show Steps p.tables e below (s₁.setTop (mkF m 6 #[.val (.int p1), .val (.int p2)] [(.int p1)])) _
    refine XS.goto X0.here hx rfl (pc0 := 6) (pc' := 10) rfl (hb hby d9_6) (by decide) (by decide) ?_
    show Steps p.tables e below (s₁.setTop (mkF m 10 #[.val (.int p1), .val (.int p2)] [(.int p1)])) _
    exact retI X0 hx Bd.returns (hb hby d9_10) hr
  · show Q9 p1 h0 n0 _ s₁.heap _
    rw [e0]
    exact ⟨rfl, N0, rfl⟩
theorem d8_0 : decode jdk_38_method_6_code 0 = .ok (.aload_n 0, 1) := by decide +kernel
theorem d8_1 : decode jdk_38_method_6_code 1 = .ok (.getfield 9, 3) := by decide +kernel
theorem d8_4 : decode jdk_38_method_6_code 4 = .ok (.arraylength, 1) := by decide +kernel
theorem d8_5 : decode jdk_38_method_6_code 5 = .ok (.istore_n 2, 1) := by decide +kernel
theorem d8_6 : decode jdk_38_method_6_code 6 = .ok (.iload_n 2, 1) := by decide +kernel
theorem d8_7 : decode jdk_38_method_6_code 7 = .ok (.ifCond .gt 13, 3) := by decide +kernel
theorem d8_10 : decode jdk_38_method_6_code 10 = .ok (.aload_n 0, 1) := by decide +kernel
theorem d8_11 : decode jdk_38_method_6_code 11 = .ok (.getfield 9, 3) := by decide +kernel
theorem d8_14 : decode jdk_38_method_6_code 14 = .ok (.getstatic 39, 3) := by decide +kernel
theorem d8_17 : decode jdk_38_method_6_code 17 = .ok (.if_acmp .eq 28, 3) := by decide +kernel
theorem d8_45 : decode jdk_38_method_6_code 45 = .ok (.aload_n 0, 1) := by decide +kernel
theorem d8_46 : decode jdk_38_method_6_code 46 = .ok (.bipush 10, 2) := by decide +kernel
theorem d8_48 : decode jdk_38_method_6_code 48 = .ok (.iload_n 1, 1) := by decide +kernel
theorem d8_49 : decode jdk_38_method_6_code 49 = .ok (.invokestatic 79, 3) := by decide +kernel
theorem d8_52 : decode jdk_38_method_6_code 52 = .ok (.anewarray 7, 3) := by decide +kernel
theorem d8_55 : decode jdk_38_method_6_code 55 = .ok (.dup_x1, 1) := by decide +kernel
theorem d8_56 : decode jdk_38_method_6_code 56 = .ok (.putfield 9, 3) := by decide +kernel
theorem d8_59 : decode jdk_38_method_6_code 59 = .ok (.areturn, 1) := by decide +kernel
theorem pn_8 : plainName "java/util/ArrayList" = true := by first | (simp [plainName, overriddenIn]; done) | decide +kernel
theorem pd_8_5 : parseMethodDescriptor "(II)I" = some ⟨[.int, .int], some .int⟩ := by decide +kernel
theorem ef_8 (m : MethodId) (x0 : Addr) (x1 : Int32) : entryFrame m #[(.ref x0), (.int x1)] 4 = mkF m 0 #[.val (.ref x0), .val (.int x1), .unset, .unset] [] := by first | (simp [entryFrame, mkF, argsToLocals, Value.category]; done) | rfl
def QG (Z : State) (a1 : Addr) (mo n : Int32) (h0 : Heap) (n0 : Nat) (v : Option Value) (h : Heap) (L : List Loc) : Prop := ∃ b, v = some (.ref b) ∧ Fr n0 L ∧ Keep h0 h [a1] ∧ h0.size ≤ b ∧ own_Lst Z h a1 mo b n ∧ own_Dat Z h b []
set_option maxRecDepth 65536 in
set_option maxHeartbeats 40000000 in
theorem rm8 (l : Launch) (Z : State) (a0 : Array Value) (hw : ∀ d ∈ tables_1, d.before a0 Z = true) (ws : List Jvm.Cond) (a1 : Addr) (p2 : Int32) (mo n : Int32) (w3 : Addr) (h0 : Heap) (n0 : Nat) (Z0 : n0 ≤ h0.size) (G : own_Lst Z h0 a1 mo w3 n) (Em : own_Emp Z h0 w3) (g_a1 : n0 ≤ a1) (hc2 : ¬ ((10 : Int32) < p2)) :
    MetFree l (⟨"java/util/ArrayList", "grow", "(I)[Ljava/lang/Object;"⟩ : MethodName) (head1 (Jvm.Cond.code (⟨"java/util/ArrayList", "grow", "(I)[Ljava/lang/Object;"⟩ : MethodName) jdk_38_method_6_code 4 (some (.array (.object "java/lang/Object"))) :: ws) ({ frames := 1, cells := 1, slots := 10, locals := 14 } : Room)) (fun a U => a = #[(.ref a1), (.int p2)] ∧ Z.Warmed39 U.vm ∧ U.heap = h0) (fun _ _ _ _ _ => True) (fun _ U o U' => ∃ v L, o = .returned v ∧ QG Z a1 mo n h0 n0 v U'.heap L ∧ FrameEnd U o U' L ({ frames := 1, cells := 1, slots := 10, locals := 14 } : Room).cells ({ frames := 1, cells := 1, slots := 10, locals := 14 } : Room).slots) := by
  refine MetFree.of_bodySF (plainFor_of_name pn_8) hisR ?_
  intro p e s m args below meth c s₁ Bd hml0 hP hK
  obtain ⟨rfl, hZ, hh⟩ := hP
  have hx := Bd.exec
  have hby := Bd.bytes
  have hml : c.maxLocals = 4 := hml0
  have hown : s.vm.findClass "java/util/ArrayList" = some m.cls := findClass_of_methodNamed Bd.named
  have hnm := (name_of_methodNamed Bd.named Bd.method).1
  have X0 : Stand p l e ({ frames := 1, cells := 1, slots := 10, locals := 14 } : Room) s m #[(.ref a1), (.int p2)] below meth c s₁ [] 0 0 := Stand.of_body Bd
  have e0 : s₁.heap = h0 := by rw [← hh, Bd.state]; rfl
  have N0 := Fr.nil n0
  have pre0 : ∀ t, Steps p.tables e below (s₁.setTop (mkF m 0 #[.val (.ref a1), .val (.int p2), .unset, .unset] [])) t → Steps p.tables e below (s₁.setTop (entryFrame m #[(.ref a1), (.int p2)] 4)) t := fun t k => castTop (ef_8 m a1 p2) k
  obtain ⟨E_a1, F_modCount_a1, F_elementData_a1, F_size_a1⟩ := G
  obtain ⟨S_D, cl_w3, Ar_w3, S_w3⟩ := Em
  have N_w3 : ¬ (0 : Int32) < 0 := by decide
  have hc7 : ¬ ((0 : Int32) < (0 : Int32)) := by decide
  obtain ⟨T4, X4, e4, st4⟩ := getF X0 hx hZ hown (host := "") (Or.inl (hw _ (List.mem_of_getElem? (i := 26) rfl))) Via.refl e0 F_elementData_a1 (g := (mkF m 1 #[.val (.ref a1), .val (.int p2), .unset, .unset] [(.ref a1)])) rfl rfl (hb hby d8_1)
  obtain ⟨T5, X5, e5, st5⟩ := getF X4 hx hZ hown (host := "") (Or.inl (hw _ (List.mem_of_getElem? (i := 26) rfl))) Via.refl e4 F_elementData_a1 (g := (mkF m 11 #[.val (.ref a1), .val (.int p2), .val (.int (0 : Int32)), .unset] [(.ref a1)])) rfl rfl (hb hby d8_11)
  obtain ⟨T7, X7, e7, st7⟩ := getS2 X5 hx hZ hown (host := "") (Or.inl (hw _ (List.mem_of_getElem? (i := 25) rfl))) Via.refl e5 S_D (g := (mkF m 14 #[.val (.ref a1), .val (.int p2), .val (.int (0 : Int32)), .unset] [(.ref w3)])) rfl (hb hby d8_14)
  obtain ⟨_, _, ⟨T8, L8, k8, n8⟩, -, X8, ⟨Lc8, hQ8, l8, y8, z8⟩, st8⟩ := Jvm.LawKit.callS X7 hx (y := (⟨"java/lang/Math", "max", "(II)I"⟩ : MethodName)) hown (mvT hZ (hw _ (List.mem_of_getElem? (i := 57) rfl))) (mvT hZ (hw _ (List.mem_of_getElem? (i := 58) rfl))) (mvT hZ (hw _ (List.mem_of_getElem? (i := 59) rfl))) (mvT hZ (hw _ (List.mem_of_getElem? (i := 60) rfl))) (by decide) (backOf (W := 1) (rm9 l Z a0 hw [] (10 : Int32) p2 h0 n0 Z0 hc2) hZ (hw _ (List.mem_of_getElem? (i := 60) rfl)) (hw _ (List.mem_of_getElem? (i := 59) rfl)) (by decide) (by decide)) (g := (mkF m 49 #[.val (.ref a1), .val (.int p2), .val (.int (0 : Int32)), .unset] [(.int p2), (.int (10 : Int32)), (.ref a1)])) rfl (by rw [hml]; rfl) (argsL := [(.int (10 : Int32)), (.int p2)]) (rest := [(.ref a1)]) (lenOf pd_8_5 rfl) rfl (by show 2 * 0 + _ ≤ _; exact Nat.le_of_eq rfl) (hb hby d8_49) (fun _ _ => ⟨rfl, e7, (by decide : 0 + 0 ≤ _), (by decide : 0 + 0 ≤ _)⟩)
  dsimp only [Pt.U, Pt.locs, Pt.cells, Pt.slots] at X8 l8 y8 z8 st8 hQ8
  subst l8 y8 z8
  obtain ⟨rfl, N8q, eh8⟩ := hQ8
  have N8 := Fr.app N0 N8q
  obtain ⟨T9, h9, k9, X9, e9, E9, A9, O9, st9⟩ := newR X8 hx hZ hown (hw _ (List.mem_of_getElem? (i := 61) rfl)) (hw _ (List.mem_of_getElem? (i := 62) rfl)) eh8 (g := (mkF m 52 #[.val (.ref a1), .val (.int p2), .val (.int (0 : Int32)), .unset] [(.int (10 : Int32)), (.ref a1)])) rfl (hb hby d8_52) rfl (by decide) (cap := 10) (by decide) (by decide) (by decide) (by decide)
  obtain ⟨b9, g9⟩ : ∃ z, z = h0.size := ⟨_, rfl⟩
  rw [← g9] at A9 st9
  have V_b9 := Arv.new A9 (by decide)
  have g_b9 : n0 ≤ b9 := Nat.le_trans Z0 (Nat.le_of_eq g9.symm)
  have sz_b9 : h0.size ≤ b9 := Nat.le_of_eq g9.symm
  have E10' := E_a1.ext E9
  have FM := F_modCount_a1.ext E9
  have FE := F_elementData_a1.ext E9
  have FS := F_size_a1.ext E9
  have nb : b9 ≠ a1 := (Nat.ne_of_lt (g9 ▸ E_a1.lt)).symm
  have K9 : Keep h0 h9 [a1] := (Keep.refl h0 [a1]).ext E9
  obtain ⟨T10, h10, X10, e10, W10, st10⟩ := putF X9 hx hZ hown (host := "") (Or.inl (hw _ (List.mem_of_getElem? (i := 26) rfl))) Via.refl e9 FE E10' (Or.inl (hw _ (List.mem_of_getElem? (i := 27) rfl))) (hw _ (List.mem_of_getElem? (i := 3) rfl)) (ty := (.array (.object "java/lang/Object"))) (by decide) rfl rfl (g := (mkF m 56 #[.val (.ref a1), .val (.int p2), .val (.int (0 : Int32)), .unset] [(.ref b9), (.ref a1), (.ref b9)])) rfl rfl (hb hby d8_56)
  have Fw10 := FE.same W10
  have E10 := E10'.wr W10
  have K10 : Keep h0 h10 [a1] := K9.wr W10 (Or.inl (List.mem_of_getElem? (i := 0) rfl))
  have N10 := Fr.snoc X10 N8 g_a1
  obtain ⟨fs, hr, hrun, hended, hW, hsame⟩ := X10.leave (v := some (.ref b9)) (fun h => by rw [Bd.returns] at h; cases h)
  refine ⟨_, _, pre0 _ ?_, hrun, hended, _, _, rfl, ?_, ⟨_, rfl⟩, hW, hsame.mono (by decide) (by decide)⟩
  · show Steps p.tables e below (s₁.setTop (mkF m 0 #[.val (.ref a1), .val (.int p2), .unset, .unset] [])) _
    refine XS.aloadN X0.here hx rfl (hb hby d8_0) rfl rfl ?_
    show Steps p.tables e below (s₁.setTop (mkF m 1 #[.val (.ref a1), .val (.int p2), .unset, .unset] [(.ref a1)])) _
    refine st4 _ ?_
    show Steps p.tables e below (T4.setTop (mkF m 4 #[.val (.ref a1), .val (.int p2), .unset, .unset] [(.ref w3)])) _
    refine X4.arraylength hx (by rw [e4]; exact Ar_w3.1) (State.isArrayOf_alike hZ.alike Ar_w3.2.1) (g := (mkF m 4 #[.val (.ref a1), .val (.int p2), .unset, .unset] [(.ref w3)])) rfl rfl (hb hby d8_4) _ ?_
    rw [len_of S_w3 N_w3]
    show Steps p.tables e below (T4.setTop (mkF m 5 #[.val (.ref a1), .val (.int p2), .unset, .unset] [(.int (0 : Int32))])) _
    refine XS.istoreN X4.here hx rfl (hb hby d8_5) rfl (l' := #[.val (.ref a1), .val (.int p2), .val (.int (0 : Int32)), .unset]) rfl ?_
    show Steps p.tables e below (T4.setTop (mkF m 6 #[.val (.ref a1), .val (.int p2), .val (.int (0 : Int32)), .unset] [])) _
    refine XS.iloadN X4.here hx rfl (hb hby d8_6) rfl ?_
    show Steps p.tables e below (T4.setTop (mkF m 7 #[.val (.ref a1), .val (.int p2), .val (.int (0 : Int32)), .unset] [(.int (0 : Int32))])) _
    refine XS.ifNo X4.here hx rfl (hb hby d8_7) rfl ((if0 _ _).trans (flt hc7).2.2.1) ?_
    show Steps p.tables e below (T4.setTop (mkF m 10 #[.val (.ref a1), .val (.int p2), .val (.int (0 : Int32)), .unset] [])) _
    refine XS.aloadN X4.here hx rfl (hb hby d8_10) rfl rfl ?_
    show Steps p.tables e below (T4.setTop (mkF m 11 #[.val (.ref a1), .val (.int p2), .val (.int (0 : Int32)), .unset] [(.ref a1)])) _
    refine st5 _ ?_
    show Steps p.tables e below (T5.setTop (mkF m 14 #[.val (.ref a1), .val (.int p2), .val (.int (0 : Int32)), .unset] [(.ref w3)])) _
    refine st7 _ ?_
    show Steps p.tables e below (T7.setTop (mkF m 17 #[.val (.ref a1), .val (.int p2), .val (.int (0 : Int32)), .unset] [(.ref w3), (.ref w3)])) _
    refine Jvm.RoadKit.acmp (g := (mkF m 17 #[.val (.ref a1), .val (.int p2), .val (.int (0 : Int32)), .unset] [(.ref w3), (.ref w3)])) X7 hx rfl rfl rfl (pc0 := 17) (pc' := 45) (same := true) rfl (hb hby d8_17) rfl (decide_eq_true rfl) (by decide) (by decide) ?_
    show Steps p.tables e below (T7.setTop (mkF m 45 #[.val (.ref a1), .val (.int p2), .val (.int (0 : Int32)), .unset] [])) _
    refine XS.aloadN X7.here hx rfl (hb hby d8_45) rfl rfl ?_
    show Steps p.tables e below (T7.setTop (mkF m 46 #[.val (.ref a1), .val (.int p2), .val (.int (0 : Int32)), .unset] [(.ref a1)])) _
    refine XS.bipush X7.here hx rfl (hb hby d8_46) ?_
    show Steps p.tables e below (T7.setTop (mkF m 48 #[.val (.ref a1), .val (.int p2), .val (.int (0 : Int32)), .unset] [(.int (10 : Int32)), (.ref a1)])) _
    refine XS.iloadN X7.here hx rfl (hb hby d8_48) rfl ?_
    show Steps p.tables e below (T7.setTop (mkF m 49 #[.val (.ref a1), .val (.int p2), .val (.int (0 : Int32)), .unset] [(.int p2), (.int (10 : Int32)), (.ref a1)])) _
    refine st8 _ ?_
    show Steps p.tables e below (T8.setTop (mkF m 52 #[.val (.ref a1), .val (.int p2), .val (.int (0 : Int32)), .unset] [(.int (10 : Int32)), (.ref a1)])) _
    refine st9 _ ?_
    show Steps p.tables e below (T9.setTop (mkF m 55 #[.val (.ref a1), .val (.int p2), .val (.int (0 : Int32)), .unset] [(.ref b9), (.ref a1)])) _
    refine XS.dupX1 X9.here hx rfl (hb hby d8_55) rfl rfl rfl ?_
    show Steps p.tables e below (T9.setTop (mkF m 56 #[.val (.ref a1), .val (.int p2), .val (.int (0 : Int32)), .unset] [(.ref b9), (.ref a1), (.ref b9)])) _
    refine st10 _ ?_
    show Steps p.tables e below (T10.setTop (mkF m 59 #[.val (.ref a1), .val (.int p2), .val (.int (0 : Int32)), .unset] [(.ref b9)])) _
    jvm_step X10.here [X10.here.top, hx, (hb hby d8_59), X10.method', Bd.returns, Value.isRef, FieldType.isReference]
    first | (intro acts; rw [hr _ acts rfl rfl rfl]) | rw [hr _ _ rfl rfl rfl]
    exact Steps.refl _
  · show QG Z a1 mo n h0 n0 _ T10.heap _
    rw [e10]
    refine ⟨b9, rfl, N10, K10, sz_b9, ⟨E10, FM.other W10 (Or.inr (slot_ne (Or.inl (hw _ (List.mem_of_getElem? (i := 24) rfl))) (Or.inl (hw _ (List.mem_of_getElem? (i := 27) rfl))) (by decide) (t := .int) (t' := (.array (.object "java/lang/Object"))) (by decide) (by decide))), Fw10, FS.other W10 (Or.inr (slot_ne (Or.inl (hw _ (List.mem_of_getElem? (i := 41) rfl))) (Or.inl (hw _ (List.mem_of_getElem? (i := 27) rfl))) (by decide) (t := .int) (t' := (.array (.object "java/lang/Object"))) (by decide) (by decide)))⟩, k9, O9, V_b9.other W10 nb⟩
theorem d7_0 : decode jdk_38_method_7_code 0 = .ok (.aload_n 0, 1) := by decide +kernel
theorem d7_1 : decode jdk_38_method_7_code 1 = .ok (.aload_n 0, 1) := by decide +kernel
theorem d7_2 : decode jdk_38_method_7_code 2 = .ok (.getfield 48, 3) := by decide +kernel
theorem d7_5 : decode jdk_38_method_7_code 5 = .ok (.iconst 1, 1) := by decide +kernel
theorem d7_6 : decode jdk_38_method_7_code 6 = .ok (.iadd, 1) := by decide +kernel
theorem d7_7 : decode jdk_38_method_7_code 7 = .ok (.invokevirtual 69, 3) := by decide +kernel
theorem d7_10 : decode jdk_38_method_7_code 10 = .ok (.areturn, 1) := by decide +kernel
theorem pn_7 : plainName "java/util/ArrayList" = true := by first | (simp [plainName, overriddenIn]; done) | decide +kernel
theorem pd_7_4 : parseMethodDescriptor "(I)[Ljava/lang/Object;" = some ⟨[.int], some (.array (.object "java/lang/Object"))⟩ := by decide +kernel
theorem ef_7 (m : MethodId) (x0 : Addr) : entryFrame m #[(.ref x0)] 1 = mkF m 0 #[.val (.ref x0)] [] := by first | (simp [entryFrame, mkF, argsToLocals, Value.category]; done) | rfl

set_option maxRecDepth 65536 in
set_option maxHeartbeats 40000000 in
theorem rm7 (l : Launch) (Z : State) (a0 : Array Value) (hw : ∀ d ∈ tables_1, d.before a0 Z = true) (ws : List Jvm.Cond) (a1 : Addr) (mo n : Int32) (w3 : Addr) (h0 : Heap) (n0 : Nat) (Z0 : n0 ≤ h0.size) (G : own_Lst Z h0 a1 mo w3 n) (Em : own_Emp Z h0 w3) (g_a1 : n0 ≤ a1) (hc2 : ¬ ((10 : Int32) < n + (1 : Int32))) :
    MetFree l (⟨"java/util/ArrayList", "grow", "()[Ljava/lang/Object;"⟩ : MethodName) (head1 (Jvm.Cond.code (⟨"java/util/ArrayList", "grow", "()[Ljava/lang/Object;"⟩ : MethodName) jdk_38_method_7_code 1 (some (.array (.object "java/lang/Object"))) :: ws) ({ frames := 2, cells := 1, slots := 10, locals := 29 } : Room)) (fun a U => a = #[(.ref a1)] ∧ Z.Warmed39 U.vm ∧ U.heap = h0) (fun _ _ _ _ _ => True) (fun _ U o U' => ∃ v L, o = .returned v ∧ QG Z a1 mo n h0 n0 v U'.heap L ∧ FrameEnd U o U' L ({ frames := 2, cells := 1, slots := 10, locals := 29 } : Room).cells ({ frames := 2, cells := 1, slots := 10, locals := 29 } : Room).slots) := by
  refine MetFree.of_bodySF (plainFor_of_name pn_7) hisR ?_
  intro p e s m args below meth c s₁ Bd hml0 hP hK
  obtain ⟨rfl, hZ, hh⟩ := hP
  have hx := Bd.exec
  have hby := Bd.bytes
  have hml : c.maxLocals = 1 := hml0
  have hown : s.vm.findClass "java/util/ArrayList" = some m.cls := findClass_of_methodNamed Bd.named
  have hnm := (name_of_methodNamed Bd.named Bd.method).1
  have X0 : Stand p l e ({ frames := 2, cells := 1, slots := 10, locals := 29 } : Room) s m #[(.ref a1)] below meth c s₁ [] 0 0 := Stand.of_body Bd
  have e0 : s₁.heap = h0 := by rw [← hh, Bd.state]; rfl
  have N0 := Fr.nil n0
  have pre0 : ∀ t, Steps p.tables e below (s₁.setTop (mkF m 0 #[.val (.ref a1)] [])) t → Steps p.tables e below (s₁.setTop (entryFrame m #[(.ref a1)] 1)) t := fun t k => castTop (ef_7 m a1) k
  obtain ⟨E_a1, F_modCount_a1, F_elementData_a1, F_size_a1⟩ := id G
  obtain ⟨T3, X3, e3, st3⟩ := getF X0 hx hZ hown (host := "") (Or.inl (hw _ (List.mem_of_getElem? (i := 40) rfl))) Via.refl e0 F_size_a1 (g := (mkF m 2 #[.val (.ref a1)] [(.ref a1), (.ref a1)])) rfl rfl (hb hby d7_2)
  obtain ⟨cq4, q4, q4'⟩ := E_a1.cell
  obtain ⟨_, _, ⟨T4, L4, k4, n4⟩, -, X4, ⟨Lc4, hQ4, l4, y4, z4⟩, st4⟩ := X3.privateBack hx (y := (⟨"java/util/ArrayList", "grow", "(I)[Ljava/lang/Object;"⟩ : MethodName)) hown (mvT hZ (hw _ (List.mem_of_getElem? (i := 52) rfl))) (mvT hZ (hw _ (List.mem_of_getElem? (i := 53) rfl))) (mvT hZ (hw _ (List.mem_of_getElem? (i := 55) rfl))) (Cond.privateMethod_at (mvP hZ (hw _ (List.mem_of_getElem? (i := 54) rfl)) (args := #[]))) (mvT hZ (hw _ (List.mem_of_getElem? (i := 56) rfl))) (by decide) (backOf (W := 0) (rm8 l Z a0 hw [] a1 (n + (1 : Int32)) mo n w3 h0 n0 Z0 G Em g_a1 hc2) hZ (hw _ (List.mem_of_getElem? (i := 56) rfl)) (hw _ (List.mem_of_getElem? (i := 4) rfl)) (by decide) (by decide)) (g := (mkF m 7 #[.val (.ref a1)] [(.int (n + (1 : Int32))), (.ref a1)])) rfl (by rw [hml]; rfl) (Steps.refl _) (a := a1) (by rw [e3]; exact q4) q4' (argsL := [(.int (n + (1 : Int32)))]) (rest := []) (lenOf pd_7_4 rfl) rfl (by show 2 * 0 + _ ≤ _; exact Nat.le_of_eq rfl) (hb hby d7_7) (fun _ _ => ⟨rfl, e3, (by decide : 0 + 1 ≤ _), (by decide : 0 + 10 ≤ _)⟩)
  dsimp only [Pt.U, Pt.locs, Pt.cells, Pt.slots] at X4 l4 y4 z4 st4 hQ4
  subst l4 y4 z4
  obtain ⟨b4, rfl, N4q, K4, z4b, G4, D4⟩ := hQ4
  have N4 := Fr.app N0 N4q
  obtain ⟨fs, hr, hrun, hended, hW, hsame⟩ := X4.leave (v := some (.ref b4)) (fun h => by rw [Bd.returns] at h; cases h)
  refine ⟨_, _, pre0 _ ?_, hrun, hended, _, _, rfl, ?_, ⟨_, rfl⟩, hW, hsame.mono (by decide) (by decide)⟩
  · show Steps p.tables e below (s₁.setTop (mkF m 0 #[.val (.ref a1)] [])) _
    refine XS.aloadN X0.here hx rfl (hb hby d7_0) rfl rfl ?_
    show Steps p.tables e below (s₁.setTop (mkF m 1 #[.val (.ref a1)] [(.ref a1)])) _
    refine XS.aloadN X0.here hx rfl (hb hby d7_1) rfl rfl ?_
    show Steps p.tables e below (s₁.setTop (mkF m 2 #[.val (.ref a1)] [(.ref a1), (.ref a1)])) _
    refine st3 _ ?_
    show Steps p.tables e below (T3.setTop (mkF m 5 #[.val (.ref a1)] [(.int n), (.ref a1)])) _
    refine XS.iconst X3.here hx rfl (hb hby d7_5) ?_
    show Steps p.tables e below (T3.setTop (mkF m 6 #[.val (.ref a1)] [(.int (1 : Int32)), (.int n), (.ref a1)])) _
    refine XS.iadd X3.here hx rfl (hb hby d7_6) rfl ?_
    show Steps p.tables e below (T3.setTop (mkF m 7 #[.val (.ref a1)] [(.int (n + (1 : Int32))), (.ref a1)])) _
    refine st4.trans ?_
    show Steps p.tables e below (T4.setTop (mkF m 10 #[.val (.ref a1)] [(.ref b4)])) _
    jvm_step X4.here [X4.here.top, hx, (hb hby d7_10), X4.method', Bd.returns, Value.isRef, FieldType.isReference]
    first | (intro acts; rw [hr _ acts rfl rfl rfl]) | rw [hr _ _ rfl rfl rfl]
    exact Steps.refl _
  · exact ⟨b4, rfl, N4, K4, z4b, G4, D4⟩
theorem d6_0 : decode jdk_38_method_24_code 0 = .ok (.iload_n 3, 1) := by decide +kernel
theorem d6_1 : decode jdk_38_method_24_code 1 = .ok (.aload_n 2, 1) := by decide +kernel
theorem d6_2 : decode jdk_38_method_24_code 2 = .ok (.arraylength, 1) := by decide +kernel
theorem d6_3 : decode jdk_38_method_24_code 3 = .ok (.if_icmp .ne 8, 3) := by decide +kernel
theorem d6_6 : decode jdk_38_method_24_code 6 = .ok (.aload_n 0, 1) := by decide +kernel
theorem d6_7 : decode jdk_38_method_24_code 7 = .ok (.invokevirtual 129, 3) := by decide +kernel
theorem d6_10 : decode jdk_38_method_24_code 10 = .ok (.astore_n 2, 1) := by decide +kernel
theorem d6_11 : decode jdk_38_method_24_code 11 = .ok (.aload_n 2, 1) := by decide +kernel
theorem d6_12 : decode jdk_38_method_24_code 12 = .ok (.iload_n 3, 1) := by decide +kernel
theorem d6_13 : decode jdk_38_method_24_code 13 = .ok (.aload_n 1, 1) := by decide +kernel
theorem d6_14 : decode jdk_38_method_24_code 14 = .ok (.aastore, 1) := by decide +kernel
theorem d6_15 : decode jdk_38_method_24_code 15 = .ok (.aload_n 0, 1) := by decide +kernel
theorem d6_16 : decode jdk_38_method_24_code 16 = .ok (.iload_n 3, 1) := by decide +kernel
theorem d6_17 : decode jdk_38_method_24_code 17 = .ok (.iconst 1, 1) := by decide +kernel
theorem d6_18 : decode jdk_38_method_24_code 18 = .ok (.iadd, 1) := by decide +kernel
theorem d6_19 : decode jdk_38_method_24_code 19 = .ok (.putfield 48, 3) := by decide +kernel
theorem d6_22 : decode jdk_38_method_24_code 22 = .ok (.return_, 1) := by decide +kernel
theorem pn_6 : plainName "java/util/ArrayList" = true := by first | (simp [plainName, overriddenIn]; done) | decide +kernel
theorem pd_6_3 : parseMethodDescriptor "()[Ljava/lang/Object;" = some ⟨[], some (.array (.object "java/lang/Object"))⟩ := by decide +kernel
theorem ef_6 (m : MethodId) (x0 : Addr) (x1 : Addr) (x2 : Addr) (x3 : Int32) : entryFrame m #[(.ref x0), (.ref x1), (.ref x2), (.int x3)] 4 = mkF m 0 #[.val (.ref x0), .val (.ref x1), .val (.ref x2), .val (.int x3)] [] := by first | (simp [entryFrame, mkF, argsToLocals, Value.category]; done) | rfl
def Q6f (Z : State) (a1 a2 : Addr) (mo n : Int32) (h0 : Heap) (n0 : Nat) (v : Option Value) (h : Heap) (L : List Loc) : Prop := v = none ∧ Fr n0 L ∧ Keep h0 h [a1] ∧ ∃ b, h0.size ≤ b ∧ own_Lst Z h a1 mo b (n + (1 : Int32)) ∧ own_Dat Z h b [.ref a2]
set_option maxRecDepth 65536 in
set_option maxHeartbeats 40000000 in
theorem rm6f (l : Launch) (Z : State) (a0 : Array Value) (hw : ∀ d ∈ tables_1, d.before a0 Z = true) (ws : List Jvm.Cond) (a1 a2 : Addr) (mo n : Int32) (w3 : Addr) (h0 : Heap) (n0 : Nat) (Z0 : n0 ≤ h0.size) (G : own_Lst Z h0 a1 mo w3 n) (Em : own_Emp Z h0 w3) (g_a1 : n0 ≤ a1) (E_a2 : Exa Z h0 a2 "[D") (hc2 : ¬ ((10 : Int32) < n + (1 : Int32))) (hn0 : n = (0 : Int32)) :
    MetFree l (⟨"java/util/ArrayList", "add", "(Ljava/lang/Object;[Ljava/lang/Object;I)V"⟩ : MethodName) (head1 (Jvm.Cond.code (⟨"java/util/ArrayList", "add", "(Ljava/lang/Object;[Ljava/lang/Object;I)V"⟩ : MethodName) jdk_38_method_24_code 4 none :: ws) ({ frames := 3, cells := 1, slots := 10, locals := 41 } : Room)) (fun a U => a = #[(.ref a1), (.ref a2), (.ref w3), (.int n)] ∧ Z.Warmed39 U.vm ∧ U.heap = h0) (fun _ _ _ _ _ => True) (fun _ U o U' => ∃ v L, o = .returned v ∧ Q6f Z a1 a2 mo n h0 n0 v U'.heap L ∧ FrameEnd U o U' L ({ frames := 3, cells := 1, slots := 10, locals := 41 } : Room).cells ({ frames := 3, cells := 1, slots := 10, locals := 41 } : Room).slots) := by
  refine MetFree.of_bodySF (plainFor_of_name pn_6) hisR ?_
  intro p e s m args below meth c s₁ Bd hml0 hP hK
  obtain ⟨rfl, hZ, hh⟩ := hP
  have hx := Bd.exec
  have hby := Bd.bytes
  have hml : c.maxLocals = 4 := hml0
  have hown : s.vm.findClass "java/util/ArrayList" = some m.cls := findClass_of_methodNamed Bd.named
  have hnm := (name_of_methodNamed Bd.named Bd.method).1
  have X0 : Stand p l e ({ frames := 3, cells := 1, slots := 10, locals := 41 } : Room) s m #[(.ref a1), (.ref a2), (.ref w3), (.int n)] below meth c s₁ [] 0 0 := Stand.of_body Bd
  have e0 : s₁.heap = h0 := by rw [← hh, Bd.state]; rfl
  have N0 := Fr.nil n0
  have pre0 : ∀ t, Steps p.tables e below (s₁.setTop (mkF m 0 #[.val (.ref a1), .val (.ref a2), .val (.ref w3), .val (.int n)] [])) t → Steps p.tables e below (s₁.setTop (entryFrame m #[(.ref a1), (.ref a2), (.ref w3), (.int n)] 4)) t := fun t k => castTop (ef_6 m a1 a2 w3 n) k
  obtain ⟨E_a1, F_modCount_a1, F_elementData_a1, F_size_a1⟩ := id G
  obtain ⟨S_D, cl_a3, Ar_a3, S_a3⟩ := id Em
  have N_a3 : ¬ (0 : Int32) < 0 := by decide
  obtain ⟨cq5, q5, q5'⟩ := E_a1.cell
  obtain ⟨_, _, ⟨T5, L5, k5, n5⟩, -, X5, ⟨Lc5, hQ5, l5, y5, z5⟩, st5⟩ := X0.privateBack hx (y := (⟨"java/util/ArrayList", "grow", "()[Ljava/lang/Object;"⟩ : MethodName)) hown (mvT hZ (hw _ (List.mem_of_getElem? (i := 47) rfl))) (mvT hZ (hw _ (List.mem_of_getElem? (i := 48) rfl))) (mvT hZ (hw _ (List.mem_of_getElem? (i := 50) rfl))) (Cond.privateMethod_at (mvP hZ (hw _ (List.mem_of_getElem? (i := 49) rfl)) (args := #[]))) (mvT hZ (hw _ (List.mem_of_getElem? (i := 51) rfl))) (by decide) (backOf (W := 0) (rm7 l Z a0 hw [] a1 mo n w3 h0 n0 Z0 G Em g_a1 hc2) hZ (hw _ (List.mem_of_getElem? (i := 51) rfl)) (hw _ (List.mem_of_getElem? (i := 4) rfl)) (by decide) (by decide)) (g := (mkF m 7 #[.val (.ref a1), .val (.ref a2), .val (.ref w3), .val (.int n)] [(.ref a1)])) rfl (by rw [hml]; rfl) (Steps.refl _) (a := a1) (by rw [e0]; exact q5) q5' (argsL := []) (rest := []) (lenOf pd_6_3 rfl) rfl (by show 2 * 0 + _ ≤ _; exact Nat.le_of_eq rfl) (hb hby d6_7) (fun _ _ => ⟨rfl, e0, (by decide : 0 + 1 ≤ _), (by decide : 0 + 10 ≤ _)⟩)
  dsimp only [Pt.U, Pt.locs, Pt.cells, Pt.slots] at X5 l5 y5 z5 st5 hQ5
  subst l5 y5 z5
  obtain ⟨b5, rfl, N5q, K5, z5b, G5, D5⟩ := hQ5
  obtain ⟨E5, FM5, FE5, FS5⟩ := id G5
  have n15 : a1 ≠ b5 := Nat.ne_of_lt (Nat.lt_of_lt_of_le E_a1.lt z5b)
  obtain ⟨kA, OA, A5⟩ := id D5
  obtain ⟨cl5, Ar5, q5c, S5, N5', H5, G5'⟩ := A5.pad (vs' := [.null]) (pad_rep [] .null 1)
  have hin14 : ¬ (n < 0 ∨ cl5.slots.size ≤ n.toNatClampNeg) := inb_of S5 (by rw [hn0]; decide)
  have Sto14 : Sto Z T5.heap b5 (.ref a2) := Sto.ofV Ar5 q5c OA (Ins.of_exa (E_a2.keep K5) (hw _ (List.mem_of_getElem? (i := 63) rfl)))
  have N5 := Fr.app N0 N5q
  obtain ⟨T6, h6, X6, e6, W6, st6⟩ := stR X5 hx hZ rfl Ar5 (j := n) hin14 rfl Sto14 (g := (mkF m 14 #[.val (.ref a1), .val (.ref a2), .val (.ref b5), .val (.int n)] [(.ref a2), (.int n), (.ref b5)])) rfl rfl (hb hby d6_14)
  have N6 := Fr.snoc X6 N5 (Nat.le_trans Z0 z5b)
  have K6 : Keep h0 h6 [a1] := K5.wr W6 (Or.inr z5b)
  have D6 := Arv.set Ar5 q5c S5 N5' H5 G5' rfl W6 0 (by rw [hn0]; decide) (by decide)
  obtain ⟨T7, h7, X7, e7, W7, st7⟩ := putF X6 hx hZ hown (host := "") (Or.inl (hw _ (List.mem_of_getElem? (i := 40) rfl))) Via.refl e6 (FS5.other W6 (Or.inl n15)) (E5.wr W6) (Or.inl (hw _ (List.mem_of_getElem? (i := 41) rfl))) (hw _ (List.mem_of_getElem? (i := 3) rfl)) (ty := .int) (by decide) rfl rfl (g := (mkF m 19 #[.val (.ref a1), .val (.ref a2), .val (.ref b5), .val (.int n)] [(.int (n + (1 : Int32))), (.ref a1)])) rfl rfl (hb hby d6_19)
  have Fw7 := (FS5.other W6 (Or.inl n15)).same W7
  have D7 := D6.other W7 n15.symm
  have K7 : Keep h0 h7 [a1] := K6.wr W7 (Or.inl (List.mem_of_getElem? (i := 0) rfl))
  have N7 := Fr.snoc X7 N6 g_a1
  obtain ⟨fs, hr, hrun, hended, hW, hsame⟩ := X7.leave (v := none) (fun _ => rfl)
  refine ⟨_, _, pre0 _ ?_, hrun, hended, _, _, rfl, ?_, ⟨_, rfl⟩, hW, hsame.mono (by decide) (by decide)⟩
  · show Steps p.tables e below (s₁.setTop (mkF m 0 #[.val (.ref a1), .val (.ref a2), .val (.ref w3), .val (.int n)] [])) _
    refine XS.iloadN X0.here hx rfl (hb hby d6_0) rfl ?_
    show Steps p.tables e below (s₁.setTop (mkF m 1 #[.val (.ref a1), .val (.ref a2), .val (.ref w3), .val (.int n)] [(.int n)])) _
    refine XS.aloadN X0.here hx rfl (hb hby d6_1) rfl rfl ?_
    show Steps p.tables e below (s₁.setTop (mkF m 2 #[.val (.ref a1), .val (.ref a2), .val (.ref w3), .val (.int n)] [(.ref w3), (.int n)])) _
    refine X0.arraylength hx (by rw [e0]; exact Ar_a3.1) (State.isArrayOf_alike hZ.alike Ar_a3.2.1) (g := (mkF m 2 #[.val (.ref a1), .val (.ref a2), .val (.ref w3), .val (.int n)] [(.ref w3), (.int n)])) rfl rfl (hb hby d6_2) _ ?_
    rw [len_of S_a3 N_a3]
    show Steps p.tables e below (s₁.setTop (mkF m 3 #[.val (.ref a1), .val (.ref a2), .val (.ref w3), .val (.int n)] [(.int (0 : Int32)), (.int n)])) _
    refine XS.icmpNo X0.here hx rfl (hb hby d6_3) rfl (teq hn0).2 ?_
    show Steps p.tables e below (s₁.setTop (mkF m 6 #[.val (.ref a1), .val (.ref a2), .val (.ref w3), .val (.int n)] [])) _
    refine XS.aloadN X0.here hx rfl (hb hby d6_6) rfl rfl ?_
    show Steps p.tables e below (s₁.setTop (mkF m 7 #[.val (.ref a1), .val (.ref a2), .val (.ref w3), .val (.int n)] [(.ref a1)])) _
    refine st5.trans ?_
    show Steps p.tables e below (T5.setTop (mkF m 10 #[.val (.ref a1), .val (.ref a2), .val (.ref w3), .val (.int n)] [(.ref b5)])) _
    refine XS.astoreN X5.here hx rfl (hb hby d6_10) rfl rfl (l' := #[.val (.ref a1), .val (.ref a2), .val (.ref b5), .val (.int n)]) rfl ?_
    show Steps p.tables e below (T5.setTop (mkF m 11 #[.val (.ref a1), .val (.ref a2), .val (.ref b5), .val (.int n)] [])) _
    refine XS.aloadN X5.here hx rfl (hb hby d6_11) rfl rfl ?_
    show Steps p.tables e below (T5.setTop (mkF m 12 #[.val (.ref a1), .val (.ref a2), .val (.ref b5), .val (.int n)] [(.ref b5)])) _
    refine XS.iloadN X5.here hx rfl (hb hby d6_12) rfl ?_
    show Steps p.tables e below (T5.setTop (mkF m 13 #[.val (.ref a1), .val (.ref a2), .val (.ref b5), .val (.int n)] [(.int n), (.ref b5)])) _
    refine XS.aloadN X5.here hx rfl (hb hby d6_13) rfl rfl ?_
    show Steps p.tables e below (T5.setTop (mkF m 14 #[.val (.ref a1), .val (.ref a2), .val (.ref b5), .val (.int n)] [(.ref a2), (.int n), (.ref b5)])) _
    refine st6 _ ?_
    show Steps p.tables e below (T6.setTop (mkF m 15 #[.val (.ref a1), .val (.ref a2), .val (.ref b5), .val (.int n)] [])) _
    refine XS.aloadN X6.here hx rfl (hb hby d6_15) rfl rfl ?_
    show Steps p.tables e below (T6.setTop (mkF m 16 #[.val (.ref a1), .val (.ref a2), .val (.ref b5), .val (.int n)] [(.ref a1)])) _
    refine XS.iloadN X6.here hx rfl (hb hby d6_16) rfl ?_
    show Steps p.tables e below (T6.setTop (mkF m 17 #[.val (.ref a1), .val (.ref a2), .val (.ref b5), .val (.int n)] [(.int n), (.ref a1)])) _
    refine XS.iconst X6.here hx rfl (hb hby d6_17) ?_
    show Steps p.tables e below (T6.setTop (mkF m 18 #[.val (.ref a1), .val (.ref a2), .val (.ref b5), .val (.int n)] [(.int (1 : Int32)), (.int n), (.ref a1)])) _
    refine XS.iadd X6.here hx rfl (hb hby d6_18) rfl ?_
    show Steps p.tables e below (T6.setTop (mkF m 19 #[.val (.ref a1), .val (.ref a2), .val (.ref b5), .val (.int n)] [(.int (n + (1 : Int32))), (.ref a1)])) _
    refine st7 _ ?_
    show Steps p.tables e below (T7.setTop (mkF m 22 #[.val (.ref a1), .val (.ref a2), .val (.ref b5), .val (.int n)] [])) _
    exact X7.returnOut hx Bd.returns (hb hby d6_22) hr
  · show Q6f Z a1 a2 mo n h0 n0 _ T7.heap _
    rw [e7]
    exact ⟨rfl, N7, K7, b5, z5b, ⟨(E5.wr W6).wr W7, (FM5.other W6 (Or.inl n15)).other W7 (Or.inr (slot_ne (Or.inl (hw _ (List.mem_of_getElem? (i := 24) rfl))) (Or.inl (hw _ (List.mem_of_getElem? (i := 41) rfl))) (by decide) (t := .int) (t' := .int) (by decide) (by decide))), (FE5.other W6 (Or.inl n15)).other W7 (Or.inr (slot_ne (Or.inl (hw _ (List.mem_of_getElem? (i := 27) rfl))) (Or.inl (hw _ (List.mem_of_getElem? (i := 41) rfl))) (by decide) (t := (.array (.object "java/lang/Object"))) (t' := .int) (by decide) (by decide))), Fw7⟩, kA, OA, D7⟩
def Q6t (Z : State) (a1 a2 : Addr) (mo n : Int32) (w3 : Addr) (vs : List Value) (h0 : Heap) (n0 : Nat) (v : Option Value) (h : Heap) (L : List Loc) : Prop := v = none ∧ Fr n0 L ∧ Keep h0 h [w3, a1] ∧ own_Lst Z h a1 mo w3 (n + (1 : Int32)) ∧ own_Dat Z h w3 (vs ++ [.ref a2])
set_option maxRecDepth 65536 in
set_option maxHeartbeats 40000000 in
theorem rm6t (l : Launch) (Z : State) (a0 : Array Value) (hw : ∀ d ∈ tables_1, d.before a0 Z = true) (ws : List Jvm.Cond) (a1 a2 : Addr) (mo n : Int32) (w3 : Addr) (vs : List Value) (h0 : Heap) (n0 : Nat) (Z0 : n0 ≤ h0.size) (G : own_Lst Z h0 a1 mo w3 n) (D : own_Dat Z h0 w3 vs) (g_a1 : n0 ≤ a1) (g_w3 : n0 ≤ w3) (E_a2 : Exa Z h0 a2 "[D") (hn : n.toNatClampNeg = vs.length ∧ ¬ n < 0 ∧ n < (10 : Int32) ∧ ¬ n = (10 : Int32)) :
    MetFree l (⟨"java/util/ArrayList", "add", "(Ljava/lang/Object;[Ljava/lang/Object;I)V"⟩ : MethodName) (head1 (Jvm.Cond.code (⟨"java/util/ArrayList", "add", "(Ljava/lang/Object;[Ljava/lang/Object;I)V"⟩ : MethodName) jdk_38_method_24_code 4 none :: ws) ({ frames := 0, cells := 0, slots := 0, locals := 0 } : Room)) (fun a U => a = #[(.ref a1), (.ref a2), (.ref w3), (.int n)] ∧ Z.Warmed39 U.vm ∧ U.heap = h0) (fun _ _ _ _ _ => True) (fun _ U o U' => ∃ v L, o = .returned v ∧ Q6t Z a1 a2 mo n w3 vs h0 n0 v U'.heap L ∧ FrameEnd U o U' L ({ frames := 0, cells := 0, slots := 0, locals := 0 } : Room).cells ({ frames := 0, cells := 0, slots := 0, locals := 0 } : Room).slots) := by
  refine MetFree.of_bodySF (plainFor_of_name pn_6) hisR ?_
  intro p e s m args below meth c s₁ Bd hml0 hP hK
  obtain ⟨rfl, hZ, hh⟩ := hP
  have hx := Bd.exec
  have hby := Bd.bytes
  have hml : c.maxLocals = 4 := hml0
  have hown : s.vm.findClass "java/util/ArrayList" = some m.cls := findClass_of_methodNamed Bd.named
  have hnm := (name_of_methodNamed Bd.named Bd.method).1
  have X0 : Stand p l e ({ frames := 0, cells := 0, slots := 0, locals := 0 } : Room) s m #[(.ref a1), (.ref a2), (.ref w3), (.int n)] below meth c s₁ [] 0 0 := Stand.of_body Bd
  have e0 : s₁.heap = h0 := by rw [← hh, Bd.state]; rfl
  have N0 := Fr.nil n0
  have pre0 : ∀ t, Steps p.tables e below (s₁.setTop (mkF m 0 #[.val (.ref a1), .val (.ref a2), .val (.ref w3), .val (.int n)] [])) t → Steps p.tables e below (s₁.setTop (entryFrame m #[(.ref a1), (.ref a2), (.ref w3), (.int n)] 4)) t := fun t k => castTop (ef_6 m a1 a2 w3 n) k
  obtain ⟨E_a1, F_modCount_a1, F_elementData_a1, F_size_a1⟩ := id G
  have n13 : a1 ≠ w3 := own_Dat_ne E_a1 (hw _ (List.mem_of_getElem? (i := 3) rfl)) D
  obtain ⟨kA, OA, A5⟩ := id D
  obtain ⟨cl_a3, Ar_a3, q5c, S_a3, N_a3, H5, G5'⟩ := A5.pad (vs' := vs ++ [.null]) (pad_rep vs .null 1)
  have hin14 : ¬ (n < 0 ∨ cl_a3.slots.size ≤ n.toNatClampNeg) := inb_of S_a3 ⟨hn.2.1, hn.2.2.1⟩
  have Sto14 : Sto Z h0 w3 (.ref a2) := Sto.ofV Ar_a3 q5c OA (Ins.of_exa E_a2 (hw _ (List.mem_of_getElem? (i := 63) rfl)))
  have g_a3 := g_w3
  obtain ⟨T5, h5, X5, e5, W5, st5⟩ := stR X0 hx hZ e0 Ar_a3 (j := n) hin14 rfl Sto14 (g := (mkF m 14 #[.val (.ref a1), .val (.ref a2), .val (.ref w3), .val (.int n)] [(.ref a2), (.int n), (.ref w3)])) rfl rfl (hb hby d6_14)
  have N5 := Fr.snoc X5 N0 g_a3
  have D5 : Arv Z h5 w3 kA (.object "java/lang/Object") 10 (vs ++ [.ref a2]) .null := by
    have q := Arv.set Ar_a3 q5c S_a3 N_a3 H5 G5' rfl W5 vs.length hn.1 (by simp)
    simpa using q
  have K5 : Keep h0 h5 [w3, a1] := (Keep.refl h0 [w3, a1]).wr W5 (Or.inl (List.mem_of_getElem? (i := 0) rfl))
  obtain ⟨T6, h6, X6, e6, W6, st6⟩ := putF X5 hx hZ hown (host := "") (Or.inl (hw _ (List.mem_of_getElem? (i := 40) rfl))) Via.refl e5 (F_size_a1.other W5 (Or.inl n13)) (E_a1.wr W5) (Or.inl (hw _ (List.mem_of_getElem? (i := 41) rfl))) (hw _ (List.mem_of_getElem? (i := 3) rfl)) (ty := .int) (by decide) rfl rfl (g := (mkF m 19 #[.val (.ref a1), .val (.ref a2), .val (.ref w3), .val (.int n)] [(.int (n + (1 : Int32))), (.ref a1)])) rfl rfl (hb hby d6_19)
  have Fw6 := (F_size_a1.other W5 (Or.inl n13)).same W6
  have D6 := D5.other W6 n13.symm
  have K6 : Keep h0 h6 [w3, a1] := K5.wr W6 (Or.inl (List.mem_of_getElem? (i := 1) rfl))
  have N6 := Fr.snoc X6 N5 g_a1
  obtain ⟨fs, hr, hrun, hended, hW, hsame⟩ := X6.leave (v := none) (fun _ => rfl)
  refine ⟨_, _, pre0 _ ?_, hrun, hended, _, _, rfl, ?_, ⟨_, rfl⟩, hW, hsame.mono (by decide) (by decide)⟩
  · show Steps p.tables e below (s₁.setTop (mkF m 0 #[.val (.ref a1), .val (.ref a2), .val (.ref w3), .val (.int n)] [])) _
    refine XS.iloadN X0.here hx rfl (hb hby d6_0) rfl ?_
    show Steps p.tables e below (s₁.setTop (mkF m 1 #[.val (.ref a1), .val (.ref a2), .val (.ref w3), .val (.int n)] [(.int n)])) _
    refine XS.aloadN X0.here hx rfl (hb hby d6_1) rfl rfl ?_
    show Steps p.tables e below (s₁.setTop (mkF m 2 #[.val (.ref a1), .val (.ref a2), .val (.ref w3), .val (.int n)] [(.ref w3), (.int n)])) _
    refine X0.arraylength hx (by rw [e0]; exact Ar_a3.1) (State.isArrayOf_alike hZ.alike Ar_a3.2.1) (g := (mkF m 2 #[.val (.ref a1), .val (.ref a2), .val (.ref w3), .val (.int n)] [(.ref w3), (.int n)])) rfl rfl (hb hby d6_2) _ ?_
    rw [len_of S_a3 N_a3]
    show Steps p.tables e below (s₁.setTop (mkF m 3 #[.val (.ref a1), .val (.ref a2), .val (.ref w3), .val (.int n)] [(.int (10 : Int32)), (.int n)])) _
    refine XS.icmpYes X0.here hx rfl (pc0 := 3) (pc' := 11) rfl (hb hby d6_3) rfl (feq hn.2.2.2).2 (by decide) (by decide) ?_
    show Steps p.tables e below (s₁.setTop (mkF m 11 #[.val (.ref a1), .val (.ref a2), .val (.ref w3), .val (.int n)] [])) _
    refine XS.aloadN X0.here hx rfl (hb hby d6_11) rfl rfl ?_
    show Steps p.tables e below (s₁.setTop (mkF m 12 #[.val (.ref a1), .val (.ref a2), .val (.ref w3), .val (.int n)] [(.ref w3)])) _
    refine XS.iloadN X0.here hx rfl (hb hby d6_12) rfl ?_
    show Steps p.tables e below (s₁.setTop (mkF m 13 #[.val (.ref a1), .val (.ref a2), .val (.ref w3), .val (.int n)] [(.int n), (.ref w3)])) _
    refine XS.aloadN X0.here hx rfl (hb hby d6_13) rfl rfl ?_
    show Steps p.tables e below (s₁.setTop (mkF m 14 #[.val (.ref a1), .val (.ref a2), .val (.ref w3), .val (.int n)] [(.ref a2), (.int n), (.ref w3)])) _
    refine st5 _ ?_
    show Steps p.tables e below (T5.setTop (mkF m 15 #[.val (.ref a1), .val (.ref a2), .val (.ref w3), .val (.int n)] [])) _
    refine XS.aloadN X5.here hx rfl (hb hby d6_15) rfl rfl ?_
    show Steps p.tables e below (T5.setTop (mkF m 16 #[.val (.ref a1), .val (.ref a2), .val (.ref w3), .val (.int n)] [(.ref a1)])) _
    refine XS.iloadN X5.here hx rfl (hb hby d6_16) rfl ?_
    show Steps p.tables e below (T5.setTop (mkF m 17 #[.val (.ref a1), .val (.ref a2), .val (.ref w3), .val (.int n)] [(.int n), (.ref a1)])) _
    refine XS.iconst X5.here hx rfl (hb hby d6_17) ?_
    show Steps p.tables e below (T5.setTop (mkF m 18 #[.val (.ref a1), .val (.ref a2), .val (.ref w3), .val (.int n)] [(.int (1 : Int32)), (.int n), (.ref a1)])) _
    refine XS.iadd X5.here hx rfl (hb hby d6_18) rfl ?_
    show Steps p.tables e below (T5.setTop (mkF m 19 #[.val (.ref a1), .val (.ref a2), .val (.ref w3), .val (.int n)] [(.int (n + (1 : Int32))), (.ref a1)])) _
    refine st6 _ ?_
    show Steps p.tables e below (T6.setTop (mkF m 22 #[.val (.ref a1), .val (.ref a2), .val (.ref w3), .val (.int n)] [])) _
    exact X6.returnOut hx Bd.returns (hb hby d6_22) hr
  · show Q6t Z a1 a2 mo n w3 vs h0 n0 _ T6.heap _
    rw [e6]
    exact ⟨rfl, N6, K6, ⟨(E_a1.wr W5).wr W6, (F_modCount_a1.other W5 (Or.inl n13)).other W6 (Or.inr (slot_ne (Or.inl (hw _ (List.mem_of_getElem? (i := 24) rfl))) (Or.inl (hw _ (List.mem_of_getElem? (i := 41) rfl))) (by decide) (t := .int) (t' := .int) (by decide) (by decide))), (F_elementData_a1.other W5 (Or.inl n13)).other W6 (Or.inr (slot_ne (Or.inl (hw _ (List.mem_of_getElem? (i := 27) rfl))) (Or.inl (hw _ (List.mem_of_getElem? (i := 41) rfl))) (by decide) (t := (.array (.object "java/lang/Object"))) (t' := .int) (by decide) (by decide))), Fw6⟩, kA, OA, D6⟩
theorem d5_0 : decode jdk_38_method_25_code 0 = .ok (.aload_n 0, 1) := by decide +kernel
theorem d5_1 : decode jdk_38_method_25_code 1 = .ok (.dup, 1) := by decide +kernel
theorem d5_2 : decode jdk_38_method_25_code 2 = .ok (.getfield 63, 3) := by decide +kernel
theorem d5_5 : decode jdk_38_method_25_code 5 = .ok (.iconst 1, 1) := by decide +kernel
theorem d5_6 : decode jdk_38_method_25_code 6 = .ok (.iadd, 1) := by decide +kernel
theorem d5_7 : decode jdk_38_method_25_code 7 = .ok (.putfield 63, 3) := by decide +kernel
theorem d5_10 : decode jdk_38_method_25_code 10 = .ok (.aload_n 0, 1) := by decide +kernel
theorem d5_11 : decode jdk_38_method_25_code 11 = .ok (.aload_n 1, 1) := by decide +kernel
theorem d5_12 : decode jdk_38_method_25_code 12 = .ok (.aload_n 0, 1) := by decide +kernel
theorem d5_13 : decode jdk_38_method_25_code 13 = .ok (.getfield 9, 3) := by decide +kernel
theorem d5_16 : decode jdk_38_method_25_code 16 = .ok (.aload_n 0, 1) := by decide +kernel
theorem d5_17 : decode jdk_38_method_25_code 17 = .ok (.getfield 48, 3) := by decide +kernel
theorem d5_20 : decode jdk_38_method_25_code 20 = .ok (.invokevirtual 131, 3) := by decide +kernel
theorem d5_23 : decode jdk_38_method_25_code 23 = .ok (.iconst 1, 1) := by decide +kernel
theorem d5_24 : decode jdk_38_method_25_code 24 = .ok (.ireturn, 1) := by decide +kernel
theorem pn_5 : plainName "java/util/ArrayList" = true := by first | (simp [plainName, overriddenIn]; done) | decide +kernel
theorem pd_5_2 : parseMethodDescriptor "(Ljava/lang/Object;[Ljava/lang/Object;I)V" = some ⟨[(.object "java/lang/Object"), (.array (.object "java/lang/Object")), .int], none⟩ := by decide +kernel
theorem ef_5 (m : MethodId) (x0 : Addr) (x1 : Addr) : entryFrame m #[(.ref x0), (.ref x1)] 2 = mkF m 0 #[.val (.ref x0), .val (.ref x1)] [] := by first | (simp [entryFrame, mkF, argsToLocals, Value.category]; done) | rfl
def Q5a (Z : State) (a1 a2 : Addr) (mo n : Int32) (h0 : Heap) (n0 : Nat) (v : Option Value) (h : Heap) (L : List Loc) : Prop := v = some (.int (1 : Int32)) ∧ Fr n0 L ∧ Keep h0 h [a1] ∧ ∃ b, h0.size ≤ b ∧ own_Lst Z h a1 (mo + (1 : Int32)) b (n + (1 : Int32)) ∧ own_Dat Z h b [.ref a2]
set_option maxRecDepth 65536 in
set_option maxHeartbeats 40000000 in
theorem rm5a (l : Launch) (Z : State) (a0 : Array Value) (hw : ∀ d ∈ tables_1, d.before a0 Z = true) (ws : List Jvm.Cond) (a1 a2 : Addr) (mo n : Int32) (w3 : Addr) (h0 : Heap) (n0 : Nat) (Z0 : n0 ≤ h0.size) (G : own_Lst Z h0 a1 mo w3 n) (Em : own_Emp Z h0 w3) (g_a1 : n0 ≤ a1) (E_a2 : Exa Z h0 a2 "[D") (hc2 : ¬ ((10 : Int32) < n + (1 : Int32))) (hn0 : n = (0 : Int32)) :
    MetFree l (⟨"java/util/ArrayList", "add", "(Ljava/lang/Object;)Z"⟩ : MethodName) (head1 (Jvm.Cond.code (⟨"java/util/ArrayList", "add", "(Ljava/lang/Object;)Z"⟩ : MethodName) jdk_38_method_25_code 2 (some .boolean) :: ws) ({ frames := 4, cells := 1, slots := 10, locals := 56 } : Room)) (fun a U => a = #[(.ref a1), (.ref a2)] ∧ Z.Warmed39 U.vm ∧ U.heap = h0) (fun _ _ _ _ _ => True) (fun _ U o U' => ∃ v L, o = .returned v ∧ Q5a Z a1 a2 mo n h0 n0 v U'.heap L ∧ FrameEnd U o U' L ({ frames := 4, cells := 1, slots := 10, locals := 56 } : Room).cells ({ frames := 4, cells := 1, slots := 10, locals := 56 } : Room).slots) := by
  refine MetFree.of_bodySF (plainFor_of_name pn_5) hisR ?_
  intro p e s m args below meth c s₁ Bd hml0 hP hK
  obtain ⟨rfl, hZ, hh⟩ := hP
  have hx := Bd.exec
  have hby := Bd.bytes
  have hml : c.maxLocals = 2 := hml0
  have hown : s.vm.findClass "java/util/ArrayList" = some m.cls := findClass_of_methodNamed Bd.named
  have hnm := (name_of_methodNamed Bd.named Bd.method).1
  have X0 : Stand p l e ({ frames := 4, cells := 1, slots := 10, locals := 56 } : Room) s m #[(.ref a1), (.ref a2)] below meth c s₁ [] 0 0 := Stand.of_body Bd
  have e0 : s₁.heap = h0 := by rw [← hh, Bd.state]; rfl
  have N0 := Fr.nil n0
  have pre0 : ∀ t, Steps p.tables e below (s₁.setTop (mkF m 0 #[.val (.ref a1), .val (.ref a2)] [])) t → Steps p.tables e below (s₁.setTop (entryFrame m #[(.ref a1), (.ref a2)] 2)) t := fun t k => castTop (ef_5 m a1 a2) k
  obtain ⟨E_a1, F_modCount_a1, F_elementData_a1, F_size_a1⟩ := id G
  obtain ⟨T4, X4, e4, st4⟩ := getF X0 hx hZ hown (host := "") (Or.inl (hw _ (List.mem_of_getElem? (i := 38) rfl))) (Via.of (hw _ (List.mem_of_getElem? (i := 39) rfl))) e0 F_modCount_a1 (g := (mkF m 2 #[.val (.ref a1), .val (.ref a2)] [(.ref a1), (.ref a1)])) rfl rfl (hb hby d5_2)
  obtain ⟨T5, h5, X5, e5, W5, st5⟩ := putF X4 hx hZ hown (host := "") (Or.inl (hw _ (List.mem_of_getElem? (i := 38) rfl))) (Via.of (hw _ (List.mem_of_getElem? (i := 39) rfl))) e4 F_modCount_a1 E_a1 (Or.inl (hw _ (List.mem_of_getElem? (i := 24) rfl))) (hw _ (List.mem_of_getElem? (i := 3) rfl)) (ty := .int) (by decide) rfl rfl (g := (mkF m 7 #[.val (.ref a1), .val (.ref a2)] [(.int (mo + (1 : Int32))), (.ref a1)])) rfl rfl (hb hby d5_7)
  have Fw5 := F_modCount_a1.same W5
  have G5 : own_Lst Z h5 a1 (mo + (1 : Int32)) w3 n := ⟨E_a1.wr W5, Fw5, F_elementData_a1.other W5 (Or.inr (slot_ne (Or.inl (hw _ (List.mem_of_getElem? (i := 27) rfl))) (Or.inl (hw _ (List.mem_of_getElem? (i := 24) rfl))) (by decide) (t := (.array (.object "java/lang/Object"))) (t' := .int) (by decide) (by decide))), F_size_a1.other W5 (Or.inr (slot_ne (Or.inl (hw _ (List.mem_of_getElem? (i := 41) rfl))) (Or.inl (hw _ (List.mem_of_getElem? (i := 24) rfl))) (by decide) (t := .int) (t' := .int) (by decide) (by decide)))⟩
  have Em5 := own_Emp_wr Em W5 (own_Emp_ne Em E_a1 (hw _ (List.mem_of_getElem? (i := 3) rfl)))
  have K5 : Keep h0 h5 [a1] := (Keep.refl h0 [a1]).wr W5 (Or.inl (List.mem_of_getElem? (i := 0) rfl))
  have N5 := Fr.snoc X5 N0 g_a1
  obtain ⟨T7, X7, e7, st7⟩ := getF X5 hx hZ hown (host := "") (Or.inl (hw _ (List.mem_of_getElem? (i := 26) rfl))) Via.refl e5 (F_elementData_a1.other W5 (Or.inr (slot_ne (Or.inl (hw _ (List.mem_of_getElem? (i := 27) rfl))) (Or.inl (hw _ (List.mem_of_getElem? (i := 24) rfl))) (by decide) (t := (.array (.object "java/lang/Object"))) (t' := .int) (by decide) (by decide)))) (g := (mkF m 13 #[.val (.ref a1), .val (.ref a2)] [(.ref a1), (.ref a2), (.ref a1)])) rfl rfl (hb hby d5_13)
  obtain ⟨T9, X9, e9, st9⟩ := getF X7 hx hZ hown (host := "") (Or.inl (hw _ (List.mem_of_getElem? (i := 40) rfl))) Via.refl e7 (F_size_a1.other W5 (Or.inr (slot_ne (Or.inl (hw _ (List.mem_of_getElem? (i := 41) rfl))) (Or.inl (hw _ (List.mem_of_getElem? (i := 24) rfl))) (by decide) (t := .int) (t' := .int) (by decide) (by decide)))) (g := (mkF m 17 #[.val (.ref a1), .val (.ref a2)] [(.ref a1), (.ref w3), (.ref a2), (.ref a1)])) rfl rfl (hb hby d5_17)
  obtain ⟨cq10, q10, q10'⟩ := (E_a1.wr W5).cell
  obtain ⟨_, _, ⟨T10, L10, k10, n10⟩, -, X10, ⟨Lc10, hQ10, l10, y10, z10⟩, st10⟩ := X9.privateBack hx (y := (⟨"java/util/ArrayList", "add", "(Ljava/lang/Object;[Ljava/lang/Object;I)V"⟩ : MethodName)) hown (mvT hZ (hw _ (List.mem_of_getElem? (i := 42) rfl))) (mvT hZ (hw _ (List.mem_of_getElem? (i := 43) rfl))) (mvT hZ (hw _ (List.mem_of_getElem? (i := 45) rfl))) (Cond.privateMethod_at (mvP hZ (hw _ (List.mem_of_getElem? (i := 44) rfl)) (args := #[]))) (mvT hZ (hw _ (List.mem_of_getElem? (i := 46) rfl))) (by decide) (backOf (W := 0) (rm6f l Z a0 hw [] a1 a2 (mo + (1 : Int32)) n w3 h5 n0 (Nat.le_trans Z0 K5.1) G5 Em5 g_a1 (E_a2.wr W5) hc2 hn0) hZ (hw _ (List.mem_of_getElem? (i := 46) rfl)) (hw _ (List.mem_of_getElem? (i := 4) rfl)) (by decide) (by decide)) (g := (mkF m 20 #[.val (.ref a1), .val (.ref a2)] [(.int n), (.ref w3), (.ref a2), (.ref a1)])) rfl (by rw [hml]; rfl) (Steps.refl _) (a := a1) (by rw [e9]; exact q10) q10' (argsL := [(.ref a2), (.ref w3), (.int n)]) (rest := []) (lenOf pd_5_2 rfl) rfl (by show 2 * 0 + _ ≤ _; exact Nat.le_of_eq rfl) (hb hby d5_20) (fun _ _ => ⟨rfl, e9, (by decide : 0 + 1 ≤ _), (by decide : 0 + 10 ≤ _)⟩)
  dsimp only [Pt.U, Pt.locs, Pt.cells, Pt.slots] at X10 l10 y10 z10 st10 hQ10
  subst l10 y10 z10
  obtain ⟨rfl, N10q, K10, b10, zb10, G10, D10⟩ := hQ10
  have N10 := Fr.app N5 N10q
  obtain ⟨fs, hr, hrun, hended, hW, hsame⟩ := X10.leave (v := some (.int (1 : Int32))) (fun h => by rw [Bd.returns] at h; cases h)
  refine ⟨_, _, pre0 _ ?_, hrun, hended, _, _, rfl, ?_, ⟨_, rfl⟩, hW, hsame.mono (by decide) (by decide)⟩
  · show Steps p.tables e below (s₁.setTop (mkF m 0 #[.val (.ref a1), .val (.ref a2)] [])) _
    refine XS.aloadN X0.here hx rfl (hb hby d5_0) rfl rfl ?_
    show Steps p.tables e below (s₁.setTop (mkF m 1 #[.val (.ref a1), .val (.ref a2)] [(.ref a1)])) _
    refine XS.dup X0.here hx rfl (hb hby d5_1) rfl rfl ?_
    show Steps p.tables e below (s₁.setTop (mkF m 2 #[.val (.ref a1), .val (.ref a2)] [(.ref a1), (.ref a1)])) _
    refine st4 _ ?_
    show Steps p.tables e below (T4.setTop (mkF m 5 #[.val (.ref a1), .val (.ref a2)] [(.int mo), (.ref a1)])) _
    refine XS.iconst X4.here hx rfl (hb hby d5_5) ?_
    show Steps p.tables e below (T4.setTop (mkF m 6 #[.val (.ref a1), .val (.ref a2)] [(.int (1 : Int32)), (.int mo), (.ref a1)])) _
    refine XS.iadd X4.here hx rfl (hb hby d5_6) rfl ?_
    show Steps p.tables e below (T4.setTop (mkF m 7 #[.val (.ref a1), .val (.ref a2)] [(.int (mo + (1 : Int32))), (.ref a1)])) _
    refine st5 _ ?_
    show Steps p.tables e below (T5.setTop (mkF m 10 #[.val (.ref a1), .val (.ref a2)] [])) _
    refine XS.aloadN X5.here hx rfl (hb hby d5_10) rfl rfl ?_
    show Steps p.tables e below (T5.setTop (mkF m 11 #[.val (.ref a1), .val (.ref a2)] [(.ref a1)])) _
    refine XS.aloadN X5.here hx rfl (hb hby d5_11) rfl rfl ?_
    show Steps p.tables e below (T5.setTop (mkF m 12 #[.val (.ref a1), .val (.ref a2)] [(.ref a2), (.ref a1)])) _
    refine XS.aloadN X5.here hx rfl (hb hby d5_12) rfl rfl ?_
    show Steps p.tables e below (T5.setTop (mkF m 13 #[.val (.ref a1), .val (.ref a2)] [(.ref a1), (.ref a2), (.ref a1)])) _
    refine st7 _ ?_
    show Steps p.tables e below (T7.setTop (mkF m 16 #[.val (.ref a1), .val (.ref a2)] [(.ref w3), (.ref a2), (.ref a1)])) _
    refine XS.aloadN X7.here hx rfl (hb hby d5_16) rfl rfl ?_
    show Steps p.tables e below (T7.setTop (mkF m 17 #[.val (.ref a1), .val (.ref a2)] [(.ref a1), (.ref w3), (.ref a2), (.ref a1)])) _
    refine st9 _ ?_
    show Steps p.tables e below (T9.setTop (mkF m 20 #[.val (.ref a1), .val (.ref a2)] [(.int n), (.ref w3), (.ref a2), (.ref a1)])) _
    refine st10.trans ?_
    show Steps p.tables e below (T10.setTop (mkF m 23 #[.val (.ref a1), .val (.ref a2)] [])) _
    refine XS.iconst X10.here hx rfl (hb hby d5_23) ?_
    show Steps p.tables e below (T10.setTop (mkF m 24 #[.val (.ref a1), .val (.ref a2)] [(.int (1 : Int32))])) _
    exact retN X10 hx (t := .boolean) Bd.returns (by simp) (hb hby d5_24) hr
  · show Q5a Z a1 a2 mo n h0 n0 _ T10.heap _
    exact ⟨rfl, N10, K5.trans K10 (fun x hx => Or.inl hx), b10, Nat.le_trans K5.1 zb10, G10, D10⟩
def Q5b (Z : State) (a1 a2 : Addr) (mo n : Int32) (w3 : Addr) (vs : List Value) (h0 : Heap) (n0 : Nat) (v : Option Value) (h : Heap) (L : List Loc) : Prop := v = some (.int (1 : Int32)) ∧ Fr n0 L ∧ Keep h0 h [w3, a1] ∧ own_Lst Z h a1 (mo + (1 : Int32)) w3 (n + (1 : Int32)) ∧ own_Dat Z h w3 (vs ++ [.ref a2])
set_option maxRecDepth 65536 in
set_option maxHeartbeats 40000000 in
theorem rm5b (l : Launch) (Z : State) (a0 : Array Value) (hw : ∀ d ∈ tables_1, d.before a0 Z = true) (ws : List Jvm.Cond) (a1 a2 : Addr) (mo n : Int32) (w3 : Addr) (vs : List Value) (h0 : Heap) (n0 : Nat) (Z0 : n0 ≤ h0.size) (G : own_Lst Z h0 a1 mo w3 n) (D : own_Dat Z h0 w3 vs) (g_a1 : n0 ≤ a1) (g_w3 : n0 ≤ w3) (E_a2 : Exa Z h0 a2 "[D") (hn : n.toNatClampNeg = vs.length ∧ ¬ n < 0 ∧ n < (10 : Int32) ∧ ¬ n = (10 : Int32)) :
    MetFree l (⟨"java/util/ArrayList", "add", "(Ljava/lang/Object;)Z"⟩ : MethodName) (head1 (Jvm.Cond.code (⟨"java/util/ArrayList", "add", "(Ljava/lang/Object;)Z"⟩ : MethodName) jdk_38_method_25_code 2 (some .boolean) :: ws) ({ frames := 1, cells := 0, slots := 0, locals := 15 } : Room)) (fun a U => a = #[(.ref a1), (.ref a2)] ∧ Z.Warmed39 U.vm ∧ U.heap = h0) (fun _ _ _ _ _ => True) (fun _ U o U' => ∃ v L, o = .returned v ∧ Q5b Z a1 a2 mo n w3 vs h0 n0 v U'.heap L ∧ FrameEnd U o U' L ({ frames := 1, cells := 0, slots := 0, locals := 15 } : Room).cells ({ frames := 1, cells := 0, slots := 0, locals := 15 } : Room).slots) := by
  refine MetFree.of_bodySF (plainFor_of_name pn_5) hisR ?_
  intro p e s m args below meth c s₁ Bd hml0 hP hK
  obtain ⟨rfl, hZ, hh⟩ := hP
  have hx := Bd.exec
  have hby := Bd.bytes
  have hml : c.maxLocals = 2 := hml0
  have hown : s.vm.findClass "java/util/ArrayList" = some m.cls := findClass_of_methodNamed Bd.named
  have hnm := (name_of_methodNamed Bd.named Bd.method).1
  have X0 : Stand p l e ({ frames := 1, cells := 0, slots := 0, locals := 15 } : Room) s m #[(.ref a1), (.ref a2)] below meth c s₁ [] 0 0 := Stand.of_body Bd
  have e0 : s₁.heap = h0 := by rw [← hh, Bd.state]; rfl
  have N0 := Fr.nil n0
  have pre0 : ∀ t, Steps p.tables e below (s₁.setTop (mkF m 0 #[.val (.ref a1), .val (.ref a2)] [])) t → Steps p.tables e below (s₁.setTop (entryFrame m #[(.ref a1), (.ref a2)] 2)) t := fun t k => castTop (ef_5 m a1 a2) k
  obtain ⟨E_a1, F_modCount_a1, F_elementData_a1, F_size_a1⟩ := id G
  obtain ⟨T4, X4, e4, st4⟩ := getF X0 hx hZ hown (host := "") (Or.inl (hw _ (List.mem_of_getElem? (i := 38) rfl))) (Via.of (hw _ (List.mem_of_getElem? (i := 39) rfl))) e0 F_modCount_a1 (g := (mkF m 2 #[.val (.ref a1), .val (.ref a2)] [(.ref a1), (.ref a1)])) rfl rfl (hb hby d5_2)
  obtain ⟨T5, h5, X5, e5, W5, st5⟩ := putF X4 hx hZ hown (host := "") (Or.inl (hw _ (List.mem_of_getElem? (i := 38) rfl))) (Via.of (hw _ (List.mem_of_getElem? (i := 39) rfl))) e4 F_modCount_a1 E_a1 (Or.inl (hw _ (List.mem_of_getElem? (i := 24) rfl))) (hw _ (List.mem_of_getElem? (i := 3) rfl)) (ty := .int) (by decide) rfl rfl (g := (mkF m 7 #[.val (.ref a1), .val (.ref a2)] [(.int (mo + (1 : Int32))), (.ref a1)])) rfl rfl (hb hby d5_7)
  have Fw5 := F_modCount_a1.same W5
  have G5 : own_Lst Z h5 a1 (mo + (1 : Int32)) w3 n := ⟨E_a1.wr W5, Fw5, F_elementData_a1.other W5 (Or.inr (slot_ne (Or.inl (hw _ (List.mem_of_getElem? (i := 27) rfl))) (Or.inl (hw _ (List.mem_of_getElem? (i := 24) rfl))) (by decide) (t := (.array (.object "java/lang/Object"))) (t' := .int) (by decide) (by decide))), F_size_a1.other W5 (Or.inr (slot_ne (Or.inl (hw _ (List.mem_of_getElem? (i := 41) rfl))) (Or.inl (hw _ (List.mem_of_getElem? (i := 24) rfl))) (by decide) (t := .int) (t' := .int) (by decide) (by decide)))⟩
  have D5 := own_Dat_keep D (Keep.of_wr W5) (ninS (own_Dat_ne E_a1 (hw _ (List.mem_of_getElem? (i := 3) rfl)) D).symm nin0)
  have K5 : Keep h0 h5 [w3, a1] := (Keep.refl h0 [w3, a1]).wr W5 (Or.inl (List.mem_of_getElem? (i := 1) rfl))
  have N5 := Fr.snoc X5 N0 g_a1
  obtain ⟨T7, X7, e7, st7⟩ := getF X5 hx hZ hown (host := "") (Or.inl (hw _ (List.mem_of_getElem? (i := 26) rfl))) Via.refl e5 (F_elementData_a1.other W5 (Or.inr (slot_ne (Or.inl (hw _ (List.mem_of_getElem? (i := 27) rfl))) (Or.inl (hw _ (List.mem_of_getElem? (i := 24) rfl))) (by decide) (t := (.array (.object "java/lang/Object"))) (t' := .int) (by decide) (by decide)))) (g := (mkF m 13 #[.val (.ref a1), .val (.ref a2)] [(.ref a1), (.ref a2), (.ref a1)])) rfl rfl (hb hby d5_13)
  obtain ⟨T9, X9, e9, st9⟩ := getF X7 hx hZ hown (host := "") (Or.inl (hw _ (List.mem_of_getElem? (i := 40) rfl))) Via.refl e7 (F_size_a1.other W5 (Or.inr (slot_ne (Or.inl (hw _ (List.mem_of_getElem? (i := 41) rfl))) (Or.inl (hw _ (List.mem_of_getElem? (i := 24) rfl))) (by decide) (t := .int) (t' := .int) (by decide) (by decide)))) (g := (mkF m 17 #[.val (.ref a1), .val (.ref a2)] [(.ref a1), (.ref w3), (.ref a2), (.ref a1)])) rfl rfl (hb hby d5_17)
  obtain ⟨cq10, q10, q10'⟩ := (E_a1.wr W5).cell
  obtain ⟨_, _, ⟨T10, L10, k10, n10⟩, -, X10, ⟨Lc10, hQ10, l10, y10, z10⟩, st10⟩ := X9.privateBack hx (y := (⟨"java/util/ArrayList", "add", "(Ljava/lang/Object;[Ljava/lang/Object;I)V"⟩ : MethodName)) hown (mvT hZ (hw _ (List.mem_of_getElem? (i := 42) rfl))) (mvT hZ (hw _ (List.mem_of_getElem? (i := 43) rfl))) (mvT hZ (hw _ (List.mem_of_getElem? (i := 45) rfl))) (Cond.privateMethod_at (mvP hZ (hw _ (List.mem_of_getElem? (i := 44) rfl)) (args := #[]))) (mvT hZ (hw _ (List.mem_of_getElem? (i := 46) rfl))) (by decide) (backOf (W := 0) (rm6t l Z a0 hw [] a1 a2 (mo + (1 : Int32)) n w3 vs h5 n0 (Nat.le_trans Z0 K5.1) G5 D5 g_a1 g_w3 (E_a2.wr W5) hn) hZ (hw _ (List.mem_of_getElem? (i := 46) rfl)) (hw _ (List.mem_of_getElem? (i := 4) rfl)) (by decide) (by decide)) (g := (mkF m 20 #[.val (.ref a1), .val (.ref a2)] [(.int n), (.ref w3), (.ref a2), (.ref a1)])) rfl (by rw [hml]; rfl) (Steps.refl _) (a := a1) (by rw [e9]; exact q10) q10' (argsL := [(.ref a2), (.ref w3), (.int n)]) (rest := []) (lenOf pd_5_2 rfl) rfl (by show 2 * 0 + _ ≤ _; exact Nat.le_of_eq rfl) (hb hby d5_20) (fun _ _ => ⟨rfl, e9, (by decide : 0 + 0 ≤ _), (by decide : 0 + 0 ≤ _)⟩)
  dsimp only [Pt.U, Pt.locs, Pt.cells, Pt.slots] at X10 l10 y10 z10 st10 hQ10
  subst l10 y10 z10
  obtain ⟨rfl, N10q, K10, G10, D10⟩ := hQ10
  have N10 := Fr.app N5 N10q
  obtain ⟨fs, hr, hrun, hended, hW, hsame⟩ := X10.leave (v := some (.int (1 : Int32))) (fun h => by rw [Bd.returns] at h; cases h)
  refine ⟨_, _, pre0 _ ?_, hrun, hended, _, _, rfl, ?_, ⟨_, rfl⟩, hW, hsame.mono (by decide) (by decide)⟩
  · show Steps p.tables e below (s₁.setTop (mkF m 0 #[.val (.ref a1), .val (.ref a2)] [])) _
    refine XS.aloadN X0.here hx rfl (hb hby d5_0) rfl rfl ?_
    show Steps p.tables e below (s₁.setTop (mkF m 1 #[.val (.ref a1), .val (.ref a2)] [(.ref a1)])) _
    refine XS.dup X0.here hx rfl (hb hby d5_1) rfl rfl ?_
    show Steps p.tables e below (s₁.setTop (mkF m 2 #[.val (.ref a1), .val (.ref a2)] [(.ref a1), (.ref a1)])) _
    refine st4 _ ?_
    show Steps p.tables e below (T4.setTop (mkF m 5 #[.val (.ref a1), .val (.ref a2)] [(.int mo), (.ref a1)])) _
    refine XS.iconst X4.here hx rfl (hb hby d5_5) ?_
    show Steps p.tables e below (T4.setTop (mkF m 6 #[.val (.ref a1), .val (.ref a2)] [(.int (1 : Int32)), (.int mo), (.ref a1)])) _
    refine XS.iadd X4.here hx rfl (hb hby d5_6) rfl ?_
    show Steps p.tables e below (T4.setTop (mkF m 7 #[.val (.ref a1), .val (.ref a2)] [(.int (mo + (1 : Int32))), (.ref a1)])) _
    refine st5 _ ?_
    show Steps p.tables e below (T5.setTop (mkF m 10 #[.val (.ref a1), .val (.ref a2)] [])) _
    refine XS.aloadN X5.here hx rfl (hb hby d5_10) rfl rfl ?_
    show Steps p.tables e below (T5.setTop (mkF m 11 #[.val (.ref a1), .val (.ref a2)] [(.ref a1)])) _
    refine XS.aloadN X5.here hx rfl (hb hby d5_11) rfl rfl ?_
    show Steps p.tables e below (T5.setTop (mkF m 12 #[.val (.ref a1), .val (.ref a2)] [(.ref a2), (.ref a1)])) _
    refine XS.aloadN X5.here hx rfl (hb hby d5_12) rfl rfl ?_
    show Steps p.tables e below (T5.setTop (mkF m 13 #[.val (.ref a1), .val (.ref a2)] [(.ref a1), (.ref a2), (.ref a1)])) _
    refine st7 _ ?_
    show Steps p.tables e below (T7.setTop (mkF m 16 #[.val (.ref a1), .val (.ref a2)] [(.ref w3), (.ref a2), (.ref a1)])) _
    refine XS.aloadN X7.here hx rfl (hb hby d5_16) rfl rfl ?_
    show Steps p.tables e below (T7.setTop (mkF m 17 #[.val (.ref a1), .val (.ref a2)] [(.ref a1), (.ref w3), (.ref a2), (.ref a1)])) _
    refine st9 _ ?_
    show Steps p.tables e below (T9.setTop (mkF m 20 #[.val (.ref a1), .val (.ref a2)] [(.int n), (.ref w3), (.ref a2), (.ref a1)])) _
    refine st10.trans ?_
    show Steps p.tables e below (T10.setTop (mkF m 23 #[.val (.ref a1), .val (.ref a2)] [])) _
    refine XS.iconst X10.here hx rfl (hb hby d5_23) ?_
    show Steps p.tables e below (T10.setTop (mkF m 24 #[.val (.ref a1), .val (.ref a2)] [(.int (1 : Int32))])) _
    exact retN X10 hx (t := .boolean) Bd.returns (by simp) (hb hby d5_24) hr
  · show Q5b Z a1 a2 mo n w3 vs h0 n0 _ T10.heap _
    exact ⟨rfl, N10, K5.trans K10 (fun x hx => Or.inl hx), G10, D10⟩
theorem d12_0 : decode jdk_49_method_1_code 0 = .ok (.aload_n 0, 1) := by decide +kernel
theorem d12_1 : decode jdk_49_method_1_code 1 = .ok (.aload_n 1, 1) := by decide +kernel
theorem d12_2 : decode jdk_49_method_1_code 2 = .ok (.putfield 1, 3) := by decide +kernel
theorem d12_5 : decode jdk_49_method_1_code 5 = .ok (.aload_n 0, 1) := by decide +kernel
theorem d12_6 : decode jdk_49_method_1_code 6 = .ok (.invokespecial 7, 3) := by decide +kernel
theorem d12_9 : decode jdk_49_method_1_code 9 = .ok (.aload_n 0, 1) := by decide +kernel
theorem d12_10 : decode jdk_49_method_1_code 10 = .ok (.iconst (-1), 1) := by decide +kernel
theorem d12_11 : decode jdk_49_method_1_code 11 = .ok (.putfield 13, 3) := by decide +kernel
theorem d12_14 : decode jdk_49_method_1_code 14 = .ok (.aload_n 0, 1) := by decide +kernel
theorem d12_15 : decode jdk_49_method_1_code 15 = .ok (.aload_n 0, 1) := by decide +kernel
theorem d12_16 : decode jdk_49_method_1_code 16 = .ok (.getfield 1, 3) := by decide +kernel
theorem d12_19 : decode jdk_49_method_1_code 19 = .ok (.getfield 17, 3) := by decide +kernel
theorem d12_22 : decode jdk_49_method_1_code 22 = .ok (.putfield 22, 3) := by decide +kernel
theorem d12_25 : decode jdk_49_method_1_code 25 = .ok (.return_, 1) := by decide +kernel
theorem pn_12 : plainName "java/util/ArrayList$Itr" = true := by first | (simp [plainName, overriddenIn]; done) | decide +kernel
theorem ef_12 (m : MethodId) (x0 : Addr) (x1 : Addr) : entryFrame m #[(.ref x0), (.ref x1)] 2 = mkF m 0 #[.val (.ref x0), .val (.ref x1)] [] := by first | (simp [entryFrame, mkF, argsToLocals, Value.category]; done) | rfl
def Q12 (Z : State) (a1 a2 : Addr) (w7 : Int32) (h0 : Heap) (n0 : Nat) (v : Option Value) (h : Heap) (L : List Loc) : Prop := v = none ∧ Fr n0 L ∧ Keep h0 h [a1] ∧ own_It Z h a1 a2 (0 : Int32) w7
set_option maxRecDepth 65536 in
set_option maxHeartbeats 40000000 in
theorem rm12 (l : Launch) (Z : State) (a0 : Array Value) (hw : ∀ d ∈ tables_1, d.before a0 Z = true) (ws : List Jvm.Cond) (a1 a2 : Addr) (u0 u1 u2 : Value) (w7 : Int32) (h0 : Heap) (n0 : Nat) (Z0 : n0 ≤ h0.size) (E_a1 : Exa Z h0 a1 "java/util/ArrayList$Itr") (F_this_0_a1 : Fld Z h0 a1 "java/util/ArrayList$Itr" "this$0" "Ljava/util/ArrayList;" u0) (F_lastRet_a1 : Fld Z h0 a1 "java/util/ArrayList$Itr" "lastRet" "I" u1) (F_expectedModCount_a1 : Fld Z h0 a1 "java/util/ArrayList$Itr" "expectedModCount" "I" u2) (F_cursor : Fld Z h0 a1 "java/util/ArrayList$Itr" "cursor" "I" (.int (0 : Int32))) (g_a1 : n0 ≤ a1) (F_modCount_a2 : Fld Z h0 a2 "java/util/AbstractList" "modCount" "I" (.int w7)) (n12 : a2 ≠ a1) :
    MetFree l (⟨"java/util/ArrayList$Itr", "<init>", "(Ljava/util/ArrayList;)V"⟩ : MethodName) (head1 (Jvm.Cond.code (⟨"java/util/ArrayList$Itr", "<init>", "(Ljava/util/ArrayList;)V"⟩ : MethodName) jdk_49_method_1_code 2 none :: ws) ({ frames := 1, cells := 0, slots := 0, locals := 12 } : Room)) (fun a U => a = #[(.ref a1), (.ref a2)] ∧ Z.Warmed39 U.vm ∧ U.heap = h0) (fun _ _ _ _ _ => True) (fun _ U o U' => ∃ v L, o = .returned v ∧ Q12 Z a1 a2 w7 h0 n0 v U'.heap L ∧ FrameEnd U o U' L ({ frames := 1, cells := 0, slots := 0, locals := 12 } : Room).cells ({ frames := 1, cells := 0, slots := 0, locals := 12 } : Room).slots) := by
  refine MetFree.of_bodySF (plainFor_of_name pn_12) hisR ?_
  intro p e s m args below meth c s₁ Bd hml0 hP hK
  obtain ⟨rfl, hZ, hh⟩ := hP
  have hx := Bd.exec
  have hby := Bd.bytes
  have hml : c.maxLocals = 2 := hml0
  have hown : s.vm.findClass "java/util/ArrayList$Itr" = some m.cls := findClass_of_methodNamed Bd.named
  have hnm := (name_of_methodNamed Bd.named Bd.method).1
  have X0 : Stand p l e ({ frames := 1, cells := 0, slots := 0, locals := 12 } : Room) s m #[(.ref a1), (.ref a2)] below meth c s₁ [] 0 0 := Stand.of_body Bd
  have e0 : s₁.heap = h0 := by rw [← hh, Bd.state]; rfl
  have N0 := Fr.nil n0
  have pre0 : ∀ t, Steps p.tables e below (s₁.setTop (mkF m 0 #[.val (.ref a1), .val (.ref a2)] [])) t → Steps p.tables e below (s₁.setTop (entryFrame m #[(.ref a1), (.ref a2)] 2)) t := fun t k => castTop (ef_12 m a1 a2) k
  obtain ⟨T3, h3, X3, e3, W3, st3⟩ := putF X0 hx hZ hown (host := "") (Or.inl (hw _ (List.mem_of_getElem? (i := 83) rfl))) Via.refl e0 F_this_0_a1 E_a1 (Or.inr ⟨(hw _ (List.mem_of_getElem? (i := 84) rfl)), rfl, hnm⟩) (hw _ (List.mem_of_getElem? (i := 77) rfl)) (ty := (.object "java/util/ArrayList")) (by decide) rfl rfl (g := (mkF m 2 #[.val (.ref a1), .val (.ref a2)] [(.ref a2), (.ref a1)])) rfl rfl (hb hby d12_2)
  have Fw3 := F_this_0_a1.same W3
  have K3 : Keep h0 h3 [a1] := (Keep.refl h0 [a1]).wr W3 (Or.inl (List.mem_of_getElem? (i := 0) rfl))
  have N3 := Fr.snoc X3 N0 g_a1
  obtain ⟨T4, X4, e4, st4⟩ := initO X3 hx hZ hown (hw _ (List.mem_of_getElem? (i := 85) rfl)) (hw _ (List.mem_of_getElem? (i := 21) rfl)) (hw _ (List.mem_of_getElem? (i := 22) rfl)) e3 (g := (mkF m 6 #[.val (.ref a1), .val (.ref a2)] [(.ref a1)])) rfl (by rw [hml]; rfl) rfl (hb hby d12_6) (by decide) (W := 0) (by show 2 * 0 + _ ≤ _; exact Nat.le_of_eq rfl) (by decide)
  obtain ⟨T5, h5, X5, e5, W5, st5⟩ := putF X4 hx hZ hown (host := "") (Or.inl (hw _ (List.mem_of_getElem? (i := 86) rfl))) Via.refl e4 (F_lastRet_a1.other W3 (Or.inr (slot_ne (Or.inl (hw _ (List.mem_of_getElem? (i := 87) rfl))) (Or.inr (hw _ (List.mem_of_getElem? (i := 84) rfl))) (by decide) (t := .int) (t' := (.object "java/util/ArrayList")) (by decide) (by decide)))) (E_a1.wr W3) (Or.inl (hw _ (List.mem_of_getElem? (i := 87) rfl))) (hw _ (List.mem_of_getElem? (i := 77) rfl)) (ty := .int) (by decide) rfl rfl (g := (mkF m 11 #[.val (.ref a1), .val (.ref a2)] [(.int (-1 : Int32)), (.ref a1)])) rfl rfl (hb hby d12_11)
  have Fw5 := (F_lastRet_a1.other W3 (Or.inr (slot_ne (Or.inl (hw _ (List.mem_of_getElem? (i := 87) rfl))) (Or.inr (hw _ (List.mem_of_getElem? (i := 84) rfl))) (by decide) (t := .int) (t' := (.object "java/util/ArrayList")) (by decide) (by decide)))).same W5
  have K5 : Keep h0 h5 [a1] := K3.wr W5 (Or.inl (List.mem_of_getElem? (i := 0) rfl))
  have N5 := Fr.snoc X5 N3 g_a1
  obtain ⟨T6, X6, e6, st6⟩ := getF X5 hx hZ hown (host := "") (Or.inl (hw _ (List.mem_of_getElem? (i := 83) rfl))) Via.refl e5 (Fw3.other W5 (Or.inr (slot_ne (Or.inr (hw _ (List.mem_of_getElem? (i := 84) rfl))) (Or.inl (hw _ (List.mem_of_getElem? (i := 87) rfl))) (by decide) (t := (.object "java/util/ArrayList")) (t' := .int) (by decide) (by decide)))) (g := (mkF m 16 #[.val (.ref a1), .val (.ref a2)] [(.ref a1), (.ref a1)])) rfl rfl (hb hby d12_16)
  obtain ⟨T8, X8, e8, st8⟩ := getF X6 hx hZ hown (host := "") (Or.inl (hw _ (List.mem_of_getElem? (i := 88) rfl))) (Via.of (hw _ (List.mem_of_getElem? (i := 39) rfl))) e6 ((F_modCount_a2.other W3 (Or.inl n12)).other W5 (Or.inl n12)) (g := (mkF m 19 #[.val (.ref a1), .val (.ref a2)] [(.ref a2), (.ref a1)])) rfl rfl (hb hby d12_19)
  obtain ⟨T9, h9, X9, e9, W9, st9⟩ := putF X8 hx hZ hown (host := "") (Or.inl (hw _ (List.mem_of_getElem? (i := 89) rfl))) Via.refl e8 ((F_expectedModCount_a1.other W3 (Or.inr (slot_ne (Or.inl (hw _ (List.mem_of_getElem? (i := 90) rfl))) (Or.inr (hw _ (List.mem_of_getElem? (i := 84) rfl))) (by decide) (t := .int) (t' := (.object "java/util/ArrayList")) (by decide) (by decide)))).other W5 (Or.inr (slot_ne (Or.inl (hw _ (List.mem_of_getElem? (i := 90) rfl))) (Or.inl (hw _ (List.mem_of_getElem? (i := 87) rfl))) (by decide) (t := .int) (t' := .int) (by decide) (by decide)))) ((E_a1.wr W3).wr W5) (Or.inl (hw _ (List.mem_of_getElem? (i := 90) rfl))) (hw _ (List.mem_of_getElem? (i := 77) rfl)) (ty := .int) (by decide) rfl rfl (g := (mkF m 22 #[.val (.ref a1), .val (.ref a2)] [(.int w7), (.ref a1)])) rfl rfl (hb hby d12_22)
  have Fw9 := ((F_expectedModCount_a1.other W3 (Or.inr (slot_ne (Or.inl (hw _ (List.mem_of_getElem? (i := 90) rfl))) (Or.inr (hw _ (List.mem_of_getElem? (i := 84) rfl))) (by decide) (t := .int) (t' := (.object "java/util/ArrayList")) (by decide) (by decide)))).other W5 (Or.inr (slot_ne (Or.inl (hw _ (List.mem_of_getElem? (i := 90) rfl))) (Or.inl (hw _ (List.mem_of_getElem? (i := 87) rfl))) (by decide) (t := .int) (t' := .int) (by decide) (by decide)))).same W9
  have K9 : Keep h0 h9 [a1] := K5.wr W9 (Or.inl (List.mem_of_getElem? (i := 0) rfl))
  have N9 := Fr.snoc X9 N5 g_a1
  obtain ⟨fs, hr, hrun, hended, hW, hsame⟩ := X9.leave (v := none) (fun _ => rfl)
  refine ⟨_, _, pre0 _ ?_, hrun, hended, _, _, rfl, ?_, ⟨_, rfl⟩, hW, hsame.mono (by decide) (by decide)⟩
  · show Steps p.tables e below (s₁.setTop (mkF m 0 #[.val (.ref a1), .val (.ref a2)] [])) _
    refine XS.aloadN X0.here hx rfl (hb hby d12_0) rfl rfl ?_
    show Steps p.tables e below (s₁.setTop (mkF m 1 #[.val (.ref a1), .val (.ref a2)] [(.ref a1)])) _
    refine XS.aloadN X0.here hx rfl (hb hby d12_1) rfl rfl ?_
    show Steps p.tables e below (s₁.setTop (mkF m 2 #[.val (.ref a1), .val (.ref a2)] [(.ref a2), (.ref a1)])) _
    refine st3 _ ?_
    show Steps p.tables e below (T3.setTop (mkF m 5 #[.val (.ref a1), .val (.ref a2)] [])) _
    refine XS.aloadN X3.here hx rfl (hb hby d12_5) rfl rfl ?_
    show Steps p.tables e below (T3.setTop (mkF m 6 #[.val (.ref a1), .val (.ref a2)] [(.ref a1)])) _
    refine st4 _ ?_
    show Steps p.tables e below (T4.setTop (mkF m 9 #[.val (.ref a1), .val (.ref a2)] [])) _
    refine XS.aloadN X4.here hx rfl (hb hby d12_9) rfl rfl ?_
    show Steps p.tables e below (T4.setTop (mkF m 10 #[.val (.ref a1), .val (.ref a2)] [(.ref a1)])) _
    refine XS.iconst X4.here hx rfl (hb hby d12_10) ?_
    show Steps p.tables e below (T4.setTop (mkF m 11 #[.val (.ref a1), .val (.ref a2)] [(.int (-1 : Int32)), (.ref a1)])) _
    refine st5 _ ?_
    show Steps p.tables e below (T5.setTop (mkF m 14 #[.val (.ref a1), .val (.ref a2)] [])) _
    refine XS.aloadN X5.here hx rfl (hb hby d12_14) rfl rfl ?_
    show Steps p.tables e below (T5.setTop (mkF m 15 #[.val (.ref a1), .val (.ref a2)] [(.ref a1)])) _
    refine XS.aloadN X5.here hx rfl (hb hby d12_15) rfl rfl ?_
    show Steps p.tables e below (T5.setTop (mkF m 16 #[.val (.ref a1), .val (.ref a2)] [(.ref a1), (.ref a1)])) _
    refine st6 _ ?_
    show Steps p.tables e below (T6.setTop (mkF m 19 #[.val (.ref a1), .val (.ref a2)] [(.ref a2), (.ref a1)])) _
    refine st8 _ ?_
    show Steps p.tables e below (T8.setTop (mkF m 22 #[.val (.ref a1), .val (.ref a2)] [(.int w7), (.ref a1)])) _
    refine st9 _ ?_
    show Steps p.tables e below (T9.setTop (mkF m 25 #[.val (.ref a1), .val (.ref a2)] [])) _
    exact X9.returnOut hx Bd.returns (hb hby d12_25) hr
  · show Q12 Z a1 a2 w7 h0 n0 _ T9.heap _
    rw [e9]
    exact ⟨rfl, N9, K9, ((E_a1.wr W3).wr W5).wr W9, (Fw3.other W5 (Or.inr (slot_ne (Or.inr (hw _ (List.mem_of_getElem? (i := 84) rfl))) (Or.inl (hw _ (List.mem_of_getElem? (i := 87) rfl))) (by decide) (t := (.object "java/util/ArrayList")) (t' := .int) (by decide) (by decide)))).other W9 (Or.inr (slot_ne (Or.inr (hw _ (List.mem_of_getElem? (i := 84) rfl))) (Or.inl (hw _ (List.mem_of_getElem? (i := 90) rfl))) (by decide) (t := (.object "java/util/ArrayList")) (t' := .int) (by decide) (by decide))), ((F_cursor.other W3 (Or.inr (slot_ne (Or.inl (hw _ (List.mem_of_getElem? (i := 101) rfl))) (Or.inr (hw _ (List.mem_of_getElem? (i := 84) rfl))) (by decide) (t := .int) (t' := (.object "java/util/ArrayList")) (by decide) (by decide)))).other W5 (Or.inr (slot_ne (Or.inl (hw _ (List.mem_of_getElem? (i := 101) rfl))) (Or.inl (hw _ (List.mem_of_getElem? (i := 87) rfl))) (by decide) (t := .int) (t' := .int) (by decide) (by decide)))).other W9 (Or.inr (slot_ne (Or.inl (hw _ (List.mem_of_getElem? (i := 101) rfl))) (Or.inl (hw _ (List.mem_of_getElem? (i := 90) rfl))) (by decide) (t := .int) (t' := .int) (by decide) (by decide))), Fw9, _, Fw5.other W9 (Or.inr (slot_ne (Or.inl (hw _ (List.mem_of_getElem? (i := 87) rfl))) (Or.inl (hw _ (List.mem_of_getElem? (i := 90) rfl))) (by decide) (t := .int) (t' := .int) (by decide) (by decide)))⟩
theorem d11_0 : decode jdk_38_method_55_code 0 = .ok (.new 267, 3) := by decide +kernel
theorem d11_3 : decode jdk_38_method_55_code 3 = .ok (.dup, 1) := by decide +kernel
theorem d11_4 : decode jdk_38_method_55_code 4 = .ok (.aload_n 0, 1) := by decide +kernel
theorem d11_5 : decode jdk_38_method_55_code 5 = .ok (.invokespecial 269, 3) := by decide +kernel
theorem d11_8 : decode jdk_38_method_55_code 8 = .ok (.areturn, 1) := by decide +kernel
theorem pn_11 : plainName "java/util/ArrayList" = true := by first | (simp [plainName, overriddenIn]; done) | decide +kernel
theorem pd_11_8 : parseMethodDescriptor "(Ljava/util/ArrayList;)V" = some ⟨[(.object "java/util/ArrayList")], none⟩ := by decide +kernel
theorem ef_11 (m : MethodId) (x0 : Addr) : entryFrame m #[(.ref x0)] 1 = mkF m 0 #[.val (.ref x0)] [] := by first | (simp [entryFrame, mkF, argsToLocals, Value.category]; done) | rfl
def Q11 (Z : State) (a1 : Addr) (mo : Int32) (h0 : Heap) (n0 : Nat) (v : Option Value) (h : Heap) (L : List Loc) : Prop := ∃ b, v = some (.ref b) ∧ Fr n0 L ∧ Keep h0 h [] ∧ h0.size ≤ b ∧ own_It Z h b a1 (0 : Int32) mo
set_option maxRecDepth 65536 in
set_option maxHeartbeats 40000000 in
theorem rm11 (l : Launch) (Z : State) (a0 : Array Value) (hw : ∀ d ∈ tables_1, d.before a0 Z = true) (ws : List Jvm.Cond) (a1 : Addr) (mo : Int32) (h0 : Heap) (n0 : Nat) (Z0 : n0 ≤ h0.size) (E_a1 : Exa Z h0 a1 "java/util/ArrayList") (F_modCount_a1 : Fld Z h0 a1 "java/util/AbstractList" "modCount" "I" (.int mo)) :
    MetFree l (⟨"java/util/ArrayList", "iterator", "()Ljava/util/Iterator;"⟩ : MethodName) (head1 (Jvm.Cond.code (⟨"java/util/ArrayList", "iterator", "()Ljava/util/Iterator;"⟩ : MethodName) jdk_38_method_55_code 1 (some (.object "java/util/Iterator")) :: ws) ({ frames := 2, cells := 1, slots := 4, locals := 26 } : Room)) (fun a U => a = #[(.ref a1)] ∧ Z.Warmed39 U.vm ∧ U.heap = h0) (fun _ _ _ _ _ => True) (fun _ U o U' => ∃ v L, o = .returned v ∧ Q11 Z a1 mo h0 n0 v U'.heap L ∧ FrameEnd U o U' L ({ frames := 2, cells := 1, slots := 4, locals := 26 } : Room).cells ({ frames := 2, cells := 1, slots := 4, locals := 26 } : Room).slots) := by
  refine MetFree.of_bodySF (plainFor_of_name pn_11) hisR ?_
  intro p e s m args below meth c s₁ Bd hml0 hP hK
  obtain ⟨rfl, hZ, hh⟩ := hP
  have hx := Bd.exec
  have hby := Bd.bytes
  have hml : c.maxLocals = 1 := hml0
  have hown : s.vm.findClass "java/util/ArrayList" = some m.cls := findClass_of_methodNamed Bd.named
  have hnm := (name_of_methodNamed Bd.named Bd.method).1
  have X0 : Stand p l e ({ frames := 2, cells := 1, slots := 4, locals := 26 } : Room) s m #[(.ref a1)] below meth c s₁ [] 0 0 := Stand.of_body Bd
  have e0 : s₁.heap = h0 := by rw [← hh, Bd.state]; rfl
  have N0 := Fr.nil n0
  have pre0 : ∀ t, Steps p.tables e below (s₁.setTop (mkF m 0 #[.val (.ref a1)] [])) t → Steps p.tables e below (s₁.setTop (entryFrame m #[(.ref a1)] 1)) t := fun t k => castTop (ef_11 m a1) k
  obtain ⟨T2, h2, X2, e2, E2, A2, D2, -, st2⟩ := newO X0 hx hZ hown (hw _ (List.mem_of_getElem? (i := 76) rfl)) (hw _ (List.mem_of_getElem? (i := 77) rfl)) (hw _ (List.mem_of_getElem? (i := 78) rfl)) e0 (g := (mkF m 0 #[.val (.ref a1)] [])) rfl (hb hby d11_0) (by decide) (by decide)
  obtain ⟨b2, g2⟩ : ∃ z, z = h0.size := ⟨_, rfl⟩
  rw [← g2] at A2 D2 st2
  have F_this_0_b2 : Fld Z h2 b2 "java/util/ArrayList$Itr" "this$0" "Ljava/util/ArrayList;" .null := D2 (Or.inr (hw _ (List.mem_of_getElem? (i := 84) rfl))) (ty := (.object "java/util/ArrayList")) (by decide)
  have F_lastRet_b2 : Fld Z h2 b2 "java/util/ArrayList$Itr" "lastRet" "I" (.int (0 : Int32)) := D2 (Or.inl (hw _ (List.mem_of_getElem? (i := 87) rfl))) (ty := .int) (by decide)
  have F_expectedModCount_b2 : Fld Z h2 b2 "java/util/ArrayList$Itr" "expectedModCount" "I" (.int (0 : Int32)) := D2 (Or.inl (hw _ (List.mem_of_getElem? (i := 90) rfl))) (ty := .int) (by decide)
  have F_cursor_b2 : Fld Z h2 b2 "java/util/ArrayList$Itr" "cursor" "I" (.int (0 : Int32)) := D2 (Or.inl (hw _ (List.mem_of_getElem? (i := 101) rfl))) (ty := .int) (by decide)
  have E_b2 := A2
  have g_b2 : n0 ≤ b2 := Nat.le_trans Z0 (Nat.le_of_eq g2.symm)
  have sz_b2 : h0.size ≤ b2 := (Nat.le_trans (Keep.refl h0 []).1 (Nat.le_of_eq g2.symm))
  have K2 : Keep h0 h2 [] := (Keep.refl h0 []).ext E2
  obtain ⟨_, _, ⟨T3, L3, k3, n3⟩, -, X3, ⟨Lc3, hQ3, l3, y3, z3⟩, st3⟩ := X2.specialBack hx (y := (⟨"java/util/ArrayList$Itr", "<init>", "(Ljava/util/ArrayList;)V"⟩ : MethodName)) rfl hown (mvT hZ (hw _ (List.mem_of_getElem? (i := 79) rfl))) (mvT hZ (hw _ (List.mem_of_getElem? (i := 80) rfl))) (mvT hZ (hw _ (List.mem_of_getElem? (i := 82) rfl))) (by decide) (backOf (W := 1) (rm12 l Z a0 hw [] b2 a1 _ _ _ mo h2 n0 (Nat.le_trans Z0 E2.1) A2 F_this_0_b2 F_lastRet_b2 F_expectedModCount_b2 F_cursor_b2 g_b2 (F_modCount_a1.ext E2) (g2 ▸ Nat.ne_of_lt E_a1.lt)) hZ (hw _ (List.mem_of_getElem? (i := 82) rfl)) (hw _ (List.mem_of_getElem? (i := 78) rfl)) (by decide) (by decide)) (g := (mkF m 5 #[.val (.ref a1)] [(.ref a1), (.ref b2), (.ref b2)])) rfl (by rw [hml]; rfl) (Steps.refl _) (a := b2) (argsL := [(.ref a1)]) (rest := [(.ref b2)]) (lenOf pd_11_8 rfl) rfl (by show 2 * 0 + _ ≤ _; exact Nat.le_of_eq rfl) (hb hby d11_5) (fun _ _ => ⟨rfl, e2, (by decide : 1 + 0 ≤ _), (by decide : 4 + 0 ≤ _)⟩)
  dsimp only [Pt.U, Pt.locs, Pt.cells, Pt.slots] at X3 l3 y3 z3 st3 hQ3
  subst l3 y3 z3
  obtain ⟨rfl, N3q, K3, I3⟩ := hQ3
  have N3 := Fr.app N0 N3q
  obtain ⟨fs, hr, hrun, hended, hW, hsame⟩ := X3.leave (v := some (.ref b2)) (fun h => by rw [Bd.returns] at h; cases h)
  refine ⟨_, _, pre0 _ ?_, hrun, hended, _, _, rfl, ?_, ⟨_, rfl⟩, hW, hsame.mono (by decide) (by decide)⟩
  · show Steps p.tables e below (s₁.setTop (mkF m 0 #[.val (.ref a1)] [])) _
    refine st2 _ ?_
    show Steps p.tables e below (T2.setTop (mkF m 3 #[.val (.ref a1)] [(.ref b2)])) _
    refine XS.dup X2.here hx rfl (hb hby d11_3) rfl rfl ?_
    show Steps p.tables e below (T2.setTop (mkF m 4 #[.val (.ref a1)] [(.ref b2), (.ref b2)])) _
    refine XS.aloadN X2.here hx rfl (hb hby d11_4) rfl rfl ?_
    show Steps p.tables e below (T2.setTop (mkF m 5 #[.val (.ref a1)] [(.ref a1), (.ref b2), (.ref b2)])) _
    refine st3.trans ?_
    show Steps p.tables e below (T3.setTop (mkF m 8 #[.val (.ref a1)] [(.ref b2)])) _
    jvm_step X3.here [X3.here.top, hx, (hb hby d11_8), X3.method', Bd.returns, Value.isRef, FieldType.isReference]
    first | (intro acts; rw [hr _ acts rfl rfl rfl]) | rw [hr _ _ rfl rfl rfl]
    exact Steps.refl _
  · show Q11 Z a1 mo h0 n0 _ T3.heap _
    exact ⟨b2, rfl, N3, K2.trans K3 (fun x hx => by cases List.mem_singleton.mp hx; exact Or.inr sz_b2), sz_b2, I3⟩
theorem d13_0 : decode jdk_49_method_2_code 0 = .ok (.aload_n 0, 1) := by decide +kernel
theorem d13_1 : decode jdk_49_method_2_code 1 = .ok (.getfield 25, 3) := by decide +kernel
theorem d13_4 : decode jdk_49_method_2_code 4 = .ok (.aload_n 0, 1) := by decide +kernel
theorem d13_5 : decode jdk_49_method_2_code 5 = .ok (.getfield 1, 3) := by decide +kernel
theorem d13_8 : decode jdk_49_method_2_code 8 = .ok (.getfield 28, 3) := by decide +kernel
theorem d13_11 : decode jdk_49_method_2_code 11 = .ok (.if_icmp .eq 7, 3) := by decide +kernel
theorem d13_18 : decode jdk_49_method_2_code 18 = .ok (.iconst 0, 1) := by decide +kernel
theorem d13_19 : decode jdk_49_method_2_code 19 = .ok (.ireturn, 1) := by decide +kernel
theorem pn_13 : plainName "java/util/ArrayList$Itr" = true := by first | (simp [plainName, overriddenIn]; done) | decide +kernel
theorem ef_13 (m : MethodId) (x0 : Addr) : entryFrame m #[(.ref x0)] 1 = mkF m 0 #[.val (.ref x0)] [] := by first | (simp [entryFrame, mkF, argsToLocals, Value.category]; done) | rfl
def Q13t (h0 : Heap) (n0 : Nat) (v : Option Value) (h : Heap) (L : List Loc) : Prop := v = some (.int (0 : Int32)) ∧ Fr n0 L ∧ h = h0
set_option maxRecDepth 65536 in
set_option maxHeartbeats 40000000 in
theorem rm13t (l : Launch) (Z : State) (a0 : Array Value) (hw : ∀ d ∈ tables_1, d.before a0 Z = true) (ws : List Jvm.Cond) (a1 : Addr) (w2 : Int32) (w4 : Addr) (w6 : Int32) (h0 : Heap) (n0 : Nat) (Z0 : n0 ≤ h0.size) (F_cursor_a1 : Fld Z h0 a1 "java/util/ArrayList$Itr" "cursor" "I" (.int w2)) (F_this_0_a1 : Fld Z h0 a1 "java/util/ArrayList$Itr" "this$0" "Ljava/util/ArrayList;" (.ref w4)) (F_size_w4 : Fld Z h0 w4 "java/util/ArrayList" "size" "I" (.int w6)) (hc11 : w2 = w6) :
    MetFree l (⟨"java/util/ArrayList$Itr", "hasNext", "()Z"⟩ : MethodName) (head1 (Jvm.Cond.code (⟨"java/util/ArrayList$Itr", "hasNext", "()Z"⟩ : MethodName) jdk_49_method_2_code 1 (some .boolean) :: ws) ({ frames := 0, cells := 0, slots := 0, locals := 0 } : Room)) (fun a U => a = #[(.ref a1)] ∧ Z.Warmed39 U.vm ∧ U.heap = h0) (fun _ _ _ _ _ => True) (fun _ U o U' => ∃ v L, o = .returned v ∧ Q13t h0 n0 v U'.heap L ∧ FrameEnd U o U' L ({ frames := 0, cells := 0, slots := 0, locals := 0 } : Room).cells ({ frames := 0, cells := 0, slots := 0, locals := 0 } : Room).slots) := by
  refine MetFree.of_bodySF (plainFor_of_name pn_13) hisR ?_
  intro p e s m args below meth c s₁ Bd hml0 hP hK
  obtain ⟨rfl, hZ, hh⟩ := hP
  have hx := Bd.exec
  have hby := Bd.bytes
  have hml : c.maxLocals = 1 := hml0
  have hown : s.vm.findClass "java/util/ArrayList$Itr" = some m.cls := findClass_of_methodNamed Bd.named
  have hnm := (name_of_methodNamed Bd.named Bd.method).1
  have X0 : Stand p l e ({ frames := 0, cells := 0, slots := 0, locals := 0 } : Room) s m #[(.ref a1)] below meth c s₁ [] 0 0 := Stand.of_body Bd
  have e0 : s₁.heap = h0 := by rw [← hh, Bd.state]; rfl
  have N0 := Fr.nil n0
  have pre0 : ∀ t, Steps p.tables e below (s₁.setTop (mkF m 0 #[.val (.ref a1)] [])) t → Steps p.tables e below (s₁.setTop (entryFrame m #[(.ref a1)] 1)) t := fun t k => castTop (ef_13 m a1) k
  obtain ⟨T3, X3, e3, st3⟩ := getF X0 hx hZ hown (host := "") (Or.inl (hw _ (List.mem_of_getElem? (i := 100) rfl))) Via.refl e0 F_cursor_a1 (g := (mkF m 1 #[.val (.ref a1)] [(.ref a1)])) rfl rfl (hb hby d13_1)
  obtain ⟨T5, X5, e5, st5⟩ := getF X3 hx hZ hown (host := "") (Or.inl (hw _ (List.mem_of_getElem? (i := 83) rfl))) Via.refl e3 F_this_0_a1 (g := (mkF m 5 #[.val (.ref a1)] [(.ref a1), (.int w2)])) rfl rfl (hb hby d13_5)
  obtain ⟨T7, X7, e7, st7⟩ := getF X5 hx hZ hown (Or.inr (hw _ (List.mem_of_getElem? (i := 102) rfl))) Via.refl e5 F_size_w4 (g := (mkF m 8 #[.val (.ref a1)] [(.ref w4), (.int w2)])) rfl rfl (hb hby d13_8)
  obtain ⟨fs, hr, hrun, hended, hW, hsame⟩ := X7.leave (v := some (.int (0 : Int32))) (fun h => by rw [Bd.returns] at h; cases h)
  refine ⟨_, _, pre0 _ ?_, hrun, hended, _, _, rfl, ?_, ⟨_, rfl⟩, hW, hsame.mono (by decide) (by decide)⟩
  · show Steps p.tables e below (s₁.setTop (mkF m 0 #[.val (.ref a1)] [])) _
    refine XS.aloadN X0.here hx rfl (hb hby d13_0) rfl rfl ?_
    show Steps p.tables e below (s₁.setTop (mkF m 1 #[.val (.ref a1)] [(.ref a1)])) _
    refine st3 _ ?_
    show Steps p.tables e below (T3.setTop (mkF m 4 #[.val (.ref a1)] [(.int w2)])) _
    refine XS.aloadN X3.here hx rfl (hb hby d13_4) rfl rfl ?_
    show Steps p.tables e below (T3.setTop (mkF m 5 #[.val (.ref a1)] [(.ref a1), (.int w2)])) _
    refine st5 _ ?_
    show Steps p.tables e below (T5.setTop (mkF m 8 #[.val (.ref a1)] [(.ref w4), (.int w2)])) _
    refine st7 _ ?_
    show Steps p.tables e below (T7.setTop (mkF m 11 #[.val (.ref a1)] [(.int w6), (.int w2)])) _
    refine XS.icmpYes X7.here hx rfl (pc0 := 11) (pc' := 18) rfl (hb hby d13_11) rfl (teq hc11).1 (by decide) (by decide) ?_
    show Steps p.tables e below (T7.setTop (mkF m 18 #[.val (.ref a1)] [])) _
    refine XS.iconst X7.here hx rfl (hb hby d13_18) ?_
    show Steps p.tables e below (T7.setTop (mkF m 19 #[.val (.ref a1)] [(.int (0 : Int32))])) _
    exact retN X7 hx (t := .boolean) Bd.returns (by simp) (hb hby d13_19) hr
  · show Q13t h0 n0 _ T7.heap _
    rw [e7]
    exact ⟨rfl, N0, rfl⟩
theorem d13_14 : decode jdk_49_method_2_code 14 = .ok (.iconst 1, 1) := by decide +kernel
theorem d13_15 : decode jdk_49_method_2_code 15 = .ok (.goto 4, 3) := by decide +kernel
def Q13f (h0 : Heap) (n0 : Nat) (v : Option Value) (h : Heap) (L : List Loc) : Prop := v = some (.int (1 : Int32)) ∧ Fr n0 L ∧ h = h0
set_option maxRecDepth 65536 in
set_option maxHeartbeats 40000000 in
theorem rm13f (l : Launch) (Z : State) (a0 : Array Value) (hw : ∀ d ∈ tables_1, d.before a0 Z = true) (ws : List Jvm.Cond) (a1 : Addr) (w2 : Int32) (w4 : Addr) (w6 : Int32) (h0 : Heap) (n0 : Nat) (Z0 : n0 ≤ h0.size) (F_cursor_a1 : Fld Z h0 a1 "java/util/ArrayList$Itr" "cursor" "I" (.int w2)) (F_this_0_a1 : Fld Z h0 a1 "java/util/ArrayList$Itr" "this$0" "Ljava/util/ArrayList;" (.ref w4)) (F_size_w4 : Fld Z h0 w4 "java/util/ArrayList" "size" "I" (.int w6)) (hc11 : ¬ w2 = w6) :
    MetFree l (⟨"java/util/ArrayList$Itr", "hasNext", "()Z"⟩ : MethodName) (head1 (Jvm.Cond.code (⟨"java/util/ArrayList$Itr", "hasNext", "()Z"⟩ : MethodName) jdk_49_method_2_code 1 (some .boolean) :: ws) ({ frames := 0, cells := 0, slots := 0, locals := 0 } : Room)) (fun a U => a = #[(.ref a1)] ∧ Z.Warmed39 U.vm ∧ U.heap = h0) (fun _ _ _ _ _ => True) (fun _ U o U' => ∃ v L, o = .returned v ∧ Q13f h0 n0 v U'.heap L ∧ FrameEnd U o U' L ({ frames := 0, cells := 0, slots := 0, locals := 0 } : Room).cells ({ frames := 0, cells := 0, slots := 0, locals := 0 } : Room).slots) := by
  refine MetFree.of_bodySF (plainFor_of_name pn_13) hisR ?_
  intro p e s m args below meth c s₁ Bd hml0 hP hK
  obtain ⟨rfl, hZ, hh⟩ := hP
  have hx := Bd.exec
  have hby := Bd.bytes
  have hml : c.maxLocals = 1 := hml0
  have hown : s.vm.findClass "java/util/ArrayList$Itr" = some m.cls := findClass_of_methodNamed Bd.named
  have hnm := (name_of_methodNamed Bd.named Bd.method).1
  have X0 : Stand p l e ({ frames := 0, cells := 0, slots := 0, locals := 0 } : Room) s m #[(.ref a1)] below meth c s₁ [] 0 0 := Stand.of_body Bd
  have e0 : s₁.heap = h0 := by rw [← hh, Bd.state]; rfl
  have N0 := Fr.nil n0
  have pre0 : ∀ t, Steps p.tables e below (s₁.setTop (mkF m 0 #[.val (.ref a1)] [])) t → Steps p.tables e below (s₁.setTop (entryFrame m #[(.ref a1)] 1)) t := fun t k => castTop (ef_13 m a1) k
  obtain ⟨T3, X3, e3, st3⟩ := getF X0 hx hZ hown (host := "") (Or.inl (hw _ (List.mem_of_getElem? (i := 100) rfl))) Via.refl e0 F_cursor_a1 (g := (mkF m 1 #[.val (.ref a1)] [(.ref a1)])) rfl rfl (hb hby d13_1)
  obtain ⟨T5, X5, e5, st5⟩ := getF X3 hx hZ hown (host := "") (Or.inl (hw _ (List.mem_of_getElem? (i := 83) rfl))) Via.refl e3 F_this_0_a1 (g := (mkF m 5 #[.val (.ref a1)] [(.ref a1), (.int w2)])) rfl rfl (hb hby d13_5)
  obtain ⟨T7, X7, e7, st7⟩ := getF X5 hx hZ hown (Or.inr (hw _ (List.mem_of_getElem? (i := 102) rfl))) Via.refl e5 F_size_w4 (g := (mkF m 8 #[.val (.ref a1)] [(.ref w4), (.int w2)])) rfl rfl (hb hby d13_8)
  obtain ⟨fs, hr, hrun, hended, hW, hsame⟩ := X7.leave (v := some (.int (1 : Int32))) (fun h => by rw [Bd.returns] at h; cases h)
  refine ⟨_, _, pre0 _ ?_, hrun, hended, _, _, rfl, ?_, ⟨_, rfl⟩, hW, hsame.mono (by decide) (by decide)⟩
  · show Steps p.tables e below (s₁.setTop (mkF m 0 #[.val (.ref a1)] [])) _
    refine XS.aloadN X0.here hx rfl (hb hby d13_0) rfl rfl ?_
    show Steps p.tables e below (s₁.setTop (mkF m 1 #[.val (.ref a1)] [(.ref a1)])) _
    refine st3 _ ?_
    show Steps p.tables e below (T3.setTop (mkF m 4 #[.val (.ref a1)] [(.int w2)])) _
    refine XS.aloadN X3.here hx rfl (hb hby d13_4) rfl rfl ?_
    show Steps p.tables e below (T3.setTop (mkF m 5 #[.val (.ref a1)] [(.ref a1), (.int w2)])) _
    refine st5 _ ?_
    show Steps p.tables e below (T5.setTop (mkF m 8 #[.val (.ref a1)] [(.ref w4), (.int w2)])) _
    refine st7 _ ?_
    show Steps p.tables e below (T7.setTop (mkF m 11 #[.val (.ref a1)] [(.int w6), (.int w2)])) _
    refine XS.icmpNo X7.here hx rfl (hb hby d13_11) rfl (feq hc11).1 ?_
    show Steps p.tables e below (T7.setTop (mkF m 14 #[.val (.ref a1)] [])) _
    refine XS.iconst X7.here hx rfl (hb hby d13_14) ?_
    show Steps p.tables e below (T7.setTop (mkF m 15 #[.val (.ref a1)] [(.int (1 : Int32))])) _
    refine XS.goto X7.here hx rfl (pc0 := 15) (pc' := 19) rfl (hb hby d13_15) (by decide) (by decide) ?_
    show Steps p.tables e below (T7.setTop (mkF m 19 #[.val (.ref a1)] [(.int (1 : Int32))])) _
    exact retN X7 hx (t := .boolean) Bd.returns (by simp) (hb hby d13_19) hr
  · show Q13f h0 n0 _ T7.heap _
    rw [e7]
    exact ⟨rfl, N0, rfl⟩
theorem d15_0 : decode jdk_49_method_6_code 0 = .ok (.aload_n 0, 1) := by decide +kernel
theorem d15_1 : decode jdk_49_method_6_code 1 = .ok (.getfield 1, 3) := by decide +kernel
theorem d15_4 : decode jdk_49_method_6_code 4 = .ok (.getfield 17, 3) := by decide +kernel
theorem d15_7 : decode jdk_49_method_6_code 7 = .ok (.aload_n 0, 1) := by decide +kernel
theorem d15_8 : decode jdk_49_method_6_code 8 = .ok (.getfield 22, 3) := by decide +kernel
theorem d15_11 : decode jdk_49_method_6_code 11 = .ok (.if_icmp .eq 11, 3) := by decide +kernel
theorem d15_22 : decode jdk_49_method_6_code 22 = .ok (.return_, 1) := by decide +kernel
theorem pn_15 : plainName "java/util/ArrayList$Itr" = true := by first | (simp [plainName, overriddenIn]; done) | decide +kernel
theorem ef_15 (m : MethodId) (x0 : Addr) : entryFrame m #[(.ref x0)] 1 = mkF m 0 #[.val (.ref x0)] [] := by first | (simp [entryFrame, mkF, argsToLocals, Value.category]; done) | rfl
def Q15 (h0 : Heap) (n0 : Nat) (v : Option Value) (h : Heap) (L : List Loc) : Prop := v = none ∧ Fr n0 L ∧ h = h0
set_option maxRecDepth 65536 in
set_option maxHeartbeats 40000000 in
theorem rm15 (l : Launch) (Z : State) (a0 : Array Value) (hw : ∀ d ∈ tables_1, d.before a0 Z = true) (ws : List Jvm.Cond) (a1 w2 : Addr) (w4 w6 : Int32) (h0 : Heap) (n0 : Nat) (Z0 : n0 ≤ h0.size) (F_this_0_a1 : Fld Z h0 a1 "java/util/ArrayList$Itr" "this$0" "Ljava/util/ArrayList;" (.ref w2)) (F_modCount_w2 : Fld Z h0 w2 "java/util/AbstractList" "modCount" "I" (.int w4)) (F_expectedModCount_a1 : Fld Z h0 a1 "java/util/ArrayList$Itr" "expectedModCount" "I" (.int w6)) (hc11 : w4 = w6) :
    MetFree l (⟨"java/util/ArrayList$Itr", "checkForComodification", "()V"⟩ : MethodName) (head1 (Jvm.Cond.code (⟨"java/util/ArrayList$Itr", "checkForComodification", "()V"⟩ : MethodName) jdk_49_method_6_code 1 none :: ws) ({ frames := 0, cells := 0, slots := 0, locals := 0 } : Room)) (fun a U => a = #[(.ref a1)] ∧ Z.Warmed39 U.vm ∧ U.heap = h0) (fun _ _ _ _ _ => True) (fun _ U o U' => ∃ v L, o = .returned v ∧ Q15 h0 n0 v U'.heap L ∧ FrameEnd U o U' L ({ frames := 0, cells := 0, slots := 0, locals := 0 } : Room).cells ({ frames := 0, cells := 0, slots := 0, locals := 0 } : Room).slots) := by
  refine MetFree.of_bodySF (plainFor_of_name pn_15) hisR ?_
  intro p e s m args below meth c s₁ Bd hml0 hP hK
  obtain ⟨rfl, hZ, hh⟩ := hP
  have hx := Bd.exec
  have hby := Bd.bytes
  have hml : c.maxLocals = 1 := hml0
  have hown : s.vm.findClass "java/util/ArrayList$Itr" = some m.cls := findClass_of_methodNamed Bd.named
  have hnm := (name_of_methodNamed Bd.named Bd.method).1
  have X0 : Stand p l e ({ frames := 0, cells := 0, slots := 0, locals := 0 } : Room) s m #[(.ref a1)] below meth c s₁ [] 0 0 := Stand.of_body Bd
  have e0 : s₁.heap = h0 := by rw [← hh, Bd.state]; rfl
  have N0 := Fr.nil n0
  have pre0 : ∀ t, Steps p.tables e below (s₁.setTop (mkF m 0 #[.val (.ref a1)] [])) t → Steps p.tables e below (s₁.setTop (entryFrame m #[(.ref a1)] 1)) t := fun t k => castTop (ef_15 m a1) k
  obtain ⟨T3, X3, e3, st3⟩ := getF X0 hx hZ hown (host := "") (Or.inl (hw _ (List.mem_of_getElem? (i := 83) rfl))) Via.refl e0 F_this_0_a1 (g := (mkF m 1 #[.val (.ref a1)] [(.ref a1)])) rfl rfl (hb hby d15_1)
  obtain ⟨T5, X5, e5, st5⟩ := getF X3 hx hZ hown (host := "") (Or.inl (hw _ (List.mem_of_getElem? (i := 88) rfl))) (Via.of (hw _ (List.mem_of_getElem? (i := 39) rfl))) e3 F_modCount_w2 (g := (mkF m 4 #[.val (.ref a1)] [(.ref w2)])) rfl rfl (hb hby d15_4)
  obtain ⟨T7, X7, e7, st7⟩ := getF X5 hx hZ hown (host := "") (Or.inl (hw _ (List.mem_of_getElem? (i := 89) rfl))) Via.refl e5 F_expectedModCount_a1 (g := (mkF m 8 #[.val (.ref a1)] [(.ref a1), (.int w4)])) rfl rfl (hb hby d15_8)
  obtain ⟨fs, hr, hrun, hended, hW, hsame⟩ := X7.leave (v := none) (fun _ => rfl)
  refine ⟨_, _, pre0 _ ?_, hrun, hended, _, _, rfl, ?_, ⟨_, rfl⟩, hW, hsame.mono (by decide) (by decide)⟩
  · show Steps p.tables e below (s₁.setTop (mkF m 0 #[.val (.ref a1)] [])) _
    refine XS.aloadN X0.here hx rfl (hb hby d15_0) rfl rfl ?_
    show Steps p.tables e below (s₁.setTop (mkF m 1 #[.val (.ref a1)] [(.ref a1)])) _
    refine st3 _ ?_
    show Steps p.tables e below (T3.setTop (mkF m 4 #[.val (.ref a1)] [(.ref w2)])) _
    refine st5 _ ?_
    show Steps p.tables e below (T5.setTop (mkF m 7 #[.val (.ref a1)] [(.int w4)])) _
    refine XS.aloadN X5.here hx rfl (hb hby d15_7) rfl rfl ?_
    show Steps p.tables e below (T5.setTop (mkF m 8 #[.val (.ref a1)] [(.ref a1), (.int w4)])) _
    refine st7 _ ?_
    show Steps p.tables e below (T7.setTop (mkF m 11 #[.val (.ref a1)] [(.int w6), (.int w4)])) _
    refine XS.icmpYes X7.here hx rfl (pc0 := 11) (pc' := 22) rfl (hb hby d15_11) rfl (teq hc11).1 (by decide) (by decide) ?_
    show Steps p.tables e below (T7.setTop (mkF m 22 #[.val (.ref a1)] [])) _
    exact X7.returnOut hx Bd.returns (hb hby d15_22) hr
  · show Q15 h0 n0 _ T7.heap _
    rw [e7]
    exact ⟨rfl, N0, rfl⟩
theorem d14_0 : decode jdk_49_method_3_code 0 = .ok (.aload_n 0, 1) := by decide +kernel
theorem d14_1 : decode jdk_49_method_3_code 1 = .ok (.invokevirtual 31, 3) := by decide +kernel
theorem d14_4 : decode jdk_49_method_3_code 4 = .ok (.aload_n 0, 1) := by decide +kernel
theorem d14_5 : decode jdk_49_method_3_code 5 = .ok (.getfield 25, 3) := by decide +kernel
theorem d14_8 : decode jdk_49_method_3_code 8 = .ok (.istore_n 1, 1) := by decide +kernel
theorem d14_9 : decode jdk_49_method_3_code 9 = .ok (.iload_n 1, 1) := by decide +kernel
theorem d14_10 : decode jdk_49_method_3_code 10 = .ok (.aload_n 0, 1) := by decide +kernel
theorem d14_11 : decode jdk_49_method_3_code 11 = .ok (.getfield 1, 3) := by decide +kernel
theorem d14_14 : decode jdk_49_method_3_code 14 = .ok (.getfield 28, 3) := by decide +kernel
theorem d14_17 : decode jdk_49_method_3_code 17 = .ok (.if_icmp .lt 11, 3) := by decide +kernel
theorem d14_28 : decode jdk_49_method_3_code 28 = .ok (.aload_n 0, 1) := by decide +kernel
theorem d14_29 : decode jdk_49_method_3_code 29 = .ok (.getfield 1, 3) := by decide +kernel
theorem d14_32 : decode jdk_49_method_3_code 32 = .ok (.getfield 37, 3) := by decide +kernel
theorem d14_35 : decode jdk_49_method_3_code 35 = .ok (.astore_n 2, 1) := by decide +kernel
theorem d14_36 : decode jdk_49_method_3_code 36 = .ok (.iload_n 1, 1) := by decide +kernel
theorem d14_37 : decode jdk_49_method_3_code 37 = .ok (.aload_n 2, 1) := by decide +kernel
theorem d14_38 : decode jdk_49_method_3_code 38 = .ok (.arraylength, 1) := by decide +kernel
theorem d14_39 : decode jdk_49_method_3_code 39 = .ok (.if_icmp .lt 11, 3) := by decide +kernel
theorem d14_50 : decode jdk_49_method_3_code 50 = .ok (.aload_n 0, 1) := by decide +kernel
theorem d14_51 : decode jdk_49_method_3_code 51 = .ok (.iload_n 1, 1) := by decide +kernel
theorem d14_52 : decode jdk_49_method_3_code 52 = .ok (.iconst 1, 1) := by decide +kernel
theorem d14_53 : decode jdk_49_method_3_code 53 = .ok (.iadd, 1) := by decide +kernel
theorem d14_54 : decode jdk_49_method_3_code 54 = .ok (.putfield 25, 3) := by decide +kernel
theorem d14_57 : decode jdk_49_method_3_code 57 = .ok (.aload_n 2, 1) := by decide +kernel
theorem d14_58 : decode jdk_49_method_3_code 58 = .ok (.aload_n 0, 1) := by decide +kernel
theorem d14_59 : decode jdk_49_method_3_code 59 = .ok (.iload_n 1, 1) := by decide +kernel
theorem d14_60 : decode jdk_49_method_3_code 60 = .ok (.dup_x1, 1) := by decide +kernel
theorem d14_61 : decode jdk_49_method_3_code 61 = .ok (.putfield 13, 3) := by decide +kernel
theorem d14_64 : decode jdk_49_method_3_code 64 = .ok (.aaload, 1) := by decide +kernel
theorem d14_65 : decode jdk_49_method_3_code 65 = .ok (.areturn, 1) := by decide +kernel
theorem pn_14 : plainName "java/util/ArrayList$Itr" = true := by first | (simp [plainName, overriddenIn]; done) | decide +kernel
theorem pd_14_0 : parseMethodDescriptor "()V" = some ⟨[], none⟩ := by decide +kernel
theorem ef_14 (m : MethodId) (x0 : Addr) : entryFrame m #[(.ref x0)] 3 = mkF m 0 #[.val (.ref x0), .unset, .unset] [] := by first | (simp [entryFrame, mkF, argsToLocals, Value.category]; done) | rfl
def Q14 (Z : State) (a1 w5 : Addr) (w3 mo : Int32) (w14 : Addr) (h0 : Heap) (n0 : Nat) (v : Option Value) (h : Heap) (L : List Loc) : Prop := v = some (.ref w14) ∧ Fr n0 L ∧ Keep h0 h [a1] ∧ own_It Z h a1 w5 (w3 + (1 : Int32)) mo
set_option maxRecDepth 65536 in
set_option maxHeartbeats 40000000 in
theorem rm14 (l : Launch) (Z : State) (a0 : Array Value) (hw : ∀ d ∈ tables_1, d.before a0 Z = true) (ws : List Jvm.Cond) (a1 w5 : Addr) (w3 mo w7 : Int32) (w10 : Addr) (cl_w10 : Cell) (w14 : Addr) (h0 : Heap) (n0 : Nat) (Z0 : n0 ≤ h0.size) (I : own_It Z h0 a1 w5 w3 mo) (G : own_Lst Z h0 w5 mo w10 w7) (Ar_w10 : Arr Z h0 w10 cl_w10 (.object "java/lang/Object")) (S_w10 : cl_w10.slots.size = (10 : Int32).toNatClampNeg) (g_a1 : n0 ≤ a1) (hin64 : ¬ (w3 < 0 ∨ cl_w10.slots.size ≤ (w3).toNatClampNeg)) (hat64 : cl_w10.slots[(w3).toNatClampNeg]? = some (.ref w14)) (hc17 : w3 < w7) (hc39 : w3 < (10 : Int32)) :
    MetFree l (⟨"java/util/ArrayList$Itr", "next", "()Ljava/lang/Object;"⟩ : MethodName) (head1 (Jvm.Cond.code (⟨"java/util/ArrayList$Itr", "next", "()Ljava/lang/Object;"⟩ : MethodName) jdk_49_method_3_code 3 (some (.object "java/lang/Object")) :: ws) ({ frames := 1, cells := 0, slots := 0, locals := 12 } : Room)) (fun a U => a = #[(.ref a1)] ∧ Z.Warmed39 U.vm ∧ U.heap = h0) (fun _ _ _ _ _ => True) (fun _ U o U' => ∃ v L, o = .returned v ∧ Q14 Z a1 w5 w3 mo w14 h0 n0 v U'.heap L ∧ FrameEnd U o U' L ({ frames := 1, cells := 0, slots := 0, locals := 12 } : Room).cells ({ frames := 1, cells := 0, slots := 0, locals := 12 } : Room).slots) := by
  refine MetFree.of_bodySF (plainFor_of_name pn_14) hisR ?_
  intro p e s m args below meth c s₁ Bd hml0 hP hK
  obtain ⟨rfl, hZ, hh⟩ := hP
  have hx := Bd.exec
  have hby := Bd.bytes
  have hml : c.maxLocals = 3 := hml0
  have hown : s.vm.findClass "java/util/ArrayList$Itr" = some m.cls := findClass_of_methodNamed Bd.named
  have hnm := (name_of_methodNamed Bd.named Bd.method).1
  have X0 : Stand p l e ({ frames := 1, cells := 0, slots := 0, locals := 12 } : Room) s m #[(.ref a1)] below meth c s₁ [] 0 0 := Stand.of_body Bd
  have e0 : s₁.heap = h0 := by rw [← hh, Bd.state]; rfl
  have N0 := Fr.nil n0
  have pre0 : ∀ t, Steps p.tables e below (s₁.setTop (mkF m 0 #[.val (.ref a1), .unset, .unset] [])) t → Steps p.tables e below (s₁.setTop (entryFrame m #[(.ref a1)] 3)) t := fun t k => castTop (ef_14 m a1) k
  obtain ⟨E_a1, F_this_0_a1, F_cursor_a1, F_exp, ur, F_lastRet_a1⟩ := I
  obtain ⟨E_w5, F_modCount_w5, F_elementData_w5, F_size_w5⟩ := G
  have N_w10 : ¬ (10 : Int32) < 0 := by decide
  have n10 : w10 ≠ a1 := (ne_arr E_a1 (hw _ (List.mem_of_getElem? (i := 77) rfl)) Ar_w10).symm
  obtain ⟨cq2, kq2, q2a, q2b, q2c⟩ := isOf hZ e0 E_a1
  obtain ⟨_, _, ⟨T2, L2, k2, n2⟩, -, X2, ⟨Lc2, hQ2, l2, y2, z2⟩, st2⟩ := X0.virtualBack hx (y := (⟨"java/util/ArrayList$Itr", "checkForComodification", "()V"⟩ : MethodName)) (z := (⟨"java/util/ArrayList$Itr", "checkForComodification", "()V"⟩ : MethodName)) hown (mvT hZ (hw _ (List.mem_of_getElem? (i := 111) rfl))) (mvT hZ (hw _ (List.mem_of_getElem? (i := 112) rfl))) (notFace_of_selects (args := #[]) (mvT hZ (hw _ (List.mem_of_getElem? (i := 114) rfl)))) (mvT hZ (hw _ (List.mem_of_getElem? (i := 114) rfl))) (mvT hZ (hw _ (List.mem_of_getElem? (i := 113) rfl))) (by decide) (backOf (W := 0) (rm15 l Z a0 hw [] a1 w5 mo mo h0 n0 Z0 F_this_0_a1 F_modCount_w5 F_exp rfl) hZ (hw _ (List.mem_of_getElem? (i := 115) rfl)) (hw _ (List.mem_of_getElem? (i := 78) rfl)) (by decide) (by decide)) q2a q2c (g := (mkF m 1 #[.val (.ref a1), .unset, .unset] [(.ref a1)])) rfl (by rw [hml]; rfl) (Steps.refl _) (argsL := []) (rest := []) (lenOf pd_14_0 rfl) rfl (by show 2 * 0 + _ ≤ _; exact Nat.le_of_eq rfl) (hb hby d14_1) (fun _ _ => ⟨rfl, e0, (by decide : 0 + 0 ≤ _), (by decide : 0 + 0 ≤ _)⟩)
  dsimp only [Pt.U, Pt.locs, Pt.cells, Pt.slots] at X2 l2 y2 z2 st2 hQ2
  subst l2 y2 z2
  obtain ⟨rfl, N2q, eh2⟩ := hQ2
  have N2 := Fr.app N0 N2q
  obtain ⟨T4, X4, e4, st4⟩ := getF X2 hx hZ hown (host := "") (Or.inl (hw _ (List.mem_of_getElem? (i := 100) rfl))) Via.refl eh2 F_cursor_a1 (g := (mkF m 5 #[.val (.ref a1), .unset, .unset] [(.ref a1)])) rfl rfl (hb hby d14_5)
  obtain ⟨T6, X6, e6, st6⟩ := getF X4 hx hZ hown (host := "") (Or.inl (hw _ (List.mem_of_getElem? (i := 83) rfl))) Via.refl e4 F_this_0_a1 (g := (mkF m 11 #[.val (.ref a1), .val (.int w3), .unset] [(.ref a1), (.int w3)])) rfl rfl (hb hby d14_11)
  obtain ⟨T8, X8, e8, st8⟩ := getF X6 hx hZ hown (Or.inr (hw _ (List.mem_of_getElem? (i := 102) rfl))) Via.refl e6 F_size_w5 (g := (mkF m 14 #[.val (.ref a1), .val (.int w3), .unset] [(.ref w5), (.int w3)])) rfl rfl (hb hby d14_14)
  obtain ⟨T9, X9, e9, st9⟩ := getF X8 hx hZ hown (host := "") (Or.inl (hw _ (List.mem_of_getElem? (i := 83) rfl))) Via.refl e8 F_this_0_a1 (g := (mkF m 29 #[.val (.ref a1), .val (.int w3), .unset] [(.ref a1)])) rfl rfl (hb hby d14_29)
  obtain ⟨T11, X11, e11, st11⟩ := getF X9 hx hZ hown (host := "") (Or.inl (hw _ (List.mem_of_getElem? (i := 116) rfl))) Via.refl e9 F_elementData_w5 (g := (mkF m 32 #[.val (.ref a1), .val (.int w3), .unset] [(.ref w5)])) rfl rfl (hb hby d14_32)
  obtain ⟨T12, h12, X12, e12, W12, st12⟩ := putF X11 hx hZ hown (host := "") (Or.inl (hw _ (List.mem_of_getElem? (i := 100) rfl))) Via.refl e11 F_cursor_a1 E_a1 (Or.inl (hw _ (List.mem_of_getElem? (i := 101) rfl))) (hw _ (List.mem_of_getElem? (i := 77) rfl)) (ty := .int) (by decide) rfl rfl (g := (mkF m 54 #[.val (.ref a1), .val (.int w3), .val (.ref w10)] [(.int (w3 + (1 : Int32))), (.ref a1)])) rfl rfl (hb hby d14_54)
  have Fw12 := F_cursor_a1.same W12
  have K12 : Keep h0 h12 [a1] := (Keep.refl h0 [a1]).wr W12 (Or.inl (List.mem_of_getElem? (i := 0) rfl))
  have N12 := Fr.snoc X12 N2 g_a1
  obtain ⟨T13, h13, X13, e13, W13, st13⟩ := putF X12 hx hZ hown (host := "") (Or.inl (hw _ (List.mem_of_getElem? (i := 86) rfl))) Via.refl e12 (F_lastRet_a1.other W12 (Or.inr (slot_ne (Or.inl (hw _ (List.mem_of_getElem? (i := 87) rfl))) (Or.inl (hw _ (List.mem_of_getElem? (i := 101) rfl))) (by decide) (t := .int) (t' := .int) (by decide) (by decide)))) (E_a1.wr W12) (Or.inl (hw _ (List.mem_of_getElem? (i := 87) rfl))) (hw _ (List.mem_of_getElem? (i := 77) rfl)) (ty := .int) (by decide) rfl rfl (g := (mkF m 61 #[.val (.ref a1), .val (.int w3), .val (.ref w10)] [(.int w3), (.ref a1), (.int w3), (.ref w10)])) rfl rfl (hb hby d14_61)
  have Fw13 := (F_lastRet_a1.other W12 (Or.inr (slot_ne (Or.inl (hw _ (List.mem_of_getElem? (i := 87) rfl))) (Or.inl (hw _ (List.mem_of_getElem? (i := 101) rfl))) (by decide) (t := .int) (t' := .int) (by decide) (by decide)))).same W13
  have K13 : Keep h0 h13 [a1] := K12.wr W13 (Or.inl (List.mem_of_getElem? (i := 0) rfl))
  have N13 := Fr.snoc X13 N12 g_a1
  have Ar13 := (Ar_w10.other W12 n10).other W13 n10
  obtain ⟨fs, hr, hrun, hended, hW, hsame⟩ := X13.leave (v := some (.ref w14)) (fun h => by rw [Bd.returns] at h; cases h)
  refine ⟨_, _, pre0 _ ?_, hrun, hended, _, _, rfl, ?_, ⟨_, rfl⟩, hW, hsame.mono (by decide) (by decide)⟩
  · show Steps p.tables e below (s₁.setTop (mkF m 0 #[.val (.ref a1), .unset, .unset] [])) _
    refine XS.aloadN X0.here hx rfl (hb hby d14_0) rfl rfl ?_
    show Steps p.tables e below (s₁.setTop (mkF m 1 #[.val (.ref a1), .unset, .unset] [(.ref a1)])) _
    refine st2.trans ?_
    show Steps p.tables e below (T2.setTop (mkF m 4 #[.val (.ref a1), .unset, .unset] [])) _
    refine XS.aloadN X2.here hx rfl (hb hby d14_4) rfl rfl ?_
    show Steps p.tables e below (T2.setTop (mkF m 5 #[.val (.ref a1), .unset, .unset] [(.ref a1)])) _
    refine st4 _ ?_
    show Steps p.tables e below (T4.setTop (mkF m 8 #[.val (.ref a1), .unset, .unset] [(.int w3)])) _
    refine XS.istoreN X4.here hx rfl (hb hby d14_8) rfl (l' := #[.val (.ref a1), .val (.int w3), .unset]) rfl ?_
    show Steps p.tables e below (T4.setTop (mkF m 9 #[.val (.ref a1), .val (.int w3), .unset] [])) _
    refine XS.iloadN X4.here hx rfl (hb hby d14_9) rfl ?_
    show Steps p.tables e below (T4.setTop (mkF m 10 #[.val (.ref a1), .val (.int w3), .unset] [(.int w3)])) _
    refine XS.aloadN X4.here hx rfl (hb hby d14_10) rfl rfl ?_
    show Steps p.tables e below (T4.setTop (mkF m 11 #[.val (.ref a1), .val (.int w3), .unset] [(.ref a1), (.int w3)])) _
    refine st6 _ ?_
    show Steps p.tables e below (T6.setTop (mkF m 14 #[.val (.ref a1), .val (.int w3), .unset] [(.ref w5), (.int w3)])) _
    refine st8 _ ?_
    show Steps p.tables e below (T8.setTop (mkF m 17 #[.val (.ref a1), .val (.int w3), .unset] [(.int w7), (.int w3)])) _
    refine XS.icmpYes X8.here hx rfl (pc0 := 17) (pc' := 28) rfl (hb hby d14_17) rfl (tlt hc17).1 (by decide) (by decide) ?_
    show Steps p.tables e below (T8.setTop (mkF m 28 #[.val (.ref a1), .val (.int w3), .unset] [])) _
    refine XS.aloadN X8.here hx rfl (hb hby d14_28) rfl rfl ?_
    show Steps p.tables e below (T8.setTop (mkF m 29 #[.val (.ref a1), .val (.int w3), .unset] [(.ref a1)])) _
    refine st9 _ ?_
    show Steps p.tables e below (T9.setTop (mkF m 32 #[.val (.ref a1), .val (.int w3), .unset] [(.ref w5)])) _
    refine st11 _ ?_
    show Steps p.tables e below (T11.setTop (mkF m 35 #[.val (.ref a1), .val (.int w3), .unset] [(.ref w10)])) _
    refine XS.astoreN X11.here hx rfl (hb hby d14_35) rfl rfl (l' := #[.val (.ref a1), .val (.int w3), .val (.ref w10)]) rfl ?_
    show Steps p.tables e below (T11.setTop (mkF m 36 #[.val (.ref a1), .val (.int w3), .val (.ref w10)] [])) _
    refine XS.iloadN X11.here hx rfl (hb hby d14_36) rfl ?_
    show Steps p.tables e below (T11.setTop (mkF m 37 #[.val (.ref a1), .val (.int w3), .val (.ref w10)] [(.int w3)])) _
    refine XS.aloadN X11.here hx rfl (hb hby d14_37) rfl rfl ?_
    show Steps p.tables e below (T11.setTop (mkF m 38 #[.val (.ref a1), .val (.int w3), .val (.ref w10)] [(.ref w10), (.int w3)])) _
    refine X11.arraylength hx (by rw [e11]; exact Ar_w10.1) (State.isArrayOf_alike hZ.alike Ar_w10.2.1) (g := (mkF m 38 #[.val (.ref a1), .val (.int w3), .val (.ref w10)] [(.ref w10), (.int w3)])) rfl rfl (hb hby d14_38) _ ?_
    rw [len_of S_w10 N_w10]
    show Steps p.tables e below (T11.setTop (mkF m 39 #[.val (.ref a1), .val (.int w3), .val (.ref w10)] [(.int (10 : Int32)), (.int w3)])) _
    refine XS.icmpYes X11.here hx rfl (pc0 := 39) (pc' := 50) rfl (hb hby d14_39) rfl (tlt hc39).1 (by decide) (by decide) ?_
    show Steps p.tables e below (T11.setTop (mkF m 50 #[.val (.ref a1), .val (.int w3), .val (.ref w10)] [])) _
    refine XS.aloadN X11.here hx rfl (hb hby d14_50) rfl rfl ?_
    show Steps p.tables e below (T11.setTop (mkF m 51 #[.val (.ref a1), .val (.int w3), .val (.ref w10)] [(.ref a1)])) _
    refine XS.iloadN X11.here hx rfl (hb hby d14_51) rfl ?_
    show Steps p.tables e below (T11.setTop (mkF m 52 #[.val (.ref a1), .val (.int w3), .val (.ref w10)] [(.int w3), (.ref a1)])) _
    refine XS.iconst X11.here hx rfl (hb hby d14_52) ?_
    show Steps p.tables e below (T11.setTop (mkF m 53 #[.val (.ref a1), .val (.int w3), .val (.ref w10)] [(.int (1 : Int32)), (.int w3), (.ref a1)])) _
    refine XS.iadd X11.here hx rfl (hb hby d14_53) rfl ?_
    show Steps p.tables e below (T11.setTop (mkF m 54 #[.val (.ref a1), .val (.int w3), .val (.ref w10)] [(.int (w3 + (1 : Int32))), (.ref a1)])) _
    refine st12 _ ?_
    show Steps p.tables e below (T12.setTop (mkF m 57 #[.val (.ref a1), .val (.int w3), .val (.ref w10)] [])) _
    refine XS.aloadN X12.here hx rfl (hb hby d14_57) rfl rfl ?_
    show Steps p.tables e below (T12.setTop (mkF m 58 #[.val (.ref a1), .val (.int w3), .val (.ref w10)] [(.ref w10)])) _
    refine XS.aloadN X12.here hx rfl (hb hby d14_58) rfl rfl ?_
    show Steps p.tables e below (T12.setTop (mkF m 59 #[.val (.ref a1), .val (.int w3), .val (.ref w10)] [(.ref a1), (.ref w10)])) _
    refine XS.iloadN X12.here hx rfl (hb hby d14_59) rfl ?_
    show Steps p.tables e below (T12.setTop (mkF m 60 #[.val (.ref a1), .val (.int w3), .val (.ref w10)] [(.int w3), (.ref a1), (.ref w10)])) _
    refine XS.dupX1 X12.here hx rfl (hb hby d14_60) rfl rfl rfl ?_
    show Steps p.tables e below (T12.setTop (mkF m 61 #[.val (.ref a1), .val (.int w3), .val (.ref w10)] [(.int w3), (.ref a1), (.int w3), (.ref w10)])) _
    refine st13 _ ?_
    show Steps p.tables e below (T13.setTop (mkF m 64 #[.val (.ref a1), .val (.int w3), .val (.ref w10)] [(.int w3), (.ref w10)])) _
    refine X13.aaload hx (j := w3) (v := (.ref w14)) (by rw [e13]; exact Ar13.1) (State.isArrayOf_alike hZ.alike Ar13.2.1) rfl Ar13.2.2 hin64 hat64 (g := (mkF m 64 #[.val (.ref a1), .val (.int w3), .val (.ref w10)] [(.int w3), (.ref w10)])) rfl rfl (hb hby d14_64) _ ?_
    show Steps p.tables e below (T13.setTop (mkF m 65 #[.val (.ref a1), .val (.int w3), .val (.ref w10)] [(.ref w14)])) _
    jvm_step X13.here [X13.here.top, hx, (hb hby d14_65), X13.method', Bd.returns, Value.isRef, FieldType.isReference]
    first | (intro acts; rw [hr _ acts rfl rfl rfl]) | rw [hr _ _ rfl rfl rfl]
    exact Steps.refl _
  · show Q14 Z a1 w5 w3 mo w14 h0 n0 _ T13.heap _
    rw [e13]
    exact ⟨rfl, N13, K13, (E_a1.wr W12).wr W13, (F_this_0_a1.other W12 (Or.inr (slot_ne (Or.inr (hw _ (List.mem_of_getElem? (i := 84) rfl))) (Or.inl (hw _ (List.mem_of_getElem? (i := 101) rfl))) (by decide) (t := (.object "java/util/ArrayList")) (t' := .int) (by decide) (by decide)))).other W13 (Or.inr (slot_ne (Or.inr (hw _ (List.mem_of_getElem? (i := 84) rfl))) (Or.inl (hw _ (List.mem_of_getElem? (i := 87) rfl))) (by decide) (t := (.object "java/util/ArrayList")) (t' := .int) (by decide) (by decide))), Fw12.other W13 (Or.inr (slot_ne (Or.inl (hw _ (List.mem_of_getElem? (i := 101) rfl))) (Or.inl (hw _ (List.mem_of_getElem? (i := 87) rfl))) (by decide) (t := .int) (t' := .int) (by decide) (by decide))), (F_exp.other W12 (Or.inr (slot_ne (Or.inl (hw _ (List.mem_of_getElem? (i := 90) rfl))) (Or.inl (hw _ (List.mem_of_getElem? (i := 101) rfl))) (by decide) (t := .int) (t' := .int) (by decide) (by decide)))).other W13 (Or.inr (slot_ne (Or.inl (hw _ (List.mem_of_getElem? (i := 90) rfl))) (Or.inl (hw _ (List.mem_of_getElem? (i := 87) rfl))) (by decide) (t := .int) (t' := .int) (by decide) (by decide))), _, Fw13⟩
theorem d10_0 : decode prog_6_method_3_code 0 = .ok (.dconst 0, 1) := by decide +kernel
theorem d10_1 : decode prog_6_method_3_code 1 = .ok (.dstore_n 1, 1) := by decide +kernel
theorem d10_2 : decode prog_6_method_3_code 2 = .ok (.aload_n 0, 1) := by decide +kernel
theorem d10_3 : decode prog_6_method_3_code 3 = .ok (.invokeinterface 29 1, 5) := by decide +kernel
theorem d10_8 : decode prog_6_method_3_code 8 = .ok (.astore_n 3, 1) := by decide +kernel
theorem d10_9 : decode prog_6_method_3_code 9 = .ok (.aload_n 3, 1) := by decide +kernel
theorem d10_10 : decode prog_6_method_3_code 10 = .ok (.invokeinterface 33 1, 5) := by decide +kernel
theorem d10_15 : decode prog_6_method_3_code 15 = .ok (.ifCond .eq 29, 3) := by decide +kernel
theorem d10_18 : decode prog_6_method_3_code 18 = .ok (.aload_n 3, 1) := by decide +kernel
theorem d10_19 : decode prog_6_method_3_code 19 = .ok (.invokeinterface 39 1, 5) := by decide +kernel
theorem d10_24 : decode prog_6_method_3_code 24 = .ok (.checkcast 43, 3) := by decide +kernel
theorem d10_27 : decode prog_6_method_3_code 27 = .ok (.astore 4, 2) := by decide +kernel
theorem d10_29 : decode prog_6_method_3_code 29 = .ok (.dload_n 1, 1) := by decide +kernel
theorem d10_30 : decode prog_6_method_3_code 30 = .ok (.aload 4, 2) := by decide +kernel
theorem d10_32 : decode prog_6_method_3_code 32 = .ok (.iconst 1, 1) := by decide +kernel
theorem d10_33 : decode prog_6_method_3_code 33 = .ok (.daload, 1) := by decide +kernel
theorem d10_34 : decode prog_6_method_3_code 34 = .ok (.aload 4, 2) := by decide +kernel
theorem d10_36 : decode prog_6_method_3_code 36 = .ok (.iconst 0, 1) := by decide +kernel
theorem d10_37 : decode prog_6_method_3_code 37 = .ok (.daload, 1) := by decide +kernel
theorem d10_38 : decode prog_6_method_3_code 38 = .ok (.dsub, 1) := by decide +kernel
theorem d10_39 : decode prog_6_method_3_code 39 = .ok (.dadd, 1) := by decide +kernel
theorem d10_40 : decode prog_6_method_3_code 40 = .ok (.dstore_n 1, 1) := by decide +kernel
theorem d10_41 : decode prog_6_method_3_code 41 = .ok (.goto (-32), 3) := by decide +kernel
theorem d10_44 : decode prog_6_method_3_code 44 = .ok (.dload_n 1, 1) := by decide +kernel
theorem d10_45 : decode prog_6_method_3_code 45 = .ok (.dreturn, 1) := by decide +kernel
theorem pn_10 : plainName "com/example/waypost/waypost/coverage/Intervals" = true := by first | (simp [plainName, overriddenIn]; done) | decide +kernel
theorem pd_10_7 : parseMethodDescriptor "()Ljava/util/Iterator;" = some ⟨[], some (.object "java/util/Iterator")⟩ := by decide +kernel
theorem pd_10_9 : parseMethodDescriptor "()Z" = some ⟨[], some .boolean⟩ := by decide +kernel
theorem pd_10_10 : parseMethodDescriptor "()Ljava/lang/Object;" = some ⟨[], some (.object "java/lang/Object")⟩ := by decide +kernel
theorem ef_10 (m : MethodId) (x0 : Addr) : entryFrame m #[(.ref x0)] 5 = mkF m 0 #[.val (.ref x0), .unset, .unset, .unset, .unset] [] := by first | (simp [entryFrame, mkF, argsToLocals, Value.category]; done) | rfl
theorem os10_27 {s0 : Slot} {s1 : Slot} {s2 : Slot} {z3 : Value} {s4 : Slot} {v : Addr} (h : One s4) : storeLocals #[s0, s1, s2, .val z3, s4] 4 (.ref v) = some #[s0, s1, s2, .val z3, .val (.ref v)] := by
  rcases h with rfl | ⟨w, rfl, hw⟩
  · rfl
  · cases w <;> first | rfl | (simp [Value.category] at hw)
/-! the sum of the lengths -/
def own_sum : Int64 → List (Addr × Int64 × Int64) → Int64
  | s, [] => s
  | s, q :: r => own_sum (s + (q.2.2 - q.2.1)) r
def own_ok : Int64 → List (Addr × Int64 × Int64) → Prop
  | s, [] => B53 s
  | s, q :: r => B53 s ∧ B53 q.2.1 ∧ B53 q.2.2 ∧ B53 (q.2.2 - q.2.1) ∧ own_ok (s + (q.2.2 - q.2.1)) r
theorem own_nn (a : Int64) : Jvm.Free.Fl.NoNaN64 (FP.l2d a) := Jvm.Free.Fl.noNaN64_no.mpr (FP.Core.l2d_notNaN a)
theorem own_l0 : FP.dconst0 = FP.l2d 0 := by decide +kernel
theorem own_small (i : Nat) (h : i ≤ 3) : (Int32.ofNat i).toNatClampNeg = i ∧ ¬ Int32.ofNat i < 0 ∧ Int32.ofNat i < (10 : Int32) ∧ ¬ Int32.ofNat i = (10 : Int32) ∧ Int32.ofNat i + (1 : Int32) = Int32.ofNat (i + 1) := by
  have q : i = 0 ∨ i = 1 ∨ i = 2 ∨ i = 3 := by omega
  rcases q with rfl | rfl | rfl | rfl <;> decide
theorem own_lt3 (i j : Nat) (h : i < j) (hj : j ≤ 3) : Int32.ofNat i < Int32.ofNat j ∧ ¬ Int32.ofNat i = Int32.ofNat j := by
  have q : (i = 0 ∧ j = 1) ∨ (i = 0 ∧ j = 2) ∨ (i = 0 ∧ j = 3) ∨ (i = 1 ∧ j = 2) ∨ (i = 1 ∧ j = 3) ∨ (i = 2 ∧ j = 3) := by omega
  rcases q with ⟨rfl, rfl⟩ | ⟨rfl, rfl⟩ | ⟨rfl, rfl⟩ | ⟨rfl, rfl⟩ | ⟨rfl, rfl⟩ | ⟨rfl, rfl⟩ <;> decide
/-- the list and all it holds -/
def own_Wd (Z : State) (h : Heap) (a d : Addr) (mo : Int32) (xs : List (Addr × Int64 × Int64)) : Prop := own_Lst Z h a mo d (Int32.ofNat xs.length) ∧ (xs = [] ∨ own_Dat Z h d (xs.map fun q => Value.ref q.1)) ∧ ∀ q ∈ xs, own_Pr Z h q.1 (FP.l2d q.2.1) (FP.l2d q.2.2)
theorem own_Wd_keep {Z : State} {h h' : Heap} {a d it : Addr} {mo : Int32} {k : Nat} {a0 : Array Value} {xs : List (Addr × Int64 × Int64)} (F : own_Wd Z h a d mo xs) (K : Keep h h' [it]) (E : Exa Z h it "java/util/ArrayList$Itr") (wi : (Cond.instantiable "java/util/ArrayList$Itr" k).before a0 Z = true) : own_Wd Z h' a d mo xs := by
  refine ⟨own_Lst_keep F.1 K (ninS (ne_exa F.1.1 E (by decide)) nin0), ?_, fun q hq => own_Pr_keep (F.2.2 q hq) K (ninS (ne_exa (F.2.2 q hq).1 E (by decide)) nin0)⟩
  rcases F.2.1 with h | h
  · exact Or.inl h
  · exact Or.inr (own_Dat_keep h K (ninS (own_Dat_ne E wi h).symm nin0))
set_option maxRecDepth 65536 in
set_option maxHeartbeats 40000000 in
theorem own_turn {p : Program} {l : Launch} {e : Env} {s : State} {m : MethodId} {args : Array Value} {below : List Frame} {meth : Method} {c : Code} {T0 : State} {locs : List Loc} {cells slots : Nat} {Z : State} {a0 : Array Value} {h0 : Heap} (n0 : Nat) (a1 it d x : Addr) (mo : Int32) (xs : List (Addr × Int64 × Int64)) (i : Nat) (tot f t : Int64) (s4 : Slot)
    (X0 : Stand p l e ({ frames := 3, cells := 1, slots := 4, locals := 38 } : Room) s m args below meth c T0 locs cells slots) (hx : p.tables.exec = Jvm.exec) (hZ : Z.Warmed39 s.vm) (hw : ∀ d ∈ tables_1, d.before a0 Z = true) (hby : c.code = prog_6_method_3_code) (hml : c.maxLocals = 5) (hown : s.vm.findClass "com/example/waypost/waypost/coverage/Intervals" = some m.cls) (e0 : T0.heap = h0) (hRc : cells ≤ 1) (hRs : slots ≤ 4) (Wd : own_Wd Z h0 a1 d mo xs) (I : own_It Z h0 it a1 (Int32.ofNat i) mo) (git : n0 ≤ it) (hz : n0 ≤ h0.size) (N0 : Fr n0 locs) (hs4 : One s4) (hlen : xs.length ≤ 3) (hi : i < xs.length) (hxi : xs[i]? = some (x, f, t)) (b1 : B53 tot) (b2 : B53 f) (b3 : B53 t) (b4 : B53 (t - f)) :
    ∃ (T' : State) (h' : Heap) (locs' : List Loc), Stand p l e ({ frames := 3, cells := 1, slots := 4, locals := 38 } : Room) s m args below meth c T' locs' cells slots ∧ T'.heap = h' ∧ Fr n0 locs' ∧ Keep h0 h' [it] ∧ own_It Z h' it a1 (Int32.ofNat (i + 1)) mo ∧
      ∀ target, Steps p.tables e below (T'.setTop (mkF m 9 #[.val (.ref a1), .val (.double (FP.l2d (tot + (t - f)))), .second, .val (.ref it), .val (.ref x)] [])) target → Steps p.tables e below (T0.setTop (mkF m 9 #[.val (.ref a1), .val (.double (FP.l2d tot)), .second, .val (.ref it), s4] [])) target := by
  obtain ⟨hI1, hI2, hI3, hI4, ur, hI5⟩ := id I
  have hG := Wd.1
  obtain ⟨sm1, sm2, sm3, sm4, sm5⟩ := own_small i (by omega)
  obtain ⟨lt1, lt2⟩ := own_lt3 i xs.length hi hlen
  have Dt : own_Dat Z h0 d (xs.map fun q => Value.ref q.1) := by
    rcases Wd.2.1 with h | h
    · subst h; exact absurd hi (by simp)
    · exact h
  obtain ⟨kD, OD, clD, ArD, qD, SD, ND, HD, GD⟩ := Dt
  have hin : ¬ (Int32.ofNat i < 0 ∨ clD.slots.size ≤ (Int32.ofNat i).toNatClampNeg) := inb_of SD ⟨sm2, sm3⟩
  have hat : clD.slots[(Int32.ofNat i).toNatClampNeg]? = some (.ref x) := HD.at hin (by rw [sm1, List.getD_eq_getElem?_getD, List.getElem?_map, hxi]; rfl)
  have hmem : (x, f, t) ∈ xs := List.mem_of_getElem? hxi
  obtain ⟨cq2, kq2, q2a, q2b, q2c⟩ := isOf hZ e0 hI1
  obtain ⟨_, _, ⟨T2, L2, k2, n2⟩, -, X2, ⟨Lc2, hQ2, l2, y2, z2⟩, st2⟩ := X0.interfaceBack hx (xi := (⟨"java/util/Iterator", "hasNext", "()Z"⟩ : MethodName)) (y := (⟨"java/util/ArrayList$Itr", "hasNext", "()Z"⟩ : MethodName)) hown (mvT hZ (hw _ (List.mem_of_getElem? (i := 91) rfl))) (mvT hZ (hw _ (List.mem_of_getElem? (i := 92) rfl))) (mvT hZ (hw _ (List.mem_of_getElem? (i := 93) rfl))) (mvT hZ (hw _ (List.mem_of_getElem? (i := 94) rfl))) (mvT hZ (hw _ (List.mem_of_getElem? (i := 95) rfl))) (mvT hZ (hw _ (List.mem_of_getElem? (i := 96) rfl))) (mvT hZ (hw _ (List.mem_of_getElem? (i := 97) rfl))) (mvT hZ (hw _ (List.mem_of_getElem? (i := 98) rfl))) (by decide) (backOf (W := 0) (rm13f l Z a0 hw [] it (Int32.ofNat i) a1 (Int32.ofNat xs.length) h0 n0 hz hI3 hI2 hG.2.2.2 lt2) hZ (hw _ (List.mem_of_getElem? (i := 99) rfl)) (hw _ (List.mem_of_getElem? (i := 78) rfl)) (by decide) (by decide)) q2a q2b q2c (g := (mkF m 10 #[.val (.ref a1), .val (.double (FP.l2d tot)), .second, .val (.ref it), s4] [(.ref it)])) rfl (by rw [hml]; rfl) (Steps.refl _) (argsL := []) (rest := []) (lenOf pd_10_9 rfl) rfl (by show 2 * 0 + _ ≤ _; exact Nat.le_of_eq rfl) (hb hby d10_10) (fun _ _ => ⟨rfl, e0, hRc, hRs⟩)
  dsimp only [Pt.U, Pt.locs, Pt.cells, Pt.slots] at X2 l2 y2 z2 st2 hQ2
  subst l2 y2 z2
  obtain ⟨rfl, N2q, eh2⟩ := hQ2
  have N2 := Fr.app N0 N2q
  obtain ⟨cq3, kq3, q3a, q3b, q3c⟩ := isOf hZ eh2 hI1
  obtain ⟨_, _, ⟨T3, L3, k3, n3⟩, -, X3, ⟨Lc3, hQ3, l3, y3, z3⟩, st3⟩ := X2.interfaceBack hx (xi := (⟨"java/util/Iterator", "next", "()Ljava/lang/Object;"⟩ : MethodName)) (y := (⟨"java/util/ArrayList$Itr", "next", "()Ljava/lang/Object;"⟩ : MethodName)) hown (mvT hZ (hw _ (List.mem_of_getElem? (i := 103) rfl))) (mvT hZ (hw _ (List.mem_of_getElem? (i := 104) rfl))) (mvT hZ (hw _ (List.mem_of_getElem? (i := 105) rfl))) (mvT hZ (hw _ (List.mem_of_getElem? (i := 106) rfl))) (mvT hZ (hw _ (List.mem_of_getElem? (i := 107) rfl))) (mvT hZ (hw _ (List.mem_of_getElem? (i := 108) rfl))) (mvT hZ (hw _ (List.mem_of_getElem? (i := 109) rfl))) (mvT hZ (hw _ (List.mem_of_getElem? (i := 98) rfl))) (by decide) (backOf (W := 0) (rm14 l Z a0 hw [] it a1 (Int32.ofNat i) mo (Int32.ofNat xs.length) d clD x h0 n0 hz I hG ArD SD git hin hat lt1 sm3) hZ (hw _ (List.mem_of_getElem? (i := 110) rfl)) (hw _ (List.mem_of_getElem? (i := 78) rfl)) (by decide) (by decide)) q3a q3b q3c (g := (mkF m 19 #[.val (.ref a1), .val (.double (FP.l2d tot)), .second, .val (.ref it), s4] [(.ref it)])) rfl (by rw [hml]; rfl) (Steps.refl _) (argsL := []) (rest := []) (lenOf pd_10_10 rfl) rfl (by show 2 * 0 + _ ≤ _; exact Nat.le_of_eq rfl) (hb hby d10_19) (fun _ _ => ⟨rfl, eh2, hRc, hRs⟩)
  dsimp only [Pt.U, Pt.locs, Pt.cells, Pt.slots] at X3 l3 y3 z3 st3 hQ3
  subst l3 y3 z3
  obtain ⟨rfl, N3q, K3, I3⟩ := hQ3
  have N3 := Fr.app N2 N3q
  have P3 := own_Pr_keep (Wd.2.2 _ hmem) K3 (ninS (ne_exa (Wd.2.2 _ hmem).1 hI1 (by decide)) nin0)
  obtain ⟨Ex, kx, cx, Ax, qx, Sx, Nx, Hx, Gx⟩ := P3
  obtain ⟨T4, X4, e4, st4⟩ := castY X3 hx hZ hown (hw _ (List.mem_of_getElem? (i := 117) rfl)) rfl (Ins.self Ex) (g := (mkF m 24 #[.val (.ref a1), .val (.double (FP.l2d tot)), .second, .val (.ref it), s4] [(.ref x)])) rfl rfl (hb hby d10_24)
  rw [sm5] at I3
  refine ⟨T4, _, _, X4, e4, N3, K3, I3, fun target kt => ?_⟩
  show Steps p.tables e below (T0.setTop (mkF m 9 #[.val (.ref a1), .val (.double (FP.l2d tot)), .second, .val (.ref it), s4] [])) _
  refine XS.aloadN X0.here hx rfl (hb hby d10_9) rfl rfl ?_
  show Steps p.tables e below (T0.setTop (mkF m 10 #[.val (.ref a1), .val (.double (FP.l2d tot)), .second, .val (.ref it), s4] [(.ref it)])) _
  refine st2.trans ?_
  show Steps p.tables e below (T2.setTop (mkF m 15 #[.val (.ref a1), .val (.double (FP.l2d tot)), .second, .val (.ref it), s4] [(.int (1 : Int32))])) _
  refine XS.ifNo X2.here hx rfl (hb hby d10_15) rfl ((if0 _ _).trans (feq (by decide : ¬ ((1 : Int32) = (0 : Int32)))).1) ?_
  show Steps p.tables e below (T2.setTop (mkF m 18 #[.val (.ref a1), .val (.double (FP.l2d tot)), .second, .val (.ref it), s4] [])) _
  refine XS.aloadN X2.here hx rfl (hb hby d10_18) rfl rfl ?_
  show Steps p.tables e below (T2.setTop (mkF m 19 #[.val (.ref a1), .val (.double (FP.l2d tot)), .second, .val (.ref it), s4] [(.ref it)])) _
  refine st3.trans ?_
  show Steps p.tables e below (T3.setTop (mkF m 24 #[.val (.ref a1), .val (.double (FP.l2d tot)), .second, .val (.ref it), s4] [(.ref x)])) _
  refine st4 _ ?_
  show Steps p.tables e below (T4.setTop (mkF m 27 #[.val (.ref a1), .val (.double (FP.l2d tot)), .second, .val (.ref it), s4] [(.ref x)])) _
  refine XS.astore X4.here hx rfl (hb hby d10_27) rfl rfl (l' := #[.val (.ref a1), .val (.double (FP.l2d tot)), .second, .val (.ref it), .val (.ref x)]) (os10_27 hs4) ?_
  show Steps p.tables e below (T4.setTop (mkF m 29 #[.val (.ref a1), .val (.double (FP.l2d tot)), .second, .val (.ref it), .val (.ref x)] [])) _
  refine XS.dloadN X4.here hx rfl (hb hby d10_29) rfl ?_
  show Steps p.tables e below (T4.setTop (mkF m 30 #[.val (.ref a1), .val (.double (FP.l2d tot)), .second, .val (.ref it), .val (.ref x)] [(.double (FP.l2d tot))])) _
  refine XS.aload X4.here hx rfl (hb hby d10_30) rfl rfl ?_
  show Steps p.tables e below (T4.setTop (mkF m 32 #[.val (.ref a1), .val (.double (FP.l2d tot)), .second, .val (.ref it), .val (.ref x)] [(.ref x), (.double (FP.l2d tot))])) _
  refine XS.iconst X4.here hx rfl (hb hby d10_32) ?_
  show Steps p.tables e below (T4.setTop (mkF m 33 #[.val (.ref a1), .val (.double (FP.l2d tot)), .second, .val (.ref it), .val (.ref x)] [(.int (1 : Int32)), (.ref x), (.double (FP.l2d tot))])) _
  refine X4.daload hx (j := (1 : Int32)) (v := (.double (FP.l2d t))) (by rw [e4]; exact Ax.1) (State.isArrayOf_alike hZ.alike Ax.2.1) Ax.2.2 (inb_of Sx (by decide)) (Hx.at (inb_of Sx (by decide)) rfl) (g := (mkF m 33 #[.val (.ref a1), .val (.double (FP.l2d tot)), .second, .val (.ref it), .val (.ref x)] [(.int (1 : Int32)), (.ref x), (.double (FP.l2d tot))])) rfl rfl (hb hby d10_33) _ ?_
  show Steps p.tables e below (T4.setTop (mkF m 34 #[.val (.ref a1), .val (.double (FP.l2d tot)), .second, .val (.ref it), .val (.ref x)] [(.double (FP.l2d t)), (.double (FP.l2d tot))])) _
  refine XS.aload X4.here hx rfl (hb hby d10_34) rfl rfl ?_
  show Steps p.tables e below (T4.setTop (mkF m 36 #[.val (.ref a1), .val (.double (FP.l2d tot)), .second, .val (.ref it), .val (.ref x)] [(.ref x), (.double (FP.l2d t)), (.double (FP.l2d tot))])) _
  refine XS.iconst X4.here hx rfl (hb hby d10_36) ?_
  show Steps p.tables e below (T4.setTop (mkF m 37 #[.val (.ref a1), .val (.double (FP.l2d tot)), .second, .val (.ref it), .val (.ref x)] [(.int (0 : Int32)), (.ref x), (.double (FP.l2d t)), (.double (FP.l2d tot))])) _
  refine X4.daload hx (j := (0 : Int32)) (v := (.double (FP.l2d f))) (by rw [e4]; exact Ax.1) (State.isArrayOf_alike hZ.alike Ax.2.1) Ax.2.2 (inb_of Sx (by decide)) (Hx.at (inb_of Sx (by decide)) rfl) (g := (mkF m 37 #[.val (.ref a1), .val (.double (FP.l2d tot)), .second, .val (.ref it), .val (.ref x)] [(.int (0 : Int32)), (.ref x), (.double (FP.l2d t)), (.double (FP.l2d tot))])) rfl rfl (hb hby d10_37) _ ?_
  show Steps p.tables e below (T4.setTop (mkF m 38 #[.val (.ref a1), .val (.double (FP.l2d tot)), .second, .val (.ref it), .val (.ref x)] [(.double (FP.l2d f)), (.double (FP.l2d t)), (.double (FP.l2d tot))])) _
  refine XS.dsubS X4.here hx rfl (hb hby d10_38) rfl (by rw [dsub_w b3 b2]; exact own_nn _) (dsub_w b3 b2) ?_
  show Steps p.tables e below (T4.setTop (mkF m 39 #[.val (.ref a1), .val (.double (FP.l2d tot)), .second, .val (.ref it), .val (.ref x)] [(.double (FP.l2d (t - f))), (.double (FP.l2d tot))])) _
  refine XS.daddS X4.here hx rfl (hb hby d10_39) rfl (by rw [dadd_w b1 b4]; exact own_nn _) (dadd_w b1 b4) ?_
  show Steps p.tables e below (T4.setTop (mkF m 40 #[.val (.ref a1), .val (.double (FP.l2d tot)), .second, .val (.ref it), .val (.ref x)] [(.double (FP.l2d (tot + (t - f))))])) _
  refine XS.dstoreN X4.here hx rfl (hb hby d10_40) rfl (l' := #[.val (.ref a1), .val (.double (FP.l2d (tot + (t - f)))), .second, .val (.ref it), .val (.ref x)]) rfl ?_
  show Steps p.tables e below (T4.setTop (mkF m 41 #[.val (.ref a1), .val (.double (FP.l2d (tot + (t - f)))), .second, .val (.ref it), .val (.ref x)] [])) _
  refine XS.goto X4.here hx rfl (pc0 := 41) (pc' := 9) rfl (hb hby d10_41) (by decide) (by decide) ?_
  show Steps p.tables e below (T4.setTop (mkF m 9 #[.val (.ref a1), .val (.double (FP.l2d (tot + (t - f)))), .second, .val (.ref it), .val (.ref x)] [])) _
  exact kt
set_option maxRecDepth 65536 in
set_option maxHeartbeats 40000000 in
theorem own_last {p : Program} {l : Launch} {e : Env} {s : State} {m : MethodId} {args : Array Value} {below : List Frame} {meth : Method} {c : Code} {T0 : State} {locs : List Loc} {cells slots : Nat} {Z : State} {a0 : Array Value} {h0 : Heap} (n0 : Nat) (a1 it d : Addr) (mo : Int32) (xs : List (Addr × Int64 × Int64)) (tot : Int64) (s4 : Slot)
    (X0 : Stand p l e ({ frames := 3, cells := 1, slots := 4, locals := 38 } : Room) s m args below meth c T0 locs cells slots) (hx : p.tables.exec = Jvm.exec) (hZ : Z.Warmed39 s.vm) (hw : ∀ d ∈ tables_1, d.before a0 Z = true) (hby : c.code = prog_6_method_3_code) (hml : c.maxLocals = 5) (hown : s.vm.findClass "com/example/waypost/waypost/coverage/Intervals" = some m.cls) (e0 : T0.heap = h0) (hRc : cells ≤ 1) (hRs : slots ≤ 4) (Wd : own_Wd Z h0 a1 d mo xs) (I : own_It Z h0 it a1 (Int32.ofNat xs.length) mo) (hz : n0 ≤ h0.size) (N0 : Fr n0 locs) :
    ∃ (T' : State) (locs' : List Loc), Stand p l e ({ frames := 3, cells := 1, slots := 4, locals := 38 } : Room) s m args below meth c T' locs' cells slots ∧ Fr n0 locs' ∧
      ∀ target, Steps p.tables e below (T'.setTop (mkF m 44 #[.val (.ref a1), .val (.double (FP.l2d tot)), .second, .val (.ref it), s4] [])) target → Steps p.tables e below (T0.setTop (mkF m 9 #[.val (.ref a1), .val (.double (FP.l2d tot)), .second, .val (.ref it), s4] [])) target := by
  obtain ⟨hI1, hI2, hI3, hI4, ur, hI5⟩ := id I
  have hG := Wd.1
  obtain ⟨cq2, kq2, q2a, q2b, q2c⟩ := isOf hZ e0 hI1
  obtain ⟨_, _, ⟨T2, L2, k2, n2⟩, -, X2, ⟨Lc2, hQ2, l2, y2, z2⟩, st2⟩ := X0.interfaceBack hx (xi := (⟨"java/util/Iterator", "hasNext", "()Z"⟩ : MethodName)) (y := (⟨"java/util/ArrayList$Itr", "hasNext", "()Z"⟩ : MethodName)) hown (mvT hZ (hw _ (List.mem_of_getElem? (i := 91) rfl))) (mvT hZ (hw _ (List.mem_of_getElem? (i := 92) rfl))) (mvT hZ (hw _ (List.mem_of_getElem? (i := 93) rfl))) (mvT hZ (hw _ (List.mem_of_getElem? (i := 94) rfl))) (mvT hZ (hw _ (List.mem_of_getElem? (i := 95) rfl))) (mvT hZ (hw _ (List.mem_of_getElem? (i := 96) rfl))) (mvT hZ (hw _ (List.mem_of_getElem? (i := 97) rfl))) (mvT hZ (hw _ (List.mem_of_getElem? (i := 98) rfl))) (by decide) (backOf (W := 0) (rm13t l Z a0 hw [] it (Int32.ofNat xs.length) a1 (Int32.ofNat xs.length) h0 n0 hz hI3 hI2 hG.2.2.2 rfl) hZ (hw _ (List.mem_of_getElem? (i := 99) rfl)) (hw _ (List.mem_of_getElem? (i := 78) rfl)) (by decide) (by decide)) q2a q2b q2c (g := (mkF m 10 #[.val (.ref a1), .val (.double (FP.l2d tot)), .second, .val (.ref it), s4] [(.ref it)])) rfl (by rw [hml]; rfl) (Steps.refl _) (argsL := []) (rest := []) (lenOf pd_10_9 rfl) rfl (by show 2 * 0 + _ ≤ _; exact Nat.le_of_eq rfl) (hb hby d10_10) (fun _ _ => ⟨rfl, e0, hRc, hRs⟩)
  dsimp only [Pt.U, Pt.locs, Pt.cells, Pt.slots] at X2 l2 y2 z2 st2 hQ2
  subst l2 y2 z2
  obtain ⟨rfl, N2q, eh2⟩ := hQ2
  have N2 := Fr.app N0 N2q
  refine ⟨T2, _, X2, N2, fun target kt => ?_⟩
  show Steps p.tables e below (T0.setTop (mkF m 9 #[.val (.ref a1), .val (.double (FP.l2d tot)), .second, .val (.ref it), s4] [])) _
  refine XS.aloadN X0.here hx rfl (hb hby d10_9) rfl rfl ?_
  show Steps p.tables e below (T0.setTop (mkF m 10 #[.val (.ref a1), .val (.double (FP.l2d tot)), .second, .val (.ref it), s4] [(.ref it)])) _
  refine st2.trans ?_
  show Steps p.tables e below (T2.setTop (mkF m 15 #[.val (.ref a1), .val (.double (FP.l2d tot)), .second, .val (.ref it), s4] [(.int (0 : Int32))])) _
  refine XS.ifYes X2.here hx rfl (pc0 := 15) (pc' := 44) rfl (hb hby d10_15) rfl ((if0 _ _).trans (teq rfl).1) (by decide) (by decide) ?_
  show Steps p.tables e below (T2.setTop (mkF m 44 #[.val (.ref a1), .val (.double (FP.l2d tot)), .second, .val (.ref it), s4] [])) _
  exact kt
set_option maxRecDepth 65536 in
set_option maxHeartbeats 40000000 in
theorem own_loop {p : Program} {l : Launch} {e : Env} {s : State} {m : MethodId} {args : Array Value} {below : List Frame} {meth : Method} {c : Code} {cells slots : Nat} {Z : State} {a0 : Array Value} (n0 : Nat) (a1 it d : Addr) (mo : Int32) (xs : List (Addr × Int64 × Int64)) (hx : p.tables.exec = Jvm.exec) (hZ : Z.Warmed39 s.vm) (hw : ∀ d ∈ tables_1, d.before a0 Z = true) (hby : c.code = prog_6_method_3_code) (hml : c.maxLocals = 5) (hown : s.vm.findClass "com/example/waypost/waypost/coverage/Intervals" = some m.cls) (hRc : cells ≤ 1) (hRs : slots ≤ 4) (git : n0 ≤ it) (hlen : xs.length ≤ 3) :
    ∀ (r : List (Addr × Int64 × Int64)) (i : Nat) (tot : Int64) (T0 : State) (locs : List Loc) (h0 : Heap) (s4 : Slot), xs.drop i = r → i ≤ xs.length → own_ok tot r → Stand p l e ({ frames := 3, cells := 1, slots := 4, locals := 38 } : Room) s m args below meth c T0 locs cells slots → T0.heap = h0 → own_Wd Z h0 a1 d mo xs → own_It Z h0 it a1 (Int32.ofNat i) mo → n0 ≤ h0.size → Fr n0 locs → One s4 →
    ∃ (T' : State) (locs' : List Loc) (s4' : Slot), Stand p l e ({ frames := 3, cells := 1, slots := 4, locals := 38 } : Room) s m args below meth c T' locs' cells slots ∧ Fr n0 locs' ∧
      ∀ target, Steps p.tables e below (T'.setTop (mkF m 44 #[.val (.ref a1), .val (.double (FP.l2d (own_sum tot r))), .second, .val (.ref it), s4'] [])) target → Steps p.tables e below (T0.setTop (mkF m 9 #[.val (.ref a1), .val (.double (FP.l2d tot)), .second, .val (.ref it), s4] [])) target := by
  intro r
  induction r with
  | nil =>
    intro i tot T0 locs h0 s4 hd hi ok X0 e0 Wd I hz N0 hs4
    have hil : i = xs.length := by
      have q := congrArg List.length hd
      rw [List.length_drop] at q
      simp at q
      omega
    subst hil
    obtain ⟨T', locs', X', N', st⟩ := own_last n0 a1 it d mo xs tot s4 X0 hx hZ hw hby hml hown e0 hRc hRs Wd I hz N0
    exact ⟨T', locs', s4, X', N', st⟩
  | cons q r ih =>
    intro i tot T0 locs h0 s4 hd hi ok X0 e0 Wd I hz N0 hs4
    obtain ⟨x, f, t⟩ := q
    obtain ⟨b1, b2, b3, b4, ok'⟩ := ok
    have hlt : i < xs.length := by
      have q := congrArg List.length hd
      rw [List.length_drop] at q
      simp at q
      omega
    have hxi : xs[i]? = some (x, f, t) := by
      have q : (xs.drop i)[0]? = some (x, f, t) := by rw [hd]; rfl
      rwa [List.getElem?_drop, Nat.add_zero] at q
    obtain ⟨T1, h1, locs1, X1, e1, N1, K1, I1, st1⟩ := own_turn n0 a1 it d x mo xs i tot f t s4 X0 hx hZ hw hby hml hown e0 hRc hRs Wd I git hz N0 hs4 hlen hlt hxi b1 b2 b3 b4
    obtain ⟨T2, locs2, s4', X2, N2, st2⟩ := ih (i + 1) (tot + (t - f)) T1 locs1 h1 (.val (.ref x)) (by rw [← List.drop_drop, hd]; rfl) hlt ok' X1 e1 (own_Wd_keep Wd K1 I.1 (hw _ (List.mem_of_getElem? (i := 77) rfl))) I1 (Nat.le_trans hz K1.1) N1 (One.val rfl)
    exact ⟨T2, locs2, s4', X2, N2, fun target k => st1 _ (st2 _ k)⟩
def Q10 (xs : List (Addr × Int64 × Int64)) (h0 : Heap) (n0 : Nat) (v : Option Value) (h : Heap) (L : List Loc) : Prop := v = some (.double (FP.l2d (own_sum 0 xs))) ∧ Fr n0 L
set_option maxRecDepth 65536 in
set_option maxHeartbeats 40000000 in
theorem rm10 (l : Launch) (Z : State) (a0 : Array Value) (hw : ∀ d ∈ tables_1, d.before a0 Z = true) (ws : List Jvm.Cond) (a1 d : Addr) (mo : Int32) (xs : List (Addr × Int64 × Int64)) (h0 : Heap) (n0 : Nat) (Z0 : n0 ≤ h0.size) (Wd : own_Wd Z h0 a1 d mo xs) (hlen : xs.length ≤ 3) (ok : own_ok 0 xs) :
    MetFree l (⟨"com/example/waypost/waypost/coverage/Intervals", "length", "(Ljava/util/List;)D"⟩ : MethodName) (head1 (Jvm.Cond.code (⟨"com/example/waypost/waypost/coverage/Intervals", "length", "(Ljava/util/List;)D"⟩ : MethodName) prog_6_method_3_code 5 (some .double) :: ws) ({ frames := 3, cells := 1, slots := 4, locals := 38 } : Room)) (fun a U => a = #[(.ref a1)] ∧ Z.Warmed39 U.vm ∧ U.heap = h0) (fun _ _ _ _ _ => True) (fun _ U o U' => ∃ v L, o = .returned v ∧ Q10 xs h0 n0 v U'.heap L ∧ FrameEnd U o U' L ({ frames := 3, cells := 1, slots := 4, locals := 38 } : Room).cells ({ frames := 3, cells := 1, slots := 4, locals := 38 } : Room).slots) := by
  refine MetFree.of_bodySF (plainFor_of_name pn_10) hisR ?_
  intro p e s m args below meth c s₁ Bd hml0 hP hK
  obtain ⟨rfl, hZ, hh⟩ := hP
  have hx := Bd.exec
  have hby := Bd.bytes
  have hml : c.maxLocals = 5 := hml0
  have hown : s.vm.findClass "com/example/waypost/waypost/coverage/Intervals" = some m.cls := findClass_of_methodNamed Bd.named
  have X0 : Stand p l e ({ frames := 3, cells := 1, slots := 4, locals := 38 } : Room) s m #[(.ref a1)] below meth c s₁ [] 0 0 := Stand.of_body Bd
  have e0 : s₁.heap = h0 := by rw [← hh, Bd.state]; rfl
  have N0 := Fr.nil n0
  have pre0 : ∀ t, Steps p.tables e below (s₁.setTop (mkF m 0 #[.val (.ref a1), .unset, .unset, .unset, .unset] [])) t → Steps p.tables e below (s₁.setTop (entryFrame m #[(.ref a1)] 5)) t := fun t k => castTop (ef_10 m a1) k
  have hG := Wd.1
  obtain ⟨cq2, kq2, q2a, q2b, q2c⟩ := isOf hZ e0 hG.1
  obtain ⟨_, _, ⟨T2, L2, k2, n2⟩, -, X2, ⟨Lc2, hQ2, l2, y2, z2⟩, st2⟩ := X0.interfaceBack hx (xi := (⟨"java/util/List", "iterator", "()Ljava/util/Iterator;"⟩ : MethodName)) (y := (⟨"java/util/ArrayList", "iterator", "()Ljava/util/Iterator;"⟩ : MethodName)) hown (mvT hZ (hw _ (List.mem_of_getElem? (i := 68) rfl))) (mvT hZ (hw _ (List.mem_of_getElem? (i := 69) rfl))) (mvT hZ (hw _ (List.mem_of_getElem? (i := 70) rfl))) (mvT hZ (hw _ (List.mem_of_getElem? (i := 71) rfl))) (mvT hZ (hw _ (List.mem_of_getElem? (i := 72) rfl))) (mvT hZ (hw _ (List.mem_of_getElem? (i := 73) rfl))) (mvT hZ (hw _ (List.mem_of_getElem? (i := 74) rfl))) (mvT hZ (hw _ (List.mem_of_getElem? (i := 36) rfl))) (by decide) (backOf (W := 0) (rm11 l Z a0 hw [] a1 mo h0 n0 Z0 hG.1 hG.2.1) hZ (hw _ (List.mem_of_getElem? (i := 75) rfl)) (hw _ (List.mem_of_getElem? (i := 4) rfl)) (by decide) (by decide)) q2a q2b q2c (g := (mkF m 3 #[.val (.ref a1), .val (.double (FP.l2d 0)), .second, .unset, .unset] [(.ref a1)])) rfl (by rw [hml]; rfl) (Steps.refl _) (argsL := []) (rest := []) (lenOf pd_10_7 rfl) rfl (by show 2 * 0 + _ ≤ _; exact Nat.le_of_eq rfl) (hb hby d10_3) (fun _ _ => ⟨rfl, e0, (by decide : 0 + 1 ≤ _), (by decide : 0 + 4 ≤ _)⟩)
  dsimp only [Pt.U, Pt.locs, Pt.cells, Pt.slots] at X2 l2 y2 z2 st2 hQ2
  subst l2 y2 z2
  obtain ⟨it, rfl, N2q, K2, zit, I2⟩ := hQ2
  have N2 := Fr.app N0 N2q
  have Wd2 : own_Wd Z T2.heap a1 d mo xs := by
    refine ⟨own_Lst_keep Wd.1 K2 nin0, ?_, fun q hq => own_Pr_keep (Wd.2.2 q hq) K2 nin0⟩
    rcases Wd.2.1 with h | h
    · exact Or.inl h
    · exact Or.inr (own_Dat_keep h K2 nin0)
  obtain ⟨T3, locs3, s4', X3, N3, st3⟩ := own_loop n0 a1 it d mo xs hx hZ hw hby hml hown (cells := 0 + 1) (slots := 0 + 4) (by decide) (by decide) (Nat.le_trans Z0 zit) hlen xs 0 0 T2 _ T2.heap .unset rfl (Nat.zero_le _) ok X2 rfl Wd2 I2 (Nat.le_trans Z0 K2.1) N2 One.u
  obtain ⟨fs, hr, hrun, hended, hW, hsame⟩ := X3.leave (v := some (.double (FP.l2d (own_sum 0 xs)))) (fun h => by rw [Bd.returns] at h; cases h)
  refine ⟨_, _, pre0 _ ?_, hrun, hended, _, _, rfl, ⟨rfl, N3⟩, ⟨_, rfl⟩, hW, hsame.mono (by decide) (by decide)⟩
  · show Steps p.tables e below (s₁.setTop (mkF m 0 #[.val (.ref a1), .unset, .unset, .unset, .unset] [])) _
    refine XS.dconst0 X0.here hx rfl (hb hby d10_0) own_l0 ?_
    show Steps p.tables e below (s₁.setTop (mkF m 1 #[.val (.ref a1), .unset, .unset, .unset, .unset] [(.double (FP.l2d 0))])) _
    refine XS.dstoreN X0.here hx rfl (hb hby d10_1) rfl (l' := #[.val (.ref a1), .val (.double (FP.l2d 0)), .second, .unset, .unset]) rfl ?_
    show Steps p.tables e below (s₁.setTop (mkF m 2 #[.val (.ref a1), .val (.double (FP.l2d 0)), .second, .unset, .unset] [])) _
    refine XS.aloadN X0.here hx rfl (hb hby d10_2) rfl rfl ?_
    show Steps p.tables e below (s₁.setTop (mkF m 3 #[.val (.ref a1), .val (.double (FP.l2d 0)), .second, .unset, .unset] [(.ref a1)])) _
    refine st2.trans ?_
    show Steps p.tables e below (T2.setTop (mkF m 8 #[.val (.ref a1), .val (.double (FP.l2d 0)), .second, .unset, .unset] [(.ref it)])) _
    refine XS.astoreN X2.here hx rfl (hb hby d10_8) rfl rfl (l' := #[.val (.ref a1), .val (.double (FP.l2d 0)), .second, .val (.ref it), .unset]) rfl ?_
    show Steps p.tables e below (T2.setTop (mkF m 9 #[.val (.ref a1), .val (.double (FP.l2d 0)), .second, .val (.ref it), .unset] [])) _
    refine st3 _ ?_
    show Steps p.tables e below (T3.setTop (mkF m 44 #[.val (.ref a1), .val (.double (FP.l2d (own_sum 0 xs))), .second, .val (.ref it), s4'] [])) _
    refine XS.dloadN X3.here hx rfl (hb hby d10_44) rfl ?_
    show Steps p.tables e below (T3.setTop (mkF m 45 #[.val (.ref a1), .val (.double (FP.l2d (own_sum 0 xs))), .second, .val (.ref it), s4'] [(.double (FP.l2d (own_sum 0 xs)))])) _
    exact retOut X3 hx Bd.returns rfl (Or.inr (Or.inr (Or.inl ⟨rfl, rfl, _, rfl⟩))) (hb hby d10_45) hr
/-- the law's locals -/
abbrev own_L (p1 p2 p3 p4 p5 p6 cn : Int32) (l0 g1 l1 g2 l2 f0 t0 f1 t1 f2 t2 : Int64) (b : Addr) (ex : Int64) : Array Slot := #[.val (.int p1), .val (.int p2), .val (.int p3), .val (.int p4), .val (.int p5), .val (.int p6), .val (.int cn), .val (.long l0), .second, .val (.long g1), .second, .val (.long l1), .second, .val (.long g2), .second, .val (.long l2), .second, .val (.long f0), .second, .val (.long t0), .second, .val (.long f1), .second, .val (.long t1), .second, .val (.long f2), .second, .val (.long t2), .second, .val (.ref b), .val (.long ex), .second]
theorem pd_add : parseMethodDescriptor "(Ljava/lang/Object;)Z" = some ⟨[(.object "java/lang/Object")], some .boolean⟩ := by decide +kernel
set_option maxRecDepth 65536 in
set_option maxHeartbeats 40000000 in
theorem own_seg1 {p : Program} {l : Launch} {e : Env} {s : State} {m : MethodId} {args : Array Value} {below : List Frame} {meth : Method} {c : Code} {T0 : State} {locs : List Loc} {cells slots : Nat} {Z : State} {a0 : Array Value} {h0 : Heap} (n0 : Nat) (p1 p2 p3 p4 p5 p6 cn : Int32) (l0 g1 l1 g2 l2 f0 t0 f1 t1 f2 t2 : Int64) (b : Addr) (ex : Int64) (d : Addr) (mo n : Int32)
    (X0 : Stand p l e room_1 s m args below meth c T0 locs cells slots) (hx : p.tables.exec = Jvm.exec) (hZ : Z.Warmed39 s.vm) (hw : ∀ d ∈ tables_1, d.before a0 Z = true) (hby : c.code = code) (hml : c.maxLocals = 32) (hown : s.vm.findClass "com/example/waypost/waypost/coverage/IntervalsLengthPinLaw" = some m.cls) (e0 : T0.heap = h0) (hc : cells + 1 + 1 ≤ 24) (hs : slots + 2 + 10 ≤ 128) (G : own_Lst Z h0 b mo d n) (Em : own_Emp Z h0 d) (hn0 : n = (0 : Int32)) (g_b : n0 ≤ b) (hz : n0 ≤ h0.size) (N0 : Fr n0 locs) :
    ∃ (T' : State) (h' : Heap) (locs' : List Loc) (x d' : Addr), Stand p l e room_1 s m args below meth c T' locs' (cells + 1 + 1) (slots + 2 + 10) ∧ T'.heap = h' ∧ Fr n0 locs' ∧ h0.size ≤ h'.size ∧ own_Lst Z h' b (mo + (1 : Int32)) d' (n + (1 : Int32)) ∧ own_Dat Z h' d' ([.ref x]) ∧ own_Pr Z h' x (FP.l2d f0) (FP.l2d t0) ∧ n0 ≤ d' ∧
      ∀ target, Steps p.tables e below (T'.setTop (mkF m 137 (own_L p1 p2 p3 p4 p5 p6 cn l0 g1 l1 g2 l2 f0 t0 f1 t1 f2 t2 b (ex + l0)) [])) target → Steps p.tables e below (T0.setTop (mkF m 107 (own_L p1 p2 p3 p4 p5 p6 cn l0 g1 l1 g2 l2 f0 t0 f1 t1 f2 t2 b ex) [])) target := by
  obtain ⟨T1, h1, cA, X1, e1, E1, A1, Ex1, st1⟩ := newPE X0 hx hZ (aty := .double) (hw _ (List.mem_of_getElem? (i := 28) rfl)) e0 (g := (mkF m 110 (own_L p1 p2 p3 p4 p5 p6 cn l0 g1 l1 g2 l2 f0 t0 f1 t1 f2 t2 b ex) [(.int (2 : Int32)), (.ref b)])) rfl (hb hby at_110) rfl (by decide) (cap := 2) (by decide) (by decide) (show cells + 1 ≤ 24 by omega) (show slots + 2 ≤ 128 by omega) (ad := "[D") (by decide)
  obtain ⟨x, gx⟩ : ∃ z, z = h0.size := ⟨_, rfl⟩
  rw [← gx] at A1 Ex1 st1
  have V1 : Arv Z h1 x cA .double (2 : Int32) [.double 0, .double 0] (.double 0) := (Arv.new A1 (by decide)).pad (pad_rep [] (.double 0) 2)
  have zx : h0.size ≤ x := Nat.le_of_eq gx.symm
  have gnx : n0 ≤ x := Nat.le_trans hz zx
  obtain ⟨c1, Ar1, qc1, S1, Nn1, H1, G1⟩ := V1
  obtain ⟨T2, h2, X2, e2, W2, st2⟩ := stD X1 hx hZ e1 Ar1 (j := (0 : Int32)) (x := FP.l2d f0) (inb_of S1 (by decide)) (g := (mkF m 117 (own_L p1 p2 p3 p4 p5 p6 cn l0 g1 l1 g2 l2 f0 t0 f1 t1 f2 t2 b ex) [(.double (FP.l2d f0)), (.int (0 : Int32)), (.ref x), (.ref x), (.ref b)])) rfl rfl (hb hby at_117)
  have N2 := Fr.snoc X2 N0 gnx
  have V2 : Arv Z h2 x cA .double (2 : Int32) [.double (FP.l2d f0), .double 0] (.double 0) := Arv.set Ar1 qc1 S1 Nn1 H1 G1 rfl W2 0 (by decide) (by show 0 < 2; decide)
  obtain ⟨c2, Ar2, qc2, S2, Nn2, H2, G2⟩ := V2
  obtain ⟨T3, h3, X3, e3, W3, st3⟩ := stD X2 hx hZ e2 Ar2 (j := (1 : Int32)) (x := FP.l2d t0) (inb_of S2 (by decide)) (g := (mkF m 123 (own_L p1 p2 p3 p4 p5 p6 cn l0 g1 l1 g2 l2 f0 t0 f1 t1 f2 t2 b ex) [(.double (FP.l2d t0)), (.int (1 : Int32)), (.ref x), (.ref x), (.ref b)])) rfl rfl (hb hby at_123)
  have N3 := Fr.snoc X3 N2 gnx
  have V3 : Arv Z h3 x cA .double (2 : Int32) [.double (FP.l2d f0), .double (FP.l2d t0)] (.double 0) := Arv.set Ar2 qc2 S2 Nn2 H2 G2 rfl W3 1 (by decide) (by show 1 < 2; decide)
  have E3 := (Ex1.wr W2).wr W3
  have P3 : own_Pr Z h3 x (FP.l2d f0) (FP.l2d t0) := ⟨E3, cA, V3⟩
  have K3 : Keep h0 h3 [] := (((Keep.refl h0 []).ext E1).wr W2 (Or.inr zx)).wr W3 (Or.inr zx)
  have G3 := own_Lst_keep G K3 nin0
  obtain ⟨cq4, kq4, q4a, q4b, q4c⟩ := isOf hZ e3 G3.1
  have nx : d ≠ x := Nat.ne_of_lt (Nat.lt_of_lt_of_le (own_Emp_lt Em) zx)
  have Em3 := own_Emp_wr (own_Emp_wr (own_Emp_ext Em E1) W2 nx) W3 nx
  obtain ⟨_, _, ⟨T4, L4, k4, n4⟩, -, X4, ⟨Lc4, hQ4, l4, y4, z4⟩, st4⟩ := X3.interfaceBack hx (xi := (⟨"java/util/List", "add", "(Ljava/lang/Object;)Z"⟩ : MethodName)) (y := (⟨"java/util/ArrayList", "add", "(Ljava/lang/Object;)Z"⟩ : MethodName)) hown (mvT hZ (hw _ (List.mem_of_getElem? (i := 29) rfl))) (mvT hZ (hw _ (List.mem_of_getElem? (i := 30) rfl))) (mvT hZ (hw _ (List.mem_of_getElem? (i := 31) rfl))) (mvT hZ (hw _ (List.mem_of_getElem? (i := 32) rfl))) (mvT hZ (hw _ (List.mem_of_getElem? (i := 33) rfl))) (mvT hZ (hw _ (List.mem_of_getElem? (i := 34) rfl))) (mvT hZ (hw _ (List.mem_of_getElem? (i := 35) rfl))) (mvT hZ (hw _ (List.mem_of_getElem? (i := 36) rfl))) (by decide) (backOf (W := 0) (rm5a l Z a0 hw [] b x mo n d h3 n0 (Nat.le_trans hz K3.1) G3 Em3 g_b E3 (by rw [hn0]; decide) hn0) hZ (hw _ (List.mem_of_getElem? (i := 37) rfl)) (hw _ (List.mem_of_getElem? (i := 4) rfl)) (by decide) (by decide)) q4a q4b q4c (g := (mkF m 124 (own_L p1 p2 p3 p4 p5 p6 cn l0 g1 l1 g2 l2 f0 t0 f1 t1 f2 t2 b ex) [(.ref x), (.ref b)])) rfl (by rw [hml]; rfl) (Steps.refl _) (argsL := [(.ref x)]) (rest := []) (lenOf pd_add rfl) rfl (by show 2 * 0 + _ ≤ _; exact Nat.le_of_eq rfl) (hb hby at_124) (fun _ _ => ⟨rfl, e3, hc, hs⟩)
  dsimp only [Pt.U, Pt.locs, Pt.cells, Pt.slots] at X4 l4 y4 z4 st4 hQ4
  subst l4 y4 z4
  obtain ⟨rfl, N4q, K4, d', zd', G4, D4⟩ := hQ4
  have N4 := Fr.app N3 N4q
  refine ⟨T4, _, _, x, d', X4, rfl, N4, Nat.le_trans K3.1 K4.1, G4, D4, own_Pr_keep P3 K4 (ninS (ne_exa E3 G3.1 (by decide)) nin0), Nat.le_trans (Nat.le_trans hz K3.1) zd', fun target kt => ?_⟩
  show Steps p.tables e below (T0.setTop (mkF m 107 (own_L p1 p2 p3 p4 p5 p6 cn l0 g1 l1 g2 l2 f0 t0 f1 t1 f2 t2 b ex) [])) _
  refine XS.aload X0.here hx rfl (hb hby at_107) rfl rfl ?_
  show Steps p.tables e below (T0.setTop (mkF m 109 (own_L p1 p2 p3 p4 p5 p6 cn l0 g1 l1 g2 l2 f0 t0 f1 t1 f2 t2 b ex) [(.ref b)])) _
  refine XS.iconst X0.here hx rfl (hb hby at_109) ?_
  show Steps p.tables e below (T0.setTop (mkF m 110 (own_L p1 p2 p3 p4 p5 p6 cn l0 g1 l1 g2 l2 f0 t0 f1 t1 f2 t2 b ex) [(.int (2 : Int32)), (.ref b)])) _
  refine st1 _ ?_
  show Steps p.tables e below (T1.setTop (mkF m 112 (own_L p1 p2 p3 p4 p5 p6 cn l0 g1 l1 g2 l2 f0 t0 f1 t1 f2 t2 b ex) [(.ref x), (.ref b)])) _
  refine XS.dup X1.here hx rfl (hb hby at_112) rfl rfl ?_
  show Steps p.tables e below (T1.setTop (mkF m 113 (own_L p1 p2 p3 p4 p5 p6 cn l0 g1 l1 g2 l2 f0 t0 f1 t1 f2 t2 b ex) [(.ref x), (.ref x), (.ref b)])) _
  refine XS.iconst X1.here hx rfl (hb hby at_113) ?_
  show Steps p.tables e below (T1.setTop (mkF m 114 (own_L p1 p2 p3 p4 p5 p6 cn l0 g1 l1 g2 l2 f0 t0 f1 t1 f2 t2 b ex) [(.int (0 : Int32)), (.ref x), (.ref x), (.ref b)])) _
  refine XS.lload X1.here hx rfl (hb hby at_114) rfl ?_
  show Steps p.tables e below (T1.setTop (mkF m 116 (own_L p1 p2 p3 p4 p5 p6 cn l0 g1 l1 g2 l2 f0 t0 f1 t1 f2 t2 b ex) [(.long f0), (.int (0 : Int32)), (.ref x), (.ref x), (.ref b)])) _
  refine XS.l2dS X1.here hx rfl (hb hby at_116) rfl rfl ?_
  show Steps p.tables e below (T1.setTop (mkF m 117 (own_L p1 p2 p3 p4 p5 p6 cn l0 g1 l1 g2 l2 f0 t0 f1 t1 f2 t2 b ex) [(.double (FP.l2d f0)), (.int (0 : Int32)), (.ref x), (.ref x), (.ref b)])) _
  refine st2 _ ?_
  show Steps p.tables e below (T2.setTop (mkF m 118 (own_L p1 p2 p3 p4 p5 p6 cn l0 g1 l1 g2 l2 f0 t0 f1 t1 f2 t2 b ex) [(.ref x), (.ref b)])) _
  refine XS.dup X2.here hx rfl (hb hby at_118) rfl rfl ?_
  show Steps p.tables e below (T2.setTop (mkF m 119 (own_L p1 p2 p3 p4 p5 p6 cn l0 g1 l1 g2 l2 f0 t0 f1 t1 f2 t2 b ex) [(.ref x), (.ref x), (.ref b)])) _
  refine XS.iconst X2.here hx rfl (hb hby at_119) ?_
  show Steps p.tables e below (T2.setTop (mkF m 120 (own_L p1 p2 p3 p4 p5 p6 cn l0 g1 l1 g2 l2 f0 t0 f1 t1 f2 t2 b ex) [(.int (1 : Int32)), (.ref x), (.ref x), (.ref b)])) _
  refine XS.lload X2.here hx rfl (hb hby at_120) rfl ?_
  show Steps p.tables e below (T2.setTop (mkF m 122 (own_L p1 p2 p3 p4 p5 p6 cn l0 g1 l1 g2 l2 f0 t0 f1 t1 f2 t2 b ex) [(.long t0), (.int (1 : Int32)), (.ref x), (.ref x), (.ref b)])) _
  refine XS.l2dS X2.here hx rfl (hb hby at_122) rfl rfl ?_
  show Steps p.tables e below (T2.setTop (mkF m 123 (own_L p1 p2 p3 p4 p5 p6 cn l0 g1 l1 g2 l2 f0 t0 f1 t1 f2 t2 b ex) [(.double (FP.l2d t0)), (.int (1 : Int32)), (.ref x), (.ref x), (.ref b)])) _
  refine st3 _ ?_
  show Steps p.tables e below (T3.setTop (mkF m 124 (own_L p1 p2 p3 p4 p5 p6 cn l0 g1 l1 g2 l2 f0 t0 f1 t1 f2 t2 b ex) [(.ref x), (.ref b)])) _
  refine st4.trans ?_
  show Steps p.tables e below (T4.setTop (mkF m 129 (own_L p1 p2 p3 p4 p5 p6 cn l0 g1 l1 g2 l2 f0 t0 f1 t1 f2 t2 b ex) [(.int (1 : Int32))])) _
  refine XS.pop X4.here hx rfl (hb hby at_129) rfl rfl ?_
  show Steps p.tables e below (T4.setTop (mkF m 130 (own_L p1 p2 p3 p4 p5 p6 cn l0 g1 l1 g2 l2 f0 t0 f1 t1 f2 t2 b ex) [])) _
  refine XS.lload X4.here hx rfl (hb hby at_130) rfl ?_
  show Steps p.tables e below (T4.setTop (mkF m 132 (own_L p1 p2 p3 p4 p5 p6 cn l0 g1 l1 g2 l2 f0 t0 f1 t1 f2 t2 b ex) [(.long ex)])) _
  refine XS.lload X4.here hx rfl (hb hby at_132) rfl ?_
  show Steps p.tables e below (T4.setTop (mkF m 134 (own_L p1 p2 p3 p4 p5 p6 cn l0 g1 l1 g2 l2 f0 t0 f1 t1 f2 t2 b ex) [(.long l0), (.long ex)])) _
  refine XS.ladd X4.here hx rfl (hb hby at_134) rfl ?_
  show Steps p.tables e below (T4.setTop (mkF m 135 (own_L p1 p2 p3 p4 p5 p6 cn l0 g1 l1 g2 l2 f0 t0 f1 t1 f2 t2 b ex) [(.long (ex + l0))])) _
  refine XS.lstore X4.here hx rfl (hb hby at_135) rfl (l' := (own_L p1 p2 p3 p4 p5 p6 cn l0 g1 l1 g2 l2 f0 t0 f1 t1 f2 t2 b (ex + l0))) rfl ?_
  show Steps p.tables e below (T4.setTop (mkF m 137 (own_L p1 p2 p3 p4 p5 p6 cn l0 g1 l1 g2 l2 f0 t0 f1 t1 f2 t2 b (ex + l0)) [])) _
  exact kt
set_option maxRecDepth 65536 in
set_option maxHeartbeats 40000000 in
theorem own_seg2 {p : Program} {l : Launch} {e : Env} {s : State} {m : MethodId} {args : Array Value} {below : List Frame} {meth : Method} {c : Code} {T0 : State} {locs : List Loc} {cells slots : Nat} {Z : State} {a0 : Array Value} {h0 : Heap} (n0 : Nat) (p1 p2 p3 p4 p5 p6 cn : Int32) (l0 g1 l1 g2 l2 f0 t0 f1 t1 f2 t2 : Int64) (b : Addr) (ex : Int64) (d : Addr) (mo n : Int32) (vs : List Value)
    (X0 : Stand p l e room_1 s m args below meth c T0 locs cells slots) (hx : p.tables.exec = Jvm.exec) (hZ : Z.Warmed39 s.vm) (hw : ∀ d ∈ tables_1, d.before a0 Z = true) (hby : c.code = code) (hml : c.maxLocals = 32) (hown : s.vm.findClass "com/example/waypost/waypost/coverage/IntervalsLengthPinLaw" = some m.cls) (e0 : T0.heap = h0) (hc : cells + 1 + 0 ≤ 24) (hs : slots + 2 + 0 ≤ 128) (G : own_Lst Z h0 b mo d n) (D : own_Dat Z h0 d vs) (g_d : n0 ≤ d) (hn : n.toNatClampNeg = vs.length ∧ ¬ n < 0 ∧ n < (10 : Int32) ∧ ¬ n = (10 : Int32)) (g_b : n0 ≤ b) (hz : n0 ≤ h0.size) (N0 : Fr n0 locs) :
    ∃ (T' : State) (h' : Heap) (locs' : List Loc) (x : Addr), Stand p l e room_1 s m args below meth c T' locs' (cells + 1 + 0) (slots + 2 + 0) ∧ T'.heap = h' ∧ Fr n0 locs' ∧ h0.size ≤ h'.size ∧ own_Lst Z h' b (mo + (1 : Int32)) d (n + (1 : Int32)) ∧ own_Dat Z h' d (vs ++ [.ref x]) ∧ own_Pr Z h' x (FP.l2d f1) (FP.l2d t1) ∧ (∀ y u w, own_Pr Z h0 y u w → own_Pr Z h' y u w) ∧
      ∀ target, Steps p.tables e below (T'.setTop (mkF m 173 (own_L p1 p2 p3 p4 p5 p6 cn l0 g1 l1 g2 l2 f0 t0 f1 t1 f2 t2 b (ex + l1)) [])) target → Steps p.tables e below (T0.setTop (mkF m 143 (own_L p1 p2 p3 p4 p5 p6 cn l0 g1 l1 g2 l2 f0 t0 f1 t1 f2 t2 b ex) [])) target := by
  obtain ⟨T1, h1, cA, X1, e1, E1, A1, Ex1, st1⟩ := newPE X0 hx hZ (aty := .double) (hw _ (List.mem_of_getElem? (i := 28) rfl)) e0 (g := (mkF m 146 (own_L p1 p2 p3 p4 p5 p6 cn l0 g1 l1 g2 l2 f0 t0 f1 t1 f2 t2 b ex) [(.int (2 : Int32)), (.ref b)])) rfl (hb hby at_146) rfl (by decide) (cap := 2) (by decide) (by decide) (show cells + 1 ≤ 24 by omega) (show slots + 2 ≤ 128 by omega) (ad := "[D") (by decide)
  obtain ⟨x, gx⟩ : ∃ z, z = h0.size := ⟨_, rfl⟩
  rw [← gx] at A1 Ex1 st1
  have V1 : Arv Z h1 x cA .double (2 : Int32) [.double 0, .double 0] (.double 0) := (Arv.new A1 (by decide)).pad (pad_rep [] (.double 0) 2)
  have zx : h0.size ≤ x := Nat.le_of_eq gx.symm
  have gnx : n0 ≤ x := Nat.le_trans hz zx
  obtain ⟨c1, Ar1, qc1, S1, Nn1, H1, G1⟩ := V1
  obtain ⟨T2, h2, X2, e2, W2, st2⟩ := stD X1 hx hZ e1 Ar1 (j := (0 : Int32)) (x := FP.l2d f1) (inb_of S1 (by decide)) (g := (mkF m 153 (own_L p1 p2 p3 p4 p5 p6 cn l0 g1 l1 g2 l2 f0 t0 f1 t1 f2 t2 b ex) [(.double (FP.l2d f1)), (.int (0 : Int32)), (.ref x), (.ref x), (.ref b)])) rfl rfl (hb hby at_153)
  have N2 := Fr.snoc X2 N0 gnx
  have V2 : Arv Z h2 x cA .double (2 : Int32) [.double (FP.l2d f1), .double 0] (.double 0) := Arv.set Ar1 qc1 S1 Nn1 H1 G1 rfl W2 0 (by decide) (by show 0 < 2; decide)
  obtain ⟨c2, Ar2, qc2, S2, Nn2, H2, G2⟩ := V2
  obtain ⟨T3, h3, X3, e3, W3, st3⟩ := stD X2 hx hZ e2 Ar2 (j := (1 : Int32)) (x := FP.l2d t1) (inb_of S2 (by decide)) (g := (mkF m 159 (own_L p1 p2 p3 p4 p5 p6 cn l0 g1 l1 g2 l2 f0 t0 f1 t1 f2 t2 b ex) [(.double (FP.l2d t1)), (.int (1 : Int32)), (.ref x), (.ref x), (.ref b)])) rfl rfl (hb hby at_159)
  have N3 := Fr.snoc X3 N2 gnx
  have V3 : Arv Z h3 x cA .double (2 : Int32) [.double (FP.l2d f1), .double (FP.l2d t1)] (.double 0) := Arv.set Ar2 qc2 S2 Nn2 H2 G2 rfl W3 1 (by decide) (by show 1 < 2; decide)
  have E3 := (Ex1.wr W2).wr W3
  have P3 : own_Pr Z h3 x (FP.l2d f1) (FP.l2d t1) := ⟨E3, cA, V3⟩
  have K3 : Keep h0 h3 [] := (((Keep.refl h0 []).ext E1).wr W2 (Or.inr zx)).wr W3 (Or.inr zx)
  have G3 := own_Lst_keep G K3 nin0
  obtain ⟨cq4, kq4, q4a, q4b, q4c⟩ := isOf hZ e3 G3.1
  have D3 := own_Dat_keep D K3 nin0
  obtain ⟨_, _, ⟨T4, L4, k4, n4⟩, -, X4, ⟨Lc4, hQ4, l4, y4, z4⟩, st4⟩ := X3.interfaceBack hx (xi := (⟨"java/util/List", "add", "(Ljava/lang/Object;)Z"⟩ : MethodName)) (y := (⟨"java/util/ArrayList", "add", "(Ljava/lang/Object;)Z"⟩ : MethodName)) hown (mvT hZ (hw _ (List.mem_of_getElem? (i := 29) rfl))) (mvT hZ (hw _ (List.mem_of_getElem? (i := 30) rfl))) (mvT hZ (hw _ (List.mem_of_getElem? (i := 31) rfl))) (mvT hZ (hw _ (List.mem_of_getElem? (i := 32) rfl))) (mvT hZ (hw _ (List.mem_of_getElem? (i := 33) rfl))) (mvT hZ (hw _ (List.mem_of_getElem? (i := 34) rfl))) (mvT hZ (hw _ (List.mem_of_getElem? (i := 35) rfl))) (mvT hZ (hw _ (List.mem_of_getElem? (i := 36) rfl))) (by decide) (backOf (W := 0) (rm5b l Z a0 hw [] b x mo n d vs h3 n0 (Nat.le_trans hz K3.1) G3 D3 g_b g_d E3 hn) hZ (hw _ (List.mem_of_getElem? (i := 37) rfl)) (hw _ (List.mem_of_getElem? (i := 4) rfl)) (by decide) (by decide)) q4a q4b q4c (g := (mkF m 160 (own_L p1 p2 p3 p4 p5 p6 cn l0 g1 l1 g2 l2 f0 t0 f1 t1 f2 t2 b ex) [(.ref x), (.ref b)])) rfl (by rw [hml]; rfl) (Steps.refl _) (argsL := [(.ref x)]) (rest := []) (lenOf pd_add rfl) rfl (by show 2 * 0 + _ ≤ _; exact Nat.le_of_eq rfl) (hb hby at_160) (fun _ _ => ⟨rfl, e3, hc, hs⟩)
  dsimp only [Pt.U, Pt.locs, Pt.cells, Pt.slots] at X4 l4 y4 z4 st4 hQ4
  subst l4 y4 z4
  obtain ⟨rfl, N4q, K4, G4, D4⟩ := hQ4
  have N4 := Fr.app N3 N4q
  have car : ∀ y u w, own_Pr Z h3 y u w → own_Pr Z T4.heap y u w := fun y u w P => own_Pr_keep P K4 (ninS (own_ne P D3) (ninS (ne_exa P.1 G3.1 (by decide)) nin0))
  refine ⟨T4, _, _, x, X4, rfl, N4, Nat.le_trans K3.1 K4.1, G4, D4, car _ _ _ P3, fun y u w P => car _ _ _ (own_Pr_keep P K3 nin0), fun target kt => ?_⟩
  show Steps p.tables e below (T0.setTop (mkF m 143 (own_L p1 p2 p3 p4 p5 p6 cn l0 g1 l1 g2 l2 f0 t0 f1 t1 f2 t2 b ex) [])) _
  refine XS.aload X0.here hx rfl (hb hby at_143) rfl rfl ?_
  show Steps p.tables e below (T0.setTop (mkF m 145 (own_L p1 p2 p3 p4 p5 p6 cn l0 g1 l1 g2 l2 f0 t0 f1 t1 f2 t2 b ex) [(.ref b)])) _
  refine XS.iconst X0.here hx rfl (hb hby at_145) ?_
  show Steps p.tables e below (T0.setTop (mkF m 146 (own_L p1 p2 p3 p4 p5 p6 cn l0 g1 l1 g2 l2 f0 t0 f1 t1 f2 t2 b ex) [(.int (2 : Int32)), (.ref b)])) _
  refine st1 _ ?_
  show Steps p.tables e below (T1.setTop (mkF m 148 (own_L p1 p2 p3 p4 p5 p6 cn l0 g1 l1 g2 l2 f0 t0 f1 t1 f2 t2 b ex) [(.ref x), (.ref b)])) _
  refine XS.dup X1.here hx rfl (hb hby at_148) rfl rfl ?_
  show Steps p.tables e below (T1.setTop (mkF m 149 (own_L p1 p2 p3 p4 p5 p6 cn l0 g1 l1 g2 l2 f0 t0 f1 t1 f2 t2 b ex) [(.ref x), (.ref x), (.ref b)])) _
  refine XS.iconst X1.here hx rfl (hb hby at_149) ?_
  show Steps p.tables e below (T1.setTop (mkF m 150 (own_L p1 p2 p3 p4 p5 p6 cn l0 g1 l1 g2 l2 f0 t0 f1 t1 f2 t2 b ex) [(.int (0 : Int32)), (.ref x), (.ref x), (.ref b)])) _
  refine XS.lload X1.here hx rfl (hb hby at_150) rfl ?_
  show Steps p.tables e below (T1.setTop (mkF m 152 (own_L p1 p2 p3 p4 p5 p6 cn l0 g1 l1 g2 l2 f0 t0 f1 t1 f2 t2 b ex) [(.long f1), (.int (0 : Int32)), (.ref x), (.ref x), (.ref b)])) _
  refine XS.l2dS X1.here hx rfl (hb hby at_152) rfl rfl ?_
  show Steps p.tables e below (T1.setTop (mkF m 153 (own_L p1 p2 p3 p4 p5 p6 cn l0 g1 l1 g2 l2 f0 t0 f1 t1 f2 t2 b ex) [(.double (FP.l2d f1)), (.int (0 : Int32)), (.ref x), (.ref x), (.ref b)])) _
  refine st2 _ ?_
  show Steps p.tables e below (T2.setTop (mkF m 154 (own_L p1 p2 p3 p4 p5 p6 cn l0 g1 l1 g2 l2 f0 t0 f1 t1 f2 t2 b ex) [(.ref x), (.ref b)])) _
  refine XS.dup X2.here hx rfl (hb hby at_154) rfl rfl ?_
  show Steps p.tables e below (T2.setTop (mkF m 155 (own_L p1 p2 p3 p4 p5 p6 cn l0 g1 l1 g2 l2 f0 t0 f1 t1 f2 t2 b ex) [(.ref x), (.ref x), (.ref b)])) _
  refine XS.iconst X2.here hx rfl (hb hby at_155) ?_
  show Steps p.tables e below (T2.setTop (mkF m 156 (own_L p1 p2 p3 p4 p5 p6 cn l0 g1 l1 g2 l2 f0 t0 f1 t1 f2 t2 b ex) [(.int (1 : Int32)), (.ref x), (.ref x), (.ref b)])) _
  refine XS.lload X2.here hx rfl (hb hby at_156) rfl ?_
  show Steps p.tables e below (T2.setTop (mkF m 158 (own_L p1 p2 p3 p4 p5 p6 cn l0 g1 l1 g2 l2 f0 t0 f1 t1 f2 t2 b ex) [(.long t1), (.int (1 : Int32)), (.ref x), (.ref x), (.ref b)])) _
  refine XS.l2dS X2.here hx rfl (hb hby at_158) rfl rfl ?_
  show Steps p.tables e below (T2.setTop (mkF m 159 (own_L p1 p2 p3 p4 p5 p6 cn l0 g1 l1 g2 l2 f0 t0 f1 t1 f2 t2 b ex) [(.double (FP.l2d t1)), (.int (1 : Int32)), (.ref x), (.ref x), (.ref b)])) _
  refine st3 _ ?_
  show Steps p.tables e below (T3.setTop (mkF m 160 (own_L p1 p2 p3 p4 p5 p6 cn l0 g1 l1 g2 l2 f0 t0 f1 t1 f2 t2 b ex) [(.ref x), (.ref b)])) _
  refine st4.trans ?_
  show Steps p.tables e below (T4.setTop (mkF m 165 (own_L p1 p2 p3 p4 p5 p6 cn l0 g1 l1 g2 l2 f0 t0 f1 t1 f2 t2 b ex) [(.int (1 : Int32))])) _
  refine XS.pop X4.here hx rfl (hb hby at_165) rfl rfl ?_
  show Steps p.tables e below (T4.setTop (mkF m 166 (own_L p1 p2 p3 p4 p5 p6 cn l0 g1 l1 g2 l2 f0 t0 f1 t1 f2 t2 b ex) [])) _
  refine XS.lload X4.here hx rfl (hb hby at_166) rfl ?_
  show Steps p.tables e below (T4.setTop (mkF m 168 (own_L p1 p2 p3 p4 p5 p6 cn l0 g1 l1 g2 l2 f0 t0 f1 t1 f2 t2 b ex) [(.long ex)])) _
  refine XS.lload X4.here hx rfl (hb hby at_168) rfl ?_
  show Steps p.tables e below (T4.setTop (mkF m 170 (own_L p1 p2 p3 p4 p5 p6 cn l0 g1 l1 g2 l2 f0 t0 f1 t1 f2 t2 b ex) [(.long l1), (.long ex)])) _
  refine XS.ladd X4.here hx rfl (hb hby at_170) rfl ?_
  show Steps p.tables e below (T4.setTop (mkF m 171 (own_L p1 p2 p3 p4 p5 p6 cn l0 g1 l1 g2 l2 f0 t0 f1 t1 f2 t2 b ex) [(.long (ex + l1))])) _
  refine XS.lstore X4.here hx rfl (hb hby at_171) rfl (l' := (own_L p1 p2 p3 p4 p5 p6 cn l0 g1 l1 g2 l2 f0 t0 f1 t1 f2 t2 b (ex + l1))) rfl ?_
  show Steps p.tables e below (T4.setTop (mkF m 173 (own_L p1 p2 p3 p4 p5 p6 cn l0 g1 l1 g2 l2 f0 t0 f1 t1 f2 t2 b (ex + l1)) [])) _
  exact kt
set_option maxRecDepth 65536 in
set_option maxHeartbeats 40000000 in
theorem own_seg3 {p : Program} {l : Launch} {e : Env} {s : State} {m : MethodId} {args : Array Value} {below : List Frame} {meth : Method} {c : Code} {T0 : State} {locs : List Loc} {cells slots : Nat} {Z : State} {a0 : Array Value} {h0 : Heap} (n0 : Nat) (p1 p2 p3 p4 p5 p6 cn : Int32) (l0 g1 l1 g2 l2 f0 t0 f1 t1 f2 t2 : Int64) (b : Addr) (ex : Int64) (d : Addr) (mo n : Int32) (vs : List Value)
    (X0 : Stand p l e room_1 s m args below meth c T0 locs cells slots) (hx : p.tables.exec = Jvm.exec) (hZ : Z.Warmed39 s.vm) (hw : ∀ d ∈ tables_1, d.before a0 Z = true) (hby : c.code = code) (hml : c.maxLocals = 32) (hown : s.vm.findClass "com/example/waypost/waypost/coverage/IntervalsLengthPinLaw" = some m.cls) (e0 : T0.heap = h0) (hc : cells + 1 + 0 ≤ 24) (hs : slots + 2 + 0 ≤ 128) (G : own_Lst Z h0 b mo d n) (D : own_Dat Z h0 d vs) (g_d : n0 ≤ d) (hn : n.toNatClampNeg = vs.length ∧ ¬ n < 0 ∧ n < (10 : Int32) ∧ ¬ n = (10 : Int32)) (g_b : n0 ≤ b) (hz : n0 ≤ h0.size) (N0 : Fr n0 locs) :
    ∃ (T' : State) (h' : Heap) (locs' : List Loc) (x : Addr), Stand p l e room_1 s m args below meth c T' locs' (cells + 1 + 0) (slots + 2 + 0) ∧ T'.heap = h' ∧ Fr n0 locs' ∧ h0.size ≤ h'.size ∧ own_Lst Z h' b (mo + (1 : Int32)) d (n + (1 : Int32)) ∧ own_Dat Z h' d (vs ++ [.ref x]) ∧ own_Pr Z h' x (FP.l2d f2) (FP.l2d t2) ∧ (∀ y u w, own_Pr Z h0 y u w → own_Pr Z h' y u w) ∧
      ∀ target, Steps p.tables e below (T'.setTop (mkF m 209 (own_L p1 p2 p3 p4 p5 p6 cn l0 g1 l1 g2 l2 f0 t0 f1 t1 f2 t2 b (ex + l2)) [])) target → Steps p.tables e below (T0.setTop (mkF m 179 (own_L p1 p2 p3 p4 p5 p6 cn l0 g1 l1 g2 l2 f0 t0 f1 t1 f2 t2 b ex) [])) target := by
  obtain ⟨T1, h1, cA, X1, e1, E1, A1, Ex1, st1⟩ := newPE X0 hx hZ (aty := .double) (hw _ (List.mem_of_getElem? (i := 28) rfl)) e0 (g := (mkF m 182 (own_L p1 p2 p3 p4 p5 p6 cn l0 g1 l1 g2 l2 f0 t0 f1 t1 f2 t2 b ex) [(.int (2 : Int32)), (.ref b)])) rfl (hb hby at_182) rfl (by decide) (cap := 2) (by decide) (by decide) (show cells + 1 ≤ 24 by omega) (show slots + 2 ≤ 128 by omega) (ad := "[D") (by decide)
  obtain ⟨x, gx⟩ : ∃ z, z = h0.size := ⟨_, rfl⟩
  rw [← gx] at A1 Ex1 st1
  have V1 : Arv Z h1 x cA .double (2 : Int32) [.double 0, .double 0] (.double 0) := (Arv.new A1 (by decide)).pad (pad_rep [] (.double 0) 2)
  have zx : h0.size ≤ x := Nat.le_of_eq gx.symm
  have gnx : n0 ≤ x := Nat.le_trans hz zx
  obtain ⟨c1, Ar1, qc1, S1, Nn1, H1, G1⟩ := V1
  obtain ⟨T2, h2, X2, e2, W2, st2⟩ := stD X1 hx hZ e1 Ar1 (j := (0 : Int32)) (x := FP.l2d f2) (inb_of S1 (by decide)) (g := (mkF m 189 (own_L p1 p2 p3 p4 p5 p6 cn l0 g1 l1 g2 l2 f0 t0 f1 t1 f2 t2 b ex) [(.double (FP.l2d f2)), (.int (0 : Int32)), (.ref x), (.ref x), (.ref b)])) rfl rfl (hb hby at_189)
  have N2 := Fr.snoc X2 N0 gnx
  have V2 : Arv Z h2 x cA .double (2 : Int32) [.double (FP.l2d f2), .double 0] (.double 0) := Arv.set Ar1 qc1 S1 Nn1 H1 G1 rfl W2 0 (by decide) (by show 0 < 2; decide)
  obtain ⟨c2, Ar2, qc2, S2, Nn2, H2, G2⟩ := V2
  obtain ⟨T3, h3, X3, e3, W3, st3⟩ := stD X2 hx hZ e2 Ar2 (j := (1 : Int32)) (x := FP.l2d t2) (inb_of S2 (by decide)) (g := (mkF m 195 (own_L p1 p2 p3 p4 p5 p6 cn l0 g1 l1 g2 l2 f0 t0 f1 t1 f2 t2 b ex) [(.double (FP.l2d t2)), (.int (1 : Int32)), (.ref x), (.ref x), (.ref b)])) rfl rfl (hb hby at_195)
  have N3 := Fr.snoc X3 N2 gnx
  have V3 : Arv Z h3 x cA .double (2 : Int32) [.double (FP.l2d f2), .double (FP.l2d t2)] (.double 0) := Arv.set Ar2 qc2 S2 Nn2 H2 G2 rfl W3 1 (by decide) (by show 1 < 2; decide)
  have E3 := (Ex1.wr W2).wr W3
  have P3 : own_Pr Z h3 x (FP.l2d f2) (FP.l2d t2) := ⟨E3, cA, V3⟩
  have K3 : Keep h0 h3 [] := (((Keep.refl h0 []).ext E1).wr W2 (Or.inr zx)).wr W3 (Or.inr zx)
  have G3 := own_Lst_keep G K3 nin0
  obtain ⟨cq4, kq4, q4a, q4b, q4c⟩ := isOf hZ e3 G3.1
  have D3 := own_Dat_keep D K3 nin0
  obtain ⟨_, _, ⟨T4, L4, k4, n4⟩, -, X4, ⟨Lc4, hQ4, l4, y4, z4⟩, st4⟩ := X3.interfaceBack hx (xi := (⟨"java/util/List", "add", "(Ljava/lang/Object;)Z"⟩ : MethodName)) (y := (⟨"java/util/ArrayList", "add", "(Ljava/lang/Object;)Z"⟩ : MethodName)) hown (mvT hZ (hw _ (List.mem_of_getElem? (i := 29) rfl))) (mvT hZ (hw _ (List.mem_of_getElem? (i := 30) rfl))) (mvT hZ (hw _ (List.mem_of_getElem? (i := 31) rfl))) (mvT hZ (hw _ (List.mem_of_getElem? (i := 32) rfl))) (mvT hZ (hw _ (List.mem_of_getElem? (i := 33) rfl))) (mvT hZ (hw _ (List.mem_of_getElem? (i := 34) rfl))) (mvT hZ (hw _ (List.mem_of_getElem? (i := 35) rfl))) (mvT hZ (hw _ (List.mem_of_getElem? (i := 36) rfl))) (by decide) (backOf (W := 0) (rm5b l Z a0 hw [] b x mo n d vs h3 n0 (Nat.le_trans hz K3.1) G3 D3 g_b g_d E3 hn) hZ (hw _ (List.mem_of_getElem? (i := 37) rfl)) (hw _ (List.mem_of_getElem? (i := 4) rfl)) (by decide) (by decide)) q4a q4b q4c (g := (mkF m 196 (own_L p1 p2 p3 p4 p5 p6 cn l0 g1 l1 g2 l2 f0 t0 f1 t1 f2 t2 b ex) [(.ref x), (.ref b)])) rfl (by rw [hml]; rfl) (Steps.refl _) (argsL := [(.ref x)]) (rest := []) (lenOf pd_add rfl) rfl (by show 2 * 0 + _ ≤ _; exact Nat.le_of_eq rfl) (hb hby at_196) (fun _ _ => ⟨rfl, e3, hc, hs⟩)
  dsimp only [Pt.U, Pt.locs, Pt.cells, Pt.slots] at X4 l4 y4 z4 st4 hQ4
  subst l4 y4 z4
  obtain ⟨rfl, N4q, K4, G4, D4⟩ := hQ4
  have N4 := Fr.app N3 N4q
  have car : ∀ y u w, own_Pr Z h3 y u w → own_Pr Z T4.heap y u w := fun y u w P => own_Pr_keep P K4 (ninS (own_ne P D3) (ninS (ne_exa P.1 G3.1 (by decide)) nin0))
  refine ⟨T4, _, _, x, X4, rfl, N4, Nat.le_trans K3.1 K4.1, G4, D4, car _ _ _ P3, fun y u w P => car _ _ _ (own_Pr_keep P K3 nin0), fun target kt => ?_⟩
  show Steps p.tables e below (T0.setTop (mkF m 179 (own_L p1 p2 p3 p4 p5 p6 cn l0 g1 l1 g2 l2 f0 t0 f1 t1 f2 t2 b ex) [])) _
  refine XS.aload X0.here hx rfl (hb hby at_179) rfl rfl ?_
  show Steps p.tables e below (T0.setTop (mkF m 181 (own_L p1 p2 p3 p4 p5 p6 cn l0 g1 l1 g2 l2 f0 t0 f1 t1 f2 t2 b ex) [(.ref b)])) _
  refine XS.iconst X0.here hx rfl (hb hby at_181) ?_
  show Steps p.tables e below (T0.setTop (mkF m 182 (own_L p1 p2 p3 p4 p5 p6 cn l0 g1 l1 g2 l2 f0 t0 f1 t1 f2 t2 b ex) [(.int (2 : Int32)), (.ref b)])) _
  refine st1 _ ?_
  show Steps p.tables e below (T1.setTop (mkF m 184 (own_L p1 p2 p3 p4 p5 p6 cn l0 g1 l1 g2 l2 f0 t0 f1 t1 f2 t2 b ex) [(.ref x), (.ref b)])) _
  refine XS.dup X1.here hx rfl (hb hby at_184) rfl rfl ?_
  show Steps p.tables e below (T1.setTop (mkF m 185 (own_L p1 p2 p3 p4 p5 p6 cn l0 g1 l1 g2 l2 f0 t0 f1 t1 f2 t2 b ex) [(.ref x), (.ref x), (.ref b)])) _
  refine XS.iconst X1.here hx rfl (hb hby at_185) ?_
  show Steps p.tables e below (T1.setTop (mkF m 186 (own_L p1 p2 p3 p4 p5 p6 cn l0 g1 l1 g2 l2 f0 t0 f1 t1 f2 t2 b ex) [(.int (0 : Int32)), (.ref x), (.ref x), (.ref b)])) _
  refine XS.lload X1.here hx rfl (hb hby at_186) rfl ?_
  show Steps p.tables e below (T1.setTop (mkF m 188 (own_L p1 p2 p3 p4 p5 p6 cn l0 g1 l1 g2 l2 f0 t0 f1 t1 f2 t2 b ex) [(.long f2), (.int (0 : Int32)), (.ref x), (.ref x), (.ref b)])) _
  refine XS.l2dS X1.here hx rfl (hb hby at_188) rfl rfl ?_
  show Steps p.tables e below (T1.setTop (mkF m 189 (own_L p1 p2 p3 p4 p5 p6 cn l0 g1 l1 g2 l2 f0 t0 f1 t1 f2 t2 b ex) [(.double (FP.l2d f2)), (.int (0 : Int32)), (.ref x), (.ref x), (.ref b)])) _
  refine st2 _ ?_
  show Steps p.tables e below (T2.setTop (mkF m 190 (own_L p1 p2 p3 p4 p5 p6 cn l0 g1 l1 g2 l2 f0 t0 f1 t1 f2 t2 b ex) [(.ref x), (.ref b)])) _
  refine XS.dup X2.here hx rfl (hb hby at_190) rfl rfl ?_
  show Steps p.tables e below (T2.setTop (mkF m 191 (own_L p1 p2 p3 p4 p5 p6 cn l0 g1 l1 g2 l2 f0 t0 f1 t1 f2 t2 b ex) [(.ref x), (.ref x), (.ref b)])) _
  refine XS.iconst X2.here hx rfl (hb hby at_191) ?_
  show Steps p.tables e below (T2.setTop (mkF m 192 (own_L p1 p2 p3 p4 p5 p6 cn l0 g1 l1 g2 l2 f0 t0 f1 t1 f2 t2 b ex) [(.int (1 : Int32)), (.ref x), (.ref x), (.ref b)])) _
  refine XS.lload X2.here hx rfl (hb hby at_192) rfl ?_
  show Steps p.tables e below (T2.setTop (mkF m 194 (own_L p1 p2 p3 p4 p5 p6 cn l0 g1 l1 g2 l2 f0 t0 f1 t1 f2 t2 b ex) [(.long t2), (.int (1 : Int32)), (.ref x), (.ref x), (.ref b)])) _
  refine XS.l2dS X2.here hx rfl (hb hby at_194) rfl rfl ?_
  show Steps p.tables e below (T2.setTop (mkF m 195 (own_L p1 p2 p3 p4 p5 p6 cn l0 g1 l1 g2 l2 f0 t0 f1 t1 f2 t2 b ex) [(.double (FP.l2d t2)), (.int (1 : Int32)), (.ref x), (.ref x), (.ref b)])) _
  refine st3 _ ?_
  show Steps p.tables e below (T3.setTop (mkF m 196 (own_L p1 p2 p3 p4 p5 p6 cn l0 g1 l1 g2 l2 f0 t0 f1 t1 f2 t2 b ex) [(.ref x), (.ref b)])) _
  refine st4.trans ?_
  show Steps p.tables e below (T4.setTop (mkF m 201 (own_L p1 p2 p3 p4 p5 p6 cn l0 g1 l1 g2 l2 f0 t0 f1 t1 f2 t2 b ex) [(.int (1 : Int32))])) _
  refine XS.pop X4.here hx rfl (hb hby at_201) rfl rfl ?_
  show Steps p.tables e below (T4.setTop (mkF m 202 (own_L p1 p2 p3 p4 p5 p6 cn l0 g1 l1 g2 l2 f0 t0 f1 t1 f2 t2 b ex) [])) _
  refine XS.lload X4.here hx rfl (hb hby at_202) rfl ?_
  show Steps p.tables e below (T4.setTop (mkF m 204 (own_L p1 p2 p3 p4 p5 p6 cn l0 g1 l1 g2 l2 f0 t0 f1 t1 f2 t2 b ex) [(.long ex)])) _
  refine XS.lload X4.here hx rfl (hb hby at_204) rfl ?_
  show Steps p.tables e below (T4.setTop (mkF m 206 (own_L p1 p2 p3 p4 p5 p6 cn l0 g1 l1 g2 l2 f0 t0 f1 t1 f2 t2 b ex) [(.long l2), (.long ex)])) _
  refine XS.ladd X4.here hx rfl (hb hby at_206) rfl ?_
  show Steps p.tables e below (T4.setTop (mkF m 207 (own_L p1 p2 p3 p4 p5 p6 cn l0 g1 l1 g2 l2 f0 t0 f1 t1 f2 t2 b ex) [(.long (ex + l2))])) _
  refine XS.lstore X4.here hx rfl (hb hby at_207) rfl (l' := (own_L p1 p2 p3 p4 p5 p6 cn l0 g1 l1 g2 l2 f0 t0 f1 t1 f2 t2 b (ex + l2))) rfl ?_
  show Steps p.tables e below (T4.setTop (mkF m 209 (own_L p1 p2 p3 p4 p5 p6 cn l0 g1 l1 g2 l2 f0 t0 f1 t1 f2 t2 b (ex + l2)) [])) _
  exact kt
theorem pd_len : parseMethodDescriptor "(Ljava/util/List;)D" = some ⟨[(.object "java/util/List")], some .double⟩ := by decide +kernel
set_option maxRecDepth 65536 in
set_option maxHeartbeats 40000000 in
theorem own_tail {p : Program} {l : Launch} {e : Env} {s : State} {m : MethodId} {args : Array Value} {below : List Frame} {meth : Method} {c : Code} {T0 : State} {locs : List Loc} {cells slots : Nat} {Z : State} {a0 : Array Value} {h0 : Heap} (n0 : Nat) (p1 p2 p3 p4 p5 p6 cn : Int32) (l0 g1 l1 g2 l2 f0 t0 f1 t1 f2 t2 : Int64) (b : Addr) (ex : Int64) (d : Addr) (mo : Int32) (xs : List (Addr × Int64 × Int64))
    (X0 : Stand p l e room_1 s m args below meth c T0 locs cells slots) (hx : p.tables.exec = Jvm.exec) (hZ : Z.Warmed39 s.vm) (hw : ∀ d ∈ tables_1, d.before a0 Z = true) (hby : c.code = code) (hml : c.maxLocals = 32) (hown : s.vm.findClass "com/example/waypost/waypost/coverage/IntervalsLengthPinLaw" = some m.cls) (e0 : T0.heap = h0) (hc : cells + 1 ≤ 24) (hs : slots + 4 ≤ 128) (Wd : own_Wd Z h0 b d mo xs) (hlen : xs.length ≤ 3) (ok : own_ok 0 xs) (hex : own_sum 0 xs = ex) (hz : n0 ≤ h0.size) (N0 : Fr n0 locs) :
    ∃ (T' : State) (locs' : List Loc), Stand p l e room_1 s m args below meth c T' locs' (cells + 1) (slots + 4) ∧ Fr n0 locs' ∧
      ∀ target, Steps p.tables e below (T'.setTop (mkF m 226 (own_L p1 p2 p3 p4 p5 p6 cn l0 g1 l1 g2 l2 f0 t0 f1 t1 f2 t2 b ex) [(.int (1 : Int32))])) target → Steps p.tables e below (T0.setTop (mkF m 209 (own_L p1 p2 p3 p4 p5 p6 cn l0 g1 l1 g2 l2 f0 t0 f1 t1 f2 t2 b ex) [])) target := by
  obtain ⟨_, _, ⟨T1, L1, k1, n1⟩, -, X1, ⟨Lc1, hQ1, l1', y1, z1⟩, st1⟩ := Jvm.LawKit.callS X0 hx (y := (⟨"com/example/waypost/waypost/coverage/Intervals", "length", "(Ljava/util/List;)D"⟩ : MethodName)) hown (mvT hZ (hw _ (List.mem_of_getElem? (i := 64) rfl))) (mvT hZ (hw _ (List.mem_of_getElem? (i := 65) rfl))) (mvT hZ (hw _ (List.mem_of_getElem? (i := 66) rfl))) (mvT hZ (hw _ (List.mem_of_getElem? (i := 67) rfl))) (by decide) (backOf (W := 0) (rm10 l Z a0 hw [] b d mo xs h0 n0 hz Wd hlen ok) hZ (hw _ (List.mem_of_getElem? (i := 67) rfl)) (hw _ (List.mem_of_getElem? (i := 66) rfl)) (by decide) (by decide)) (g := (mkF m 211 (own_L p1 p2 p3 p4 p5 p6 cn l0 g1 l1 g2 l2 f0 t0 f1 t1 f2 t2 b ex) [(.ref b)])) rfl (by rw [hml]; rfl) (argsL := [(.ref b)]) (rest := []) (lenOf pd_len rfl) rfl (by show 2 * 0 + _ ≤ _; exact Nat.le_of_eq rfl) (hb hby at_211) (fun _ _ => ⟨rfl, e0, hc, hs⟩)
  dsimp only [Pt.U, Pt.locs, Pt.cells, Pt.slots] at X1 l1' y1 z1 st1 hQ1
  subst l1' y1 z1
  obtain ⟨rfl, N1q⟩ := hQ1
  rw [hex] at st1
  have N1 := Fr.app N0 N1q
  refine ⟨T1, _, X1, N1, fun target kt => ?_⟩
  show Steps p.tables e below (T0.setTop (mkF m 209 (own_L p1 p2 p3 p4 p5 p6 cn l0 g1 l1 g2 l2 f0 t0 f1 t1 f2 t2 b ex) [])) _
  refine XS.aload X0.here hx rfl (hb hby at_209) rfl rfl ?_
  show Steps p.tables e below (T0.setTop (mkF m 211 (own_L p1 p2 p3 p4 p5 p6 cn l0 g1 l1 g2 l2 f0 t0 f1 t1 f2 t2 b ex) [(.ref b)])) _
  refine st1 _ ?_
  show Steps p.tables e below (T1.setTop (mkF m 214 (own_L p1 p2 p3 p4 p5 p6 cn l0 g1 l1 g2 l2 f0 t0 f1 t1 f2 t2 b ex) [(.double (FP.l2d ex))])) _
  refine XS.lload X1.here hx rfl (hb hby at_214) rfl ?_
  show Steps p.tables e below (T1.setTop (mkF m 216 (own_L p1 p2 p3 p4 p5 p6 cn l0 g1 l1 g2 l2 f0 t0 f1 t1 f2 t2 b ex) [(.long ex), (.double (FP.l2d ex))])) _
  refine XS.l2dS X1.here hx rfl (hb hby at_216) rfl rfl ?_
  show Steps p.tables e below (T1.setTop (mkF m 217 (own_L p1 p2 p3 p4 p5 p6 cn l0 g1 l1 g2 l2 f0 t0 f1 t1 f2 t2 b ex) [(.double (FP.l2d ex)), (.double (FP.l2d ex))])) _
  refine XS.dcmpS X1.here hx rfl (hb hby at_217) rfl (dcmpV_self (own_nn ex) .l) ?_
  show Steps p.tables e below (T1.setTop (mkF m 218 (own_L p1 p2 p3 p4 p5 p6 cn l0 g1 l1 g2 l2 f0 t0 f1 t1 f2 t2 b ex) [(.int (0 : Int32))])) _
  refine XS.ifNo X1.here hx rfl (hb hby at_218) rfl ((if0 _ _).trans (teq rfl).2) ?_
  show Steps p.tables e below (T1.setTop (mkF m 221 (own_L p1 p2 p3 p4 p5 p6 cn l0 g1 l1 g2 l2 f0 t0 f1 t1 f2 t2 b ex) [])) _
  refine XS.iconst X1.here hx rfl (hb hby at_221) ?_
  show Steps p.tables e below (T1.setTop (mkF m 222 (own_L p1 p2 p3 p4 p5 p6 cn l0 g1 l1 g2 l2 f0 t0 f1 t1 f2 t2 b ex) [(.int (1 : Int32))])) _
  refine XS.goto X1.here hx rfl (pc0 := 222) (pc' := 226) rfl (hb hby at_222) (by decide) (by decide) ?_
  show Steps p.tables e below (T1.setTop (mkF m 226 (own_L p1 p2 p3 p4 p5 p6 cn l0 g1 l1 g2 l2 f0 t0 f1 t1 f2 t2 b ex) [(.int (1 : Int32))])) _
  exact kt
/-! numbers -/
def own_m (p : Int32) : Int64 := p.toInt64 &&& (2147483647 : Int64)
def own_k (p : Int32) : Int64 := ((p.toUInt32 >>> ((2 : Int32) &&& 31).toUInt32).toInt32).toInt64 &&& (1073741823 : Int64)
def own_T0 (p1 p2 : Int32) : Int64 := p1.toInt64 + own_m p2
def own_F1 (p1 p2 p3 : Int32) : Int64 := own_T0 p1 p2 + own_m p3
def own_T1 (p1 p2 p3 p4 : Int32) : Int64 := own_F1 p1 p2 p3 + own_m p4
def own_F2 (p1 p2 p3 p4 p5 : Int32) : Int64 := own_T1 p1 p2 p3 p4 + own_m p5
def own_T2 (p1 p2 p3 p4 p5 p6 : Int32) : Int64 := own_F2 p1 p2 p3 p4 p5 + own_k p6
theorem own_mask (x m : Int64) (hm : m.toBitVec.toNat ≤ 2147483647) : 0 ≤ (x &&& m).toInt ∧ (x &&& m).toInt ≤ 2147483647 := by
  have h1 : (x &&& m).toBitVec.toNat ≤ m.toBitVec.toNat := by rw [Int64.toBitVec_and, BitVec.toNat_and]; exact Nat.and_le_right
  have h2 : (x &&& m).toInt = ((x &&& m).toBitVec.toNat : Int) := by
    show (x &&& m).toBitVec.toInt = _
    exact BitVec.toInt_eq_toNat_of_lt (by omega)
  omega
theorem own_m_b (p : Int32) : 0 ≤ (own_m p).toInt ∧ (own_m p).toInt ≤ 2147483647 := own_mask _ _ (by decide)
theorem own_k_b (p : Int32) : 0 ≤ (own_k p).toInt ∧ (own_k p).toInt ≤ 2147483647 := own_mask _ _ (by decide)
theorem own_and3 (p : Int32) : (p &&& (3 : Int32)) = 0 ∨ (p &&& (3 : Int32)) = 1 ∨ (p &&& (3 : Int32)) = 2 ∨ (p &&& (3 : Int32)) = 3 := by
  have h1 : (p &&& (3 : Int32)).toBitVec.toNat ≤ (3 : Int32).toBitVec.toNat := by rw [Int32.toBitVec_and, BitVec.toNat_and]; exact Nat.and_le_right
  have h3 : (3 : Int32).toBitVec.toNat = 3 := by decide
  have h2 : (p &&& (3 : Int32)).toInt = ((p &&& (3 : Int32)).toBitVec.toNat : Int) := by
    show (p &&& (3 : Int32)).toBitVec.toInt = _
    exact BitVec.toInt_eq_toNat_of_lt (by omega)
  have k : (p &&& (3 : Int32)).toInt = 0 ∨ (p &&& (3 : Int32)).toInt = 1 ∨ (p &&& (3 : Int32)).toInt = 2 ∨ (p &&& (3 : Int32)).toInt = 3 := by omega
  rcases k with k | k | k | k
  · exact Or.inl (Int32.toInt_inj.mp (k.trans (by decide)))
  · exact Or.inr (Or.inl (Int32.toInt_inj.mp (k.trans (by decide))))
  · exact Or.inr (Or.inr (Or.inl (Int32.toInt_inj.mp (k.trans (by decide)))))
  · exact Or.inr (Or.inr (Or.inr (Int32.toInt_inj.mp (k.trans (by decide)))))
/-- bounded by 2 to the 40 -/
def own_B (x : Int64) : Prop := -1099511627776 ≤ x.toInt ∧ x.toInt ≤ 1099511627776
theorem own_B53 {x : Int64} (h : own_B x) : B53 x := by unfold own_B at h; unfold B53; omega
theorem own_add {f l t : Int64} (ht : t = f + l) (hf : -1099511627776 ≤ f.toInt ∧ f.toInt ≤ 1099511627776) (hl : 0 ≤ l.toInt ∧ l.toInt ≤ 2147483647) : t.toInt = f.toInt + l.toInt ∧ t - f = l := by
  have e : t.toInt = f.toInt + l.toInt := by rw [ht]; exact FP.Core.int64_add (by omega) (by omega)
  refine ⟨e, Int64.toInt_inj.mp ?_⟩
  rw [FP.Core.int64_sub (by omega) (by omega), e]
  omega
/-- all that the sums need -/
def own_N (l0 l1 l2 f0 t0 f1 t1 f2 t2 : Int64) : Prop := B53 f0 ∧ B53 t0 ∧ B53 f1 ∧ B53 t1 ∧ B53 f2 ∧ B53 t2 ∧ t0 - f0 = l0 ∧ t1 - f1 = l1 ∧ t2 - f2 = l2 ∧ B53 l0 ∧ B53 l1 ∧ B53 l2 ∧ B53 (0 : Int64) ∧ B53 (0 + l0) ∧ B53 (0 + l0 + l1) ∧ B53 (0 + l0 + l1 + l2)
theorem own_nums (p1 p2 p3 p4 p5 p6 : Int32) : own_N (own_m p2) (own_m p4) (own_k p6) p1.toInt64 (own_T0 p1 p2) (own_F1 p1 p2 p3) (own_T1 p1 p2 p3 p4) (own_F2 p1 p2 p3 p4 p5) (own_T2 p1 p2 p3 p4 p5 p6) := by
  have m2 := own_m_b p2
  have m3 := own_m_b p3
  have m4 := own_m_b p4
  have m5 := own_m_b p5
  have m6 := own_k_b p6
  have e1 : p1.toInt64.toInt = p1.toInt := Int32.toInt_toInt64 p1
  have q1 := p1.toInt_lt
  have q2 := p1.le_toInt
  obtain ⟨a1, s1⟩ := own_add (t := own_T0 p1 p2) rfl (f := p1.toInt64) (by omega) m2
  obtain ⟨a2, s2⟩ := own_add (t := own_F1 p1 p2 p3) rfl (f := own_T0 p1 p2) (by omega) m3
  obtain ⟨a3, s3⟩ := own_add (t := own_T1 p1 p2 p3 p4) rfl (f := own_F1 p1 p2 p3) (by omega) m4
  obtain ⟨a4, s4⟩ := own_add (t := own_F2 p1 p2 p3 p4 p5) rfl (f := own_T1 p1 p2 p3 p4) (by omega) m5
  obtain ⟨a5, s5⟩ := own_add (t := own_T2 p1 p2 p3 p4 p5 p6) rfl (f := own_F2 p1 p2 p3 p4 p5) (by omega) m6
  have z : (0 : Int64).toInt = 0 := by decide
  obtain ⟨c1, -⟩ := own_add (t := 0 + own_m p2) rfl (f := 0) (by omega) m2
  obtain ⟨c2, -⟩ := own_add (t := 0 + own_m p2 + own_m p4) rfl (f := 0 + own_m p2) (by omega) m4
  obtain ⟨c3, -⟩ := own_add (t := 0 + own_m p2 + own_m p4 + own_k p6) rfl (f := 0 + own_m p2 + own_m p4) (by omega) m6
  unfold own_N B53
  refine ⟨by omega, by omega, by omega, by omega, by omega, by omega, s1, s3, s5, by omega, by omega, by omega, by omega, by omega, by omega, by omega⟩
set_option maxRecDepth 65536 in
set_option maxHeartbeats 40000000 in
theorem own_mid {p : Program} {l : Launch} {e : Env} {s : State} {m : MethodId} {args : Array Value} {below : List Frame} {meth : Method} {c : Code} {T0 : State} {locs : List Loc} {cells slots : Nat} {Z : State} {a0 : Array Value} {h0 : Heap} (n0 : Nat) (p1 p2 p3 p4 p5 p6 cn : Int32) (l0 g1 l1 g2 l2 f0 t0 f1 t1 f2 t2 : Int64) (b d : Addr)
    (X0 : Stand p l e room_1 s m args below meth c T0 locs cells slots) (hx : p.tables.exec = Jvm.exec) (hZ : Z.Warmed39 s.vm) (hw : ∀ d ∈ tables_1, d.before a0 Z = true) (hby : c.code = code) (hml : c.maxLocals = 32) (hown : s.vm.findClass "com/example/waypost/waypost/coverage/IntervalsLengthPinLaw" = some m.cls) (e0 : T0.heap = h0) (hc : cells ≤ 1) (hs : slots ≤ 3) (G : own_Lst Z h0 b (0 : Int32) d (0 : Int32)) (Em : own_Emp Z h0 d) (hcn : cn = 0 ∨ cn = 1 ∨ cn = 2 ∨ cn = 3) (NN : own_N l0 l1 l2 f0 t0 f1 t1 f2 t2) (g_b : n0 ≤ b) (hz : n0 ≤ h0.size) (N0 : Fr n0 locs) :
    ∃ (T' : State) (locs' : List Loc) (cells' slots' : Nat) (ex : Int64), Stand p l e room_1 s m args below meth c T' locs' cells' slots' ∧ Fr n0 locs' ∧ cells' ≤ 24 ∧ slots' ≤ 128 ∧
      ∀ target, Steps p.tables e below (T'.setTop (mkF m 226 (own_L p1 p2 p3 p4 p5 p6 cn l0 g1 l1 g2 l2 f0 t0 f1 t1 f2 t2 b ex) [(.int (1 : Int32))])) target → Steps p.tables e below (T0.setTop (mkF m 101 (own_L p1 p2 p3 p4 p5 p6 cn l0 g1 l1 g2 l2 f0 t0 f1 t1 f2 t2 b 0) [])) target := by
  obtain ⟨bf0, bt0, bf1, bt1, bf2, bt2, d0, d1, d2, bl0, bl1, bl2, bz, bs0, bs1, bs2⟩ := NN
  rcases hcn with hcn | hcn | hcn | hcn
  · -- the count is 0
    have Wd : own_Wd Z h0 b d (0 : Int32) [] := ⟨G, Or.inl rfl, fun q hq => nomatch hq⟩
    have ok : own_ok 0 [] := bz
    obtain ⟨Tz, locz, Xz, Nz, sz⟩ := own_tail n0 p1 p2 p3 p4 p5 p6 cn l0 g1 l1 g2 l2 f0 t0 f1 t1 f2 t2 b 0 d (0 : Int32) [] X0 hx hZ hw hby hml hown e0 (by omega) (by omega) Wd (by show 0 ≤ 3; decide) ok (rfl) hz N0
    refine ⟨Tz, locz, _, _, 0, Xz, Nz, by omega, by omega, fun target kt => ?_⟩
    show Steps p.tables e below (T0.setTop (mkF m 101 (own_L p1 p2 p3 p4 p5 p6 cn l0 g1 l1 g2 l2 f0 t0 f1 t1 f2 t2 b 0) [])) _
    refine XS.iload X0.here hx rfl (hb hby at_101) rfl ?_
    show Steps p.tables e below (T0.setTop (mkF m 103 (own_L p1 p2 p3 p4 p5 p6 cn l0 g1 l1 g2 l2 f0 t0 f1 t1 f2 t2 b 0) [(.int cn)])) _
    refine XS.iconst X0.here hx rfl (hb hby at_103) ?_
    show Steps p.tables e below (T0.setTop (mkF m 104 (own_L p1 p2 p3 p4 p5 p6 cn l0 g1 l1 g2 l2 f0 t0 f1 t1 f2 t2 b 0) [(.int (1 : Int32)), (.int cn)])) _
    refine XS.icmpYes X0.here hx rfl (pc0 := 104) (pc' := 137) rfl (hb hby at_104) rfl (tlt (by rw [hcn]; decide)).1 (by decide) (by decide) ?_
    show Steps p.tables e below (T0.setTop (mkF m 137 (own_L p1 p2 p3 p4 p5 p6 cn l0 g1 l1 g2 l2 f0 t0 f1 t1 f2 t2 b 0) [])) _
    refine XS.iload X0.here hx rfl (hb hby at_137) rfl ?_
    show Steps p.tables e below (T0.setTop (mkF m 139 (own_L p1 p2 p3 p4 p5 p6 cn l0 g1 l1 g2 l2 f0 t0 f1 t1 f2 t2 b 0) [(.int cn)])) _
    refine XS.iconst X0.here hx rfl (hb hby at_139) ?_
    show Steps p.tables e below (T0.setTop (mkF m 140 (own_L p1 p2 p3 p4 p5 p6 cn l0 g1 l1 g2 l2 f0 t0 f1 t1 f2 t2 b 0) [(.int (2 : Int32)), (.int cn)])) _
    refine XS.icmpYes X0.here hx rfl (pc0 := 140) (pc' := 173) rfl (hb hby at_140) rfl (tlt (by rw [hcn]; decide)).1 (by decide) (by decide) ?_
    show Steps p.tables e below (T0.setTop (mkF m 173 (own_L p1 p2 p3 p4 p5 p6 cn l0 g1 l1 g2 l2 f0 t0 f1 t1 f2 t2 b 0) [])) _
    refine XS.iload X0.here hx rfl (hb hby at_173) rfl ?_
    show Steps p.tables e below (T0.setTop (mkF m 175 (own_L p1 p2 p3 p4 p5 p6 cn l0 g1 l1 g2 l2 f0 t0 f1 t1 f2 t2 b 0) [(.int cn)])) _
    refine XS.iconst X0.here hx rfl (hb hby at_175) ?_
    show Steps p.tables e below (T0.setTop (mkF m 176 (own_L p1 p2 p3 p4 p5 p6 cn l0 g1 l1 g2 l2 f0 t0 f1 t1 f2 t2 b 0) [(.int (3 : Int32)), (.int cn)])) _
    refine XS.icmpYes X0.here hx rfl (pc0 := 176) (pc' := 209) rfl (hb hby at_176) rfl (tlt (by rw [hcn]; decide)).1 (by decide) (by decide) ?_
    show Steps p.tables e below (T0.setTop (mkF m 209 (own_L p1 p2 p3 p4 p5 p6 cn l0 g1 l1 g2 l2 f0 t0 f1 t1 f2 t2 b 0) [])) _
    exact sz _ kt
  · -- the count is 1
    obtain ⟨Ta1, ha1, loc1, x1, d', Xa1, ea1, Na1, za1, G1, D1, P11, gd, sa1⟩ := own_seg1 n0 p1 p2 p3 p4 p5 p6 cn l0 g1 l1 g2 l2 f0 t0 f1 t1 f2 t2 b 0 d (0 : Int32) (0 : Int32) X0 hx hZ hw hby hml hown e0 (by omega) (by omega) G Em rfl g_b hz N0
    have zb1 := Nat.le_trans hz za1
    have Wd : own_Wd Z ha1 b d' ((0 : Int32) + (1 : Int32)) [(x1, f0, t0)] := by
      have el : ((0 : Int32) + (1 : Int32)) = Int32.ofNat 1 := by decide
      refine ⟨by show own_Lst Z ha1 b ((0 : Int32) + (1 : Int32)) d' (Int32.ofNat 1); rw [← el]; exact G1, Or.inr D1, fun q hq => ?_⟩
      simp only [List.mem_cons, List.not_mem_nil, or_false] at hq
      rcases hq with rfl
      exact P11
    have ok : own_ok 0 [(x1, f0, t0)] := ⟨bz, bf0, bt0, by rw [d0]; exact bl0, by rw [d0]; exact bs0⟩
    obtain ⟨Tz, locz, Xz, Nz, sz⟩ := own_tail n0 p1 p2 p3 p4 p5 p6 cn l0 g1 l1 g2 l2 f0 t0 f1 t1 f2 t2 b (0 + l0) d' ((0 : Int32) + (1 : Int32)) [(x1, f0, t0)] Xa1 hx hZ hw hby hml hown ea1 (by omega) (by omega) Wd (by show 1 ≤ 3; decide) ok (by show 0 + (t0 - f0) = _; rw [d0]) zb1 Na1
    refine ⟨Tz, locz, _, _, (0 + l0), Xz, Nz, by omega, by omega, fun target kt => ?_⟩
    show Steps p.tables e below (T0.setTop (mkF m 101 (own_L p1 p2 p3 p4 p5 p6 cn l0 g1 l1 g2 l2 f0 t0 f1 t1 f2 t2 b 0) [])) _
    refine XS.iload X0.here hx rfl (hb hby at_101) rfl ?_
    show Steps p.tables e below (T0.setTop (mkF m 103 (own_L p1 p2 p3 p4 p5 p6 cn l0 g1 l1 g2 l2 f0 t0 f1 t1 f2 t2 b 0) [(.int cn)])) _
    refine XS.iconst X0.here hx rfl (hb hby at_103) ?_
    show Steps p.tables e below (T0.setTop (mkF m 104 (own_L p1 p2 p3 p4 p5 p6 cn l0 g1 l1 g2 l2 f0 t0 f1 t1 f2 t2 b 0) [(.int (1 : Int32)), (.int cn)])) _
    refine XS.icmpNo X0.here hx rfl (hb hby at_104) rfl (flt (by rw [hcn]; decide)).1 ?_
    show Steps p.tables e below (T0.setTop (mkF m 107 (own_L p1 p2 p3 p4 p5 p6 cn l0 g1 l1 g2 l2 f0 t0 f1 t1 f2 t2 b 0) [])) _
    refine sa1 _ ?_
    show Steps p.tables e below (Ta1.setTop (mkF m 137 (own_L p1 p2 p3 p4 p5 p6 cn l0 g1 l1 g2 l2 f0 t0 f1 t1 f2 t2 b (0 + l0)) [])) _
    refine XS.iload Xa1.here hx rfl (hb hby at_137) rfl ?_
    show Steps p.tables e below (Ta1.setTop (mkF m 139 (own_L p1 p2 p3 p4 p5 p6 cn l0 g1 l1 g2 l2 f0 t0 f1 t1 f2 t2 b (0 + l0)) [(.int cn)])) _
    refine XS.iconst Xa1.here hx rfl (hb hby at_139) ?_
    show Steps p.tables e below (Ta1.setTop (mkF m 140 (own_L p1 p2 p3 p4 p5 p6 cn l0 g1 l1 g2 l2 f0 t0 f1 t1 f2 t2 b (0 + l0)) [(.int (2 : Int32)), (.int cn)])) _
    refine XS.icmpYes Xa1.here hx rfl (pc0 := 140) (pc' := 173) rfl (hb hby at_140) rfl (tlt (by rw [hcn]; decide)).1 (by decide) (by decide) ?_
    show Steps p.tables e below (Ta1.setTop (mkF m 173 (own_L p1 p2 p3 p4 p5 p6 cn l0 g1 l1 g2 l2 f0 t0 f1 t1 f2 t2 b (0 + l0)) [])) _
    refine XS.iload Xa1.here hx rfl (hb hby at_173) rfl ?_
    show Steps p.tables e below (Ta1.setTop (mkF m 175 (own_L p1 p2 p3 p4 p5 p6 cn l0 g1 l1 g2 l2 f0 t0 f1 t1 f2 t2 b (0 + l0)) [(.int cn)])) _
    refine XS.iconst Xa1.here hx rfl (hb hby at_175) ?_
    show Steps p.tables e below (Ta1.setTop (mkF m 176 (own_L p1 p2 p3 p4 p5 p6 cn l0 g1 l1 g2 l2 f0 t0 f1 t1 f2 t2 b (0 + l0)) [(.int (3 : Int32)), (.int cn)])) _
    refine XS.icmpYes Xa1.here hx rfl (pc0 := 176) (pc' := 209) rfl (hb hby at_176) rfl (tlt (by rw [hcn]; decide)).1 (by decide) (by decide) ?_
    show Steps p.tables e below (Ta1.setTop (mkF m 209 (own_L p1 p2 p3 p4 p5 p6 cn l0 g1 l1 g2 l2 f0 t0 f1 t1 f2 t2 b (0 + l0)) [])) _
    exact sz _ kt
  · -- the count is 2
    obtain ⟨Ta1, ha1, loc1, x1, d', Xa1, ea1, Na1, za1, G1, D1, P11, gd, sa1⟩ := own_seg1 n0 p1 p2 p3 p4 p5 p6 cn l0 g1 l1 g2 l2 f0 t0 f1 t1 f2 t2 b 0 d (0 : Int32) (0 : Int32) X0 hx hZ hw hby hml hown e0 (by omega) (by omega) G Em rfl g_b hz N0
    have zb1 := Nat.le_trans hz za1
    obtain ⟨Ta2, ha2, loc2, x2, Xa2, ea2, Na2, za2, G2, D2, P22, car2, sa2⟩ := own_seg2 n0 p1 p2 p3 p4 p5 p6 cn l0 g1 l1 g2 l2 f0 t0 f1 t1 f2 t2 b (0 + l0) d' ((0 : Int32) + (1 : Int32)) ((0 : Int32) + (1 : Int32)) [.ref x1] Xa1 hx hZ hw hby hml hown ea1 (by omega) (by omega) G1 D1 gd ⟨by show Int32.toNatClampNeg _ = 1; decide, by decide, by decide, by decide⟩ g_b zb1 Na1
    have P21 := car2 _ _ _ P11
    have zb2 := Nat.le_trans zb1 za2
    have Wd : own_Wd Z ha2 b d' ((0 : Int32) + (1 : Int32) + (1 : Int32)) [(x1, f0, t0), (x2, f1, t1)] := by
      have el : ((0 : Int32) + (1 : Int32) + (1 : Int32)) = Int32.ofNat 2 := by decide
      refine ⟨by show own_Lst Z ha2 b ((0 : Int32) + (1 : Int32) + (1 : Int32)) d' (Int32.ofNat 2); rw [← el]; exact G2, Or.inr D2, fun q hq => ?_⟩
      simp only [List.mem_cons, List.not_mem_nil, or_false] at hq
      rcases hq with rfl | rfl
      · exact P21
      · exact P22
    have ok : own_ok 0 [(x1, f0, t0), (x2, f1, t1)] := ⟨bz, bf0, bt0, by rw [d0]; exact bl0, by rw [d0]; exact bs0, bf1, bt1, by rw [d1]; exact bl1, by rw [d0, d1]; exact bs1⟩
    obtain ⟨Tz, locz, Xz, Nz, sz⟩ := own_tail n0 p1 p2 p3 p4 p5 p6 cn l0 g1 l1 g2 l2 f0 t0 f1 t1 f2 t2 b (0 + l0 + l1) d' ((0 : Int32) + (1 : Int32) + (1 : Int32)) [(x1, f0, t0), (x2, f1, t1)] Xa2 hx hZ hw hby hml hown ea2 (by omega) (by omega) Wd (by show 2 ≤ 3; decide) ok (by show 0 + (t0 - f0) + (t1 - f1) = _; rw [d0, d1]) zb2 Na2
    refine ⟨Tz, locz, _, _, (0 + l0 + l1), Xz, Nz, by omega, by omega, fun target kt => ?_⟩
    show Steps p.tables e below (T0.setTop (mkF m 101 (own_L p1 p2 p3 p4 p5 p6 cn l0 g1 l1 g2 l2 f0 t0 f1 t1 f2 t2 b 0) [])) _
    refine XS.iload X0.here hx rfl (hb hby at_101) rfl ?_
    show Steps p.tables e below (T0.setTop (mkF m 103 (own_L p1 p2 p3 p4 p5 p6 cn l0 g1 l1 g2 l2 f0 t0 f1 t1 f2 t2 b 0) [(.int cn)])) _
    refine XS.iconst X0.here hx rfl (hb hby at_103) ?_
    show Steps p.tables e below (T0.setTop (mkF m 104 (own_L p1 p2 p3 p4 p5 p6 cn l0 g1 l1 g2 l2 f0 t0 f1 t1 f2 t2 b 0) [(.int (1 : Int32)), (.int cn)])) _
    refine XS.icmpNo X0.here hx rfl (hb hby at_104) rfl (flt (by rw [hcn]; decide)).1 ?_
    show Steps p.tables e below (T0.setTop (mkF m 107 (own_L p1 p2 p3 p4 p5 p6 cn l0 g1 l1 g2 l2 f0 t0 f1 t1 f2 t2 b 0) [])) _
    refine sa1 _ ?_
    show Steps p.tables e below (Ta1.setTop (mkF m 137 (own_L p1 p2 p3 p4 p5 p6 cn l0 g1 l1 g2 l2 f0 t0 f1 t1 f2 t2 b (0 + l0)) [])) _
    refine XS.iload Xa1.here hx rfl (hb hby at_137) rfl ?_
    show Steps p.tables e below (Ta1.setTop (mkF m 139 (own_L p1 p2 p3 p4 p5 p6 cn l0 g1 l1 g2 l2 f0 t0 f1 t1 f2 t2 b (0 + l0)) [(.int cn)])) _
    refine XS.iconst Xa1.here hx rfl (hb hby at_139) ?_
    show Steps p.tables e below (Ta1.setTop (mkF m 140 (own_L p1 p2 p3 p4 p5 p6 cn l0 g1 l1 g2 l2 f0 t0 f1 t1 f2 t2 b (0 + l0)) [(.int (2 : Int32)), (.int cn)])) _
    refine XS.icmpNo Xa1.here hx rfl (hb hby at_140) rfl (flt (by rw [hcn]; decide)).1 ?_
    show Steps p.tables e below (Ta1.setTop (mkF m 143 (own_L p1 p2 p3 p4 p5 p6 cn l0 g1 l1 g2 l2 f0 t0 f1 t1 f2 t2 b (0 + l0)) [])) _
    refine sa2 _ ?_
    show Steps p.tables e below (Ta2.setTop (mkF m 173 (own_L p1 p2 p3 p4 p5 p6 cn l0 g1 l1 g2 l2 f0 t0 f1 t1 f2 t2 b (0 + l0 + l1)) [])) _
    refine XS.iload Xa2.here hx rfl (hb hby at_173) rfl ?_
    show Steps p.tables e below (Ta2.setTop (mkF m 175 (own_L p1 p2 p3 p4 p5 p6 cn l0 g1 l1 g2 l2 f0 t0 f1 t1 f2 t2 b (0 + l0 + l1)) [(.int cn)])) _
    refine XS.iconst Xa2.here hx rfl (hb hby at_175) ?_
    show Steps p.tables e below (Ta2.setTop (mkF m 176 (own_L p1 p2 p3 p4 p5 p6 cn l0 g1 l1 g2 l2 f0 t0 f1 t1 f2 t2 b (0 + l0 + l1)) [(.int (3 : Int32)), (.int cn)])) _
    refine XS.icmpYes Xa2.here hx rfl (pc0 := 176) (pc' := 209) rfl (hb hby at_176) rfl (tlt (by rw [hcn]; decide)).1 (by decide) (by decide) ?_
    show Steps p.tables e below (Ta2.setTop (mkF m 209 (own_L p1 p2 p3 p4 p5 p6 cn l0 g1 l1 g2 l2 f0 t0 f1 t1 f2 t2 b (0 + l0 + l1)) [])) _
    exact sz _ kt
  · -- the count is 3
    obtain ⟨Ta1, ha1, loc1, x1, d', Xa1, ea1, Na1, za1, G1, D1, P11, gd, sa1⟩ := own_seg1 n0 p1 p2 p3 p4 p5 p6 cn l0 g1 l1 g2 l2 f0 t0 f1 t1 f2 t2 b 0 d (0 : Int32) (0 : Int32) X0 hx hZ hw hby hml hown e0 (by omega) (by omega) G Em rfl g_b hz N0
    have zb1 := Nat.le_trans hz za1
    obtain ⟨Ta2, ha2, loc2, x2, Xa2, ea2, Na2, za2, G2, D2, P22, car2, sa2⟩ := own_seg2 n0 p1 p2 p3 p4 p5 p6 cn l0 g1 l1 g2 l2 f0 t0 f1 t1 f2 t2 b (0 + l0) d' ((0 : Int32) + (1 : Int32)) ((0 : Int32) + (1 : Int32)) [.ref x1] Xa1 hx hZ hw hby hml hown ea1 (by omega) (by omega) G1 D1 gd ⟨by show Int32.toNatClampNeg _ = 1; decide, by decide, by decide, by decide⟩ g_b zb1 Na1
    have P21 := car2 _ _ _ P11
    have zb2 := Nat.le_trans zb1 za2
    obtain ⟨Ta3, ha3, loc3, x3, Xa3, ea3, Na3, za3, G3, D3, P33, car3, sa3⟩ := own_seg3 n0 p1 p2 p3 p4 p5 p6 cn l0 g1 l1 g2 l2 f0 t0 f1 t1 f2 t2 b (0 + l0 + l1) d' ((0 : Int32) + (1 : Int32) + (1 : Int32)) ((0 : Int32) + (1 : Int32) + (1 : Int32)) [.ref x1, .ref x2] Xa2 hx hZ hw hby hml hown ea2 (by omega) (by omega) G2 D2 gd ⟨by show Int32.toNatClampNeg _ = 2; decide, by decide, by decide, by decide⟩ g_b zb2 Na2
    have P31 := car3 _ _ _ P21
    have P32 := car3 _ _ _ P22
    have zb3 := Nat.le_trans zb2 za3
    have Wd : own_Wd Z ha3 b d' ((0 : Int32) + (1 : Int32) + (1 : Int32) + (1 : Int32)) [(x1, f0, t0), (x2, f1, t1), (x3, f2, t2)] := by
      have el : ((0 : Int32) + (1 : Int32) + (1 : Int32) + (1 : Int32)) = Int32.ofNat 3 := by decide
      refine ⟨by show own_Lst Z ha3 b ((0 : Int32) + (1 : Int32) + (1 : Int32) + (1 : Int32)) d' (Int32.ofNat 3); rw [← el]; exact G3, Or.inr D3, fun q hq => ?_⟩
      simp only [List.mem_cons, List.not_mem_nil, or_false] at hq
      rcases hq with rfl | rfl | rfl
      · exact P31
      · exact P32
      · exact P33
    have ok : own_ok 0 [(x1, f0, t0), (x2, f1, t1), (x3, f2, t2)] := ⟨bz, bf0, bt0, by rw [d0]; exact bl0, by rw [d0]; exact bs0, bf1, bt1, by rw [d1]; exact bl1, by rw [d0, d1]; exact bs1, bf2, bt2, by rw [d2]; exact bl2, by rw [d0, d1, d2]; exact bs2⟩
    obtain ⟨Tz, locz, Xz, Nz, sz⟩ := own_tail n0 p1 p2 p3 p4 p5 p6 cn l0 g1 l1 g2 l2 f0 t0 f1 t1 f2 t2 b (0 + l0 + l1 + l2) d' ((0 : Int32) + (1 : Int32) + (1 : Int32) + (1 : Int32)) [(x1, f0, t0), (x2, f1, t1), (x3, f2, t2)] Xa3 hx hZ hw hby hml hown ea3 (by omega) (by omega) Wd (by show 3 ≤ 3; decide) ok (by show 0 + (t0 - f0) + (t1 - f1) + (t2 - f2) = _; rw [d0, d1, d2]) zb3 Na3
    refine ⟨Tz, locz, _, _, (0 + l0 + l1 + l2), Xz, Nz, by omega, by omega, fun target kt => ?_⟩
    show Steps p.tables e below (T0.setTop (mkF m 101 (own_L p1 p2 p3 p4 p5 p6 cn l0 g1 l1 g2 l2 f0 t0 f1 t1 f2 t2 b 0) [])) _
    refine XS.iload X0.here hx rfl (hb hby at_101) rfl ?_
    show Steps p.tables e below (T0.setTop (mkF m 103 (own_L p1 p2 p3 p4 p5 p6 cn l0 g1 l1 g2 l2 f0 t0 f1 t1 f2 t2 b 0) [(.int cn)])) _
    refine XS.iconst X0.here hx rfl (hb hby at_103) ?_
    show Steps p.tables e below (T0.setTop (mkF m 104 (own_L p1 p2 p3 p4 p5 p6 cn l0 g1 l1 g2 l2 f0 t0 f1 t1 f2 t2 b 0) [(.int (1 : Int32)), (.int cn)])) _
    refine XS.icmpNo X0.here hx rfl (hb hby at_104) rfl (flt (by rw [hcn]; decide)).1 ?_
    show Steps p.tables e below (T0.setTop (mkF m 107 (own_L p1 p2 p3 p4 p5 p6 cn l0 g1 l1 g2 l2 f0 t0 f1 t1 f2 t2 b 0) [])) _
    refine sa1 _ ?_
    show Steps p.tables e below (Ta1.setTop (mkF m 137 (own_L p1 p2 p3 p4 p5 p6 cn l0 g1 l1 g2 l2 f0 t0 f1 t1 f2 t2 b (0 + l0)) [])) _
    refine XS.iload Xa1.here hx rfl (hb hby at_137) rfl ?_
    show Steps p.tables e below (Ta1.setTop (mkF m 139 (own_L p1 p2 p3 p4 p5 p6 cn l0 g1 l1 g2 l2 f0 t0 f1 t1 f2 t2 b (0 + l0)) [(.int cn)])) _
    refine XS.iconst Xa1.here hx rfl (hb hby at_139) ?_
    show Steps p.tables e below (Ta1.setTop (mkF m 140 (own_L p1 p2 p3 p4 p5 p6 cn l0 g1 l1 g2 l2 f0 t0 f1 t1 f2 t2 b (0 + l0)) [(.int (2 : Int32)), (.int cn)])) _
    refine XS.icmpNo Xa1.here hx rfl (hb hby at_140) rfl (flt (by rw [hcn]; decide)).1 ?_
    show Steps p.tables e below (Ta1.setTop (mkF m 143 (own_L p1 p2 p3 p4 p5 p6 cn l0 g1 l1 g2 l2 f0 t0 f1 t1 f2 t2 b (0 + l0)) [])) _
    refine sa2 _ ?_
    show Steps p.tables e below (Ta2.setTop (mkF m 173 (own_L p1 p2 p3 p4 p5 p6 cn l0 g1 l1 g2 l2 f0 t0 f1 t1 f2 t2 b (0 + l0 + l1)) [])) _
    refine XS.iload Xa2.here hx rfl (hb hby at_173) rfl ?_
    show Steps p.tables e below (Ta2.setTop (mkF m 175 (own_L p1 p2 p3 p4 p5 p6 cn l0 g1 l1 g2 l2 f0 t0 f1 t1 f2 t2 b (0 + l0 + l1)) [(.int cn)])) _
    refine XS.iconst Xa2.here hx rfl (hb hby at_175) ?_
    show Steps p.tables e below (Ta2.setTop (mkF m 176 (own_L p1 p2 p3 p4 p5 p6 cn l0 g1 l1 g2 l2 f0 t0 f1 t1 f2 t2 b (0 + l0 + l1)) [(.int (3 : Int32)), (.int cn)])) _
    refine XS.icmpNo Xa2.here hx rfl (hb hby at_176) rfl (flt (by rw [hcn]; decide)).1 ?_
    show Steps p.tables e below (Ta2.setTop (mkF m 179 (own_L p1 p2 p3 p4 p5 p6 cn l0 g1 l1 g2 l2 f0 t0 f1 t1 f2 t2 b (0 + l0 + l1)) [])) _
    refine sa3 _ ?_
    show Steps p.tables e below (Ta3.setTop (mkF m 209 (own_L p1 p2 p3 p4 p5 p6 cn l0 g1 l1 g2 l2 f0 t0 f1 t1 f2 t2 b (0 + l0 + l1 + l2)) [])) _
    exact sz _ kt
theorem pn_0 : plainName "com/example/waypost/waypost/coverage/IntervalsLengthPinLaw" = true := by first | (simp [plainName, overriddenIn]; done) | decide +kernel
theorem ef_0 (m : MethodId) (x0 x1 x2 x3 x4 x5 : Int32) : entryFrame m #[(.int x0), (.int x1), (.int x2), (.int x3), (.int x4), (.int x5)] maxLocals = mkF m 0 #[.val (.int x0), .val (.int x1), .val (.int x2), .val (.int x3), .val (.int x4), .val (.int x5), .unset, .unset, .unset, .unset, .unset, .unset, .unset, .unset, .unset, .unset, .unset, .unset, .unset, .unset, .unset, .unset, .unset, .unset, .unset, .unset, .unset, .unset, .unset, .unset, .unset, .unset] [] := by first | (simp [entryFrame, mkF, argsToLocals, Value.category, maxLocals]; done) | rfl
def Q0 (n0 : Nat) (v : Option Value) (L : List Loc) : Prop := v = some (.int 1) ∧ Fr n0 L
set_option maxRecDepth 65536 in
set_option maxHeartbeats 40000000 in
theorem rm0 (l : Launch) (Z : State) (a0 : Array Value) (hw : ∀ d ∈ tables_1, d.before a0 Z = true) (ws : List Jvm.Cond) (p1 p2 p3 p4 p5 p6 : Int32) (w3 : Addr) (h0 : Heap) (n0 : Nat) (Z0 : n0 ≤ h0.size) (Em : own_Emp Z h0 w3) :
    MetFree l x (head1 (Jvm.Cond.code x code maxLocals ret :: ws) room_1) (fun a U => a = #[(.int p1), (.int p2), (.int p3), (.int p4), (.int p5), (.int p6)] ∧ Z.Warmed39 U.vm ∧ U.heap = h0) (fun _ _ _ _ _ => True) (fun _ U o U' => ∃ v L, o = .returned v ∧ Q0 n0 v L ∧ FrameEnd U o U' L 24 128) := by
  refine MetFree.of_bodySF (plainFor_of_name pn_0) hisR ?_
  intro p e s m args below meth c s₁ Bd hml0 hP hK
  obtain ⟨rfl, hZ, hh⟩ := hP
  have hx := Bd.exec
  have hby := Bd.bytes
  have hml : c.maxLocals = 32 := hml0
  have hown : s.vm.findClass "com/example/waypost/waypost/coverage/IntervalsLengthPinLaw" = some m.cls := findClass_of_methodNamed Bd.named
  have X0 : Stand p l e room_1 s m #[(.int p1), (.int p2), (.int p3), (.int p4), (.int p5), (.int p6)] below meth c s₁ [] 0 0 := Stand.of_body Bd
  have e0 : s₁.heap = h0 := by rw [← hh, Bd.state]; rfl
  have N0 := Fr.nil n0
  have pre0 : ∀ t, Steps p.tables e below (s₁.setTop (mkF m 0 #[.val (.int p1), .val (.int p2), .val (.int p3), .val (.int p4), .val (.int p5), .val (.int p6), .unset, .unset, .unset, .unset, .unset, .unset, .unset, .unset, .unset, .unset, .unset, .unset, .unset, .unset, .unset, .unset, .unset, .unset, .unset, .unset, .unset, .unset, .unset, .unset, .unset, .unset] [])) t → Steps p.tables e below (s₁.setTop (entryFrame m #[(.int p1), (.int p2), (.int p3), (.int p4), (.int p5), (.int p6)] maxLocals)) t := fun t k => castTop (ef_0 m p1 p2 p3 p4 p5 p6) k
  obtain ⟨T7, h7, X7, e7, E7, A7, D7, -, st7⟩ := newO X0 hx hZ hown (hw _ (List.mem_of_getElem? (i := 2) rfl)) (hw _ (List.mem_of_getElem? (i := 3) rfl)) (hw _ (List.mem_of_getElem? (i := 4) rfl)) e0 (g := (mkF m 89 #[.val (.int p1), .val (.int p2), .val (.int p3), .val (.int p4), .val (.int p5), .val (.int p6), .val (.int (p6 &&& (3 : Int32))), .val (.long (own_m p2)), .second, .val (.long (own_m p3)), .second, .val (.long (own_m p4)), .second, .val (.long (own_m p5)), .second, .val (.long (own_k p6)), .second, .val (.long (p1.toInt64)), .second, .val (.long (own_T0 p1 p2)), .second, .val (.long (own_F1 p1 p2 p3)), .second, .val (.long (own_T1 p1 p2 p3 p4)), .second, .val (.long (own_F2 p1 p2 p3 p4 p5)), .second, .val (.long (own_T2 p1 p2 p3 p4 p5 p6)), .second, .unset, .unset, .unset] [])) rfl (hb hby at_89) (by decide) (by decide)
  obtain ⟨b7, g7⟩ : ∃ z, z = h0.size := ⟨_, rfl⟩
  rw [← g7] at A7 D7 st7
  have F_modCount_b7 : Fld Z h7 b7 "java/util/AbstractList" "modCount" "I" (.int (0 : Int32)) := D7 (Or.inl (hw _ (List.mem_of_getElem? (i := 24) rfl))) (ty := .int) (by decide)
  have F_elementData_b7 : Fld Z h7 b7 "java/util/ArrayList" "elementData" "[Ljava/lang/Object;" .null := D7 (Or.inl (hw _ (List.mem_of_getElem? (i := 27) rfl))) (ty := (.array (.object "java/lang/Object"))) (by decide)
  have F_size_b7 : Fld Z h7 b7 "java/util/ArrayList" "size" "I" (.int (0 : Int32)) := D7 (Or.inl (hw _ (List.mem_of_getElem? (i := 41) rfl))) (ty := .int) (by decide)
  have g_b7 : n0 ≤ b7 := Nat.le_trans Z0 (Nat.le_of_eq g7.symm)
  have Em7 := own_Emp_ext Em E7
  obtain ⟨_, _, ⟨T8, L8, k8, n8⟩, -, X8, ⟨Lc8, hQ8, l8, y8, z8⟩, st8⟩ := X7.specialBack hx (y := (⟨"java/util/ArrayList", "<init>", "()V"⟩ : MethodName)) rfl hown (mvT hZ (hw _ (List.mem_of_getElem? (i := 5) rfl))) (mvT hZ (hw _ (List.mem_of_getElem? (i := 6) rfl))) (mvT hZ (hw _ (List.mem_of_getElem? (i := 7) rfl))) (by decide) (backOf (W := 1) (rm1 l Z a0 hw [] b7 w3 _ _ _ h7 n0 (Nat.le_trans Z0 E7.1) Em7.1 A7 F_modCount_b7 F_elementData_b7 F_size_b7 g_b7) hZ (hw _ (List.mem_of_getElem? (i := 7) rfl)) (hw _ (List.mem_of_getElem? (i := 4) rfl)) (by decide) (by decide)) (g := (mkF m 93 #[.val (.int p1), .val (.int p2), .val (.int p3), .val (.int p4), .val (.int p5), .val (.int p6), .val (.int (p6 &&& (3 : Int32))), .val (.long (own_m p2)), .second, .val (.long (own_m p3)), .second, .val (.long (own_m p4)), .second, .val (.long (own_m p5)), .second, .val (.long (own_k p6)), .second, .val (.long (p1.toInt64)), .second, .val (.long (own_T0 p1 p2)), .second, .val (.long (own_F1 p1 p2 p3)), .second, .val (.long (own_T1 p1 p2 p3 p4)), .second, .val (.long (own_F2 p1 p2 p3 p4 p5)), .second, .val (.long (own_T2 p1 p2 p3 p4 p5 p6)), .second, .unset, .unset, .unset] [(.ref b7), (.ref b7)])) rfl (by rw [hml]; rfl) (Steps.refl _) (a := b7) (argsL := []) (rest := [(.ref b7)]) (lenOf pd_1_0 rfl) rfl (by show 2 * 0 + _ ≤ _; exact Nat.le_of_eq rfl) (hb hby at_93) (fun _ _ => ⟨rfl, e7, (by decide : 0 + 1 + 0 ≤ _), (by decide : 0 + 3 + 0 ≤ _)⟩)
  dsimp only [Pt.U, Pt.locs, Pt.cells, Pt.slots] at X8 l8 y8 z8 st8 hQ8
  subst l8 y8 z8
  obtain ⟨rfl, N8q, K8, E8, Fm8, Fe8, Fs8⟩ := hQ8
  have N8 := Fr.app N0 N8q
  have Em8 := own_Emp_keep Em7 K8 A7 (hw _ (List.mem_of_getElem? (i := 3) rfl))
  obtain ⟨T9, loc9, c9, s9, ex, X9, N9, hc9, hs9, st9⟩ := own_mid n0 p1 p2 p3 p4 p5 p6 (p6 &&& (3 : Int32)) (own_m p2) (own_m p3) (own_m p4) (own_m p5) (own_k p6) (p1.toInt64) (own_T0 p1 p2) (own_F1 p1 p2 p3) (own_T1 p1 p2 p3 p4) (own_F2 p1 p2 p3 p4 p5) (own_T2 p1 p2 p3 p4 p5 p6) b7 w3 X8 hx hZ hw hby hml hown rfl (by decide) (by decide) ⟨E8, Fm8, Fe8, Fs8⟩ Em8 (own_and3 p6) (own_nums p1 p2 p3 p4 p5 p6) g_b7 (Nat.le_trans (Nat.le_trans Z0 E7.1) K8.1) N8
  obtain ⟨fs, hr, hrun, hended, hW, hsame⟩ := X9.leave (v := some (.int (1 : Int32))) (fun h => by rw [Bd.returns] at h; cases h)
  refine ⟨_, _, pre0 _ ?_, hrun, hended, _, _, rfl, ⟨rfl, N9⟩, ⟨_, rfl⟩, hW, hsame.mono hc9 hs9⟩
  · show Steps p.tables e below (s₁.setTop (mkF m 0 #[.val (.int p1), .val (.int p2), .val (.int p3), .val (.int p4), .val (.int p5), .val (.int p6), .unset, .unset, .unset, .unset, .unset, .unset, .unset, .unset, .unset, .unset, .unset, .unset, .unset, .unset, .unset, .unset, .unset, .unset, .unset, .unset, .unset, .unset, .unset, .unset, .unset, .unset] [])) _
    refine XS.iload X0.here hx rfl (hb hby at_0) rfl ?_
    show Steps p.tables e below (s₁.setTop (mkF m 2 #[.val (.int p1), .val (.int p2), .val (.int p3), .val (.int p4), .val (.int p5), .val (.int p6), .unset, .unset, .unset, .unset, .unset, .unset, .unset, .unset, .unset, .unset, .unset, .unset, .unset, .unset, .unset, .unset, .unset, .unset, .unset, .unset, .unset, .unset, .unset, .unset, .unset, .unset] [(.int p6)])) _
    refine XS.iconst X0.here hx rfl (hb hby at_2) ?_
    show Steps p.tables e below (s₁.setTop (mkF m 3 #[.val (.int p1), .val (.int p2), .val (.int p3), .val (.int p4), .val (.int p5), .val (.int p6), .unset, .unset, .unset, .unset, .unset, .unset, .unset, .unset, .unset, .unset, .unset, .unset, .unset, .unset, .unset, .unset, .unset, .unset, .unset, .unset, .unset, .unset, .unset, .unset, .unset, .unset] [(.int (3 : Int32)), (.int p6)])) _
    refine XS.iand X0.here hx rfl (hb hby at_3) rfl ?_
    show Steps p.tables e below (s₁.setTop (mkF m 4 #[.val (.int p1), .val (.int p2), .val (.int p3), .val (.int p4), .val (.int p5), .val (.int p6), .unset, .unset, .unset, .unset, .unset, .unset, .unset, .unset, .unset, .unset, .unset, .unset, .unset, .unset, .unset, .unset, .unset, .unset, .unset, .unset, .unset, .unset, .unset, .unset, .unset, .unset] [(.int (p6 &&& (3 : Int32)))])) _
    refine XS.istore X0.here hx rfl (hb hby at_4) rfl (l' := #[.val (.int p1), .val (.int p2), .val (.int p3), .val (.int p4), .val (.int p5), .val (.int p6), .val (.int (p6 &&& (3 : Int32))), .unset, .unset, .unset, .unset, .unset, .unset, .unset, .unset, .unset, .unset, .unset, .unset, .unset, .unset, .unset, .unset, .unset, .unset, .unset, .unset, .unset, .unset, .unset, .unset, .unset]) rfl ?_
    show Steps p.tables e below (s₁.setTop (mkF m 6 #[.val (.int p1), .val (.int p2), .val (.int p3), .val (.int p4), .val (.int p5), .val (.int p6), .val (.int (p6 &&& (3 : Int32))), .unset, .unset, .unset, .unset, .unset, .unset, .unset, .unset, .unset, .unset, .unset, .unset, .unset, .unset, .unset, .unset, .unset, .unset, .unset, .unset, .unset, .unset, .unset, .unset, .unset] [])) _
    refine XS.iloadN X0.here hx rfl (hb hby at_6) rfl ?_
    show Steps p.tables e below (s₁.setTop (mkF m 7 #[.val (.int p1), .val (.int p2), .val (.int p3), .val (.int p4), .val (.int p5), .val (.int p6), .val (.int (p6 &&& (3 : Int32))), .unset, .unset, .unset, .unset, .unset, .unset, .unset, .unset, .unset, .unset, .unset, .unset, .unset, .unset, .unset, .unset, .unset, .unset, .unset, .unset, .unset, .unset, .unset, .unset, .unset] [(.int p2)])) _
    refine XS.i2l X0.here hx rfl (hb hby at_7) rfl ?_
    show Steps p.tables e below (s₁.setTop (mkF m 8 #[.val (.int p1), .val (.int p2), .val (.int p3), .val (.int p4), .val (.int p5), .val (.int p6), .val (.int (p6 &&& (3 : Int32))), .unset, .unset, .unset, .unset, .unset, .unset, .unset, .unset, .unset, .unset, .unset, .unset, .unset, .unset, .unset, .unset, .unset, .unset, .unset, .unset, .unset, .unset, .unset, .unset, .unset] [(.long (p2.toInt64))])) _
    refine X0.ldc2Long hx hown (mvT hZ (hw _ (List.mem_of_getElem? (i := 0) rfl))) (g := (mkF m 8 #[.val (.int p1), .val (.int p2), .val (.int p3), .val (.int p4), .val (.int p5), .val (.int p6), .val (.int (p6 &&& (3 : Int32))), .unset, .unset, .unset, .unset, .unset, .unset, .unset, .unset, .unset, .unset, .unset, .unset, .unset, .unset, .unset, .unset, .unset, .unset, .unset, .unset, .unset, .unset, .unset, .unset, .unset] [(.long (p2.toInt64))])) rfl (hb hby at_8) _ ?_
    show Steps p.tables e below (s₁.setTop (mkF m 11 #[.val (.int p1), .val (.int p2), .val (.int p3), .val (.int p4), .val (.int p5), .val (.int p6), .val (.int (p6 &&& (3 : Int32))), .unset, .unset, .unset, .unset, .unset, .unset, .unset, .unset, .unset, .unset, .unset, .unset, .unset, .unset, .unset, .unset, .unset, .unset, .unset, .unset, .unset, .unset, .unset, .unset, .unset] [(.long (2147483647 : Int64)), (.long (p2.toInt64))])) _
    refine XS.land X0.here hx rfl (hb hby at_11) rfl ?_
    show Steps p.tables e below (s₁.setTop (mkF m 12 #[.val (.int p1), .val (.int p2), .val (.int p3), .val (.int p4), .val (.int p5), .val (.int p6), .val (.int (p6 &&& (3 : Int32))), .unset, .unset, .unset, .unset, .unset, .unset, .unset, .unset, .unset, .unset, .unset, .unset, .unset, .unset, .unset, .unset, .unset, .unset, .unset, .unset, .unset, .unset, .unset, .unset, .unset] [(.long (own_m p2))])) _
    refine XS.lstore X0.here hx rfl (hb hby at_12) rfl (l' := #[.val (.int p1), .val (.int p2), .val (.int p3), .val (.int p4), .val (.int p5), .val (.int p6), .val (.int (p6 &&& (3 : Int32))), .val (.long (own_m p2)), .second, .unset, .unset, .unset, .unset, .unset, .unset, .unset, .unset, .unset, .unset, .unset, .unset, .unset, .unset, .unset, .unset, .unset, .unset, .unset, .unset, .unset, .unset, .unset]) rfl ?_
    show Steps p.tables e below (s₁.setTop (mkF m 14 #[.val (.int p1), .val (.int p2), .val (.int p3), .val (.int p4), .val (.int p5), .val (.int p6), .val (.int (p6 &&& (3 : Int32))), .val (.long (own_m p2)), .second, .unset, .unset, .unset, .unset, .unset, .unset, .unset, .unset, .unset, .unset, .unset, .unset, .unset, .unset, .unset, .unset, .unset, .unset, .unset, .unset, .unset, .unset, .unset] [])) _
    refine XS.iloadN X0.here hx rfl (hb hby at_14) rfl ?_
    show Steps p.tables e below (s₁.setTop (mkF m 15 #[.val (.int p1), .val (.int p2), .val (.int p3), .val (.int p4), .val (.int p5), .val (.int p6), .val (.int (p6 &&& (3 : Int32))), .val (.long (own_m p2)), .second, .unset, .unset, .unset, .unset, .unset, .unset, .unset, .unset, .unset, .unset, .unset, .unset, .unset, .unset, .unset, .unset, .unset, .unset, .unset, .unset, .unset, .unset, .unset] [(.int p3)])) _
    refine XS.i2l X0.here hx rfl (hb hby at_15) rfl ?_
    show Steps p.tables e below (s₁.setTop (mkF m 16 #[.val (.int p1), .val (.int p2), .val (.int p3), .val (.int p4), .val (.int p5), .val (.int p6), .val (.int (p6 &&& (3 : Int32))), .val (.long (own_m p2)), .second, .unset, .unset, .unset, .unset, .unset, .unset, .unset, .unset, .unset, .unset, .unset, .unset, .unset, .unset, .unset, .unset, .unset, .unset, .unset, .unset, .unset, .unset, .unset] [(.long (p3.toInt64))])) _
    refine X0.ldc2Long hx hown (mvT hZ (hw _ (List.mem_of_getElem? (i := 0) rfl))) (g := (mkF m 16 #[.val (.int p1), .val (.int p2), .val (.int p3), .val (.int p4), .val (.int p5), .val (.int p6), .val (.int (p6 &&& (3 : Int32))), .val (.long (own_m p2)), .second, .unset, .unset, .unset, .unset, .unset, .unset, .unset, .unset, .unset, .unset, .unset, .unset, .unset, .unset, .unset, .unset, .unset, .unset, .unset, .unset, .unset, .unset, .unset] [(.long (p3.toInt64))])) rfl (hb hby at_16) _ ?_
    show Steps p.tables e below (s₁.setTop (mkF m 19 #[.val (.int p1), .val (.int p2), .val (.int p3), .val (.int p4), .val (.int p5), .val (.int p6), .val (.int (p6 &&& (3 : Int32))), .val (.long (own_m p2)), .second, .unset, .unset, .unset, .unset, .unset, .unset, .unset, .unset, .unset, .unset, .unset, .unset, .unset, .unset, .unset, .unset, .unset, .unset, .unset, .unset, .unset, .unset, .unset] [(.long (2147483647 : Int64)), (.long (p3.toInt64))])) _
    refine XS.land X0.here hx rfl (hb hby at_19) rfl ?_
    show Steps p.tables e below (s₁.setTop (mkF m 20 #[.val (.int p1), .val (.int p2), .val (.int p3), .val (.int p4), .val (.int p5), .val (.int p6), .val (.int (p6 &&& (3 : Int32))), .val (.long (own_m p2)), .second, .unset, .unset, .unset, .unset, .unset, .unset, .unset, .unset, .unset, .unset, .unset, .unset, .unset, .unset, .unset, .unset, .unset, .unset, .unset, .unset, .unset, .unset, .unset] [(.long (own_m p3))])) _
    refine XS.lstore X0.here hx rfl (hb hby at_20) rfl (l' := #[.val (.int p1), .val (.int p2), .val (.int p3), .val (.int p4), .val (.int p5), .val (.int p6), .val (.int (p6 &&& (3 : Int32))), .val (.long (own_m p2)), .second, .val (.long (own_m p3)), .second, .unset, .unset, .unset, .unset, .unset, .unset, .unset, .unset, .unset, .unset, .unset, .unset, .unset, .unset, .unset, .unset, .unset, .unset, .unset, .unset, .unset]) rfl ?_
    show Steps p.tables e below (s₁.setTop (mkF m 22 #[.val (.int p1), .val (.int p2), .val (.int p3), .val (.int p4), .val (.int p5), .val (.int p6), .val (.int (p6 &&& (3 : Int32))), .val (.long (own_m p2)), .second, .val (.long (own_m p3)), .second, .unset, .unset, .unset, .unset, .unset, .unset, .unset, .unset, .unset, .unset, .unset, .unset, .unset, .unset, .unset, .unset, .unset, .unset, .unset, .unset, .unset] [])) _
    refine XS.iloadN X0.here hx rfl (hb hby at_22) rfl ?_
    show Steps p.tables e below (s₁.setTop (mkF m 23 #[.val (.int p1), .val (.int p2), .val (.int p3), .val (.int p4), .val (.int p5), .val (.int p6), .val (.int (p6 &&& (3 : Int32))), .val (.long (own_m p2)), .second, .val (.long (own_m p3)), .second, .unset, .unset, .unset, .unset, .unset, .unset, .unset, .unset, .unset, .unset, .unset, .unset, .unset, .unset, .unset, .unset, .unset, .unset, .unset, .unset, .unset] [(.int p4)])) _
    refine XS.i2l X0.here hx rfl (hb hby at_23) rfl ?_
    show Steps p.tables e below (s₁.setTop (mkF m 24 #[.val (.int p1), .val (.int p2), .val (.int p3), .val (.int p4), .val (.int p5), .val (.int p6), .val (.int (p6 &&& (3 : Int32))), .val (.long (own_m p2)), .second, .val (.long (own_m p3)), .second, .unset, .unset, .unset, .unset, .unset, .unset, .unset, .unset, .unset, .unset, .unset, .unset, .unset, .unset, .unset, .unset, .unset, .unset, .unset, .unset, .unset] [(.long (p4.toInt64))])) _
    refine X0.ldc2Long hx hown (mvT hZ (hw _ (List.mem_of_getElem? (i := 0) rfl))) (g := (mkF m 24 #[.val (.int p1), .val (.int p2), .val (.int p3), .val (.int p4), .val (.int p5), .val (.int p6), .val (.int (p6 &&& (3 : Int32))), .val (.long (own_m p2)), .second, .val (.long (own_m p3)), .second, .unset, .unset, .unset, .unset, .unset, .unset, .unset, .unset, .unset, .unset, .unset, .unset, .unset, .unset, .unset, .unset, .unset, .unset, .unset, .unset, .unset] [(.long (p4.toInt64))])) rfl (hb hby at_24) _ ?_
    show Steps p.tables e below (s₁.setTop (mkF m 27 #[.val (.int p1), .val (.int p2), .val (.int p3), .val (.int p4), .val (.int p5), .val (.int p6), .val (.int (p6 &&& (3 : Int32))), .val (.long (own_m p2)), .second, .val (.long (own_m p3)), .second, .unset, .unset, .unset, .unset, .unset, .unset, .unset, .unset, .unset, .unset, .unset, .unset, .unset, .unset, .unset, .unset, .unset, .unset, .unset, .unset, .unset] [(.long (2147483647 : Int64)), (.long (p4.toInt64))])) _
    refine XS.land X0.here hx rfl (hb hby at_27) rfl ?_
    show Steps p.tables e below (s₁.setTop (mkF m 28 #[.val (.int p1), .val (.int p2), .val (.int p3), .val (.int p4), .val (.int p5), .val (.int p6), .val (.int (p6 &&& (3 : Int32))), .val (.long (own_m p2)), .second, .val (.long (own_m p3)), .second, .unset, .unset, .unset, .unset, .unset, .unset, .unset, .unset, .unset, .unset, .unset, .unset, .unset, .unset, .unset, .unset, .unset, .unset, .unset, .unset, .unset] [(.long (own_m p4))])) _
    refine XS.lstore X0.here hx rfl (hb hby at_28) rfl (l' := #[.val (.int p1), .val (.int p2), .val (.int p3), .val (.int p4), .val (.int p5), .val (.int p6), .val (.int (p6 &&& (3 : Int32))), .val (.long (own_m p2)), .second, .val (.long (own_m p3)), .second, .val (.long (own_m p4)), .second, .unset, .unset, .unset, .unset, .unset, .unset, .unset, .unset, .unset, .unset, .unset, .unset, .unset, .unset, .unset, .unset, .unset, .unset, .unset]) rfl ?_
    show Steps p.tables e below (s₁.setTop (mkF m 30 #[.val (.int p1), .val (.int p2), .val (.int p3), .val (.int p4), .val (.int p5), .val (.int p6), .val (.int (p6 &&& (3 : Int32))), .val (.long (own_m p2)), .second, .val (.long (own_m p3)), .second, .val (.long (own_m p4)), .second, .unset, .unset, .unset, .unset, .unset, .unset, .unset, .unset, .unset, .unset, .unset, .unset, .unset, .unset, .unset, .unset, .unset, .unset, .unset] [])) _
    refine XS.iload X0.here hx rfl (hb hby at_30) rfl ?_
    show Steps p.tables e below (s₁.setTop (mkF m 32 #[.val (.int p1), .val (.int p2), .val (.int p3), .val (.int p4), .val (.int p5), .val (.int p6), .val (.int (p6 &&& (3 : Int32))), .val (.long (own_m p2)), .second, .val (.long (own_m p3)), .second, .val (.long (own_m p4)), .second, .unset, .unset, .unset, .unset, .unset, .unset, .unset, .unset, .unset, .unset, .unset, .unset, .unset, .unset, .unset, .unset, .unset, .unset, .unset] [(.int p5)])) _
    refine XS.i2l X0.here hx rfl (hb hby at_32) rfl ?_
    show Steps p.tables e below (s₁.setTop (mkF m 33 #[.val (.int p1), .val (.int p2), .val (.int p3), .val (.int p4), .val (.int p5), .val (.int p6), .val (.int (p6 &&& (3 : Int32))), .val (.long (own_m p2)), .second, .val (.long (own_m p3)), .second, .val (.long (own_m p4)), .second, .unset, .unset, .unset, .unset, .unset, .unset, .unset, .unset, .unset, .unset, .unset, .unset, .unset, .unset, .unset, .unset, .unset, .unset, .unset] [(.long (p5.toInt64))])) _
    refine X0.ldc2Long hx hown (mvT hZ (hw _ (List.mem_of_getElem? (i := 0) rfl))) (g := (mkF m 33 #[.val (.int p1), .val (.int p2), .val (.int p3), .val (.int p4), .val (.int p5), .val (.int p6), .val (.int (p6 &&& (3 : Int32))), .val (.long (own_m p2)), .second, .val (.long (own_m p3)), .second, .val (.long (own_m p4)), .second, .unset, .unset, .unset, .unset, .unset, .unset, .unset, .unset, .unset, .unset, .unset, .unset, .unset, .unset, .unset, .unset, .unset, .unset, .unset] [(.long (p5.toInt64))])) rfl (hb hby at_33) _ ?_
    show Steps p.tables e below (s₁.setTop (mkF m 36 #[.val (.int p1), .val (.int p2), .val (.int p3), .val (.int p4), .val (.int p5), .val (.int p6), .val (.int (p6 &&& (3 : Int32))), .val (.long (own_m p2)), .second, .val (.long (own_m p3)), .second, .val (.long (own_m p4)), .second, .unset, .unset, .unset, .unset, .unset, .unset, .unset, .unset, .unset, .unset, .unset, .unset, .unset, .unset, .unset, .unset, .unset, .unset, .unset] [(.long (2147483647 : Int64)), (.long (p5.toInt64))])) _
    refine XS.land X0.here hx rfl (hb hby at_36) rfl ?_
    show Steps p.tables e below (s₁.setTop (mkF m 37 #[.val (.int p1), .val (.int p2), .val (.int p3), .val (.int p4), .val (.int p5), .val (.int p6), .val (.int (p6 &&& (3 : Int32))), .val (.long (own_m p2)), .second, .val (.long (own_m p3)), .second, .val (.long (own_m p4)), .second, .unset, .unset, .unset, .unset, .unset, .unset, .unset, .unset, .unset, .unset, .unset, .unset, .unset, .unset, .unset, .unset, .unset, .unset, .unset] [(.long (own_m p5))])) _
    refine XS.lstore X0.here hx rfl (hb hby at_37) rfl (l' := #[.val (.int p1), .val (.int p2), .val (.int p3), .val (.int p4), .val (.int p5), .val (.int p6), .val (.int (p6 &&& (3 : Int32))), .val (.long (own_m p2)), .second, .val (.long (own_m p3)), .second, .val (.long (own_m p4)), .second, .val (.long (own_m p5)), .second, .unset, .unset, .unset, .unset, .unset, .unset, .unset, .unset, .unset, .unset, .unset, .unset, .unset, .unset, .unset, .unset, .unset]) rfl ?_
    show Steps p.tables e below (s₁.setTop (mkF m 39 #[.val (.int p1), .val (.int p2), .val (.int p3), .val (.int p4), .val (.int p5), .val (.int p6), .val (.int (p6 &&& (3 : Int32))), .val (.long (own_m p2)), .second, .val (.long (own_m p3)), .second, .val (.long (own_m p4)), .second, .val (.long (own_m p5)), .second, .unset, .unset, .unset, .unset, .unset, .unset, .unset, .unset, .unset, .unset, .unset, .unset, .unset, .unset, .unset, .unset, .unset] [])) _
    refine XS.iload X0.here hx rfl (hb hby at_39) rfl ?_
    show Steps p.tables e below (s₁.setTop (mkF m 41 #[.val (.int p1), .val (.int p2), .val (.int p3), .val (.int p4), .val (.int p5), .val (.int p6), .val (.int (p6 &&& (3 : Int32))), .val (.long (own_m p2)), .second, .val (.long (own_m p3)), .second, .val (.long (own_m p4)), .second, .val (.long (own_m p5)), .second, .unset, .unset, .unset, .unset, .unset, .unset, .unset, .unset, .unset, .unset, .unset, .unset, .unset, .unset, .unset, .unset, .unset] [(.int p6)])) _
    refine XS.iconst X0.here hx rfl (hb hby at_41) ?_
    show Steps p.tables e below (s₁.setTop (mkF m 42 #[.val (.int p1), .val (.int p2), .val (.int p3), .val (.int p4), .val (.int p5), .val (.int p6), .val (.int (p6 &&& (3 : Int32))), .val (.long (own_m p2)), .second, .val (.long (own_m p3)), .second, .val (.long (own_m p4)), .second, .val (.long (own_m p5)), .second, .unset, .unset, .unset, .unset, .unset, .unset, .unset, .unset, .unset, .unset, .unset, .unset, .unset, .unset, .unset, .unset, .unset] [(.int (2 : Int32)), (.int p6)])) _
    refine XS.iushr X0.here hx rfl (hb hby at_42) rfl ?_
    show Steps p.tables e below (s₁.setTop (mkF m 43 #[.val (.int p1), .val (.int p2), .val (.int p3), .val (.int p4), .val (.int p5), .val (.int p6), .val (.int (p6 &&& (3 : Int32))), .val (.long (own_m p2)), .second, .val (.long (own_m p3)), .second, .val (.long (own_m p4)), .second, .val (.long (own_m p5)), .second, .unset, .unset, .unset, .unset, .unset, .unset, .unset, .unset, .unset, .unset, .unset, .unset, .unset, .unset, .unset, .unset, .unset] [(.int ((p6.toUInt32 >>> ((2 : Int32) &&& 31).toUInt32).toInt32))])) _
    refine XS.i2l X0.here hx rfl (hb hby at_43) rfl ?_
    show Steps p.tables e below (s₁.setTop (mkF m 44 #[.val (.int p1), .val (.int p2), .val (.int p3), .val (.int p4), .val (.int p5), .val (.int p6), .val (.int (p6 &&& (3 : Int32))), .val (.long (own_m p2)), .second, .val (.long (own_m p3)), .second, .val (.long (own_m p4)), .second, .val (.long (own_m p5)), .second, .unset, .unset, .unset, .unset, .unset, .unset, .unset, .unset, .unset, .unset, .unset, .unset, .unset, .unset, .unset, .unset, .unset] [(.long (((p6.toUInt32 >>> ((2 : Int32) &&& 31).toUInt32).toInt32).toInt64))])) _
    refine X0.ldc2Long hx hown (mvT hZ (hw _ (List.mem_of_getElem? (i := 1) rfl))) (g := (mkF m 44 #[.val (.int p1), .val (.int p2), .val (.int p3), .val (.int p4), .val (.int p5), .val (.int p6), .val (.int (p6 &&& (3 : Int32))), .val (.long (own_m p2)), .second, .val (.long (own_m p3)), .second, .val (.long (own_m p4)), .second, .val (.long (own_m p5)), .second, .unset, .unset, .unset, .unset, .unset, .unset, .unset, .unset, .unset, .unset, .unset, .unset, .unset, .unset, .unset, .unset, .unset] [(.long (((p6.toUInt32 >>> ((2 : Int32) &&& 31).toUInt32).toInt32).toInt64))])) rfl (hb hby at_44) _ ?_
    show Steps p.tables e below (s₁.setTop (mkF m 47 #[.val (.int p1), .val (.int p2), .val (.int p3), .val (.int p4), .val (.int p5), .val (.int p6), .val (.int (p6 &&& (3 : Int32))), .val (.long (own_m p2)), .second, .val (.long (own_m p3)), .second, .val (.long (own_m p4)), .second, .val (.long (own_m p5)), .second, .unset, .unset, .unset, .unset, .unset, .unset, .unset, .unset, .unset, .unset, .unset, .unset, .unset, .unset, .unset, .unset, .unset] [(.long (1073741823 : Int64)), (.long (((p6.toUInt32 >>> ((2 : Int32) &&& 31).toUInt32).toInt32).toInt64))])) _
    refine XS.land X0.here hx rfl (hb hby at_47) rfl ?_
    show Steps p.tables e below (s₁.setTop (mkF m 48 #[.val (.int p1), .val (.int p2), .val (.int p3), .val (.int p4), .val (.int p5), .val (.int p6), .val (.int (p6 &&& (3 : Int32))), .val (.long (own_m p2)), .second, .val (.long (own_m p3)), .second, .val (.long (own_m p4)), .second, .val (.long (own_m p5)), .second, .unset, .unset, .unset, .unset, .unset, .unset, .unset, .unset, .unset, .unset, .unset, .unset, .unset, .unset, .unset, .unset, .unset] [(.long (own_k p6))])) _
    refine XS.lstore X0.here hx rfl (hb hby at_48) rfl (l' := #[.val (.int p1), .val (.int p2), .val (.int p3), .val (.int p4), .val (.int p5), .val (.int p6), .val (.int (p6 &&& (3 : Int32))), .val (.long (own_m p2)), .second, .val (.long (own_m p3)), .second, .val (.long (own_m p4)), .second, .val (.long (own_m p5)), .second, .val (.long (own_k p6)), .second, .unset, .unset, .unset, .unset, .unset, .unset, .unset, .unset, .unset, .unset, .unset, .unset, .unset, .unset, .unset]) rfl ?_
    show Steps p.tables e below (s₁.setTop (mkF m 50 #[.val (.int p1), .val (.int p2), .val (.int p3), .val (.int p4), .val (.int p5), .val (.int p6), .val (.int (p6 &&& (3 : Int32))), .val (.long (own_m p2)), .second, .val (.long (own_m p3)), .second, .val (.long (own_m p4)), .second, .val (.long (own_m p5)), .second, .val (.long (own_k p6)), .second, .unset, .unset, .unset, .unset, .unset, .unset, .unset, .unset, .unset, .unset, .unset, .unset, .unset, .unset, .unset] [])) _
    refine XS.iloadN X0.here hx rfl (hb hby at_50) rfl ?_
    show Steps p.tables e below (s₁.setTop (mkF m 51 #[.val (.int p1), .val (.int p2), .val (.int p3), .val (.int p4), .val (.int p5), .val (.int p6), .val (.int (p6 &&& (3 : Int32))), .val (.long (own_m p2)), .second, .val (.long (own_m p3)), .second, .val (.long (own_m p4)), .second, .val (.long (own_m p5)), .second, .val (.long (own_k p6)), .second, .unset, .unset, .unset, .unset, .unset, .unset, .unset, .unset, .unset, .unset, .unset, .unset, .unset, .unset, .unset] [(.int p1)])) _
    refine XS.i2l X0.here hx rfl (hb hby at_51) rfl ?_
    show Steps p.tables e below (s₁.setTop (mkF m 52 #[.val (.int p1), .val (.int p2), .val (.int p3), .val (.int p4), .val (.int p5), .val (.int p6), .val (.int (p6 &&& (3 : Int32))), .val (.long (own_m p2)), .second, .val (.long (own_m p3)), .second, .val (.long (own_m p4)), .second, .val (.long (own_m p5)), .second, .val (.long (own_k p6)), .second, .unset, .unset, .unset, .unset, .unset, .unset, .unset, .unset, .unset, .unset, .unset, .unset, .unset, .unset, .unset] [(.long (p1.toInt64))])) _
    refine XS.lstore X0.here hx rfl (hb hby at_52) rfl (l' := #[.val (.int p1), .val (.int p2), .val (.int p3), .val (.int p4), .val (.int p5), .val (.int p6), .val (.int (p6 &&& (3 : Int32))), .val (.long (own_m p2)), .second, .val (.long (own_m p3)), .second, .val (.long (own_m p4)), .second, .val (.long (own_m p5)), .second, .val (.long (own_k p6)), .second, .val (.long (p1.toInt64)), .second, .unset, .unset, .unset, .unset, .unset, .unset, .unset, .unset, .unset, .unset, .unset, .unset, .unset]) rfl ?_
    show Steps p.tables e below (s₁.setTop (mkF m 54 #[.val (.int p1), .val (.int p2), .val (.int p3), .val (.int p4), .val (.int p5), .val (.int p6), .val (.int (p6 &&& (3 : Int32))), .val (.long (own_m p2)), .second, .val (.long (own_m p3)), .second, .val (.long (own_m p4)), .second, .val (.long (own_m p5)), .second, .val (.long (own_k p6)), .second, .val (.long (p1.toInt64)), .second, .unset, .unset, .unset, .unset, .unset, .unset, .unset, .unset, .unset, .unset, .unset, .unset, .unset] [])) _
    refine XS.lload X0.here hx rfl (hb hby at_54) rfl ?_
    show Steps p.tables e below (s₁.setTop (mkF m 56 #[.val (.int p1), .val (.int p2), .val (.int p3), .val (.int p4), .val (.int p5), .val (.int p6), .val (.int (p6 &&& (3 : Int32))), .val (.long (own_m p2)), .second, .val (.long (own_m p3)), .second, .val (.long (own_m p4)), .second, .val (.long (own_m p5)), .second, .val (.long (own_k p6)), .second, .val (.long (p1.toInt64)), .second, .unset, .unset, .unset, .unset, .unset, .unset, .unset, .unset, .unset, .unset, .unset, .unset, .unset] [(.long (p1.toInt64))])) _
    refine XS.lload X0.here hx rfl (hb hby at_56) rfl ?_
    show Steps p.tables e below (s₁.setTop (mkF m 58 #[.val (.int p1), .val (.int p2), .val (.int p3), .val (.int p4), .val (.int p5), .val (.int p6), .val (.int (p6 &&& (3 : Int32))), .val (.long (own_m p2)), .second, .val (.long (own_m p3)), .second, .val (.long (own_m p4)), .second, .val (.long (own_m p5)), .second, .val (.long (own_k p6)), .second, .val (.long (p1.toInt64)), .second, .unset, .unset, .unset, .unset, .unset, .unset, .unset, .unset, .unset, .unset, .unset, .unset, .unset] [(.long (own_m p2)), (.long (p1.toInt64))])) _
    refine XS.ladd X0.here hx rfl (hb hby at_58) rfl ?_
    show Steps p.tables e below (s₁.setTop (mkF m 59 #[.val (.int p1), .val (.int p2), .val (.int p3), .val (.int p4), .val (.int p5), .val (.int p6), .val (.int (p6 &&& (3 : Int32))), .val (.long (own_m p2)), .second, .val (.long (own_m p3)), .second, .val (.long (own_m p4)), .second, .val (.long (own_m p5)), .second, .val (.long (own_k p6)), .second, .val (.long (p1.toInt64)), .second, .unset, .unset, .unset, .unset, .unset, .unset, .unset, .unset, .unset, .unset, .unset, .unset, .unset] [(.long (own_T0 p1 p2))])) _
    refine XS.lstore X0.here hx rfl (hb hby at_59) rfl (l' := #[.val (.int p1), .val (.int p2), .val (.int p3), .val (.int p4), .val (.int p5), .val (.int p6), .val (.int (p6 &&& (3 : Int32))), .val (.long (own_m p2)), .second, .val (.long (own_m p3)), .second, .val (.long (own_m p4)), .second, .val (.long (own_m p5)), .second, .val (.long (own_k p6)), .second, .val (.long (p1.toInt64)), .second, .val (.long (own_T0 p1 p2)), .second, .unset, .unset, .unset, .unset, .unset, .unset, .unset, .unset, .unset, .unset, .unset]) rfl ?_
    show Steps p.tables e below (s₁.setTop (mkF m 61 #[.val (.int p1), .val (.int p2), .val (.int p3), .val (.int p4), .val (.int p5), .val (.int p6), .val (.int (p6 &&& (3 : Int32))), .val (.long (own_m p2)), .second, .val (.long (own_m p3)), .second, .val (.long (own_m p4)), .second, .val (.long (own_m p5)), .second, .val (.long (own_k p6)), .second, .val (.long (p1.toInt64)), .second, .val (.long (own_T0 p1 p2)), .second, .unset, .unset, .unset, .unset, .unset, .unset, .unset, .unset, .unset, .unset, .unset] [])) _
    refine XS.lload X0.here hx rfl (hb hby at_61) rfl ?_
    show Steps p.tables e below (s₁.setTop (mkF m 63 #[.val (.int p1), .val (.int p2), .val (.int p3), .val (.int p4), .val (.int p5), .val (.int p6), .val (.int (p6 &&& (3 : Int32))), .val (.long (own_m p2)), .second, .val (.long (own_m p3)), .second, .val (.long (own_m p4)), .second, .val (.long (own_m p5)), .second, .val (.long (own_k p6)), .second, .val (.long (p1.toInt64)), .second, .val (.long (own_T0 p1 p2)), .second, .unset, .unset, .unset, .unset, .unset, .unset, .unset, .unset, .unset, .unset, .unset] [(.long (own_T0 p1 p2))])) _
    refine XS.lload X0.here hx rfl (hb hby at_63) rfl ?_
    show Steps p.tables e below (s₁.setTop (mkF m 65 #[.val (.int p1), .val (.int p2), .val (.int p3), .val (.int p4), .val (.int p5), .val (.int p6), .val (.int (p6 &&& (3 : Int32))), .val (.long (own_m p2)), .second, .val (.long (own_m p3)), .second, .val (.long (own_m p4)), .second, .val (.long (own_m p5)), .second, .val (.long (own_k p6)), .second, .val (.long (p1.toInt64)), .second, .val (.long (own_T0 p1 p2)), .second, .unset, .unset, .unset, .unset, .unset, .unset, .unset, .unset, .unset, .unset, .unset] [(.long (own_m p3)), (.long (own_T0 p1 p2))])) _
    refine XS.ladd X0.here hx rfl (hb hby at_65) rfl ?_
    show Steps p.tables e below (s₁.setTop (mkF m 66 #[.val (.int p1), .val (.int p2), .val (.int p3), .val (.int p4), .val (.int p5), .val (.int p6), .val (.int (p6 &&& (3 : Int32))), .val (.long (own_m p2)), .second, .val (.long (own_m p3)), .second, .val (.long (own_m p4)), .second, .val (.long (own_m p5)), .second, .val (.long (own_k p6)), .second, .val (.long (p1.toInt64)), .second, .val (.long (own_T0 p1 p2)), .second, .unset, .unset, .unset, .unset, .unset, .unset, .unset, .unset, .unset, .unset, .unset] [(.long (own_F1 p1 p2 p3))])) _
    refine XS.lstore X0.here hx rfl (hb hby at_66) rfl (l' := #[.val (.int p1), .val (.int p2), .val (.int p3), .val (.int p4), .val (.int p5), .val (.int p6), .val (.int (p6 &&& (3 : Int32))), .val (.long (own_m p2)), .second, .val (.long (own_m p3)), .second, .val (.long (own_m p4)), .second, .val (.long (own_m p5)), .second, .val (.long (own_k p6)), .second, .val (.long (p1.toInt64)), .second, .val (.long (own_T0 p1 p2)), .second, .val (.long (own_F1 p1 p2 p3)), .second, .unset, .unset, .unset, .unset, .unset, .unset, .unset, .unset, .unset]) rfl ?_
    show Steps p.tables e below (s₁.setTop (mkF m 68 #[.val (.int p1), .val (.int p2), .val (.int p3), .val (.int p4), .val (.int p5), .val (.int p6), .val (.int (p6 &&& (3 : Int32))), .val (.long (own_m p2)), .second, .val (.long (own_m p3)), .second, .val (.long (own_m p4)), .second, .val (.long (own_m p5)), .second, .val (.long (own_k p6)), .second, .val (.long (p1.toInt64)), .second, .val (.long (own_T0 p1 p2)), .second, .val (.long (own_F1 p1 p2 p3)), .second, .unset, .unset, .unset, .unset, .unset, .unset, .unset, .unset, .unset] [])) _
    refine XS.lload X0.here hx rfl (hb hby at_68) rfl ?_
    show Steps p.tables e below (s₁.setTop (mkF m 70 #[.val (.int p1), .val (.int p2), .val (.int p3), .val (.int p4), .val (.int p5), .val (.int p6), .val (.int (p6 &&& (3 : Int32))), .val (.long (own_m p2)), .second, .val (.long (own_m p3)), .second, .val (.long (own_m p4)), .second, .val (.long (own_m p5)), .second, .val (.long (own_k p6)), .second, .val (.long (p1.toInt64)), .second, .val (.long (own_T0 p1 p2)), .second, .val (.long (own_F1 p1 p2 p3)), .second, .unset, .unset, .unset, .unset, .unset, .unset, .unset, .unset, .unset] [(.long (own_F1 p1 p2 p3))])) _
    refine XS.lload X0.here hx rfl (hb hby at_70) rfl ?_
    show Steps p.tables e below (s₁.setTop (mkF m 72 #[.val (.int p1), .val (.int p2), .val (.int p3), .val (.int p4), .val (.int p5), .val (.int p6), .val (.int (p6 &&& (3 : Int32))), .val (.long (own_m p2)), .second, .val (.long (own_m p3)), .second, .val (.long (own_m p4)), .second, .val (.long (own_m p5)), .second, .val (.long (own_k p6)), .second, .val (.long (p1.toInt64)), .second, .val (.long (own_T0 p1 p2)), .second, .val (.long (own_F1 p1 p2 p3)), .second, .unset, .unset, .unset, .unset, .unset, .unset, .unset, .unset, .unset] [(.long (own_m p4)), (.long (own_F1 p1 p2 p3))])) _
    refine XS.ladd X0.here hx rfl (hb hby at_72) rfl ?_
    show Steps p.tables e below (s₁.setTop (mkF m 73 #[.val (.int p1), .val (.int p2), .val (.int p3), .val (.int p4), .val (.int p5), .val (.int p6), .val (.int (p6 &&& (3 : Int32))), .val (.long (own_m p2)), .second, .val (.long (own_m p3)), .second, .val (.long (own_m p4)), .second, .val (.long (own_m p5)), .second, .val (.long (own_k p6)), .second, .val (.long (p1.toInt64)), .second, .val (.long (own_T0 p1 p2)), .second, .val (.long (own_F1 p1 p2 p3)), .second, .unset, .unset, .unset, .unset, .unset, .unset, .unset, .unset, .unset] [(.long (own_T1 p1 p2 p3 p4))])) _
    refine XS.lstore X0.here hx rfl (hb hby at_73) rfl (l' := #[.val (.int p1), .val (.int p2), .val (.int p3), .val (.int p4), .val (.int p5), .val (.int p6), .val (.int (p6 &&& (3 : Int32))), .val (.long (own_m p2)), .second, .val (.long (own_m p3)), .second, .val (.long (own_m p4)), .second, .val (.long (own_m p5)), .second, .val (.long (own_k p6)), .second, .val (.long (p1.toInt64)), .second, .val (.long (own_T0 p1 p2)), .second, .val (.long (own_F1 p1 p2 p3)), .second, .val (.long (own_T1 p1 p2 p3 p4)), .second, .unset, .unset, .unset, .unset, .unset, .unset, .unset]) rfl ?_
    show Steps p.tables e below (s₁.setTop (mkF m 75 #[.val (.int p1), .val (.int p2), .val (.int p3), .val (.int p4), .val (.int p5), .val (.int p6), .val (.int (p6 &&& (3 : Int32))), .val (.long (own_m p2)), .second, .val (.long (own_m p3)), .second, .val (.long (own_m p4)), .second, .val (.long (own_m p5)), .second, .val (.long (own_k p6)), .second, .val (.long (p1.toInt64)), .second, .val (.long (own_T0 p1 p2)), .second, .val (.long (own_F1 p1 p2 p3)), .second, .val (.long (own_T1 p1 p2 p3 p4)), .second, .unset, .unset, .unset, .unset, .unset, .unset, .unset] [])) _
    refine XS.lload X0.here hx rfl (hb hby at_75) rfl ?_
    show Steps p.tables e below (s₁.setTop (mkF m 77 #[.val (.int p1), .val (.int p2), .val (.int p3), .val (.int p4), .val (.int p5), .val (.int p6), .val (.int (p6 &&& (3 : Int32))), .val (.long (own_m p2)), .second, .val (.long (own_m p3)), .second, .val (.long (own_m p4)), .second, .val (.long (own_m p5)), .second, .val (.long (own_k p6)), .second, .val (.long (p1.toInt64)), .second, .val (.long (own_T0 p1 p2)), .second, .val (.long (own_F1 p1 p2 p3)), .second, .val (.long (own_T1 p1 p2 p3 p4)), .second, .unset, .unset, .unset, .unset, .unset, .unset, .unset] [(.long (own_T1 p1 p2 p3 p4))])) _
    refine XS.lload X0.here hx rfl (hb hby at_77) rfl ?_
    show Steps p.tables e below (s₁.setTop (mkF m 79 #[.val (.int p1), .val (.int p2), .val (.int p3), .val (.int p4), .val (.int p5), .val (.int p6), .val (.int (p6 &&& (3 : Int32))), .val (.long (own_m p2)), .second, .val (.long (own_m p3)), .second, .val (.long (own_m p4)), .second, .val (.long (own_m p5)), .second, .val (.long (own_k p6)), .second, .val (.long (p1.toInt64)), .second, .val (.long (own_T0 p1 p2)), .second, .val (.long (own_F1 p1 p2 p3)), .second, .val (.long (own_T1 p1 p2 p3 p4)), .second, .unset, .unset, .unset, .unset, .unset, .unset, .unset] [(.long (own_m p5)), (.long (own_T1 p1 p2 p3 p4))])) _
    refine XS.ladd X0.here hx rfl (hb hby at_79) rfl ?_
    show Steps p.tables e below (s₁.setTop (mkF m 80 #[.val (.int p1), .val (.int p2), .val (.int p3), .val (.int p4), .val (.int p5), .val (.int p6), .val (.int (p6 &&& (3 : Int32))), .val (.long (own_m p2)), .second, .val (.long (own_m p3)), .second, .val (.long (own_m p4)), .second, .val (.long (own_m p5)), .second, .val (.long (own_k p6)), .second, .val (.long (p1.toInt64)), .second, .val (.long (own_T0 p1 p2)), .second, .val (.long (own_F1 p1 p2 p3)), .second, .val (.long (own_T1 p1 p2 p3 p4)), .second, .unset, .unset, .unset, .unset, .unset, .unset, .unset] [(.long (own_F2 p1 p2 p3 p4 p5))])) _
    refine XS.lstore X0.here hx rfl (hb hby at_80) rfl (l' := #[.val (.int p1), .val (.int p2), .val (.int p3), .val (.int p4), .val (.int p5), .val (.int p6), .val (.int (p6 &&& (3 : Int32))), .val (.long (own_m p2)), .second, .val (.long (own_m p3)), .second, .val (.long (own_m p4)), .second, .val (.long (own_m p5)), .second, .val (.long (own_k p6)), .second, .val (.long (p1.toInt64)), .second, .val (.long (own_T0 p1 p2)), .second, .val (.long (own_F1 p1 p2 p3)), .second, .val (.long (own_T1 p1 p2 p3 p4)), .second, .val (.long (own_F2 p1 p2 p3 p4 p5)), .second, .unset, .unset, .unset, .unset, .unset]) rfl ?_
    show Steps p.tables e below (s₁.setTop (mkF m 82 #[.val (.int p1), .val (.int p2), .val (.int p3), .val (.int p4), .val (.int p5), .val (.int p6), .val (.int (p6 &&& (3 : Int32))), .val (.long (own_m p2)), .second, .val (.long (own_m p3)), .second, .val (.long (own_m p4)), .second, .val (.long (own_m p5)), .second, .val (.long (own_k p6)), .second, .val (.long (p1.toInt64)), .second, .val (.long (own_T0 p1 p2)), .second, .val (.long (own_F1 p1 p2 p3)), .second, .val (.long (own_T1 p1 p2 p3 p4)), .second, .val (.long (own_F2 p1 p2 p3 p4 p5)), .second, .unset, .unset, .unset, .unset, .unset] [])) _
    refine XS.lload X0.here hx rfl (hb hby at_82) rfl ?_
    show Steps p.tables e below (s₁.setTop (mkF m 84 #[.val (.int p1), .val (.int p2), .val (.int p3), .val (.int p4), .val (.int p5), .val (.int p6), .val (.int (p6 &&& (3 : Int32))), .val (.long (own_m p2)), .second, .val (.long (own_m p3)), .second, .val (.long (own_m p4)), .second, .val (.long (own_m p5)), .second, .val (.long (own_k p6)), .second, .val (.long (p1.toInt64)), .second, .val (.long (own_T0 p1 p2)), .second, .val (.long (own_F1 p1 p2 p3)), .second, .val (.long (own_T1 p1 p2 p3 p4)), .second, .val (.long (own_F2 p1 p2 p3 p4 p5)), .second, .unset, .unset, .unset, .unset, .unset] [(.long (own_F2 p1 p2 p3 p4 p5))])) _
    refine XS.lload X0.here hx rfl (hb hby at_84) rfl ?_
    show Steps p.tables e below (s₁.setTop (mkF m 86 #[.val (.int p1), .val (.int p2), .val (.int p3), .val (.int p4), .val (.int p5), .val (.int p6), .val (.int (p6 &&& (3 : Int32))), .val (.long (own_m p2)), .second, .val (.long (own_m p3)), .second, .val (.long (own_m p4)), .second, .val (.long (own_m p5)), .second, .val (.long (own_k p6)), .second, .val (.long (p1.toInt64)), .second, .val (.long (own_T0 p1 p2)), .second, .val (.long (own_F1 p1 p2 p3)), .second, .val (.long (own_T1 p1 p2 p3 p4)), .second, .val (.long (own_F2 p1 p2 p3 p4 p5)), .second, .unset, .unset, .unset, .unset, .unset] [(.long (own_k p6)), (.long (own_F2 p1 p2 p3 p4 p5))])) _
    refine XS.ladd X0.here hx rfl (hb hby at_86) rfl ?_
    show Steps p.tables e below (s₁.setTop (mkF m 87 #[.val (.int p1), .val (.int p2), .val (.int p3), .val (.int p4), .val (.int p5), .val (.int p6), .val (.int (p6 &&& (3 : Int32))), .val (.long (own_m p2)), .second, .val (.long (own_m p3)), .second, .val (.long (own_m p4)), .second, .val (.long (own_m p5)), .second, .val (.long (own_k p6)), .second, .val (.long (p1.toInt64)), .second, .val (.long (own_T0 p1 p2)), .second, .val (.long (own_F1 p1 p2 p3)), .second, .val (.long (own_T1 p1 p2 p3 p4)), .second, .val (.long (own_F2 p1 p2 p3 p4 p5)), .second, .unset, .unset, .unset, .unset, .unset] [(.long (own_T2 p1 p2 p3 p4 p5 p6))])) _
    refine XS.lstore X0.here hx rfl (hb hby at_87) rfl (l' := #[.val (.int p1), .val (.int p2), .val (.int p3), .val (.int p4), .val (.int p5), .val (.int p6), .val (.int (p6 &&& (3 : Int32))), .val (.long (own_m p2)), .second, .val (.long (own_m p3)), .second, .val (.long (own_m p4)), .second, .val (.long (own_m p5)), .second, .val (.long (own_k p6)), .second, .val (.long (p1.toInt64)), .second, .val (.long (own_T0 p1 p2)), .second, .val (.long (own_F1 p1 p2 p3)), .second, .val (.long (own_T1 p1 p2 p3 p4)), .second, .val (.long (own_F2 p1 p2 p3 p4 p5)), .second, .val (.long (own_T2 p1 p2 p3 p4 p5 p6)), .second, .unset, .unset, .unset]) rfl ?_
    show Steps p.tables e below (s₁.setTop (mkF m 89 #[.val (.int p1), .val (.int p2), .val (.int p3), .val (.int p4), .val (.int p5), .val (.int p6), .val (.int (p6 &&& (3 : Int32))), .val (.long (own_m p2)), .second, .val (.long (own_m p3)), .second, .val (.long (own_m p4)), .second, .val (.long (own_m p5)), .second, .val (.long (own_k p6)), .second, .val (.long (p1.toInt64)), .second, .val (.long (own_T0 p1 p2)), .second, .val (.long (own_F1 p1 p2 p3)), .second, .val (.long (own_T1 p1 p2 p3 p4)), .second, .val (.long (own_F2 p1 p2 p3 p4 p5)), .second, .val (.long (own_T2 p1 p2 p3 p4 p5 p6)), .second, .unset, .unset, .unset] [])) _
    refine st7 _ ?_
    show Steps p.tables e below (T7.setTop (mkF m 92 #[.val (.int p1), .val (.int p2), .val (.int p3), .val (.int p4), .val (.int p5), .val (.int p6), .val (.int (p6 &&& (3 : Int32))), .val (.long (own_m p2)), .second, .val (.long (own_m p3)), .second, .val (.long (own_m p4)), .second, .val (.long (own_m p5)), .second, .val (.long (own_k p6)), .second, .val (.long (p1.toInt64)), .second, .val (.long (own_T0 p1 p2)), .second, .val (.long (own_F1 p1 p2 p3)), .second, .val (.long (own_T1 p1 p2 p3 p4)), .second, .val (.long (own_F2 p1 p2 p3 p4 p5)), .second, .val (.long (own_T2 p1 p2 p3 p4 p5 p6)), .second, .unset, .unset, .unset] [(.ref b7)])) _
    refine XS.dup X7.here hx rfl (hb hby at_92) rfl rfl ?_
    show Steps p.tables e below (T7.setTop (mkF m 93 #[.val (.int p1), .val (.int p2), .val (.int p3), .val (.int p4), .val (.int p5), .val (.int p6), .val (.int (p6 &&& (3 : Int32))), .val (.long (own_m p2)), .second, .val (.long (own_m p3)), .second, .val (.long (own_m p4)), .second, .val (.long (own_m p5)), .second, .val (.long (own_k p6)), .second, .val (.long (p1.toInt64)), .second, .val (.long (own_T0 p1 p2)), .second, .val (.long (own_F1 p1 p2 p3)), .second, .val (.long (own_T1 p1 p2 p3 p4)), .second, .val (.long (own_F2 p1 p2 p3 p4 p5)), .second, .val (.long (own_T2 p1 p2 p3 p4 p5 p6)), .second, .unset, .unset, .unset] [(.ref b7), (.ref b7)])) _
    refine st8.trans ?_
    show Steps p.tables e below (T8.setTop (mkF m 96 #[.val (.int p1), .val (.int p2), .val (.int p3), .val (.int p4), .val (.int p5), .val (.int p6), .val (.int (p6 &&& (3 : Int32))), .val (.long (own_m p2)), .second, .val (.long (own_m p3)), .second, .val (.long (own_m p4)), .second, .val (.long (own_m p5)), .second, .val (.long (own_k p6)), .second, .val (.long (p1.toInt64)), .second, .val (.long (own_T0 p1 p2)), .second, .val (.long (own_F1 p1 p2 p3)), .second, .val (.long (own_T1 p1 p2 p3 p4)), .second, .val (.long (own_F2 p1 p2 p3 p4 p5)), .second, .val (.long (own_T2 p1 p2 p3 p4 p5 p6)), .second, .unset, .unset, .unset] [(.ref b7)])) _
    refine XS.astore X8.here hx rfl (hb hby at_96) rfl rfl (l' := #[.val (.int p1), .val (.int p2), .val (.int p3), .val (.int p4), .val (.int p5), .val (.int p6), .val (.int (p6 &&& (3 : Int32))), .val (.long (own_m p2)), .second, .val (.long (own_m p3)), .second, .val (.long (own_m p4)), .second, .val (.long (own_m p5)), .second, .val (.long (own_k p6)), .second, .val (.long (p1.toInt64)), .second, .val (.long (own_T0 p1 p2)), .second, .val (.long (own_F1 p1 p2 p3)), .second, .val (.long (own_T1 p1 p2 p3 p4)), .second, .val (.long (own_F2 p1 p2 p3 p4 p5)), .second, .val (.long (own_T2 p1 p2 p3 p4 p5 p6)), .second, .val (.ref b7), .unset, .unset]) rfl ?_
    show Steps p.tables e below (T8.setTop (mkF m 98 #[.val (.int p1), .val (.int p2), .val (.int p3), .val (.int p4), .val (.int p5), .val (.int p6), .val (.int (p6 &&& (3 : Int32))), .val (.long (own_m p2)), .second, .val (.long (own_m p3)), .second, .val (.long (own_m p4)), .second, .val (.long (own_m p5)), .second, .val (.long (own_k p6)), .second, .val (.long (p1.toInt64)), .second, .val (.long (own_T0 p1 p2)), .second, .val (.long (own_F1 p1 p2 p3)), .second, .val (.long (own_T1 p1 p2 p3 p4)), .second, .val (.long (own_F2 p1 p2 p3 p4 p5)), .second, .val (.long (own_T2 p1 p2 p3 p4 p5 p6)), .second, .val (.ref b7), .unset, .unset] [])) _
    refine XS.lconst X8.here hx rfl (hb hby at_98) ?_
    show Steps p.tables e below (T8.setTop (mkF m 99 #[.val (.int p1), .val (.int p2), .val (.int p3), .val (.int p4), .val (.int p5), .val (.int p6), .val (.int (p6 &&& (3 : Int32))), .val (.long (own_m p2)), .second, .val (.long (own_m p3)), .second, .val (.long (own_m p4)), .second, .val (.long (own_m p5)), .second, .val (.long (own_k p6)), .second, .val (.long (p1.toInt64)), .second, .val (.long (own_T0 p1 p2)), .second, .val (.long (own_F1 p1 p2 p3)), .second, .val (.long (own_T1 p1 p2 p3 p4)), .second, .val (.long (own_F2 p1 p2 p3 p4 p5)), .second, .val (.long (own_T2 p1 p2 p3 p4 p5 p6)), .second, .val (.ref b7), .unset, .unset] [(.long (0 : Int64))])) _
    refine XS.lstore X8.here hx rfl (hb hby at_99) rfl (l' := #[.val (.int p1), .val (.int p2), .val (.int p3), .val (.int p4), .val (.int p5), .val (.int p6), .val (.int (p6 &&& (3 : Int32))), .val (.long (own_m p2)), .second, .val (.long (own_m p3)), .second, .val (.long (own_m p4)), .second, .val (.long (own_m p5)), .second, .val (.long (own_k p6)), .second, .val (.long (p1.toInt64)), .second, .val (.long (own_T0 p1 p2)), .second, .val (.long (own_F1 p1 p2 p3)), .second, .val (.long (own_T1 p1 p2 p3 p4)), .second, .val (.long (own_F2 p1 p2 p3 p4 p5)), .second, .val (.long (own_T2 p1 p2 p3 p4 p5 p6)), .second, .val (.ref b7), .val (.long (0 : Int64)), .second]) rfl ?_
    show Steps p.tables e below (T8.setTop (mkF m 101 #[.val (.int p1), .val (.int p2), .val (.int p3), .val (.int p4), .val (.int p5), .val (.int p6), .val (.int (p6 &&& (3 : Int32))), .val (.long (own_m p2)), .second, .val (.long (own_m p3)), .second, .val (.long (own_m p4)), .second, .val (.long (own_m p5)), .second, .val (.long (own_k p6)), .second, .val (.long (p1.toInt64)), .second, .val (.long (own_T0 p1 p2)), .second, .val (.long (own_F1 p1 p2 p3)), .second, .val (.long (own_T1 p1 p2 p3 p4)), .second, .val (.long (own_F2 p1 p2 p3 p4 p5)), .second, .val (.long (own_T2 p1 p2 p3 p4 p5 p6)), .second, .val (.ref b7), .val (.long (0 : Int64)), .second] [])) _
    refine st9 _ ?_
    show Steps p.tables e below (T9.setTop (mkF m 226 (own_L p1 p2 p3 p4 p5 p6 (p6 &&& (3 : Int32)) (own_m p2) (own_m p3) (own_m p4) (own_m p5) (own_k p6) (p1.toInt64) (own_T0 p1 p2) (own_F1 p1 p2 p3) (own_T1 p1 p2 p3 p4) (own_F2 p1 p2 p3 p4 p5) (own_T2 p1 p2 p3 p4 p5 p6) b7 ex) [(.int (1 : Int32))])) _
    exact retN X9 hx (t := .boolean) Bd.returns (by simp) (hb hby at_226) hr
set_option maxRecDepth 65536 in
set_option maxHeartbeats 40000000 in
theorem comes_1 {Post : Tables → Env → Array Value → State → Outcome → State → Prop} (hpost : ∀ tb e args s v u, (limb_1_1.after args s (.returned v) u = true ∧ limb_1_2.after args s (.returned v) u = true ∧ True) → FrameEnd s (.returned v) u (Jvm.fieldLocs frame_1_writes args s ++ Jvm.arrayLocs frame_1_arrays args s ++ Jvm.staticLocs frame_1_statics s) 24 128 → Post tb e args s (.returned v) u) :
    ArmFor flags0 classFile x code maxLocals ret World_1 tables_1 room_1 Calls_1 rest_1 Pre_1 Post := by
  intro l hfl _ _ p e ha hc hk s m args below hf hA hF happ hP
  obtain ⟨hcalls, hrest, hpre⟩ := hP
  obtain ⟨-, -, -, hnamed, -, -, -, hat⟩ := (Spec.applies_iff hf).mp happ
  obtain ⟨hg, hn⟩ := and_e (Cond.before_iff.mp (show (Jvm.Cond.and given_1 narrow_1).before args s = true from hpre))
  obtain ⟨h1, h2⟩ := and_e hg
  obtain ⟨k0, h3⟩ := and_e h2
  obtain ⟨k1, h4⟩ := and_e h3
  obtain ⟨k2, h5⟩ := and_e h4
  obtain ⟨k3, h6⟩ := and_e h5
  obtain ⟨k4, k5⟩ := and_e h6
  obtain ⟨w0, w1, w2, w3, w4, w5, rfl⟩ : ∃ w0 w1 w2 w3 w4 w5 : Value, args = #[w0, w1, w2, w3, w4, w5] := by
    have hs : args.size = 6 := by simpa [Cond.value, given_1] using h1
    obtain ⟨L⟩ := args
    match L, hs with
    | [w0, w1, w2, w3, w4, w5], _ => exact ⟨w0, w1, w2, w3, w4, w5, rfl⟩
  have hw := fun d (hd : d ∈ tables_1) => atoms_spec (ws := Jvm.Cond.code x code maxLocals ret :: tables_1) hat d (List.mem_cons_of_mem _ hd)
  obtain ⟨hsets, hown0⟩ := atoms_of _ (rest_1_c_eq ▸ (show rest_1_c.before _ s = true from hrest))
  obtain ⟨i0, e0⟩ := is_v k0
  obtain rfl : w0 = (.int i0) := Option.some.inj e0
  obtain ⟨i1, e1⟩ := is_v k1
  obtain rfl : w1 = (.int i1) := Option.some.inj e1
  obtain ⟨i2, e2⟩ := is_v k2
  obtain rfl : w2 = (.int i2) := Option.some.inj e2
  obtain ⟨i3, e3⟩ := is_v k3
  obtain rfl : w3 = (.int i3) := Option.some.inj e3
  obtain ⟨i4, e4⟩ := is_v k4
  obtain rfl : w4 = (.int i4) := Option.some.inj e4
  obtain ⟨i5, e5⟩ := is_v k5
  obtain rfl : w5 = (.int i5) := Option.some.inj e5
  have ha6 := Cond.before_iff.mp (hsets _ (List.mem_of_getElem? (i := 6) rfl))
  obtain ⟨wd, ed⟩ := arr_v ha6
  obtain ⟨cl, Ar⟩ := Arr.start ed ha6
  have hl8 := Cond.before_iff.mp (hsets _ (List.mem_of_getElem? (i := 8) rfl))
  obtain ⟨vx, vy, v1, v2, -⟩ := cmp_v (Or.inl hl8)
  obtain ⟨wd', cl', ed', ea', hl31, rfl⟩ := Jvm.Lib.length_spec v1
  cases ed.symm.trans ed'
  have hcl : cl' = cl := Option.some.inj (((State.arrayAt?_spec ea').1).symm.trans Ar.1)
  subst hcl
  have hz0 : cl'.slots.size.toInt32 = (0 : Int32) := gotT (Cond.eq_ints v1 (Term.int_eval (0))) hl8
  have hsz : cl'.slots.size = (0 : Int32).toNatClampNeg := by
    have q := len_toInt hl31
    rw [hz0] at q
    have z : (0 : Int32).toInt = 0 := by decide
    have z2 : (0 : Int32).toNatClampNeg = 0 := by decide
    omega
  have Em : own_Emp s s.heap wd := ⟨Sta.start ed (Or.inr ⟨hw _ (List.mem_of_getElem? (i := 4) rfl), hsets _ (List.mem_of_getElem? (i := 2) rfl)⟩), cl', Ar, hsz⟩
  obtain ⟨n, o, h1, h2, h3, _, L, rfl, ⟨rfl, N⟩, hq⟩ := rm0 l s _ hw tables_1 i0 i1 i2 i3 i4 i5 wd s.heap s.heap.size (Nat.le_refl _) Em p e ha hc hk s m _ below hf ((Spec.applies_iff_loose hf).mp happ).1 ⟨rfl, State.Warmed39.refl s, rfl⟩ trivial
  refine ⟨n, _, h1, h2, h3, hpost _ _ _ _ _ _ ⟨Cond.after_iff.mpr rfl, Cond.after_iff.mpr (eq_i res_at (Term.int_eval (1)) rfl), trivial⟩ ⟨hq.1, hq.2.1, (hq.2.2.sift fun y hy => Or.inr (N y hy)).mono (by decide) (by decide)⟩⟩
theorem main_1_1 : Claimed_1_1 := comes_1 fun _ _ _ _ _ _ h hF => ⟨h.1, hF⟩
theorem main_1_2 : Claimed_1_2 := comes_1 fun _ _ _ _ _ _ h hF => ⟨h.2.1, hF⟩
end Jvm.Pilot.@@N@@
namespace Jvm.Pilot.@@N@@
open Jvm Jvm.ClassFile Sem Op Lib Jvm.Free Jvm.Stand Jvm.Pilot.@@N@@.Jvm.D
/-! MADE BY PROGRAM (witnessworld.py) out of the Statement's table words and the real class files: 23 classes; the members and pool entries that the words name. The judged class is class 1, her method 1. -/
namespace start1
open Jvm.ClassFile
def u (s : String) : CpInfo := .utf8 (stringToUtf16 s)
/-- a pool by its gaps: so many unusable entries, then the entry; so many at the end -/
def gap : Nat → List CpInfo → List CpInfo
  | 0, r => r
  | n + 1, r => .unusable :: gap n r
def poolList (es : List (Nat × CpInfo)) (last : Nat) : List CpInfo := es.foldr (fun e r => gap e.1 (e.2 :: r)) (gap last [])
def pool (es : List (Nat × CpInfo)) (last : Nat) : Array CpInfo := ⟨poolList es last⟩
def fileOf (pool : Array CpInfo) (this : Nat) (attrs : Array Attribute := #[]) (ms : Array MethodInfo := #[]) (fl : Nat := 33) (sup : Nat := 0) (ifs : Array Nat := #[]) (fds : Array FieldInfo := #[]) : ClassFile where
  minorVersion := 0
  majorVersion := 65
  constantPool := pool
  accessFlags := fl
  thisClass := this
  superClass := sup
  interfaces := ifs
  fields := fds
  methods := ms
  attributes := attrs
def plain (name : String) (sup : Option ClassId) : Class where
  name := name
  kind := .ordinary
  loader := none
  accessFlags := 33
  super := sup
  interfaces := #[]
  cf := none
  fields := #[]
  methods := #[]
  instanceTypes := #[]
  staticTypes := #[]
  resolved := #[]
  callSites := []
  init := .initialized
  statics := none
  mirror := none

def pool0 : Array CpInfo := pool [(5, u "<init>"), (0, u "()V"), (1, .class_ 10), (1, u "java/lang/Object")] 113

def k0c0 : Code := { maxStack := 0, maxLocals := 1, code := object_method_1_code, exceptionTable := #[], attributes := #[] }
def k0m0 : Method := { name := "<init>", desc := "()V", sig := { parameters := [], returnType := none }, accessFlags := 1, code := some k0c0 }
/-- java/lang/Object -/
def k0 : Class := { plain "java/lang/Object" none with
  accessFlags := 33
  interfaces := #[]
  cf := some (fileOf pool0 8 #[] #[{ accessFlags := 1, nameIndex := 5, descriptorIndex := 6, attributes := #[] }] 33 0 #[] #[])
  fields := #[]
  methods := #[k0m0]
  instanceTypes := #[]
  staticTypes := #[]
  resolved := Array.replicate 124 none
  statics := none }

def pool1 : Array CpInfo := pool [(2, .class_ 4), (0, .nameAndType 5 6), (0, u "java/lang/Object"), (0, u "<init>"), (0, u "()V"), (0, .long 2147483647), (1, .long 1073741823), (1, .class_ 12), (0, u "java/util/ArrayList"), (0, .methodref 11 3), (0, .interfaceMethodref 15 16), (0, .class_ 17), (0, .nameAndType 18 19), (0, u "java/util/List"), (0, u "add"), (0, u "(Ljava/lang/Object;)Z"), (0, .methodref 21 22), (0, .class_ 23), (0, .nameAndType 24 25), (0, u "com/example/waypost/waypost/coverage/Intervals"), (0, u "length"), (0, u "(Ljava/util/List;)D"), (0, .class_ 27), (0, u "com/example/waypost/waypost/coverage/IntervalsLengthPinLaw"), (2, u "law"), (0, u "(IIIIII)Z")] 3

def k1m0 : Method := { name := "<init>", desc := "()V", sig := { parameters := [], returnType := none }, accessFlags := 1, code := none }
def k1c1 : Code := { maxStack := 6, maxLocals := 32, code := code, exceptionTable := #[], attributes := #[] }
def k1m1 : Method := { name := "law", desc := "(IIIIII)Z", sig := { parameters := [.int, .int, .int, .int, .int, .int], returnType := some .boolean }, accessFlags := 9, code := some k1c1 }
/-- com/example/waypost/waypost/coverage/IntervalsLengthPinLaw -/
def k1 : Class := { plain "com/example/waypost/waypost/coverage/IntervalsLengthPinLaw" (some 0) with
  accessFlags := 49
  interfaces := #[]
  cf := some (fileOf pool1 26 #[] #[{ accessFlags := 1, nameIndex := 5, descriptorIndex := 6, attributes := #[] }, { accessFlags := 9, nameIndex := 30, descriptorIndex := 31, attributes := #[] }] 49 2 #[] #[])
  fields := #[]
  methods := #[k1m0, k1m1]
  instanceTypes := #[]
  staticTypes := #[]
  resolved := Array.replicate 35 none
  statics := none }

def pool2 : Array CpInfo := pool [(8, .class_ 10), (1, u "java/lang/Iterable"), (24, .class_ 36), (0, u "java/lang/Object")] 25

/-- java/lang/Iterable -/
def k2 : Class := { plain "java/lang/Iterable" (some 0) with
  accessFlags := 1537
  interfaces := #[]
  cf := some (fileOf pool2 8 #[] #[] 1537 35 #[] #[])
  fields := #[]
  methods := #[]
  instanceTypes := #[]
  staticTypes := #[]
  resolved := Array.replicate 62 none
  statics := none }

def pool3 : Array CpInfo := pool [(10, .class_ 12), (1, u "java/util/Collection"), (47, .class_ 61), (0, u "java/lang/Object"), (0, .class_ 63), (0, u "java/lang/Iterable")] 51

/-- java/util/Collection -/
def k3 : Class := { plain "java/util/Collection" (some 0) with
  accessFlags := 1537
  interfaces := #[2]
  cf := some (fileOf pool3 10 #[] #[] 1537 60 #[62] #[])
  fields := #[]
  methods := #[]
  instanceTypes := #[]
  staticTypes := #[]
  resolved := Array.replicate 115 none
  statics := none }

def pool4 : Array CpInfo := pool [(1, .methodref 2 3), (0, .class_ 4), (0, .nameAndType 5 6), (0, u "java/lang/Object"), (0, u "<init>"), (0, u "()V"), (1, .class_ 10), (1, u "java/util/AbstractCollection"), (66, .class_ 78), (0, u "java/util/Collection")] 81

def k4c0 : Code := { maxStack := 1, maxLocals := 1, code := jdk_22_method_1_code, exceptionTable := #[], attributes := #[] }
def k4m0 : Method := { name := "<init>", desc := "()V", sig := { parameters := [], returnType := none }, accessFlags := 4, code := some k4c0 }
/-- java/util/AbstractCollection -/
def k4 : Class := { plain "java/util/AbstractCollection" (some 0) with
  accessFlags := 1057
  interfaces := #[3]
  cf := some (fileOf pool4 8 #[] #[{ accessFlags := 4, nameIndex := 5, descriptorIndex := 6, attributes := #[] }] 1057 2 #[77] #[])
  fields := #[]
  methods := #[k4m0]
  instanceTypes := #[]
  staticTypes := #[]
  resolved := Array.replicate 160 none
  statics := none }

def pool5 : Array CpInfo := pool [(8, .class_ 10), (1, u "java/util/SequencedCollection"), (15, .class_ 27), (0, u "java/lang/Object"), (0, .class_ 29), (0, u "java/util/Collection")] 27

/-- java/util/SequencedCollection -/
def k5 : Class := { plain "java/util/SequencedCollection" (some 0) with
  accessFlags := 1537
  interfaces := #[3]
  cf := some (fileOf pool5 8 #[] #[] 1537 26 #[28] #[])
  fields := #[]
  methods := #[]
  instanceTypes := #[]
  staticTypes := #[]
  resolved := Array.replicate 57 none
  statics := none }

def pool6 : Array CpInfo := pool [(8, .class_ 10), (1, u "java/util/List"), (49, u "add"), (3, u "(Ljava/lang/Object;)Z"), (38, .class_ 104), (0, u "java/lang/Object"), (15, .class_ 121), (0, u "java/util/SequencedCollection"), (1, u "iterator"), (0, u "()Ljava/util/Iterator;")] 126

def k6m0 : Method := { name := "iterator", desc := "()Ljava/util/Iterator;", sig := { parameters := [], returnType := some (.object "java/util/Iterator") }, accessFlags := 1025, code := none }
def k6m1 : Method := { name := "add", desc := "(Ljava/lang/Object;)Z", sig := { parameters := [(.object "java/lang/Object")], returnType := some .boolean }, accessFlags := 1025, code := none }
/-- java/util/List -/
def k6 : Class := { plain "java/util/List" (some 0) with
  accessFlags := 1537
  interfaces := #[5]
  cf := some (fileOf pool6 8 #[] #[{ accessFlags := 1025, nameIndex := 123, descriptorIndex := 124, attributes := #[] }, { accessFlags := 1025, nameIndex := 60, descriptorIndex := 64, attributes := #[] }] 1537 103 #[120] #[])
  fields := #[]
  methods := #[k6m0, k6m1]
  instanceTypes := #[]
  staticTypes := #[]
  resolved := Array.replicate 251 none
  statics := none }

def pool7 : Array CpInfo := pool [(1, .methodref 2 3), (0, .class_ 4), (0, .nameAndType 5 6), (0, u "java/util/AbstractCollection"), (0, u "<init>"), (0, u "()V"), (0, .fieldref 8 9), (0, .class_ 10), (0, .nameAndType 11 12), (0, u "java/util/AbstractList"), (0, u "modCount"), (0, u "I"), (64, .class_ 78), (0, u "java/util/AbstractList$Itr"), (3, .class_ 83), (0, u "java/util/AbstractList$ListItr"), (9, .class_ 94), (0, u "java/util/AbstractList$RandomAccessSubList"), (3, .class_ 99), (0, u "java/util/AbstractList$SubList"), (33, .class_ 134), (0, u "java/util/List"), (73, .class_ 209), (0, u "java/util/AbstractList$SubList$1"), (0, .class_ 211), (0, u "java/util/AbstractList$RandomAccessSpliterator")] 6

def k7c0 : Code := { maxStack := 2, maxLocals := 1, code := jdk_39_method_1_code, exceptionTable := #[], attributes := #[] }
def k7m0 : Method := { name := "<init>", desc := "()V", sig := { parameters := [], returnType := none }, accessFlags := 4, code := some k7c0 }
/-- java/util/AbstractList -/
def k7 : Class := { plain "java/util/AbstractList" (some 4) with
  accessFlags := 1057
  interfaces := #[6]
  cf := some (fileOf pool7 8 #[.nestMembers #[93, 98, 208, 210, 82, 77]] #[{ accessFlags := 4, nameIndex := 5, descriptorIndex := 6, attributes := #[] }] 1057 2 #[133] #[{ accessFlags := 132, nameIndex := 11, descriptorIndex := 12, attributes := #[] }])
  fields := #[{ name := "modCount", type := .int, accessFlags := 132, slot := 0, constantValue := 0 }]
  methods := #[k7m0]
  instanceTypes := #[.int]
  staticTypes := #[]
  resolved := Array.replicate 218 none
  statics := none }

def pool8 : Array CpInfo := pool [(1, .class_ 2), (0, u "java/util/RandomAccess"), (0, .class_ 4), (0, u "java/lang/Object")] 2

/-- java/util/RandomAccess -/
def k8 : Class := { plain "java/util/RandomAccess" (some 0) with
  accessFlags := 1537
  interfaces := #[]
  cf := some (fileOf pool8 1 #[] #[] 1537 3 #[] #[])
  fields := #[]
  methods := #[]
  instanceTypes := #[]
  staticTypes := #[]
  resolved := Array.replicate 7 none
  statics := none }

def pool9 : Array CpInfo := pool [(1, .class_ 2), (0, u "java/lang/Cloneable"), (0, .class_ 4), (0, u "java/lang/Object")] 2

/-- java/lang/Cloneable -/
def k9 : Class := { plain "java/lang/Cloneable" (some 0) with
  accessFlags := 1537
  interfaces := #[]
  cf := some (fileOf pool9 1 #[] #[] 1537 3 #[] #[])
  fields := #[]
  methods := #[]
  instanceTypes := #[]
  staticTypes := #[]
  resolved := Array.replicate 7 none
  statics := none }

def pool10 : Array CpInfo := pool [(1, .class_ 2), (0, u "java/io/Serializable"), (0, .class_ 4), (0, u "java/lang/Object")] 2

/-- java/io/Serializable -/
def k10 : Class := { plain "java/io/Serializable" (some 0) with
  accessFlags := 1537
  interfaces := #[]
  cf := some (fileOf pool10 1 #[] #[] 1537 3 #[] #[])
  fields := #[]
  methods := #[]
  instanceTypes := #[]
  staticTypes := #[]
  resolved := Array.replicate 7 none
  statics := none }

def pool11 : Array CpInfo := pool [(1, .methodref 2 3), (0, .class_ 4), (0, .nameAndType 5 6), (0, u "java/util/AbstractList"), (0, u "<init>"), (0, u "()V"), (0, .class_ 8), (0, u "java/lang/Object"), (0, .fieldref 10 11), (0, .class_ 12), (0, .nameAndType 13 14), (0, u "java/util/ArrayList"), (0, u "elementData"), (0, u "[Ljava/lang/Object;"), (2, u "EMPTY_ELEMENTDATA"), (21, .fieldref 10 40), (0, .nameAndType 41 14), (0, u "DEFAULTCAPACITY_EMPTY_ELEMENTDATA"), (5, u "()[Ljava/lang/Object;"), (0, .fieldref 10 49), (0, .nameAndType 50 51), (0, u "size"), (0, u "I"), (11, .fieldref 10 64), (0, .nameAndType 65 51), (0, u "modCount"), (3, .methodref 10 70), (0, .nameAndType 71 72), (0, u "grow"), (0, u "(I)[Ljava/lang/Object;"), (6, .methodref 80 81), (0, .class_ 82), (0, .nameAndType 83 84), (0, u "java/lang/Math"), (0, u "max"), (0, u "(II)I"), (11, u "(Ljava/lang/Object;)Z"), (32, .methodref 10 130), (0, .nameAndType 71 47), (0, .methodref 10 132), (0, .nameAndType 133 134), (0, u "add"), (0, u "(Ljava/lang/Object;[Ljava/lang/Object;I)V"), (13, .class_ 149), (0, u "java/util/List"), (16, u "iterator"), (0, u "()Ljava/util/Iterator;"), (94, .class_ 263), (0, u "java/util/ArrayList$ListItr"), (3, .class_ 268), (0, u "java/util/ArrayList$Itr"), (0, .methodref 267 270), (0, .nameAndType 5 271), (0, u "(Ljava/util/ArrayList;)V"), (4, .class_ 277), (0, u "java/util/ArrayList$SubList"), (12, .class_ 291), (0, u "java/util/ArrayList$ArrayListSpliterator"), (37, .class_ 330), (0, u "java/util/RandomAccess"), (0, .class_ 332), (0, u "java/lang/Cloneable"), (0, .class_ 334), (0, u "java/io/Serializable"), (0, u "serialVersionUID"), (0, u "J"), (3, u "DEFAULT_CAPACITY"), (159, .class_ 501), (0, u "java/util/ArrayList$SubList$2"), (0, .class_ 503), (0, u "java/util/ArrayList$SubList$1")] 5

def k11c0 : Code := { maxStack := 2, maxLocals := 1, code := jdk_38_method_2_code, exceptionTable := #[], attributes := #[] }
def k11m0 : Method := { name := "<init>", desc := "()V", sig := { parameters := [], returnType := none }, accessFlags := 1, code := some k11c0 }
def k11c1 : Code := { maxStack := 4, maxLocals := 4, code := jdk_38_method_6_code, exceptionTable := #[], attributes := #[] }
def k11m1 : Method := { name := "grow", desc := "(I)[Ljava/lang/Object;", sig := { parameters := [.int], returnType := some (.array (.object "java/lang/Object")) }, accessFlags := 2, code := some k11c1 }
def k11c2 : Code := { maxStack := 3, maxLocals := 1, code := jdk_38_method_7_code, exceptionTable := #[], attributes := #[] }
def k11m2 : Method := { name := "grow", desc := "()[Ljava/lang/Object;", sig := { parameters := [], returnType := some (.array (.object "java/lang/Object")) }, accessFlags := 2, code := some k11c2 }
def k11c3 : Code := { maxStack := 3, maxLocals := 4, code := jdk_38_method_24_code, exceptionTable := #[], attributes := #[] }
def k11m3 : Method := { name := "add", desc := "(Ljava/lang/Object;[Ljava/lang/Object;I)V", sig := { parameters := [(.object "java/lang/Object"), (.array (.object "java/lang/Object")), .int], returnType := none }, accessFlags := 2, code := some k11c3 }
def k11c4 : Code := { maxStack := 4, maxLocals := 2, code := jdk_38_method_25_code, exceptionTable := #[], attributes := #[] }
def k11m4 : Method := { name := "add", desc := "(Ljava/lang/Object;)Z", sig := { parameters := [(.object "java/lang/Object")], returnType := some .boolean }, accessFlags := 1, code := some k11c4 }
def k11c5 : Code := { maxStack := 3, maxLocals := 1, code := jdk_38_method_55_code, exceptionTable := #[], attributes := #[] }
def k11m5 : Method := { name := "iterator", desc := "()Ljava/util/Iterator;", sig := { parameters := [], returnType := some (.object "java/util/Iterator") }, accessFlags := 1, code := some k11c5 }
/-- java/util/ArrayList -/
def k11 : Class := { plain "java/util/ArrayList" (some 7) with
  accessFlags := 33
  interfaces := #[6, 8, 9, 10]
  cf := some (fileOf pool11 10 #[.nestMembers #[290, 276, 500, 502, 262, 267]] #[{ accessFlags := 1, nameIndex := 5, descriptorIndex := 6, attributes := #[] }, { accessFlags := 2, nameIndex := 71, descriptorIndex := 72, attributes := #[] }, { accessFlags := 2, nameIndex := 71, descriptorIndex := 47, attributes := #[] }, { accessFlags := 2, nameIndex := 133, descriptorIndex := 134, attributes := #[] }, { accessFlags := 1, nameIndex := 133, descriptorIndex := 96, attributes := #[] }, { accessFlags := 1, nameIndex := 166, descriptorIndex := 167, attributes := #[] }] 33 2 #[148, 329, 331, 333] #[{ accessFlags := 26, nameIndex := 335, descriptorIndex := 336, attributes := #[] }, { accessFlags := 26, nameIndex := 340, descriptorIndex := 51, attributes := #[] }, { accessFlags := 26, nameIndex := 17, descriptorIndex := 14, attributes := #[] }, { accessFlags := 26, nameIndex := 41, descriptorIndex := 14, attributes := #[] }, { accessFlags := 128, nameIndex := 13, descriptorIndex := 14, attributes := #[] }, { accessFlags := 2, nameIndex := 50, descriptorIndex := 51, attributes := #[] }])
  fields := #[{ name := "serialVersionUID", type := .long, accessFlags := 26, slot := 0, constantValue := 0 }, { name := "DEFAULT_CAPACITY", type := .int, accessFlags := 26, slot := 1, constantValue := 0 }, { name := "EMPTY_ELEMENTDATA", type := (.array (.object "java/lang/Object")), accessFlags := 26, slot := 2, constantValue := 0 }, { name := "DEFAULTCAPACITY_EMPTY_ELEMENTDATA", type := (.array (.object "java/lang/Object")), accessFlags := 26, slot := 3, constantValue := 0 }, { name := "elementData", type := (.array (.object "java/lang/Object")), accessFlags := 128, slot := 1, constantValue := 0 }, { name := "size", type := .int, accessFlags := 2, slot := 2, constantValue := 0 }]
  methods := #[k11m0, k11m1, k11m2, k11m3, k11m4, k11m5]
  instanceTypes := #[.int, (.array (.object "java/lang/Object")), .int]
  staticTypes := #[.long, .int, (.array (.object "java/lang/Object")), (.array (.object "java/lang/Object"))]
  resolved := Array.replicate 509 none
  statics := some 0 }

def pool12 : Array CpInfo := pool [(1, .class_ 2), (0, u "java/lang/Math"), (1, .class_ 6), (1, u "java/lang/Object"), (0, u "<init>"), (0, u "()V"), (89, .class_ 100), (1, u "java/lang/Math$RandomNumberGeneratorHolder"), (71, u "negativeZeroFloatBits"), (0, u "J"), (2, u "negativeZeroDoubleBits"), (21, u "max"), (46, u "$assertionsDisabled"), (0, u "Z"), (88, u "(II)I"), (2, u "twoToTheDoubleScaleDown"), (0, u "D"), (4, u "twoToTheDoubleScaleUp"), (9, u "E"), (3, u "PI"), (2, u "TAU"), (2, u "DEGREES_TO_RADIANS"), (0, u "RADIANS_TO_DEGREES")] 94

def k12m0 : Method := { name := "<init>", desc := "()V", sig := { parameters := [], returnType := none }, accessFlags := 2, code := none }
def k12c1 : Code := { maxStack := 2, maxLocals := 2, code := jdk_29_method_65_code, exceptionTable := #[], attributes := #[] }
def k12m1 : Method := { name := "max", desc := "(II)I", sig := { parameters := [.int, .int], returnType := some .int }, accessFlags := 9, code := some k12c1 }
/-- java/lang/Math -/
def k12 : Class := { plain "java/lang/Math" (some 0) with
  accessFlags := 49
  interfaces := #[]
  cf := some (fileOf pool12 1 #[.nestMembers #[98]] #[{ accessFlags := 2, nameIndex := 7, descriptorIndex := 8, attributes := #[] }, { accessFlags := 9, nameIndex := 198, descriptorIndex := 335, attributes := #[] }] 49 4 #[] #[{ accessFlags := 25, nameIndex := 354, descriptorIndex := 339, attributes := #[] }, { accessFlags := 25, nameIndex := 358, descriptorIndex := 339, attributes := #[] }, { accessFlags := 25, nameIndex := 361, descriptorIndex := 339, attributes := #[] }, { accessFlags := 26, nameIndex := 364, descriptorIndex := 339, attributes := #[] }, { accessFlags := 26, nameIndex := 365, descriptorIndex := 339, attributes := #[] }, { accessFlags := 26, nameIndex := 172, descriptorIndex := 173, attributes := #[] }, { accessFlags := 26, nameIndex := 176, descriptorIndex := 173, attributes := #[] }, { accessFlags := 8, nameIndex := 344, descriptorIndex := 339, attributes := #[] }, { accessFlags := 8, nameIndex := 338, descriptorIndex := 339, attributes := #[] }, { accessFlags := 4120, nameIndex := 245, descriptorIndex := 246, attributes := #[] }])
  fields := #[{ name := "E", type := .double, accessFlags := 25, slot := 0, constantValue := 0 }, { name := "PI", type := .double, accessFlags := 25, slot := 1, constantValue := 0 }, { name := "TAU", type := .double, accessFlags := 25, slot := 2, constantValue := 0 }, { name := "DEGREES_TO_RADIANS", type := .double, accessFlags := 26, slot := 3, constantValue := 0 }, { name := "RADIANS_TO_DEGREES", type := .double, accessFlags := 26, slot := 4, constantValue := 0 }, { name := "negativeZeroFloatBits", type := .long, accessFlags := 26, slot := 5, constantValue := 0 }, { name := "negativeZeroDoubleBits", type := .long, accessFlags := 26, slot := 6, constantValue := 0 }, { name := "twoToTheDoubleScaleUp", type := .double, accessFlags := 8, slot := 7, constantValue := 0 }, { name := "twoToTheDoubleScaleDown", type := .double, accessFlags := 8, slot := 8, constantValue := 0 }, { name := "$assertionsDisabled", type := .boolean, accessFlags := 4120, slot := 9, constantValue := 0 }]
  methods := #[k12m0, k12m1]
  instanceTypes := #[]
  staticTypes := #[.double, .double, .double, .double, .double, .long, .long, .double, .double, .boolean]
  resolved := Array.replicate 460 none
  statics := none }

def pool13 : Array CpInfo := pool [(2, .class_ 4), (1, u "java/lang/Object"), (0, u "<init>"), (0, u "()V"), (10, .class_ 19), (1, u "java/util/List"), (9, .interfaceMethodref 17 30), (0, .nameAndType 31 32), (0, u "iterator"), (0, u "()Ljava/util/Iterator;"), (0, .interfaceMethodref 34 35), (0, .class_ 36), (0, .nameAndType 37 38), (0, u "java/util/Iterator"), (0, u "hasNext"), (0, u "()Z"), (0, .interfaceMethodref 34 40), (0, .nameAndType 41 42), (0, u "next"), (0, u "()Ljava/lang/Object;"), (0, .class_ 44), (0, u "[D"), (22, .class_ 68), (0, u "com/example/waypost/waypost/coverage/Intervals"), (7, u "length"), (0, u "(Ljava/util/List;)D")] 25

def k13m0 : Method := { name := "<init>", desc := "()V", sig := { parameters := [], returnType := none }, accessFlags := 2, code := none }
def k13c1 : Code := { maxStack := 6, maxLocals := 5, code := prog_6_method_3_code, exceptionTable := #[], attributes := #[] }
def k13m1 : Method := { name := "length", desc := "(Ljava/util/List;)D", sig := { parameters := [(.object "java/util/List")], returnType := some .double }, accessFlags := 8, code := some k13c1 }
/-- com/example/waypost/waypost/coverage/Intervals -/
def k13 : Class := { plain "com/example/waypost/waypost/coverage/Intervals" (some 0) with
  accessFlags := 48
  interfaces := #[]
  cf := some (fileOf pool13 67 #[] #[{ accessFlags := 2, nameIndex := 5, descriptorIndex := 6, attributes := #[] }, { accessFlags := 8, nameIndex := 76, descriptorIndex := 77, attributes := #[] }] 48 2 #[] #[])
  fields := #[]
  methods := #[k13m0, k13m1]
  instanceTypes := #[]
  staticTypes := #[]
  resolved := Array.replicate 103 none
  statics := none }

def pool14 : Array CpInfo := pool [(16, .class_ 18), (1, u "java/util/Iterator"), (0, u "hasNext"), (0, u "()Z"), (2, u "next"), (0, u "()Ljava/lang/Object;"), (6, .class_ 32), (0, u "java/lang/Object")] 20

def k14m0 : Method := { name := "hasNext", desc := "()Z", sig := { parameters := [], returnType := some .boolean }, accessFlags := 1025, code := none }
def k14m1 : Method := { name := "next", desc := "()Ljava/lang/Object;", sig := { parameters := [], returnType := some (.object "java/lang/Object") }, accessFlags := 1025, code := none }
/-- java/util/Iterator -/
def k14 : Class := { plain "java/util/Iterator" (some 0) with
  accessFlags := 1537
  interfaces := #[]
  cf := some (fileOf pool14 16 #[] #[{ accessFlags := 1025, nameIndex := 19, descriptorIndex := 20, attributes := #[] }, { accessFlags := 1025, nameIndex := 23, descriptorIndex := 24, attributes := #[] }] 1537 31 #[] #[])
  fields := #[]
  methods := #[k14m0, k14m1]
  instanceTypes := #[]
  staticTypes := #[]
  resolved := Array.replicate 53 none
  statics := none }

def pool15 : Array CpInfo := pool [(1, .fieldref 2 3), (0, .class_ 4), (0, .nameAndType 5 6), (0, u "java/util/ArrayList$Itr"), (0, u "this$0"), (0, u "Ljava/util/ArrayList;"), (0, .methodref 8 9), (0, .class_ 10), (0, .nameAndType 11 12), (0, u "java/lang/Object"), (0, u "<init>"), (0, u "()V"), (0, .fieldref 2 14), (0, .nameAndType 15 16), (0, u "lastRet"), (0, u "I"), (0, .fieldref 18 19), (0, .class_ 20), (0, .nameAndType 21 16), (0, u "java/util/ArrayList"), (0, u "modCount"), (0, .fieldref 2 23), (0, .nameAndType 24 16), (0, u "expectedModCount"), (0, .fieldref 2 26), (0, .nameAndType 27 16), (0, u "cursor"), (0, .fieldref 18 29), (0, .nameAndType 30 16), (0, u "size"), (0, .methodref 2 32), (0, .nameAndType 33 12), (0, u "checkForComodification"), (3, .fieldref 18 38), (0, .nameAndType 39 40), (0, u "elementData"), (0, u "[Ljava/lang/Object;"), (28, .class_ 70), (0, u "java/util/Iterator"), (0, u "(Ljava/util/ArrayList;)V"), (8, u "hasNext"), (0, u "()Z"), (1, u "next"), (0, u "()Ljava/lang/Object;")] 19

def k15c0 : Code := { maxStack := 2, maxLocals := 2, code := jdk_49_method_1_code, exceptionTable := #[], attributes := #[] }
def k15m0 : Method := { name := "<init>", desc := "(Ljava/util/ArrayList;)V", sig := { parameters := [(.object "java/util/ArrayList")], returnType := none }, accessFlags := 0, code := some k15c0 }
def k15c1 : Code := { maxStack := 2, maxLocals := 1, code := jdk_49_method_2_code, exceptionTable := #[], attributes := #[] }
def k15m1 : Method := { name := "hasNext", desc := "()Z", sig := { parameters := [], returnType := some .boolean }, accessFlags := 1, code := some k15c1 }
def k15c2 : Code := { maxStack := 4, maxLocals := 3, code := jdk_49_method_3_code, exceptionTable := #[], attributes := #[] }
def k15m2 : Method := { name := "next", desc := "()Ljava/lang/Object;", sig := { parameters := [], returnType := some (.object "java/lang/Object") }, accessFlags := 1, code := some k15c2 }
def k15c3 : Code := { maxStack := 2, maxLocals := 1, code := jdk_49_method_6_code, exceptionTable := #[], attributes := #[] }
def k15m3 : Method := { name := "checkForComodification", desc := "()V", sig := { parameters := [], returnType := none }, accessFlags := 16, code := some k15c3 }
/-- java/util/ArrayList$Itr -/
def k15 : Class := { plain "java/util/ArrayList$Itr" (some 0) with
  accessFlags := 32
  interfaces := #[14]
  cf := some (fileOf pool15 2 #[.nestHost 18] #[{ accessFlags := 0, nameIndex := 11, descriptorIndex := 71, attributes := #[] }, { accessFlags := 1, nameIndex := 80, descriptorIndex := 81, attributes := #[] }, { accessFlags := 1, nameIndex := 83, descriptorIndex := 84, attributes := #[] }, { accessFlags := 16, nameIndex := 33, descriptorIndex := 12, attributes := #[] }] 32 8 #[69] #[{ accessFlags := 0, nameIndex := 27, descriptorIndex := 16, attributes := #[] }, { accessFlags := 0, nameIndex := 15, descriptorIndex := 16, attributes := #[] }, { accessFlags := 0, nameIndex := 24, descriptorIndex := 16, attributes := #[] }, { accessFlags := 4112, nameIndex := 5, descriptorIndex := 6, attributes := #[] }])
  fields := #[{ name := "cursor", type := .int, accessFlags := 0, slot := 0, constantValue := 0 }, { name := "lastRet", type := .int, accessFlags := 0, slot := 1, constantValue := 0 }, { name := "expectedModCount", type := .int, accessFlags := 0, slot := 2, constantValue := 0 }, { name := "this$0", type := (.object "java/util/ArrayList"), accessFlags := 4112, slot := 3, constantValue := 0 }]
  methods := #[k15m0, k15m1, k15m2, k15m3]
  instanceTypes := #[.int, .int, .int, (.object "java/util/ArrayList")]
  staticTypes := #[]
  resolved := Array.replicate 104 none
  statics := none }

/-- the primitive byte -/
def k16 : Class := { plain "byte" none with kind := .primitive 'B', accessFlags := 0x411 }
/-- [B -/
def k17 : Class := { plain "[B" (some 0) with kind := .array 16 .byte, interfaces := #[9, 10], accessFlags := 1041 }

/-- the primitive double -/
def k18 : Class := { plain "double" none with kind := .primitive 'D', accessFlags := 0x411 }
/-- [D -/
def k19 : Class := { plain "[D" (some 0) with kind := .array 18 .double, interfaces := #[9, 10], accessFlags := 1041 }

/-- the primitive int -/
def k20 : Class := { plain "int" none with kind := .primitive 'I', accessFlags := 0x411 }
/-- [I -/
def k21 : Class := { plain "[I" (some 0) with kind := .array 20 .int, interfaces := #[9, 10], accessFlags := 1041 }

/-- [Ljava/lang/Object; -/
def k22 : Class := { plain "[Ljava/lang/Object;" (some 0) with kind := .array 0 (.object "java/lang/Object"), interfaces := #[9, 10], accessFlags := 1041 }

def heap : Heap := #[{ cls := 11, slots := #[.long 0, .int 0, .ref 1, .ref 2], vm := .statics 11 },
  { cls := 22, slots := #[], vm := .none },
  { cls := 22, slots := #[], vm := .none }]
def classes : Array Class := #[k0, k1, k2, k3, k4, k5, k6, k7, k8, k9, k10, k11, k12, k13, k14, k15, k16, k17, k18, k19, k20, k21, k22]
def interned : List (Array UInt16 × Addr) := []
def slotsUsed : Nat := 4
def theMethod : MethodId := ⟨1, 1⟩
def args0 : Array Value := #[.int 5, .int 6, .int 7, .int 8, .int 9, .int 11]
def aboutOver (below : List Frame) : State where
  vm := { classes := classes, interned := interned.toArray }
  heap := heap
  slotsUsed := slotsUsed
  threads := #[{ frames := .invoking theMethod args0 :: below }]
def below0 : List Frame := [.native { method := ⟨0, 0⟩, args := #[] }]
def about1 : State := aboutOver below0
def p0 : Program := .bare "" "" ""
def e0 : Env := launch0.env 0 0 0
theorem w_frames : about1.frames = Frame.invoking theMethod args0 :: below0 := rfl
set_option maxRecDepth 65536 in
theorem w_args : argsFit about1.vm theMethod args0 = true := by decide +kernel
set_option maxRecDepth 65536 in
theorem w_heap : heapFits about1 = true := by decide +kernel
set_option maxRecDepth 65536 in
theorem w_runnable : about1.curStatus? = some .runnable := by decide +kernel
set_option maxRecDepth 65536 in
theorem w_alone : about1.alone = true := by decide +kernel
set_option maxRecDepth 65536 in
theorem w_named : about1.methodNamed? x = some theMethod := by decide +kernel
set_option maxRecDepth 65536 in
theorem w_hears : about1.hears theMethod below0 = true := by decide +kernel
set_option maxRecDepth 65536 in
theorem w_ripe : about1.ripe theMethod args0 below0 = true := by decide +kernel
theorem w_running : about1.status = .running := rfl
set_option maxRecDepth 65536 in
theorem w_room : about1.hasRoom e0.platform room_1 = true :=
  launch0.hasRoom_least _ room_1 (by decide +kernel) (by decide +kernel) (by decide +kernel) (by decide +kernel) (by decide +kernel) (by decide +kernel)
theorem allAtoms_all (ts : List Jvm.Cond) (a : Array Jvm.Value) (st : Jvm.State) : (allAtoms ts).before a st = ts.all (fun c => c.before a st) := by
  induction ts with
  | nil => rfl
  | cons c t ih =>
    show (Jvm.Cond.and c (allAtoms t)).before a st = _
    rw [Jvm.Cond.before_and, ih, List.all_cons]
def words1 : List Jvm.Cond := Jvm.Cond.code x code maxLocals ret :: tables_1
/-- a 'code' word, met by the world's own term for the bytes: nothing is compared byte by byte -/
theorem code_word {y : MethodName} {bytes : ByteArray} {mx : Nat} {rt : Option FieldType} {a : Array Value} {s : State} {m : MethodId} {meth : Method} {c : Code} (h1 : s.methodNamed? y = some m) (h2 : s.vm.method? m = some meth) (h3 : meth.code = some c) (h4 : c.code = bytes)
    (h5 : (c.maxLocals == mx && c.exceptionTable.isEmpty && decide (c.maxStack ≤ mostOperands) && decide (meth.sig.returnType = rt) && !meth.locks && decide (parseMethodDescriptor y.desc = some meth.sig)) = true) : (Jvm.Cond.code y bytes mx rt).before a s = true := by
  simp only [Bool.and_eq_true, beq_iff_eq, Bool.not_eq_true', decide_eq_true_eq] at h5
  obtain ⟨⟨⟨⟨⟨g1, g2⟩, g3⟩, g4⟩, g5⟩, g6⟩ := h5
  simp [Cond.before, Cond.holds, Cond.value, h1, h2, h3, h4, g1, g2, g3, g4, g5, g6]
def isCode : Jvm.Cond → Bool
  | .code _ _ _ _ => true
  | _ => false
theorem all_split {L : List Jvm.Cond} {P : Jvm.Cond → Bool} (h1 : L.all (fun c => isCode c || P c) = true) (h2 : ∀ c ∈ L.filter isCode, P c = true) : L.all P = true := by
  refine List.all_eq_true.mpr fun c hc => ?_
  have h := List.all_eq_true.mp h1 c hc
  rcases Bool.eq_false_or_eq_true (isCode c) with hi | hi
  · exact h2 c (List.mem_filter.mpr ⟨hc, hi⟩)
  · simpa [hi] using h
set_option maxRecDepth 65536 in
theorem w_c0 : (Jvm.Cond.code x code maxLocals ret).before args0 about1 = true := code_word (m := ⟨1, 1⟩) (meth := k1m1) (c := k1c1) (by decide +kernel) rfl rfl rfl (by decide +kernel)
set_option maxRecDepth 65536 in
theorem w_c1 : (Jvm.Cond.code ({ cls := "java/util/ArrayList", name := "<init>", desc := "()V" } : Jvm.MethodName) jdk_38_method_2_code (1 : Nat) (Option.none : Option Jvm.ClassFile.FieldType)).before args0 about1 = true := code_word (m := ⟨11, 0⟩) (meth := k11m0) (c := k11c0) (by decide +kernel) rfl rfl rfl (by decide +kernel)
set_option maxRecDepth 65536 in
theorem w_c2 : (Jvm.Cond.code ({ cls := "java/util/AbstractList", name := "<init>", desc := "()V" } : Jvm.MethodName) jdk_39_method_1_code (1 : Nat) (Option.none : Option Jvm.ClassFile.FieldType)).before args0 about1 = true := code_word (m := ⟨7, 0⟩) (meth := k7m0) (c := k7c0) (by decide +kernel) rfl rfl rfl (by decide +kernel)
set_option maxRecDepth 65536 in
theorem w_c3 : (Jvm.Cond.code ({ cls := "java/util/AbstractCollection", name := "<init>", desc := "()V" } : Jvm.MethodName) jdk_22_method_1_code (1 : Nat) (Option.none : Option Jvm.ClassFile.FieldType)).before args0 about1 = true := code_word (m := ⟨4, 0⟩) (meth := k4m0) (c := k4c0) (by decide +kernel) rfl rfl rfl (by decide +kernel)
set_option maxRecDepth 65536 in
theorem w_c4 : (Jvm.Cond.code ({ cls := "java/lang/Object", name := "<init>", desc := "()V" } : Jvm.MethodName) object_method_1_code (1 : Nat) (Option.none : Option Jvm.ClassFile.FieldType)).before args0 about1 = true := code_word (m := ⟨0, 0⟩) (meth := k0m0) (c := k0c0) (by decide +kernel) rfl rfl rfl (by decide +kernel)
set_option maxRecDepth 65536 in
theorem w_c5 : (Jvm.Cond.code ({ cls := "java/util/ArrayList", name := "add", desc := "(Ljava/lang/Object;)Z" } : Jvm.MethodName) jdk_38_method_25_code (2 : Nat) (Option.some Jvm.ClassFile.FieldType.boolean)).before args0 about1 = true := code_word (m := ⟨11, 4⟩) (meth := k11m4) (c := k11c4) (by decide +kernel) rfl rfl rfl (by decide +kernel)
set_option maxRecDepth 65536 in
theorem w_c6 : (Jvm.Cond.code ({ cls := "java/util/ArrayList", name := "add", desc := "(Ljava/lang/Object;[Ljava/lang/Object;I)V" } : Jvm.MethodName) jdk_38_method_24_code (4 : Nat) (Option.none : Option Jvm.ClassFile.FieldType)).before args0 about1 = true := code_word (m := ⟨11, 3⟩) (meth := k11m3) (c := k11c3) (by decide +kernel) rfl rfl rfl (by decide +kernel)
set_option maxRecDepth 65536 in
theorem w_c7 : (Jvm.Cond.code ({ cls := "java/util/ArrayList", name := "grow", desc := "()[Ljava/lang/Object;" } : Jvm.MethodName) jdk_38_method_7_code (1 : Nat) (Option.some (Jvm.ClassFile.FieldType.array (Jvm.ClassFile.FieldType.object "java/lang/Object")))).before args0 about1 = true := code_word (m := ⟨11, 2⟩) (meth := k11m2) (c := k11c2) (by decide +kernel) rfl rfl rfl (by decide +kernel)
set_option maxRecDepth 65536 in
theorem w_c8 : (Jvm.Cond.code ({ cls := "java/util/ArrayList", name := "grow", desc := "(I)[Ljava/lang/Object;" } : Jvm.MethodName) jdk_38_method_6_code (4 : Nat) (Option.some (Jvm.ClassFile.FieldType.array (Jvm.ClassFile.FieldType.object "java/lang/Object")))).before args0 about1 = true := code_word (m := ⟨11, 1⟩) (meth := k11m1) (c := k11c1) (by decide +kernel) rfl rfl rfl (by decide +kernel)
set_option maxRecDepth 65536 in
theorem w_c9 : (Jvm.Cond.code ({ cls := "java/lang/Math", name := "max", desc := "(II)I" } : Jvm.MethodName) jdk_29_method_65_code (2 : Nat) (Option.some Jvm.ClassFile.FieldType.int)).before args0 about1 = true := code_word (m := ⟨12, 1⟩) (meth := k12m1) (c := k12c1) (by decide +kernel) rfl rfl rfl (by decide +kernel)
set_option maxRecDepth 65536 in
theorem w_c10 : (Jvm.Cond.code ({ cls := "com/example/waypost/waypost/coverage/Intervals", name := "length", desc := "(Ljava/util/List;)D" } : Jvm.MethodName) prog_6_method_3_code (5 : Nat) (Option.some Jvm.ClassFile.FieldType.double)).before args0 about1 = true := code_word (m := ⟨13, 1⟩) (meth := k13m1) (c := k13c1) (by decide +kernel) rfl rfl rfl (by decide +kernel)
set_option maxRecDepth 65536 in
theorem w_c11 : (Jvm.Cond.code ({ cls := "java/util/ArrayList", name := "iterator", desc := "()Ljava/util/Iterator;" } : Jvm.MethodName) jdk_38_method_55_code (1 : Nat) (Option.some (Jvm.ClassFile.FieldType.object "java/util/Iterator"))).before args0 about1 = true := code_word (m := ⟨11, 5⟩) (meth := k11m5) (c := k11c5) (by decide +kernel) rfl rfl rfl (by decide +kernel)
set_option maxRecDepth 65536 in
theorem w_c12 : (Jvm.Cond.code ({ cls := "java/util/ArrayList$Itr", name := "<init>", desc := "(Ljava/util/ArrayList;)V" } : Jvm.MethodName) jdk_49_method_1_code (2 : Nat) (Option.none : Option Jvm.ClassFile.FieldType)).before args0 about1 = true := code_word (m := ⟨15, 0⟩) (meth := k15m0) (c := k15c0) (by decide +kernel) rfl rfl rfl (by decide +kernel)
set_option maxRecDepth 65536 in
theorem w_c13 : (Jvm.Cond.code ({ cls := "java/util/ArrayList$Itr", name := "hasNext", desc := "()Z" } : Jvm.MethodName) jdk_49_method_2_code (1 : Nat) (Option.some Jvm.ClassFile.FieldType.boolean)).before args0 about1 = true := code_word (m := ⟨15, 1⟩) (meth := k15m1) (c := k15c1) (by decide +kernel) rfl rfl rfl (by decide +kernel)
set_option maxRecDepth 65536 in
theorem w_c14 : (Jvm.Cond.code ({ cls := "java/util/ArrayList$Itr", name := "next", desc := "()Ljava/lang/Object;" } : Jvm.MethodName) jdk_49_method_3_code (3 : Nat) (Option.some (Jvm.ClassFile.FieldType.object "java/lang/Object"))).before args0 about1 = true := code_word (m := ⟨15, 2⟩) (meth := k15m2) (c := k15c2) (by decide +kernel) rfl rfl rfl (by decide +kernel)
set_option maxRecDepth 65536 in
theorem w_c15 : (Jvm.Cond.code ({ cls := "java/util/ArrayList$Itr", name := "checkForComodification", desc := "()V" } : Jvm.MethodName) jdk_49_method_6_code (1 : Nat) (Option.none : Option Jvm.ClassFile.FieldType)).before args0 about1 = true := code_word (m := ⟨15, 3⟩) (meth := k15m3) (c := k15c3) (by decide +kernel) rfl rfl rfl (by decide +kernel)
def codes1 : List Jvm.Cond := [Jvm.Cond.code x code maxLocals ret, Jvm.Cond.code ({ cls := "java/util/ArrayList", name := "<init>", desc := "()V" } : Jvm.MethodName) jdk_38_method_2_code (1 : Nat) (Option.none : Option Jvm.ClassFile.FieldType), Jvm.Cond.code ({ cls := "java/util/AbstractList", name := "<init>", desc := "()V" } : Jvm.MethodName) jdk_39_method_1_code (1 : Nat) (Option.none : Option Jvm.ClassFile.FieldType), Jvm.Cond.code ({ cls := "java/util/AbstractCollection", name := "<init>", desc := "()V" } : Jvm.MethodName) jdk_22_method_1_code (1 : Nat) (Option.none : Option Jvm.ClassFile.FieldType), Jvm.Cond.code ({ cls := "java/lang/Object", name := "<init>", desc := "()V" } : Jvm.MethodName) object_method_1_code (1 : Nat) (Option.none : Option Jvm.ClassFile.FieldType), Jvm.Cond.code ({ cls := "java/util/ArrayList", name := "add", desc := "(Ljava/lang/Object;)Z" } : Jvm.MethodName) jdk_38_method_25_code (2 : Nat) (Option.some Jvm.ClassFile.FieldType.boolean), Jvm.Cond.code ({ cls := "java/util/ArrayList", name := "add", desc := "(Ljava/lang/Object;[Ljava/lang/Object;I)V" } : Jvm.MethodName) jdk_38_method_24_code (4 : Nat) (Option.none : Option Jvm.ClassFile.FieldType), Jvm.Cond.code ({ cls := "java/util/ArrayList", name := "grow", desc := "()[Ljava/lang/Object;" } : Jvm.MethodName) jdk_38_method_7_code (1 : Nat) (Option.some (Jvm.ClassFile.FieldType.array (Jvm.ClassFile.FieldType.object "java/lang/Object"))), Jvm.Cond.code ({ cls := "java/util/ArrayList", name := "grow", desc := "(I)[Ljava/lang/Object;" } : Jvm.MethodName) jdk_38_method_6_code (4 : Nat) (Option.some (Jvm.ClassFile.FieldType.array (Jvm.ClassFile.FieldType.object "java/lang/Object"))), Jvm.Cond.code ({ cls := "java/lang/Math", name := "max", desc := "(II)I" } : Jvm.MethodName) jdk_29_method_65_code (2 : Nat) (Option.some Jvm.ClassFile.FieldType.int), Jvm.Cond.code ({ cls := "com/example/waypost/waypost/coverage/Intervals", name := "length", desc := "(Ljava/util/List;)D" } : Jvm.MethodName) prog_6_method_3_code (5 : Nat) (Option.some Jvm.ClassFile.FieldType.double), Jvm.Cond.code ({ cls := "java/util/ArrayList", name := "iterator", desc := "()Ljava/util/Iterator;" } : Jvm.MethodName) jdk_38_method_55_code (1 : Nat) (Option.some (Jvm.ClassFile.FieldType.object "java/util/Iterator")), Jvm.Cond.code ({ cls := "java/util/ArrayList$Itr", name := "<init>", desc := "(Ljava/util/ArrayList;)V" } : Jvm.MethodName) jdk_49_method_1_code (2 : Nat) (Option.none : Option Jvm.ClassFile.FieldType), Jvm.Cond.code ({ cls := "java/util/ArrayList$Itr", name := "hasNext", desc := "()Z" } : Jvm.MethodName) jdk_49_method_2_code (1 : Nat) (Option.some Jvm.ClassFile.FieldType.boolean), Jvm.Cond.code ({ cls := "java/util/ArrayList$Itr", name := "next", desc := "()Ljava/lang/Object;" } : Jvm.MethodName) jdk_49_method_3_code (3 : Nat) (Option.some (Jvm.ClassFile.FieldType.object "java/lang/Object")), Jvm.Cond.code ({ cls := "java/util/ArrayList$Itr", name := "checkForComodification", desc := "()V" } : Jvm.MethodName) jdk_49_method_6_code (1 : Nat) (Option.none : Option Jvm.ClassFile.FieldType)]
set_option maxRecDepth 65536 in
theorem codes_eq : words1.filter isCode = codes1 := rfl
theorem w_codes : ∀ c ∈ words1.filter isCode, c.before args0 about1 = true := by
  rw [codes_eq]
  intro c hc
  simp only [codes1, List.mem_cons, List.not_mem_nil, or_false] at hc
  rcases hc with rfl | rfl | rfl | rfl | rfl | rfl | rfl | rfl | rfl | rfl | rfl | rfl | rfl | rfl | rfl | rfl
  · exact w_c0
  · exact w_c1
  · exact w_c2
  · exact w_c3
  · exact w_c4
  · exact w_c5
  · exact w_c6
  · exact w_c7
  · exact w_c8
  · exact w_c9
  · exact w_c10
  · exact w_c11
  · exact w_c12
  · exact w_c13
  · exact w_c14
  · exact w_c15
set_option maxRecDepth 65536 in
theorem w_t1 : (words1.take 24).all (fun c => isCode c || c.before args0 about1) = true := by decide +kernel
set_option maxRecDepth 65536 in
theorem w_t2 : ((words1.drop 24).take 24).all (fun c => isCode c || c.before args0 about1) = true := by decide +kernel
set_option maxRecDepth 65536 in
theorem w_t3 : (((words1.drop 24).drop 24).take 24).all (fun c => isCode c || c.before args0 about1) = true := by decide +kernel
set_option maxRecDepth 65536 in
theorem w_t4 : ((((words1.drop 24).drop 24).drop 24).take 24).all (fun c => isCode c || c.before args0 about1) = true := by decide +kernel
set_option maxRecDepth 65536 in
theorem w_t5 : ((((words1.drop 24).drop 24).drop 24).drop 24).all (fun c => isCode c || c.before args0 about1) = true := by decide +kernel
theorem w_tables : (allAtoms (Jvm.Cond.code x code maxLocals ret :: tables_1)).before args0 about1 = true := by
  rw [allAtoms_all]
  show words1.all (fun c => c.before args0 about1) = true
  refine all_split ?_ w_codes
  rw [← List.take_append_drop 24 words1, List.all_append, w_t1, ← List.take_append_drop 24 (words1.drop 24), List.all_append, w_t2, ← List.take_append_drop 24 ((words1.drop 24).drop 24), List.all_append, w_t3, ← List.take_append_drop 24 (((words1.drop 24).drop 24).drop 24), List.all_append, w_t4, w_t5]
  rfl
set_option maxRecDepth 65536 in
theorem w_rest : rest_1_c.before args0 about1 = true := by decide +kernel
set_option maxRecDepth 65536 in
theorem w_case : (Jvm.Cond.and given_1 narrow_1).before args0 about1 = true := by decide +kernel
theorem w_applies : (headSpec (Jvm.Cond.code x code maxLocals ret :: tables_1) room_1).applies x e0.platform about1 = true :=
  (Spec.applies_iff w_frames).mpr ⟨w_running, w_runnable, w_alone, w_named, w_hears, w_ripe, w_room, w_tables⟩
theorem atStart : AtStart classFile x code maxLocals ret World_1 tables_1 room_1 Calls_1 rest_1 Pre_1 launch0 p0 e0 about1 theMethod args0 below0 :=
  ⟨lists_1, trivial, launch0.admits_env _ _ _, launch0.least_env, fairChoices_fair.cas, fairChoices_fair.clock, w_frames, w_args, w_heap, w_applies, trivial, w_rest, w_case⟩
end start1
theorem witness_1 : WitnessClaimed_1 := ⟨start1.p0, start1.e0, start1.about1, start1.theMethod, start1.args0, start1.below0, start1.atStart⟩
end Jvm.Pilot.@@N@@
