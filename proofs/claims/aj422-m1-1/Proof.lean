import JvmDerived
import JvmDerived.Pilot.@@N@@Statement
import JvmDerived.Pilot.@@N@@Code
set_option linter.unusedVariables false
set_option linter.unusedSimpArgs false
namespace Jvm.Pilot.@@N@@
open Jvm Jvm.ClassFile Sem Op Lib Jvm.Free Jvm.Stand Jvm.LawKit Jvm.RoadKit Bundle Jvm.Pilot.@@N@@.Jvm.D
theorem ef_2 (m : MethodId) (x0 : Addr) : entryFrame m #[(.ref x0)] 1 = mkF m 0 #[.val (.ref x0)] [] := by first | (simp [entryFrame, mkF, argsToLocals, Value.category]; done) | rfl
theorem pn_Record : plainName "java/lang/Record" = true := by first | (simp [plainName, overriddenIn]; done) | decide +kernel
theorem d2_0 : decode jdk_30_method_1_code 0 = .ok (.aload_n 0, 1) := by decide +kernel
theorem d2_1 : decode jdk_30_method_1_code 1 = .ok (.invokespecial 1, 3) := by decide +kernel
theorem d2_4 : decode jdk_30_method_1_code 4 = .ok (.return_, 1) := by decide +kernel
def Q2 (Z : State) (a1 : Addr) (h0 : Heap) (n0 : Nat) (v : Option Value) (h : Heap) (L : List Loc) : Prop := v = none ∧ Fr n0 L ∧ h = h0
set_option maxRecDepth 65536 in
set_option maxHeartbeats 40000000 in
theorem rm2 (l : Launch) (Z : State) (a0 : Array Value) (hw : ∀ d ∈ tables_1, d.before a0 Z = true) (ws : List Jvm.Cond) (a1 : Addr) (h0 : Heap) (n0 : Nat) (Z0 : n0 ≤ h0.size) :
    MetFree l (⟨"java/lang/Record", "<init>", "()V"⟩ : MethodName) (head1 (Jvm.Cond.code (⟨"java/lang/Record", "<init>", "()V"⟩ : MethodName) jdk_30_method_1_code 1 none :: ws) ({ frames := 1, cells := 0, slots := 0, locals := 12 } : Room)) (fun a U => a = #[(.ref a1)] ∧ Z.Warmed39 U.vm ∧ U.heap = h0) (fun _ _ _ _ _ => True) (fun _ U o U' => ∃ v L, o = .returned v ∧ Q2 Z a1 h0 n0 v U'.heap L ∧ FrameEnd U o U' L ({ frames := 1, cells := 0, slots := 0, locals := 12 } : Room).cells ({ frames := 1, cells := 0, slots := 0, locals := 12 } : Room).slots) := by
  refine MetFree.of_bodySF (plainFor_of_name pn_Record) hisR ?_
  intro p e s m args below meth c s₁ Bd hml0 hP hK
  obtain ⟨rfl, hZ, hh⟩ := hP
  have hx := Bd.exec
  have hby := Bd.bytes
  have hml : c.maxLocals = 1 := hml0
  have hown : s.vm.findClass "java/lang/Record" = some m.cls := findClass_of_methodNamed Bd.named
  have hnm := (name_of_methodNamed Bd.named Bd.method).1
  have X0 : Stand p l e ({ frames := 1, cells := 0, slots := 0, locals := 12 } : Room) s m #[(.ref a1)] below meth c s₁ [] 0 0 := Stand.of_body Bd
  have e0 : s₁.heap = h0 := by rw [← hh, Bd.state]; rfl
  have N0 := Fr.nil n0
  have pre0 : ∀ t, Steps p.tables e below (s₁.setTop (mkF m 0 #[.val (.ref a1)] [])) t → Steps p.tables e below (s₁.setTop (entryFrame m #[(.ref a1)] 1)) t := fun t k => castTop (ef_2 m a1) k
  obtain ⟨T1, X1, e1, st1⟩ := initO X0 hx hZ hown (hw _ (List.mem_of_getElem? (i := 14) rfl)) (hw _ (List.mem_of_getElem? (i := 15) rfl)) (hw _ (List.mem_of_getElem? (i := 16) rfl)) e0 (g := (mkF m 1 #[.val (.ref a1)] [(.ref a1)])) rfl (by rw [hml]; rfl) rfl (hb hby d2_1) (by decide) (W := 0) (by show 2 * 0 + _ ≤ _; exact Nat.le_of_eq rfl) (by decide)
  obtain ⟨fs, hr, hrun, hended, hW, hsame⟩ := X1.leave (v := none) (fun _ => rfl)
  refine ⟨_, _, pre0 _ ?_, hrun, hended, _, _, rfl, ?_, ⟨_, rfl⟩, hW, hsame.mono (by decide) (by decide)⟩
  · show Steps p.tables e below (s₁.setTop (mkF m 0 #[.val (.ref a1)] [])) _
    refine XS.aloadN X0.here hx rfl (hb hby d2_0) rfl rfl ?_
    show Steps p.tables e below (s₁.setTop (mkF m 1 #[.val (.ref a1)] [(.ref a1)])) _
    refine st1 _ ?_
    show Steps p.tables e below (T1.setTop (mkF m 4 #[.val (.ref a1)] [])) _
    exact X1.returnOut hx Bd.returns (hb hby d2_4) hr
  · show Q2 Z a1 h0 n0 _ T1.heap _
    rw [e1]
    exact ⟨rfl, N0, rfl⟩
theorem ef_1 (m : MethodId) (x0 : Addr) (x1 : Int32) (x2 : Int32) (x3 : Int32) : entryFrame m #[(.ref x0), (.int x1), (.int x2), (.int x3)] 4 = mkF m 0 #[.val (.ref x0), .val (.int x1), .val (.int x2), .val (.int x3)] [] := by first | (simp [entryFrame, mkF, argsToLocals, Value.category]; done) | rfl
theorem pn_ElementIndex_Range : plainName "com/example/eager_dispatch/eagerdispatch/model/ElementIndex$Range" = true := by first | (simp [plainName, overriddenIn]; done) | decide +kernel
theorem d1_0 : decode prog_54_method_1_code 0 = .ok (.aload_n 0, 1) := by decide +kernel
theorem pd___V : parseMethodDescriptor "()V" = some ⟨[], none⟩ := by decide +kernel
theorem d1_1 : decode prog_54_method_1_code 1 = .ok (.invokespecial 1, 3) := by decide +kernel
theorem d1_4 : decode prog_54_method_1_code 4 = .ok (.iload_n 1, 1) := by decide +kernel
theorem d1_5 : decode prog_54_method_1_code 5 = .ok (.ifCond .lt 13, 3) := by decide +kernel
theorem d1_8 : decode prog_54_method_1_code 8 = .ok (.iload_n 2, 1) := by decide +kernel
theorem d1_9 : decode prog_54_method_1_code 9 = .ok (.iload_n 1, 1) := by decide +kernel
theorem d1_10 : decode prog_54_method_1_code 10 = .ok (.if_icmp .lt 8, 3) := by decide +kernel
theorem d1_13 : decode prog_54_method_1_code 13 = .ok (.iload_n 3, 1) := by decide +kernel
theorem d1_14 : decode prog_54_method_1_code 14 = .ok (.iconst 1, 1) := by decide +kernel
theorem d1_15 : decode prog_54_method_1_code 15 = .ok (.if_icmp .ge 19, 3) := by decide +kernel
theorem d1_34 : decode prog_54_method_1_code 34 = .ok (.aload_n 0, 1) := by decide +kernel
theorem d1_35 : decode prog_54_method_1_code 35 = .ok (.iload_n 1, 1) := by decide +kernel
theorem d1_36 : decode prog_54_method_1_code 36 = .ok (.putfield 16, 3) := by decide +kernel
theorem d1_39 : decode prog_54_method_1_code 39 = .ok (.aload_n 0, 1) := by decide +kernel
theorem d1_40 : decode prog_54_method_1_code 40 = .ok (.iload_n 2, 1) := by decide +kernel
theorem d1_41 : decode prog_54_method_1_code 41 = .ok (.putfield 22, 3) := by decide +kernel
theorem d1_44 : decode prog_54_method_1_code 44 = .ok (.aload_n 0, 1) := by decide +kernel
theorem d1_45 : decode prog_54_method_1_code 45 = .ok (.iload_n 3, 1) := by decide +kernel
theorem d1_46 : decode prog_54_method_1_code 46 = .ok (.putfield 25, 3) := by decide +kernel
theorem d1_49 : decode prog_54_method_1_code 49 = .ok (.return_, 1) := by decide +kernel
def Q1 (Z : State) (a1 : Addr) (p2 : Int32) (p3 : Int32) (p4 : Int32) (u_start : Value) (u_stop : Value) (u_stride : Value) (h0 : Heap) (n0 : Nat) (v : Option Value) (h : Heap) (L : List Loc) : Prop := v = none ∧ Fr n0 L ∧ Keep h0 h [a1] ∧ Exa Z h a1 "com/example/eager_dispatch/eagerdispatch/model/ElementIndex$Range" ∧ Fld Z h a1 "com/example/eager_dispatch/eagerdispatch/model/ElementIndex$Range" "start" "I" (.int p2) ∧ Fld Z h a1 "com/example/eager_dispatch/eagerdispatch/model/ElementIndex$Range" "stop" "I" (.int p3) ∧ Fld Z h a1 "com/example/eager_dispatch/eagerdispatch/model/ElementIndex$Range" "stride" "I" (.int p4)
set_option maxRecDepth 65536 in
set_option maxHeartbeats 40000000 in
theorem rm1 (l : Launch) (Z : State) (a0 : Array Value) (hw : ∀ d ∈ tables_1, d.before a0 Z = true) (ws : List Jvm.Cond) (a1 : Addr) (p2 : Int32) (p3 : Int32) (p4 : Int32) (u_start : Value) (u_stop : Value) (u_stride : Value) (h0 : Heap) (n0 : Nat) (Z0 : n0 ≤ h0.size) (hs1 : ¬ p2 < (0 : Int32)) (hs2 : ¬ p3 < p2) (hs3 : ¬ p4 < (1 : Int32)) (E_a1 : Exa Z h0 a1 "com/example/eager_dispatch/eagerdispatch/model/ElementIndex$Range") (g_a1 : n0 ≤ a1) (F_start : Fld Z h0 a1 "com/example/eager_dispatch/eagerdispatch/model/ElementIndex$Range" "start" "I" u_start) (F_stop : Fld Z h0 a1 "com/example/eager_dispatch/eagerdispatch/model/ElementIndex$Range" "stop" "I" u_stop) (F_stride : Fld Z h0 a1 "com/example/eager_dispatch/eagerdispatch/model/ElementIndex$Range" "stride" "I" u_stride) :
    MetFree l (⟨"com/example/eager_dispatch/eagerdispatch/model/ElementIndex$Range", "<init>", "(III)V"⟩ : MethodName) (head1 (Jvm.Cond.code (⟨"com/example/eager_dispatch/eagerdispatch/model/ElementIndex$Range", "<init>", "(III)V"⟩ : MethodName) prog_54_method_1_code 4 none :: ws) ({ frames := 2, cells := 0, slots := 0, locals := 24 } : Room)) (fun a U => a = #[(.ref a1), (.int p2), (.int p3), (.int p4)] ∧ Z.Warmed39 U.vm ∧ U.heap = h0) (fun _ _ _ _ _ => True) (fun _ U o U' => ∃ v L, o = .returned v ∧ Q1 Z a1 p2 p3 p4 u_start u_stop u_stride h0 n0 v U'.heap L ∧ FrameEnd U o U' L ({ frames := 2, cells := 0, slots := 0, locals := 24 } : Room).cells ({ frames := 2, cells := 0, slots := 0, locals := 24 } : Room).slots) := by
  refine MetFree.of_bodySF (plainFor_of_name pn_ElementIndex_Range) hisR ?_
  intro p e s m args below meth c s₁ Bd hml0 hP hK
  obtain ⟨rfl, hZ, hh⟩ := hP
  have hx := Bd.exec
  have hby := Bd.bytes
  have hml : c.maxLocals = 4 := hml0
  have hown : s.vm.findClass "com/example/eager_dispatch/eagerdispatch/model/ElementIndex$Range" = some m.cls := findClass_of_methodNamed Bd.named
  have hnm := (name_of_methodNamed Bd.named Bd.method).1
  have X0 : Stand p l e ({ frames := 2, cells := 0, slots := 0, locals := 24 } : Room) s m #[(.ref a1), (.int p2), (.int p3), (.int p4)] below meth c s₁ [] 0 0 := Stand.of_body Bd
  have e0 : s₁.heap = h0 := by rw [← hh, Bd.state]; rfl
  have N0 := Fr.nil n0
  have pre0 : ∀ t, Steps p.tables e below (s₁.setTop (mkF m 0 #[.val (.ref a1), .val (.int p2), .val (.int p3), .val (.int p4)] [])) t → Steps p.tables e below (s₁.setTop (entryFrame m #[(.ref a1), (.int p2), (.int p3), (.int p4)] 4)) t := fun t k => castTop (ef_1 m a1 p2 p3 p4) k
  obtain ⟨_, _, ⟨T2, L2, k2, n2⟩, -, X2, ⟨Lc2, hQ2, l2, y2, z2⟩, st2⟩ := X0.specialBack hx (y := (⟨"java/lang/Record", "<init>", "()V"⟩ : MethodName)) rfl hown (mvT hZ (hw _ (List.mem_of_getElem? (i := 9) rfl))) (mvT hZ (hw _ (List.mem_of_getElem? (i := 10) rfl))) (mvT hZ (hw _ (List.mem_of_getElem? (i := 13) rfl))) (by decide) (backOf (W := 0) (rm2 l Z a0 hw [] a1 h0 n0 Z0) hZ (hw _ (List.mem_of_getElem? (i := 13) rfl)) (hw _ (List.mem_of_getElem? (i := 12) rfl)) (by decide) (by decide)) (g := (mkF m 1 #[.val (.ref a1), .val (.int p2), .val (.int p3), .val (.int p4)] [(.ref a1)])) rfl (by rw [hml]; rfl) (Steps.refl _) (a := a1) (argsL := []) (rest := []) (lenOf pd___V rfl) rfl (by show 2 * 0 + _ ≤ _; exact Nat.le_of_eq rfl) (hb hby d1_1) (fun _ _ => ⟨rfl, e0, (by decide : 0 + 0 ≤ _), (by decide : 0 + 0 ≤ _)⟩)
  dsimp only [Pt.U, Pt.locs, Pt.cells, Pt.slots] at X2 l2 y2 z2 st2 hQ2
  subst l2 y2 z2
  obtain ⟨rfl, Nq2, eh2⟩ := hQ2
  have N2 := Fr.app N0 Nq2
  obtain ⟨T3, h3, X3, e3, W3, st3⟩ := putF X2 hx hZ hown (host := "") (Or.inl (hw _ (List.mem_of_getElem? (i := 17) rfl))) Via.refl eh2 F_start E_a1 (Or.inr ⟨(hw _ (List.mem_of_getElem? (i := 18) rfl)), rfl, hnm⟩) (hw _ (List.mem_of_getElem? (i := 4) rfl)) (ty := .int) (by decide) rfl rfl (g := (mkF m 36 #[.val (.ref a1), .val (.int p2), .val (.int p3), .val (.int p4)] [(.int p2), (.ref a1)])) rfl rfl (hb hby d1_36)
  have Fw3 := F_start.same W3
  have N3 := Fr.snoc X3 N2 g_a1
  have Z3 : n0 ≤ h3.size := by rw [W3.size]; exact Z0
  have K3 : Keep h0 h3 [a1] := (Keep.refl h0 [a1]).wr W3 (Or.inl (List.mem_of_getElem? (i := 0) rfl))
  have F5 := (F_stop.other W3 (Or.inr (slot_ne (Or.inr (hw _ (List.mem_of_getElem? (i := 20) rfl))) (Or.inr (hw _ (List.mem_of_getElem? (i := 18) rfl))) (by decide) (t := .int) (t' := .int) (by decide) (by decide))))
  have F6 := (E_a1.wr W3)
  obtain ⟨T4, h4, X4, e4, W4, st4⟩ := putF X3 hx hZ hown (host := "") (Or.inl (hw _ (List.mem_of_getElem? (i := 19) rfl))) Via.refl e3 F5 F6 (Or.inr ⟨(hw _ (List.mem_of_getElem? (i := 20) rfl)), rfl, hnm⟩) (hw _ (List.mem_of_getElem? (i := 4) rfl)) (ty := .int) (by decide) rfl rfl (g := (mkF m 41 #[.val (.ref a1), .val (.int p2), .val (.int p3), .val (.int p4)] [(.int p3), (.ref a1)])) rfl rfl (hb hby d1_41)
  have Fw4 := F5.same W4
  have N4 := Fr.snoc X4 N3 g_a1
  have Z4 : n0 ≤ h4.size := by rw [W4.size]; exact Z3
  have K4 : Keep h0 h4 [a1] := K3.wr W4 (Or.inl (List.mem_of_getElem? (i := 0) rfl))
  have F8 := ((F_stride.other W3 (Or.inr (slot_ne (Or.inr (hw _ (List.mem_of_getElem? (i := 22) rfl))) (Or.inr (hw _ (List.mem_of_getElem? (i := 18) rfl))) (by decide) (t := .int) (t' := .int) (by decide) (by decide)))).other W4 (Or.inr (slot_ne (Or.inr (hw _ (List.mem_of_getElem? (i := 22) rfl))) (Or.inr (hw _ (List.mem_of_getElem? (i := 20) rfl))) (by decide) (t := .int) (t' := .int) (by decide) (by decide))))
  have F9 := (F6.wr W4)
  obtain ⟨T7, h7, X7, e7, W7, st7⟩ := putF X4 hx hZ hown (host := "") (Or.inl (hw _ (List.mem_of_getElem? (i := 21) rfl))) Via.refl e4 F8 F9 (Or.inr ⟨(hw _ (List.mem_of_getElem? (i := 22) rfl)), rfl, hnm⟩) (hw _ (List.mem_of_getElem? (i := 4) rfl)) (ty := .int) (by decide) rfl rfl (g := (mkF m 46 #[.val (.ref a1), .val (.int p2), .val (.int p3), .val (.int p4)] [(.int p4), (.ref a1)])) rfl rfl (hb hby d1_46)
  have Fw7 := F8.same W7
  have N7 := Fr.snoc X7 N4 g_a1
  have Z7 : n0 ≤ h7.size := by rw [W7.size]; exact Z4
  have K7 : Keep h0 h7 [a1] := K4.wr W7 (Or.inl (List.mem_of_getElem? (i := 0) rfl))
  obtain ⟨fs, hr, hrun, hended, hW, hsame⟩ := X7.leave (v := none) (fun _ => rfl)
  refine ⟨_, _, pre0 _ ?_, hrun, hended, _, _, rfl, ?_, ⟨_, rfl⟩, hW, hsame.mono (by decide) (by decide)⟩
  · show Steps p.tables e below (s₁.setTop (mkF m 0 #[.val (.ref a1), .val (.int p2), .val (.int p3), .val (.int p4)] [])) _
    refine XS.aloadN X0.here hx rfl (hb hby d1_0) rfl rfl ?_
    show Steps p.tables e below (s₁.setTop (mkF m 1 #[.val (.ref a1), .val (.int p2), .val (.int p3), .val (.int p4)] [(.ref a1)])) _
    refine st2.trans ?_
    show Steps p.tables e below (T2.setTop (mkF m 4 #[.val (.ref a1), .val (.int p2), .val (.int p3), .val (.int p4)] [])) _
    refine XS.iloadN X2.here hx rfl (hb hby d1_4) rfl ?_
    show Steps p.tables e below (T2.setTop (mkF m 5 #[.val (.ref a1), .val (.int p2), .val (.int p3), .val (.int p4)] [(.int p2)])) _
    refine XS.ifNo X2.here hx rfl (hb hby d1_5) rfl ((if0 _ _).trans (flt hs1).1) ?_
    show Steps p.tables e below (T2.setTop (mkF m 8 #[.val (.ref a1), .val (.int p2), .val (.int p3), .val (.int p4)] [])) _
    refine XS.iloadN X2.here hx rfl (hb hby d1_8) rfl ?_
    show Steps p.tables e below (T2.setTop (mkF m 9 #[.val (.ref a1), .val (.int p2), .val (.int p3), .val (.int p4)] [(.int p3)])) _
    refine XS.iloadN X2.here hx rfl (hb hby d1_9) rfl ?_
    show Steps p.tables e below (T2.setTop (mkF m 10 #[.val (.ref a1), .val (.int p2), .val (.int p3), .val (.int p4)] [(.int p2), (.int p3)])) _
    refine XS.icmpNo X2.here hx rfl (hb hby d1_10) rfl (flt hs2).1 ?_
    show Steps p.tables e below (T2.setTop (mkF m 13 #[.val (.ref a1), .val (.int p2), .val (.int p3), .val (.int p4)] [])) _
    refine XS.iloadN X2.here hx rfl (hb hby d1_13) rfl ?_
    show Steps p.tables e below (T2.setTop (mkF m 14 #[.val (.ref a1), .val (.int p2), .val (.int p3), .val (.int p4)] [(.int p4)])) _
    refine XS.iconst X2.here hx rfl (hb hby d1_14) ?_
    show Steps p.tables e below (T2.setTop (mkF m 15 #[.val (.ref a1), .val (.int p2), .val (.int p3), .val (.int p4)] [(.int (1 : Int32)), (.int p4)])) _
    refine XS.icmpYes X2.here hx rfl (pc0 := 15) (pc' := 34) rfl (hb hby d1_15) rfl (flt hs3).2.1 (by decide) (by decide) ?_
    show Steps p.tables e below (T2.setTop (mkF m 34 #[.val (.ref a1), .val (.int p2), .val (.int p3), .val (.int p4)] [])) _
    refine XS.aloadN X2.here hx rfl (hb hby d1_34) rfl rfl ?_
    show Steps p.tables e below (T2.setTop (mkF m 35 #[.val (.ref a1), .val (.int p2), .val (.int p3), .val (.int p4)] [(.ref a1)])) _
    refine XS.iloadN X2.here hx rfl (hb hby d1_35) rfl ?_
    show Steps p.tables e below (T2.setTop (mkF m 36 #[.val (.ref a1), .val (.int p2), .val (.int p3), .val (.int p4)] [(.int p2), (.ref a1)])) _
    refine st3 _ ?_
    show Steps p.tables e below (T3.setTop (mkF m 39 #[.val (.ref a1), .val (.int p2), .val (.int p3), .val (.int p4)] [])) _
    refine XS.aloadN X3.here hx rfl (hb hby d1_39) rfl rfl ?_
    show Steps p.tables e below (T3.setTop (mkF m 40 #[.val (.ref a1), .val (.int p2), .val (.int p3), .val (.int p4)] [(.ref a1)])) _
    refine XS.iloadN X3.here hx rfl (hb hby d1_40) rfl ?_
    show Steps p.tables e below (T3.setTop (mkF m 41 #[.val (.ref a1), .val (.int p2), .val (.int p3), .val (.int p4)] [(.int p3), (.ref a1)])) _
    refine st4 _ ?_
    show Steps p.tables e below (T4.setTop (mkF m 44 #[.val (.ref a1), .val (.int p2), .val (.int p3), .val (.int p4)] [])) _
    refine XS.aloadN X4.here hx rfl (hb hby d1_44) rfl rfl ?_
    show Steps p.tables e below (T4.setTop (mkF m 45 #[.val (.ref a1), .val (.int p2), .val (.int p3), .val (.int p4)] [(.ref a1)])) _
    refine XS.iloadN X4.here hx rfl (hb hby d1_45) rfl ?_
    show Steps p.tables e below (T4.setTop (mkF m 46 #[.val (.ref a1), .val (.int p2), .val (.int p3), .val (.int p4)] [(.int p4), (.ref a1)])) _
    refine st7 _ ?_
    show Steps p.tables e below (T7.setTop (mkF m 49 #[.val (.ref a1), .val (.int p2), .val (.int p3), .val (.int p4)] [])) _
    exact X7.returnOut hx Bd.returns (hb hby d1_49) hr
  · show Q1 Z a1 p2 p3 p4 u_start u_stop u_stride h0 n0 _ T7.heap _
    rw [e7]
    exact ⟨rfl, N7, K7, (F9.wr W7), ((Fw3.other W4 (Or.inr (slot_ne (Or.inr (hw _ (List.mem_of_getElem? (i := 18) rfl))) (Or.inr (hw _ (List.mem_of_getElem? (i := 20) rfl))) (by decide) (t := .int) (t' := .int) (by decide) (by decide)))).other W7 (Or.inr (slot_ne (Or.inr (hw _ (List.mem_of_getElem? (i := 18) rfl))) (Or.inr (hw _ (List.mem_of_getElem? (i := 22) rfl))) (by decide) (t := .int) (t' := .int) (by decide) (by decide)))), (Fw4.other W7 (Or.inr (slot_ne (Or.inr (hw _ (List.mem_of_getElem? (i := 20) rfl))) (Or.inr (hw _ (List.mem_of_getElem? (i := 22) rfl))) (by decide) (t := .int) (t' := .int) (by decide) (by decide)))), Fw7⟩
theorem ef_4 (m : MethodId) (x0 : Addr) : entryFrame m #[(.ref x0)] 1 = mkF m 0 #[.val (.ref x0)] [] := by first | (simp [entryFrame, mkF, argsToLocals, Value.category]; done) | rfl
theorem d4_0 : decode prog_54_method_2_code 0 = .ok (.aload_n 0, 1) := by decide +kernel
theorem d4_1 : decode prog_54_method_2_code 1 = .ok (.getfield 22, 3) := by decide +kernel
theorem d4_4 : decode prog_54_method_2_code 4 = .ok (.i2l, 1) := by decide +kernel
theorem d4_5 : decode prog_54_method_2_code 5 = .ok (.aload_n 0, 1) := by decide +kernel
theorem d4_6 : decode prog_54_method_2_code 6 = .ok (.getfield 16, 3) := by decide +kernel
theorem d4_9 : decode prog_54_method_2_code 9 = .ok (.i2l, 1) := by decide +kernel
theorem d4_10 : decode prog_54_method_2_code 10 = .ok (.lsub, 1) := by decide +kernel
theorem d4_11 : decode prog_54_method_2_code 11 = .ok (.aload_n 0, 1) := by decide +kernel
theorem d4_12 : decode prog_54_method_2_code 12 = .ok (.getfield 25, 3) := by decide +kernel
theorem d4_15 : decode prog_54_method_2_code 15 = .ok (.i2l, 1) := by decide +kernel
theorem d4_16 : decode prog_54_method_2_code 16 = .ok (.ldiv, 1) := by decide +kernel
theorem d4_17 : decode prog_54_method_2_code 17 = .ok (.lconst 1, 1) := by decide +kernel
theorem d4_18 : decode prog_54_method_2_code 18 = .ok (.ladd, 1) := by decide +kernel
def f4 (p2 : Int32) (p3 : Int32) (p4 : Int32) : Int64 := ((((p3.toInt64) - (p2.toInt64)) / (p4.toInt64)) + (1 : Int64))
theorem d4_19 : decode prog_54_method_2_code 19 = .ok (.lreturn, 1) := by decide +kernel
def Q4 (Z : State) (a1 : Addr) (p2 : Int32) (p3 : Int32) (p4 : Int32) (h0 : Heap) (n0 : Nat) (v : Option Value) (h : Heap) (L : List Loc) : Prop := v = some (.long (f4 p2 p3 p4)) ∧ Fr n0 L ∧ h = h0
set_option maxRecDepth 65536 in
set_option maxHeartbeats 40000000 in
theorem rm4 (l : Launch) (Z : State) (a0 : Array Value) (hw : ∀ d ∈ tables_1, d.before a0 Z = true) (ws : List Jvm.Cond) (a1 : Addr) (p2 : Int32) (p3 : Int32) (p4 : Int32) (h0 : Heap) (n0 : Nat) (Z0 : n0 ≤ h0.size) (F_start : Fld Z h0 a1 "com/example/eager_dispatch/eagerdispatch/model/ElementIndex$Range" "start" "I" (.int p2)) (F_stop : Fld Z h0 a1 "com/example/eager_dispatch/eagerdispatch/model/ElementIndex$Range" "stop" "I" (.int p3)) (F_stride : Fld Z h0 a1 "com/example/eager_dispatch/eagerdispatch/model/ElementIndex$Range" "stride" "I" (.int p4)) (hnz : p4.toInt64 ≠ 0) :
    MetFree l (⟨"com/example/eager_dispatch/eagerdispatch/model/ElementIndex$Range", "count", "()J"⟩ : MethodName) (head1 (Jvm.Cond.code (⟨"com/example/eager_dispatch/eagerdispatch/model/ElementIndex$Range", "count", "()J"⟩ : MethodName) prog_54_method_2_code 1 (some .long) :: ws) ({ frames := 0, cells := 0, slots := 0, locals := 0 } : Room)) (fun a U => a = #[(.ref a1)] ∧ Z.Warmed39 U.vm ∧ U.heap = h0) (fun _ _ _ _ _ => True) (fun _ U o U' => ∃ v L, o = .returned v ∧ Q4 Z a1 p2 p3 p4 h0 n0 v U'.heap L ∧ FrameEnd U o U' L ({ frames := 0, cells := 0, slots := 0, locals := 0 } : Room).cells ({ frames := 0, cells := 0, slots := 0, locals := 0 } : Room).slots) := by
  refine MetFree.of_bodySF (plainFor_of_name pn_ElementIndex_Range) hisR ?_
  intro p e s m args below meth c s₁ Bd hml0 hP hK
  obtain ⟨rfl, hZ, hh⟩ := hP
  have hx := Bd.exec
  have hby := Bd.bytes
  have hml : c.maxLocals = 1 := hml0
  have hown : s.vm.findClass "com/example/eager_dispatch/eagerdispatch/model/ElementIndex$Range" = some m.cls := findClass_of_methodNamed Bd.named
  have hnm := (name_of_methodNamed Bd.named Bd.method).1
  have X0 : Stand p l e ({ frames := 0, cells := 0, slots := 0, locals := 0 } : Room) s m #[(.ref a1)] below meth c s₁ [] 0 0 := Stand.of_body Bd
  have e0 : s₁.heap = h0 := by rw [← hh, Bd.state]; rfl
  have N0 := Fr.nil n0
  have pre0 : ∀ t, Steps p.tables e below (s₁.setTop (mkF m 0 #[.val (.ref a1)] [])) t → Steps p.tables e below (s₁.setTop (entryFrame m #[(.ref a1)] 1)) t := fun t k => castTop (ef_4 m a1) k
  obtain ⟨T10, X10, e10, st10⟩ := getF X0 hx hZ hown (host := "") (Or.inl (hw _ (List.mem_of_getElem? (i := 19) rfl))) Via.refl e0 F_stop (g := (mkF m 1 #[.val (.ref a1)] [(.ref a1)])) rfl rfl (hb hby d4_1)
  obtain ⟨T11, X11, e11, st11⟩ := getF X10 hx hZ hown (host := "") (Or.inl (hw _ (List.mem_of_getElem? (i := 17) rfl))) Via.refl e10 F_start (g := (mkF m 6 #[.val (.ref a1)] [(.ref a1), (.long (p3.toInt64))])) rfl rfl (hb hby d4_6)
  obtain ⟨T12, X12, e12, st12⟩ := getF X11 hx hZ hown (host := "") (Or.inl (hw _ (List.mem_of_getElem? (i := 21) rfl))) Via.refl e11 F_stride (g := (mkF m 12 #[.val (.ref a1)] [(.ref a1), (.long ((p3.toInt64) - (p2.toInt64)))])) rfl rfl (hb hby d4_12)
  obtain ⟨fs, hr, hrun, hended, hW, hsame⟩ := X12.leave (v := some (.long (f4 p2 p3 p4))) (fun h => by rw [Bd.returns] at h; cases h)
  refine ⟨_, _, pre0 _ ?_, hrun, hended, _, _, rfl, ?_, ⟨_, rfl⟩, hW, hsame.mono (by decide) (by decide)⟩
  · show Steps p.tables e below (s₁.setTop (mkF m 0 #[.val (.ref a1)] [])) _
    refine XS.aloadN X0.here hx rfl (hb hby d4_0) rfl rfl ?_
    show Steps p.tables e below (s₁.setTop (mkF m 1 #[.val (.ref a1)] [(.ref a1)])) _
    refine st10 _ ?_
    show Steps p.tables e below (T10.setTop (mkF m 4 #[.val (.ref a1)] [(.int p3)])) _
    refine XS.i2l X10.here hx rfl (hb hby d4_4) rfl ?_
    show Steps p.tables e below (T10.setTop (mkF m 5 #[.val (.ref a1)] [(.long (p3.toInt64))])) _
    refine XS.aloadN X10.here hx rfl (hb hby d4_5) rfl rfl ?_
    show Steps p.tables e below (T10.setTop (mkF m 6 #[.val (.ref a1)] [(.ref a1), (.long (p3.toInt64))])) _
    refine st11 _ ?_
    show Steps p.tables e below (T11.setTop (mkF m 9 #[.val (.ref a1)] [(.int p2), (.long (p3.toInt64))])) _
    refine XS.i2l X11.here hx rfl (hb hby d4_9) rfl ?_
    show Steps p.tables e below (T11.setTop (mkF m 10 #[.val (.ref a1)] [(.long (p2.toInt64)), (.long (p3.toInt64))])) _
    refine XS.lsub X11.here hx rfl (hb hby d4_10) rfl ?_
    show Steps p.tables e below (T11.setTop (mkF m 11 #[.val (.ref a1)] [(.long ((p3.toInt64) - (p2.toInt64)))])) _
    refine XS.aloadN X11.here hx rfl (hb hby d4_11) rfl rfl ?_
    show Steps p.tables e below (T11.setTop (mkF m 12 #[.val (.ref a1)] [(.ref a1), (.long ((p3.toInt64) - (p2.toInt64)))])) _
    refine st12 _ ?_
    show Steps p.tables e below (T12.setTop (mkF m 15 #[.val (.ref a1)] [(.int p4), (.long ((p3.toInt64) - (p2.toInt64)))])) _
    refine XS.i2l X12.here hx rfl (hb hby d4_15) rfl ?_
    show Steps p.tables e below (T12.setTop (mkF m 16 #[.val (.ref a1)] [(.long (p4.toInt64)), (.long ((p3.toInt64) - (p2.toInt64)))])) _
    refine XS.ldiv X12.here hx rfl (hb hby d4_16) rfl hnz ?_
    show Steps p.tables e below (T12.setTop (mkF m 17 #[.val (.ref a1)] [(.long (((p3.toInt64) - (p2.toInt64)) / (p4.toInt64)))])) _
    refine XS.lconst X12.here hx rfl (hb hby d4_17) ?_
    show Steps p.tables e below (T12.setTop (mkF m 18 #[.val (.ref a1)] [(.long (1 : Int64)), (.long (((p3.toInt64) - (p2.toInt64)) / (p4.toInt64)))])) _
    refine XS.ladd X12.here hx rfl (hb hby d4_18) rfl ?_
    show Steps p.tables e below (T12.setTop (mkF m 19 #[.val (.ref a1)] [(.long ((((p3.toInt64) - (p2.toInt64)) / (p4.toInt64)) + (1 : Int64)))])) _
    show Steps p.tables e below (T12.setTop (mkF m 19 #[.val (.ref a1)] [(.long (f4 p2 p3 p4))])) _
    exact X12.lreturnOut hx Bd.returns (hb hby d4_19) hr
  · show Q4 Z a1 p2 p3 p4 h0 n0 _ T12.heap _
    rw [e12]
    exact ⟨rfl, N0, rfl⟩
theorem ef_0 (m : MethodId) (x0 : Int32) (x1 : Int64) (x2 : Int32) (x3 : Int32) : entryFrame m #[(.int x0), (.long x1), (.int x2), (.int x3)] maxLocals = mkF m 0 #[.val (.int x0), .val (.long x1), .second, .val (.int x2), .val (.int x3), .unset, .unset, .unset, .unset, .unset, .unset, .unset, .unset, .unset, .unset, .unset] [] := by first | (simp [entryFrame, mkF, argsToLocals, Value.category, maxLocals]; done) | rfl
theorem pn_RangeCountPinLaw : plainName "com/example/eager_dispatch/eagerdispatch/model/RangeCountPinLaw" = true := by first | (simp [plainName, overriddenIn]; done) | decide +kernel
def v0_4 (p1 : Int32) : Int32 := (p1 &&& (2147483647 : Int32))
def v0_15 (p1 : Int32) : Int64 := (((2147483647 : Int64) - ((v0_4 p1).toInt64)) + (1 : Int64))
def v0_30 (p1 : Int32) (q2 : Int64) : Int32 := ((((v0_4 p1).toInt64) + ((q2 &&& (9223372036854775807 : Int64)) - ((q2 &&& (9223372036854775807 : Int64)) / (v0_15 p1)) * (v0_15 p1))).toInt32)
def v0_36 (p3 : Int32) : Int32 := (p3 &&& (2147483647 : Int32))
def v0_50 (p4 : Int32) : Int32 := (p4 &&& (3 : Int32))
def j0_70_l8 (p1 : Int32) (q2 : Int64) (p3 : Int32) (p4 : Int32) : Int32 := (if (v0_36 p3) = (0 : Int32) then (if (v0_50 p4) = (0 : Int32) then (if (v0_50 p4) = (1 : Int32) then (v0_4 p1) else (v0_30 p1 q2)) else (if (v0_50 p4) = (1 : Int32) then (v0_4 p1) else (v0_30 p1 q2))) else (if (v0_50 p4) = (0 : Int32) then (if (v0_50 p4) = (1 : Int32) then (v0_4 p1) else (v0_30 p1 q2)) else (if (v0_50 p4) = (1 : Int32) then (v0_4 p1) else (v0_30 p1 q2))))
def j0_70_l9 (p3 : Int32) (p4 : Int32) : Int32 := (if (v0_36 p3) = (0 : Int32) then (if (v0_50 p4) = (0 : Int32) then (if (v0_50 p4) = (1 : Int32) then (1 : Int32) else (1 : Int32)) else (if (v0_50 p4) = (1 : Int32) then (1 : Int32) else (1 : Int32))) else (if (v0_50 p4) = (0 : Int32) then (if (v0_50 p4) = (1 : Int32) then (1 : Int32) else (1 : Int32)) else (if (v0_50 p4) = (1 : Int32) then (v0_36 p3) else (v0_36 p3))))
theorem pd__III_V : parseMethodDescriptor "(III)V" = some ⟨[.int, .int, .int], none⟩ := by decide +kernel
theorem pd___J : parseMethodDescriptor "()J" = some ⟨[], some .long⟩ := by decide +kernel
def v0_90 (p1 : Int32) (q2 : Int64) (p3 : Int32) (p4 : Int32) : Int64 := (f4 (v0_4 p1) (j0_70_l8 p1 q2 p3 p4) (j0_70_l9 p3 p4))
def v0_99 (p1 : Int32) (q2 : Int64) (p3 : Int32) (p4 : Int32) : Int64 := (((j0_70_l8 p1 q2 p3 p4).toInt64) - ((v0_4 p1).toInt64))
theorem own_bmod {n : Int} (h1 : -9223372036854775808 ≤ n) (h2 : n < 9223372036854775808) : n.bmod 18446744073709551616 = n := Int.bmod_eq_of_le (by omega) (by omega)
theorem own_add {a b : Int64} (h1 : -9223372036854775808 ≤ a.toInt + b.toInt) (h2 : a.toInt + b.toInt < 9223372036854775808) : (a + b).toInt = a.toInt + b.toInt := by
  rw [Int64.toInt_add]; exact own_bmod h1 h2
theorem own_sub {a b : Int64} (h1 : -9223372036854775808 ≤ a.toInt - b.toInt) (h2 : a.toInt - b.toInt < 9223372036854775808) : (a - b).toInt = a.toInt - b.toInt := by
  rw [Int64.toInt_sub]; exact own_bmod h1 h2
theorem own_mul {a b : Int64} (h1 : -9223372036854775808 ≤ a.toInt * b.toInt) (h2 : a.toInt * b.toInt < 9223372036854775808) : (a * b).toInt = a.toInt * b.toInt := by
  rw [Int64.toInt_mul]; exact own_bmod h1 h2
theorem own_div {a b : Int64} (ha : 0 ≤ a.toInt) (hb : 0 < b.toInt) : (a / b).toInt = a.toInt / b.toInt := by
  have hq : 0 ≤ a.toInt / b.toInt := Int.ediv_nonneg ha (by omega)
  have hle : a.toInt / b.toInt ≤ a.toInt := Int.ediv_le_self _ ha
  have hlt := a.toInt_lt
  rw [Int64.toInt_div, Int.tdiv_eq_ediv_of_nonneg ha]; exact own_bmod (by omega) (by omega)
theorem own_rem {a b : Int64} (ha : 0 ≤ a.toInt) (hb : 0 < b.toInt) : (a - (a / b) * b).toInt = a.toInt % b.toInt := by
  have hd := own_div ha hb
  have hq : 0 ≤ a.toInt / b.toInt := Int.ediv_nonneg ha (by omega)
  have hlt := a.toInt_lt
  have e := Int.mul_ediv_add_emod a.toInt b.toInt
  have r0 := Int.emod_nonneg a.toInt (show b.toInt ≠ 0 by omega)
  have hp : 0 ≤ b.toInt * (a.toInt / b.toInt) := Int.mul_nonneg (by omega) hq
  have hm : (a / b * b).toInt = b.toInt * (a.toInt / b.toInt) := by
    rw [own_mul, hd, Int.mul_comm] <;> (rw [hd, Int.mul_comm]; omega)
  rw [own_sub (by rw [hm]; omega) (by rw [hm]; omega), hm]; omega
theorem own_mask63 (a : Int64) : 0 ≤ (a &&& (9223372036854775807 : Int64)).toInt := by
  have h : (a &&& (9223372036854775807 : Int64)).toBitVec.msb = false := by
    show (a.toBitVec &&& 9223372036854775807#64).msb = false
    rw [BitVec.msb_and]
    have : (9223372036854775807#64).msb = false := by decide
    rw [this, Bool.and_false]
  exact BitVec.toInt_nonneg_of_msb_false h
theorem own_and31 (p : Int32) : 0 ≤ (p &&& (2147483647 : Int32)).toInt := by
  have h : (p &&& (2147483647 : Int32)).toBitVec.msb = false := by
    show (p.toBitVec &&& 2147483647#32).msb = false
    rw [BitVec.msb_and]
    have : (2147483647#32).msb = false := by decide
    rw [this, Bool.and_false]
  exact BitVec.toInt_nonneg_of_msb_false h
theorem own_one : (1 : Int64).toInt = 1 := by decide
theorem own_start (p1 : Int32) : 0 ≤ (v0_4 p1).toInt ∧ (v0_4 p1).toInt < 2147483648 := ⟨own_and31 p1, by have := (v0_4 p1).toInt_lt; simpa using this⟩
theorem own_roomv (p1 : Int32) : (v0_15 p1).toInt = 2147483648 - (v0_4 p1).toInt := by
  obtain ⟨h1, h2⟩ := own_start p1
  unfold v0_15
  have e : (2147483647 : Int64).toInt = 2147483647 := by decide
  have s : ((2147483647 : Int64) - (v0_4 p1).toInt64).toInt = 2147483647 - (v0_4 p1).toInt := by
    rw [own_sub, e, Int32.toInt_toInt64] <;> (rw [e, Int32.toInt_toInt64]; omega)
  rw [own_add (by rw [s, own_one]; omega) (by rw [s, own_one]; omega), s, own_one]; omega
theorem own_room (p1 : Int32) : v0_15 p1 ≠ 0 := fun e => by
  have h := own_roomv p1
  obtain ⟨h1, h2⟩ := own_start p1
  rw [e] at h
  have z : (0 : Int64).toInt = 0 := by decide
  rw [z] at h; omega
theorem own_bmod32 {n : Int} (h1 : -2147483648 ≤ n) (h2 : n < 2147483648) : n.bmod 4294967296 = n := Int.bmod_eq_of_le (by omega) (by omega)
theorem own_stop0 (p1 : Int32) (q2 : Int64) : (v0_4 p1).toInt ≤ (v0_30 p1 q2).toInt := by
  obtain ⟨h1, h2⟩ := own_start p1
  have hr := own_roomv p1
  have hm := own_mask63 q2
  unfold v0_30
  generalize q2 &&& (9223372036854775807 : Int64) = y at hm
  have e := own_rem (b := v0_15 p1) hm (by omega)
  have r0 := Int.emod_nonneg y.toInt (show (v0_15 p1).toInt ≠ 0 by omega)
  have r1 := Int.emod_lt_of_pos y.toInt (show 0 < (v0_15 p1).toInt by omega)
  generalize y - y / v0_15 p1 * v0_15 p1 = z at e
  have s : ((v0_4 p1).toInt64 + z).toInt = (v0_4 p1).toInt + z.toInt := by
    rw [own_add, Int32.toInt_toInt64] <;> (rw [Int32.toInt_toInt64]; omega)
  have t : (((v0_4 p1).toInt64 + z).toInt32).toInt = (v0_4 p1).toInt + z.toInt := by
    rw [Int64.toInt_toInt32, s]; exact own_bmod32 (by omega) (by omega)
  rw [t]; omega
theorem own_stop (p1 : Int32) (q2 : Int64) (p3 p4 : Int32) : (v0_4 p1).toInt ≤ (j0_70_l8 p1 q2 p3 p4).toInt ∧ (j0_70_l8 p1 q2 p3 p4).toInt < 2147483648 := by
  refine ⟨?_, by have := (j0_70_l8 p1 q2 p3 p4).toInt_lt; simpa using this⟩
  have h := own_stop0 p1 q2
  unfold j0_70_l8
  repeat' split
  all_goals first | exact Int.le_refl _ | exact h
theorem own_stride (p3 p4 : Int32) : 1 ≤ (j0_70_l9 p3 p4).toInt ∧ (j0_70_l9 p3 p4).toInt < 2147483648 := by
  refine ⟨?_, by have := (j0_70_l9 p3 p4).toInt_lt; simpa using this⟩
  have h := own_and31 p3
  have o : (1 : Int32).toInt = 1 := by decide
  unfold j0_70_l9
  by_cases z : v0_36 p3 = 0
  · rw [if_pos z]; repeat' split
    all_goals (rw [o]; exact Int.le_refl _)
  · have h' : 0 ≤ (v0_36 p3).toInt := h
    have z' : (v0_36 p3).toInt ≠ 0 := fun e => z (Int32.toInt_inj.mp e)
    rw [if_neg z]; repeat' split
    all_goals first | (rw [o]; exact Int.le_refl _) | omega
theorem own_i1 (p1 : Int32) : ¬ v0_4 p1 < (0 : Int32) := by
  rw [Int32.lt_iff_toInt_lt]
  have := (own_start p1).1
  show ¬ (v0_4 p1).toInt < 0
  omega
theorem own_i2 (p1 : Int32) (q2 : Int64) (p3 p4 : Int32) : ¬ j0_70_l8 p1 q2 p3 p4 < v0_4 p1 := by
  rw [Int32.lt_iff_toInt_lt]
  have := (own_stop p1 q2 p3 p4).1
  omega
theorem own_i3 (p1 : Int32) (q2 : Int64) (p3 p4 : Int32) : ¬ j0_70_l9 p3 p4 < (1 : Int32) := by
  rw [Int32.lt_iff_toInt_lt]
  have := (own_stride p3 p4).1
  show ¬ (j0_70_l9 p3 p4).toInt < 1
  omega
theorem own_i4 (p1 : Int32) (q2 : Int64) (p3 p4 : Int32) : (j0_70_l9 p3 p4).toInt64 ≠ 0 := fun e => by
  have h := (own_stride p3 p4).1
  have : (j0_70_l9 p3 p4).toInt64.toInt = 0 := by rw [e]; decide
  rw [Int32.toInt_toInt64] at this
  omega
theorem own_span (p1 : Int32) (q2 : Int64) (p3 p4 : Int32) : (v0_99 p1 q2 p3 p4).toInt = (j0_70_l8 p1 q2 p3 p4).toInt - (v0_4 p1).toInt := by
  obtain ⟨h1, h2⟩ := own_start p1
  obtain ⟨h3, h4⟩ := own_stop p1 q2 p3 p4
  unfold v0_99
  rw [own_sub, Int32.toInt_toInt64, Int32.toInt_toInt64] <;> (rw [Int32.toInt_toInt64, Int32.toInt_toInt64]; omega)
theorem own_n (p1 : Int32) (q2 : Int64) (p3 p4 : Int32) : (v0_90 p1 q2 p3 p4).toInt = (v0_99 p1 q2 p3 p4).toInt / (j0_70_l9 p3 p4).toInt + 1 ∧ 0 ≤ (v0_99 p1 q2 p3 p4).toInt ∧ (v0_99 p1 q2 p3 p4).toInt < 2147483648 := by
  obtain ⟨h1, h2⟩ := own_start p1
  obtain ⟨h3, h4⟩ := own_stop p1 q2 p3 p4
  obtain ⟨h5, h6⟩ := own_stride p3 p4
  have hs := own_span p1 q2 p3 p4
  have a : 0 ≤ (v0_99 p1 q2 p3 p4).toInt := by omega
  have b : (v0_99 p1 q2 p3 p4).toInt < 2147483648 := by omega
  refine ⟨?_, a, b⟩
  have d : (v0_99 p1 q2 p3 p4 / (j0_70_l9 p3 p4).toInt64).toInt = (v0_99 p1 q2 p3 p4).toInt / (j0_70_l9 p3 p4).toInt := by
    rw [own_div a (by rw [Int32.toInt_toInt64]; omega), Int32.toInt_toInt64]
  have le := Int.ediv_le_self (j0_70_l9 p3 p4).toInt a
  have ge := Int.ediv_nonneg a (show 0 ≤ (j0_70_l9 p3 p4).toInt by omega)
  show (v0_99 p1 q2 p3 p4 / (j0_70_l9 p3 p4).toInt64 + 1).toInt = _
  rw [own_add (by rw [d, own_one]; omega) (by rw [d, own_one]; omega), d, own_one]
theorem own_facts (p1 : Int32) (q2 : Int64) (p3 p4 : Int32) : (v0_90 p1 q2 p3 p4).toInt ≤ (v0_99 p1 q2 p3 p4).toInt + 1 ∧ 1 ≤ (v0_90 p1 q2 p3 p4).toInt
    ∧ ((v0_90 p1 q2 p3 p4 - 1) * (j0_70_l9 p3 p4).toInt64).toInt ≤ (v0_99 p1 q2 p3 p4).toInt ∧ (v0_99 p1 q2 p3 p4).toInt < (v0_90 p1 q2 p3 p4 * (j0_70_l9 p3 p4).toInt64).toInt := by
  obtain ⟨hn, a, b⟩ := own_n p1 q2 p3 p4
  obtain ⟨h5, h6⟩ := own_stride p3 p4
  have le := Int.ediv_le_self (j0_70_l9 p3 p4).toInt a
  have ge := Int.ediv_nonneg a (show 0 ≤ (j0_70_l9 p3 p4).toInt by omega)
  have e := Int.mul_ediv_add_emod (v0_99 p1 q2 p3 p4).toInt (j0_70_l9 p3 p4).toInt
  have r0 := Int.emod_nonneg (v0_99 p1 q2 p3 p4).toInt (show (j0_70_l9 p3 p4).toInt ≠ 0 by omega)
  have r1 := Int.emod_lt_of_pos (v0_99 p1 q2 p3 p4).toInt (show 0 < (j0_70_l9 p3 p4).toInt by omega)
  have pq : 0 ≤ (j0_70_l9 p3 p4).toInt * ((v0_99 p1 q2 p3 p4).toInt / (j0_70_l9 p3 p4).toInt) := Int.mul_nonneg (by omega) ge
  have s1 : (v0_90 p1 q2 p3 p4 - 1).toInt = (v0_99 p1 q2 p3 p4).toInt / (j0_70_l9 p3 p4).toInt := by
    rw [own_sub (by rw [hn, own_one]; omega) (by rw [hn, own_one]; omega), hn, own_one]; omega
  have c1 : (v0_99 p1 q2 p3 p4).toInt / (j0_70_l9 p3 p4).toInt * (j0_70_l9 p3 p4).toInt = (j0_70_l9 p3 p4).toInt * ((v0_99 p1 q2 p3 p4).toInt / (j0_70_l9 p3 p4).toInt) := Int.mul_comm _ _
  have c2 : ((v0_99 p1 q2 p3 p4).toInt / (j0_70_l9 p3 p4).toInt + 1) * (j0_70_l9 p3 p4).toInt = (j0_70_l9 p3 p4).toInt * ((v0_99 p1 q2 p3 p4).toInt / (j0_70_l9 p3 p4).toInt) + (j0_70_l9 p3 p4).toInt := by rw [Int.add_mul, c1]; omega
  refine ⟨by omega, by omega, ?_, ?_⟩
  · rw [own_mul (by rw [s1, Int32.toInt_toInt64, c1]; omega) (by rw [s1, Int32.toInt_toInt64, c1]; omega), s1, Int32.toInt_toInt64, c1]; omega
  · rw [own_mul (by rw [hn, Int32.toInt_toInt64, c2]; omega) (by rw [hn, Int32.toInt_toInt64, c2]; omega), hn, Int32.toInt_toInt64, c2]; omega
theorem own_c1 (p1 : Int32) (q2 : Int64) (p3 p4 : Int32) : ¬ v0_90 p1 q2 p3 p4 < (1 : Int64) := by
  rw [Int64.lt_iff_toInt_lt, own_one]
  have := (own_facts p1 q2 p3 p4).2.1
  omega
theorem own_c2 (p1 : Int32) (q2 : Int64) (p3 p4 : Int32) : ¬ (v0_99 p1 q2 p3 p4 + (1 : Int64)) < v0_90 p1 q2 p3 p4 := by
  obtain ⟨-, a, b⟩ := own_n p1 q2 p3 p4
  have := (own_facts p1 q2 p3 p4).1
  rw [Int64.lt_iff_toInt_lt, own_add (by rw [own_one]; omega) (by rw [own_one]; omega), own_one]
  omega
theorem own_c3 (p1 : Int32) (q2 : Int64) (p3 p4 : Int32) : ¬ v0_99 p1 q2 p3 p4 < ((v0_90 p1 q2 p3 p4 - (1 : Int64)) * (j0_70_l9 p3 p4).toInt64) := by
  rw [Int64.lt_iff_toInt_lt]
  have := (own_facts p1 q2 p3 p4).2.2.1
  omega
theorem own_c4 (p1 : Int32) (q2 : Int64) (p3 p4 : Int32) : v0_99 p1 q2 p3 p4 < (v0_90 p1 q2 p3 p4 * (j0_70_l9 p3 p4).toInt64) := by
  rw [Int64.lt_iff_toInt_lt]
  exact (own_facts p1 q2 p3 p4).2.2.2

def Q0 (Z : State) (p1 : Int32) (q2 : Int64) (p3 : Int32) (p4 : Int32) (h0 : Heap) (n0 : Nat) (v : Option Value) (h : Heap) (L : List Loc) : Prop := v = some (.int (1 : Int32)) ∧ Fr n0 L
set_option maxRecDepth 65536 in
set_option maxHeartbeats 40000000 in
theorem rm0 (l : Launch) (Z : State) (a0 : Array Value) (hw : ∀ d ∈ tables_1, d.before a0 Z = true) (ws : List Jvm.Cond) (p1 : Int32) (q2 : Int64) (p3 : Int32) (p4 : Int32) (h0 : Heap) (n0 : Nat) (Z0 : n0 ≤ h0.size) :
    MetFree l x (head1 (Jvm.Cond.code x code maxLocals ret :: ws) room_1) (fun a U => a = #[(.int p1), (.long q2), (.int p3), (.int p4)] ∧ Z.Warmed39 U.vm ∧ U.heap = h0) (fun _ _ _ _ _ => True) (fun _ U o U' => ∃ v L, o = .returned v ∧ Q0 Z p1 q2 p3 p4 h0 n0 v U'.heap L ∧ FrameEnd U o U' L room_1.cells room_1.slots) := by
  refine MetFree.of_bodySF (plainFor_of_name pn_RangeCountPinLaw) hisR ?_
  intro p e s m args below meth c s₁ Bd hml0 hP hK
  obtain ⟨rfl, hZ, hh⟩ := hP
  have hx := Bd.exec
  have hby := Bd.bytes
  have hml : c.maxLocals = 16 := hml0
  have hown : s.vm.findClass "com/example/eager_dispatch/eagerdispatch/model/RangeCountPinLaw" = some m.cls := findClass_of_methodNamed Bd.named
  have hnm := (name_of_methodNamed Bd.named Bd.method).1
  have X0 : Stand p l e room_1 s m #[(.int p1), (.long q2), (.int p3), (.int p4)] below meth c s₁ [] 0 0 := Stand.of_body Bd
  have e0 : s₁.heap = h0 := by rw [← hh, Bd.state]; rfl
  have N0 := Fr.nil n0
  have pre0 : ∀ t, Steps p.tables e below (s₁.setTop (mkF m 0 #[.val (.int p1), .val (.long q2), .second, .val (.int p3), .val (.int p4), .unset, .unset, .unset, .unset, .unset, .unset, .unset, .unset, .unset, .unset, .unset] [])) t → Steps p.tables e below (s₁.setTop (entryFrame m #[(.int p1), (.long q2), (.int p3), (.int p4)] maxLocals)) t := fun t k => castTop (ef_0 m p1 q2 p3 p4) k
  have sg0_0 : ∀ t, Steps p.tables e below (s₁.setTop (mkF m 70 #[.val (.int p1), .val (.long q2), .second, .val (.int p3), .val (.int p4), .val (.int (v0_4 p1)), .val (.long (v0_15 p1)), .second, .val (.int (j0_70_l8 p1 q2 p3 p4)), .val (.int (j0_70_l9 p3 p4)), .val (.int (v0_50 p4)), .unset, .unset, .unset, .unset, .unset] [])) t → Steps p.tables e below (s₁.setTop (mkF m 0 #[.val (.int p1), .val (.long q2), .second, .val (.int p3), .val (.int p4), .unset, .unset, .unset, .unset, .unset, .unset, .unset, .unset, .unset, .unset, .unset] [])) t := by
    intro t k
    refine XS.iloadN X0.here hx rfl (hb hby at_0) rfl ?_
    show Steps p.tables e below (s₁.setTop (mkF m 1 #[.val (.int p1), .val (.long q2), .second, .val (.int p3), .val (.int p4), .unset, .unset, .unset, .unset, .unset, .unset, .unset, .unset, .unset, .unset, .unset] [(.int p1)])) _
    refine X0.ldcInt hx hown (mvT hZ (hw _ (List.mem_of_getElem? (i := 0) rfl))) (g := (mkF m 1 #[.val (.int p1), .val (.long q2), .second, .val (.int p3), .val (.int p4), .unset, .unset, .unset, .unset, .unset, .unset, .unset, .unset, .unset, .unset, .unset] [(.int p1)])) rfl (hb hby at_1) _ ?_
    show Steps p.tables e below (s₁.setTop (mkF m 3 #[.val (.int p1), .val (.long q2), .second, .val (.int p3), .val (.int p4), .unset, .unset, .unset, .unset, .unset, .unset, .unset, .unset, .unset, .unset, .unset] [(.int (2147483647 : Int32)), (.int p1)])) _
    refine XS.iand X0.here hx rfl (hb hby at_3) rfl ?_
    show Steps p.tables e below (s₁.setTop (mkF m 4 #[.val (.int p1), .val (.long q2), .second, .val (.int p3), .val (.int p4), .unset, .unset, .unset, .unset, .unset, .unset, .unset, .unset, .unset, .unset, .unset] [(.int (p1 &&& (2147483647 : Int32)))])) _
    show Steps p.tables e below (s₁.setTop (mkF m 4 #[.val (.int p1), .val (.long q2), .second, .val (.int p3), .val (.int p4), .unset, .unset, .unset, .unset, .unset, .unset, .unset, .unset, .unset, .unset, .unset] [(.int (v0_4 p1))])) _
    refine XS.istore X0.here hx rfl (hb hby at_4) rfl (l' := #[.val (.int p1), .val (.long q2), .second, .val (.int p3), .val (.int p4), .val (.int (v0_4 p1)), .unset, .unset, .unset, .unset, .unset, .unset, .unset, .unset, .unset, .unset]) rfl ?_
    show Steps p.tables e below (s₁.setTop (mkF m 6 #[.val (.int p1), .val (.long q2), .second, .val (.int p3), .val (.int p4), .val (.int (v0_4 p1)), .unset, .unset, .unset, .unset, .unset, .unset, .unset, .unset, .unset, .unset] [])) _
    refine X0.ldc2Long hx hown (mvT hZ (hw _ (List.mem_of_getElem? (i := 1) rfl))) (g := (mkF m 6 #[.val (.int p1), .val (.long q2), .second, .val (.int p3), .val (.int p4), .val (.int (v0_4 p1)), .unset, .unset, .unset, .unset, .unset, .unset, .unset, .unset, .unset, .unset] [])) rfl (hb hby at_6) _ ?_
    show Steps p.tables e below (s₁.setTop (mkF m 9 #[.val (.int p1), .val (.long q2), .second, .val (.int p3), .val (.int p4), .val (.int (v0_4 p1)), .unset, .unset, .unset, .unset, .unset, .unset, .unset, .unset, .unset, .unset] [(.long (2147483647 : Int64))])) _
    refine XS.iload X0.here hx rfl (hb hby at_9) rfl ?_
    show Steps p.tables e below (s₁.setTop (mkF m 11 #[.val (.int p1), .val (.long q2), .second, .val (.int p3), .val (.int p4), .val (.int (v0_4 p1)), .unset, .unset, .unset, .unset, .unset, .unset, .unset, .unset, .unset, .unset] [(.int (v0_4 p1)), (.long (2147483647 : Int64))])) _
    refine XS.i2l X0.here hx rfl (hb hby at_11) rfl ?_
    show Steps p.tables e below (s₁.setTop (mkF m 12 #[.val (.int p1), .val (.long q2), .second, .val (.int p3), .val (.int p4), .val (.int (v0_4 p1)), .unset, .unset, .unset, .unset, .unset, .unset, .unset, .unset, .unset, .unset] [(.long ((v0_4 p1).toInt64)), (.long (2147483647 : Int64))])) _
    refine XS.lsub X0.here hx rfl (hb hby at_12) rfl ?_
    show Steps p.tables e below (s₁.setTop (mkF m 13 #[.val (.int p1), .val (.long q2), .second, .val (.int p3), .val (.int p4), .val (.int (v0_4 p1)), .unset, .unset, .unset, .unset, .unset, .unset, .unset, .unset, .unset, .unset] [(.long ((2147483647 : Int64) - ((v0_4 p1).toInt64)))])) _
    refine XS.lconst X0.here hx rfl (hb hby at_13) ?_
    show Steps p.tables e below (s₁.setTop (mkF m 14 #[.val (.int p1), .val (.long q2), .second, .val (.int p3), .val (.int p4), .val (.int (v0_4 p1)), .unset, .unset, .unset, .unset, .unset, .unset, .unset, .unset, .unset, .unset] [(.long (1 : Int64)), (.long ((2147483647 : Int64) - ((v0_4 p1).toInt64)))])) _
    refine XS.ladd X0.here hx rfl (hb hby at_14) rfl ?_
    show Steps p.tables e below (s₁.setTop (mkF m 15 #[.val (.int p1), .val (.long q2), .second, .val (.int p3), .val (.int p4), .val (.int (v0_4 p1)), .unset, .unset, .unset, .unset, .unset, .unset, .unset, .unset, .unset, .unset] [(.long (((2147483647 : Int64) - ((v0_4 p1).toInt64)) + (1 : Int64)))])) _
    show Steps p.tables e below (s₁.setTop (mkF m 15 #[.val (.int p1), .val (.long q2), .second, .val (.int p3), .val (.int p4), .val (.int (v0_4 p1)), .unset, .unset, .unset, .unset, .unset, .unset, .unset, .unset, .unset, .unset] [(.long (v0_15 p1))])) _
    refine XS.lstore X0.here hx rfl (hb hby at_15) rfl (l' := #[.val (.int p1), .val (.long q2), .second, .val (.int p3), .val (.int p4), .val (.int (v0_4 p1)), .val (.long (v0_15 p1)), .second, .unset, .unset, .unset, .unset, .unset, .unset, .unset, .unset]) rfl ?_
    show Steps p.tables e below (s₁.setTop (mkF m 17 #[.val (.int p1), .val (.long q2), .second, .val (.int p3), .val (.int p4), .val (.int (v0_4 p1)), .val (.long (v0_15 p1)), .second, .unset, .unset, .unset, .unset, .unset, .unset, .unset, .unset] [])) _
    refine XS.iload X0.here hx rfl (hb hby at_17) rfl ?_
    show Steps p.tables e below (s₁.setTop (mkF m 19 #[.val (.int p1), .val (.long q2), .second, .val (.int p3), .val (.int p4), .val (.int (v0_4 p1)), .val (.long (v0_15 p1)), .second, .unset, .unset, .unset, .unset, .unset, .unset, .unset, .unset] [(.int (v0_4 p1))])) _
    refine XS.i2l X0.here hx rfl (hb hby at_19) rfl ?_
    show Steps p.tables e below (s₁.setTop (mkF m 20 #[.val (.int p1), .val (.long q2), .second, .val (.int p3), .val (.int p4), .val (.int (v0_4 p1)), .val (.long (v0_15 p1)), .second, .unset, .unset, .unset, .unset, .unset, .unset, .unset, .unset] [(.long ((v0_4 p1).toInt64))])) _
    refine XS.lloadN X0.here hx rfl (hb hby at_20) rfl ?_
    show Steps p.tables e below (s₁.setTop (mkF m 21 #[.val (.int p1), .val (.long q2), .second, .val (.int p3), .val (.int p4), .val (.int (v0_4 p1)), .val (.long (v0_15 p1)), .second, .unset, .unset, .unset, .unset, .unset, .unset, .unset, .unset] [(.long q2), (.long ((v0_4 p1).toInt64))])) _
    refine X0.ldc2Long hx hown (mvT hZ (hw _ (List.mem_of_getElem? (i := 2) rfl))) (g := (mkF m 21 #[.val (.int p1), .val (.long q2), .second, .val (.int p3), .val (.int p4), .val (.int (v0_4 p1)), .val (.long (v0_15 p1)), .second, .unset, .unset, .unset, .unset, .unset, .unset, .unset, .unset] [(.long q2), (.long ((v0_4 p1).toInt64))])) rfl (hb hby at_21) _ ?_
    show Steps p.tables e below (s₁.setTop (mkF m 24 #[.val (.int p1), .val (.long q2), .second, .val (.int p3), .val (.int p4), .val (.int (v0_4 p1)), .val (.long (v0_15 p1)), .second, .unset, .unset, .unset, .unset, .unset, .unset, .unset, .unset] [(.long (9223372036854775807 : Int64)), (.long q2), (.long ((v0_4 p1).toInt64))])) _
    refine XS.land X0.here hx rfl (hb hby at_24) rfl ?_
    show Steps p.tables e below (s₁.setTop (mkF m 25 #[.val (.int p1), .val (.long q2), .second, .val (.int p3), .val (.int p4), .val (.int (v0_4 p1)), .val (.long (v0_15 p1)), .second, .unset, .unset, .unset, .unset, .unset, .unset, .unset, .unset] [(.long (q2 &&& (9223372036854775807 : Int64))), (.long ((v0_4 p1).toInt64))])) _
    refine XS.lload X0.here hx rfl (hb hby at_25) rfl ?_
    show Steps p.tables e below (s₁.setTop (mkF m 27 #[.val (.int p1), .val (.long q2), .second, .val (.int p3), .val (.int p4), .val (.int (v0_4 p1)), .val (.long (v0_15 p1)), .second, .unset, .unset, .unset, .unset, .unset, .unset, .unset, .unset] [(.long (v0_15 p1)), (.long (q2 &&& (9223372036854775807 : Int64))), (.long ((v0_4 p1).toInt64))])) _
    refine XS.lrem X0.here hx rfl (hb hby at_27) rfl (own_room p1) ?_
    show Steps p.tables e below (s₁.setTop (mkF m 28 #[.val (.int p1), .val (.long q2), .second, .val (.int p3), .val (.int p4), .val (.int (v0_4 p1)), .val (.long (v0_15 p1)), .second, .unset, .unset, .unset, .unset, .unset, .unset, .unset, .unset] [(.long ((q2 &&& (9223372036854775807 : Int64)) - ((q2 &&& (9223372036854775807 : Int64)) / (v0_15 p1)) * (v0_15 p1))), (.long ((v0_4 p1).toInt64))])) _
    refine XS.ladd X0.here hx rfl (hb hby at_28) rfl ?_
    show Steps p.tables e below (s₁.setTop (mkF m 29 #[.val (.int p1), .val (.long q2), .second, .val (.int p3), .val (.int p4), .val (.int (v0_4 p1)), .val (.long (v0_15 p1)), .second, .unset, .unset, .unset, .unset, .unset, .unset, .unset, .unset] [(.long (((v0_4 p1).toInt64) + ((q2 &&& (9223372036854775807 : Int64)) - ((q2 &&& (9223372036854775807 : Int64)) / (v0_15 p1)) * (v0_15 p1))))])) _
    refine XS.l2i X0.here hx rfl (hb hby at_29) rfl ?_
    show Steps p.tables e below (s₁.setTop (mkF m 30 #[.val (.int p1), .val (.long q2), .second, .val (.int p3), .val (.int p4), .val (.int (v0_4 p1)), .val (.long (v0_15 p1)), .second, .unset, .unset, .unset, .unset, .unset, .unset, .unset, .unset] [(.int ((((v0_4 p1).toInt64) + ((q2 &&& (9223372036854775807 : Int64)) - ((q2 &&& (9223372036854775807 : Int64)) / (v0_15 p1)) * (v0_15 p1))).toInt32))])) _
    show Steps p.tables e below (s₁.setTop (mkF m 30 #[.val (.int p1), .val (.long q2), .second, .val (.int p3), .val (.int p4), .val (.int (v0_4 p1)), .val (.long (v0_15 p1)), .second, .unset, .unset, .unset, .unset, .unset, .unset, .unset, .unset] [(.int (v0_30 p1 q2))])) _
    refine XS.istore X0.here hx rfl (hb hby at_30) rfl (l' := #[.val (.int p1), .val (.long q2), .second, .val (.int p3), .val (.int p4), .val (.int (v0_4 p1)), .val (.long (v0_15 p1)), .second, .val (.int (v0_30 p1 q2)), .unset, .unset, .unset, .unset, .unset, .unset, .unset]) rfl ?_
    show Steps p.tables e below (s₁.setTop (mkF m 32 #[.val (.int p1), .val (.long q2), .second, .val (.int p3), .val (.int p4), .val (.int (v0_4 p1)), .val (.long (v0_15 p1)), .second, .val (.int (v0_30 p1 q2)), .unset, .unset, .unset, .unset, .unset, .unset, .unset] [])) _
    refine XS.iloadN X0.here hx rfl (hb hby at_32) rfl ?_
    show Steps p.tables e below (s₁.setTop (mkF m 33 #[.val (.int p1), .val (.long q2), .second, .val (.int p3), .val (.int p4), .val (.int (v0_4 p1)), .val (.long (v0_15 p1)), .second, .val (.int (v0_30 p1 q2)), .unset, .unset, .unset, .unset, .unset, .unset, .unset] [(.int p3)])) _
    refine X0.ldcInt hx hown (mvT hZ (hw _ (List.mem_of_getElem? (i := 0) rfl))) (g := (mkF m 33 #[.val (.int p1), .val (.long q2), .second, .val (.int p3), .val (.int p4), .val (.int (v0_4 p1)), .val (.long (v0_15 p1)), .second, .val (.int (v0_30 p1 q2)), .unset, .unset, .unset, .unset, .unset, .unset, .unset] [(.int p3)])) rfl (hb hby at_33) _ ?_
    show Steps p.tables e below (s₁.setTop (mkF m 35 #[.val (.int p1), .val (.long q2), .second, .val (.int p3), .val (.int p4), .val (.int (v0_4 p1)), .val (.long (v0_15 p1)), .second, .val (.int (v0_30 p1 q2)), .unset, .unset, .unset, .unset, .unset, .unset, .unset] [(.int (2147483647 : Int32)), (.int p3)])) _
    refine XS.iand X0.here hx rfl (hb hby at_35) rfl ?_
    show Steps p.tables e below (s₁.setTop (mkF m 36 #[.val (.int p1), .val (.long q2), .second, .val (.int p3), .val (.int p4), .val (.int (v0_4 p1)), .val (.long (v0_15 p1)), .second, .val (.int (v0_30 p1 q2)), .unset, .unset, .unset, .unset, .unset, .unset, .unset] [(.int (p3 &&& (2147483647 : Int32)))])) _
    show Steps p.tables e below (s₁.setTop (mkF m 36 #[.val (.int p1), .val (.long q2), .second, .val (.int p3), .val (.int p4), .val (.int (v0_4 p1)), .val (.long (v0_15 p1)), .second, .val (.int (v0_30 p1 q2)), .unset, .unset, .unset, .unset, .unset, .unset, .unset] [(.int (v0_36 p3))])) _
    refine XS.istore X0.here hx rfl (hb hby at_36) rfl (l' := #[.val (.int p1), .val (.long q2), .second, .val (.int p3), .val (.int p4), .val (.int (v0_4 p1)), .val (.long (v0_15 p1)), .second, .val (.int (v0_30 p1 q2)), .val (.int (v0_36 p3)), .unset, .unset, .unset, .unset, .unset, .unset]) rfl ?_
    show Steps p.tables e below (s₁.setTop (mkF m 38 #[.val (.int p1), .val (.long q2), .second, .val (.int p3), .val (.int p4), .val (.int (v0_4 p1)), .val (.long (v0_15 p1)), .second, .val (.int (v0_30 p1 q2)), .val (.int (v0_36 p3)), .unset, .unset, .unset, .unset, .unset, .unset] [])) _
    refine XS.iload X0.here hx rfl (hb hby at_38) rfl ?_
    show Steps p.tables e below (s₁.setTop (mkF m 40 #[.val (.int p1), .val (.long q2), .second, .val (.int p3), .val (.int p4), .val (.int (v0_4 p1)), .val (.long (v0_15 p1)), .second, .val (.int (v0_30 p1 q2)), .val (.int (v0_36 p3)), .unset, .unset, .unset, .unset, .unset, .unset] [(.int (v0_36 p3))])) _
    by_cases hc40 : (v0_36 p3) = (0 : Int32)
    · refine XS.ifNo X0.here hx rfl (hb hby at_40) rfl ((if0 _ _).trans (teq hc40).2) ?_
      show Steps p.tables e below (s₁.setTop (mkF m 43 #[.val (.int p1), .val (.long q2), .second, .val (.int p3), .val (.int p4), .val (.int (v0_4 p1)), .val (.long (v0_15 p1)), .second, .val (.int (v0_30 p1 q2)), .val (.int (v0_36 p3)), .unset, .unset, .unset, .unset, .unset, .unset] [])) _
      refine XS.iconst X0.here hx rfl (hb hby at_43) ?_
      show Steps p.tables e below (s₁.setTop (mkF m 44 #[.val (.int p1), .val (.long q2), .second, .val (.int p3), .val (.int p4), .val (.int (v0_4 p1)), .val (.long (v0_15 p1)), .second, .val (.int (v0_30 p1 q2)), .val (.int (v0_36 p3)), .unset, .unset, .unset, .unset, .unset, .unset] [(.int (1 : Int32))])) _
      refine XS.istore X0.here hx rfl (hb hby at_44) rfl (l' := #[.val (.int p1), .val (.long q2), .second, .val (.int p3), .val (.int p4), .val (.int (v0_4 p1)), .val (.long (v0_15 p1)), .second, .val (.int (v0_30 p1 q2)), .val (.int (1 : Int32)), .unset, .unset, .unset, .unset, .unset, .unset]) rfl ?_
      show Steps p.tables e below (s₁.setTop (mkF m 46 #[.val (.int p1), .val (.long q2), .second, .val (.int p3), .val (.int p4), .val (.int (v0_4 p1)), .val (.long (v0_15 p1)), .second, .val (.int (v0_30 p1 q2)), .val (.int (1 : Int32)), .unset, .unset, .unset, .unset, .unset, .unset] [])) _
      refine XS.iload X0.here hx rfl (hb hby at_46) rfl ?_
      show Steps p.tables e below (s₁.setTop (mkF m 48 #[.val (.int p1), .val (.long q2), .second, .val (.int p3), .val (.int p4), .val (.int (v0_4 p1)), .val (.long (v0_15 p1)), .second, .val (.int (v0_30 p1 q2)), .val (.int (1 : Int32)), .unset, .unset, .unset, .unset, .unset, .unset] [(.int p4)])) _
      refine XS.iconst X0.here hx rfl (hb hby at_48) ?_
      show Steps p.tables e below (s₁.setTop (mkF m 49 #[.val (.int p1), .val (.long q2), .second, .val (.int p3), .val (.int p4), .val (.int (v0_4 p1)), .val (.long (v0_15 p1)), .second, .val (.int (v0_30 p1 q2)), .val (.int (1 : Int32)), .unset, .unset, .unset, .unset, .unset, .unset] [(.int (3 : Int32)), (.int p4)])) _
      refine XS.iand X0.here hx rfl (hb hby at_49) rfl ?_
      show Steps p.tables e below (s₁.setTop (mkF m 50 #[.val (.int p1), .val (.long q2), .second, .val (.int p3), .val (.int p4), .val (.int (v0_4 p1)), .val (.long (v0_15 p1)), .second, .val (.int (v0_30 p1 q2)), .val (.int (1 : Int32)), .unset, .unset, .unset, .unset, .unset, .unset] [(.int (p4 &&& (3 : Int32)))])) _
      show Steps p.tables e below (s₁.setTop (mkF m 50 #[.val (.int p1), .val (.long q2), .second, .val (.int p3), .val (.int p4), .val (.int (v0_4 p1)), .val (.long (v0_15 p1)), .second, .val (.int (v0_30 p1 q2)), .val (.int (1 : Int32)), .unset, .unset, .unset, .unset, .unset, .unset] [(.int (v0_50 p4))])) _
      refine XS.istore X0.here hx rfl (hb hby at_50) rfl (l' := #[.val (.int p1), .val (.long q2), .second, .val (.int p3), .val (.int p4), .val (.int (v0_4 p1)), .val (.long (v0_15 p1)), .second, .val (.int (v0_30 p1 q2)), .val (.int (1 : Int32)), .val (.int (v0_50 p4)), .unset, .unset, .unset, .unset, .unset]) rfl ?_
      show Steps p.tables e below (s₁.setTop (mkF m 52 #[.val (.int p1), .val (.long q2), .second, .val (.int p3), .val (.int p4), .val (.int (v0_4 p1)), .val (.long (v0_15 p1)), .second, .val (.int (v0_30 p1 q2)), .val (.int (1 : Int32)), .val (.int (v0_50 p4)), .unset, .unset, .unset, .unset, .unset] [])) _
      refine XS.iload X0.here hx rfl (hb hby at_52) rfl ?_
      show Steps p.tables e below (s₁.setTop (mkF m 54 #[.val (.int p1), .val (.long q2), .second, .val (.int p3), .val (.int p4), .val (.int (v0_4 p1)), .val (.long (v0_15 p1)), .second, .val (.int (v0_30 p1 q2)), .val (.int (1 : Int32)), .val (.int (v0_50 p4)), .unset, .unset, .unset, .unset, .unset] [(.int (v0_50 p4))])) _
      by_cases hc54 : (v0_50 p4) = (0 : Int32)
      · refine XS.ifNo X0.here hx rfl (hb hby at_54) rfl ((if0 _ _).trans (teq hc54).2) ?_
        show Steps p.tables e below (s₁.setTop (mkF m 57 #[.val (.int p1), .val (.long q2), .second, .val (.int p3), .val (.int p4), .val (.int (v0_4 p1)), .val (.long (v0_15 p1)), .second, .val (.int (v0_30 p1 q2)), .val (.int (1 : Int32)), .val (.int (v0_50 p4)), .unset, .unset, .unset, .unset, .unset] [])) _
        refine XS.iconst X0.here hx rfl (hb hby at_57) ?_
        show Steps p.tables e below (s₁.setTop (mkF m 58 #[.val (.int p1), .val (.long q2), .second, .val (.int p3), .val (.int p4), .val (.int (v0_4 p1)), .val (.long (v0_15 p1)), .second, .val (.int (v0_30 p1 q2)), .val (.int (1 : Int32)), .val (.int (v0_50 p4)), .unset, .unset, .unset, .unset, .unset] [(.int (1 : Int32))])) _
        refine XS.istore X0.here hx rfl (hb hby at_58) rfl (l' := #[.val (.int p1), .val (.long q2), .second, .val (.int p3), .val (.int p4), .val (.int (v0_4 p1)), .val (.long (v0_15 p1)), .second, .val (.int (v0_30 p1 q2)), .val (.int (1 : Int32)), .val (.int (v0_50 p4)), .unset, .unset, .unset, .unset, .unset]) rfl ?_
        show Steps p.tables e below (s₁.setTop (mkF m 60 #[.val (.int p1), .val (.long q2), .second, .val (.int p3), .val (.int p4), .val (.int (v0_4 p1)), .val (.long (v0_15 p1)), .second, .val (.int (v0_30 p1 q2)), .val (.int (1 : Int32)), .val (.int (v0_50 p4)), .unset, .unset, .unset, .unset, .unset] [])) _
        refine XS.iload X0.here hx rfl (hb hby at_60) rfl ?_
        show Steps p.tables e below (s₁.setTop (mkF m 62 #[.val (.int p1), .val (.long q2), .second, .val (.int p3), .val (.int p4), .val (.int (v0_4 p1)), .val (.long (v0_15 p1)), .second, .val (.int (v0_30 p1 q2)), .val (.int (1 : Int32)), .val (.int (v0_50 p4)), .unset, .unset, .unset, .unset, .unset] [(.int (v0_50 p4))])) _
        refine XS.iconst X0.here hx rfl (hb hby at_62) ?_
        show Steps p.tables e below (s₁.setTop (mkF m 63 #[.val (.int p1), .val (.long q2), .second, .val (.int p3), .val (.int p4), .val (.int (v0_4 p1)), .val (.long (v0_15 p1)), .second, .val (.int (v0_30 p1 q2)), .val (.int (1 : Int32)), .val (.int (v0_50 p4)), .unset, .unset, .unset, .unset, .unset] [(.int (1 : Int32)), (.int (v0_50 p4))])) _
        by_cases hc63 : (v0_50 p4) = (1 : Int32)
        · refine XS.icmpNo X0.here hx rfl (hb hby at_63) rfl (teq hc63).2 ?_
          show Steps p.tables e below (s₁.setTop (mkF m 66 #[.val (.int p1), .val (.long q2), .second, .val (.int p3), .val (.int p4), .val (.int (v0_4 p1)), .val (.long (v0_15 p1)), .second, .val (.int (v0_30 p1 q2)), .val (.int (1 : Int32)), .val (.int (v0_50 p4)), .unset, .unset, .unset, .unset, .unset] [])) _
          refine XS.iload X0.here hx rfl (hb hby at_66) rfl ?_
          show Steps p.tables e below (s₁.setTop (mkF m 68 #[.val (.int p1), .val (.long q2), .second, .val (.int p3), .val (.int p4), .val (.int (v0_4 p1)), .val (.long (v0_15 p1)), .second, .val (.int (v0_30 p1 q2)), .val (.int (1 : Int32)), .val (.int (v0_50 p4)), .unset, .unset, .unset, .unset, .unset] [(.int (v0_4 p1))])) _
          refine XS.istore X0.here hx rfl (hb hby at_68) rfl (l' := #[.val (.int p1), .val (.long q2), .second, .val (.int p3), .val (.int p4), .val (.int (v0_4 p1)), .val (.long (v0_15 p1)), .second, .val (.int (v0_4 p1)), .val (.int (1 : Int32)), .val (.int (v0_50 p4)), .unset, .unset, .unset, .unset, .unset]) rfl ?_
          show Steps p.tables e below (s₁.setTop (mkF m 70 #[.val (.int p1), .val (.long q2), .second, .val (.int p3), .val (.int p4), .val (.int (v0_4 p1)), .val (.long (v0_15 p1)), .second, .val (.int (v0_4 p1)), .val (.int (1 : Int32)), .val (.int (v0_50 p4)), .unset, .unset, .unset, .unset, .unset] [])) _
          have q_j0_70_l8 : (j0_70_l8 p1 q2 p3 p4) = (v0_4 p1) := by unfold j0_70_l8; rw [if_pos hc40, if_pos hc54, if_pos hc63]
          have q_j0_70_l9 : (j0_70_l9 p3 p4) = (1 : Int32) := by unfold j0_70_l9; rw [if_pos hc40, if_pos hc54, if_pos hc63]
          rw [q_j0_70_l8, q_j0_70_l9] at k
          exact k
        · refine XS.icmpYes X0.here hx rfl (pc0 := 63) (pc' := 70) rfl (hb hby at_63) rfl (feq hc63).2 (by decide) (by decide) ?_
          show Steps p.tables e below (s₁.setTop (mkF m 70 #[.val (.int p1), .val (.long q2), .second, .val (.int p3), .val (.int p4), .val (.int (v0_4 p1)), .val (.long (v0_15 p1)), .second, .val (.int (v0_30 p1 q2)), .val (.int (1 : Int32)), .val (.int (v0_50 p4)), .unset, .unset, .unset, .unset, .unset] [])) _
          have q_j0_70_l8 : (j0_70_l8 p1 q2 p3 p4) = (v0_30 p1 q2) := by unfold j0_70_l8; rw [if_pos hc40, if_pos hc54, if_neg hc63]
          have q_j0_70_l9 : (j0_70_l9 p3 p4) = (1 : Int32) := by unfold j0_70_l9; rw [if_pos hc40, if_pos hc54, if_neg hc63]
          rw [q_j0_70_l8, q_j0_70_l9] at k
          exact k
      · refine XS.ifYes X0.here hx rfl (pc0 := 54) (pc' := 60) rfl (hb hby at_54) rfl ((if0 _ _).trans (feq hc54).2) (by decide) (by decide) ?_
        show Steps p.tables e below (s₁.setTop (mkF m 60 #[.val (.int p1), .val (.long q2), .second, .val (.int p3), .val (.int p4), .val (.int (v0_4 p1)), .val (.long (v0_15 p1)), .second, .val (.int (v0_30 p1 q2)), .val (.int (1 : Int32)), .val (.int (v0_50 p4)), .unset, .unset, .unset, .unset, .unset] [])) _
        refine XS.iload X0.here hx rfl (hb hby at_60) rfl ?_
        show Steps p.tables e below (s₁.setTop (mkF m 62 #[.val (.int p1), .val (.long q2), .second, .val (.int p3), .val (.int p4), .val (.int (v0_4 p1)), .val (.long (v0_15 p1)), .second, .val (.int (v0_30 p1 q2)), .val (.int (1 : Int32)), .val (.int (v0_50 p4)), .unset, .unset, .unset, .unset, .unset] [(.int (v0_50 p4))])) _
        refine XS.iconst X0.here hx rfl (hb hby at_62) ?_
        show Steps p.tables e below (s₁.setTop (mkF m 63 #[.val (.int p1), .val (.long q2), .second, .val (.int p3), .val (.int p4), .val (.int (v0_4 p1)), .val (.long (v0_15 p1)), .second, .val (.int (v0_30 p1 q2)), .val (.int (1 : Int32)), .val (.int (v0_50 p4)), .unset, .unset, .unset, .unset, .unset] [(.int (1 : Int32)), (.int (v0_50 p4))])) _
        by_cases hc63 : (v0_50 p4) = (1 : Int32)
        · refine XS.icmpNo X0.here hx rfl (hb hby at_63) rfl (teq hc63).2 ?_
          show Steps p.tables e below (s₁.setTop (mkF m 66 #[.val (.int p1), .val (.long q2), .second, .val (.int p3), .val (.int p4), .val (.int (v0_4 p1)), .val (.long (v0_15 p1)), .second, .val (.int (v0_30 p1 q2)), .val (.int (1 : Int32)), .val (.int (v0_50 p4)), .unset, .unset, .unset, .unset, .unset] [])) _
          refine XS.iload X0.here hx rfl (hb hby at_66) rfl ?_
          show Steps p.tables e below (s₁.setTop (mkF m 68 #[.val (.int p1), .val (.long q2), .second, .val (.int p3), .val (.int p4), .val (.int (v0_4 p1)), .val (.long (v0_15 p1)), .second, .val (.int (v0_30 p1 q2)), .val (.int (1 : Int32)), .val (.int (v0_50 p4)), .unset, .unset, .unset, .unset, .unset] [(.int (v0_4 p1))])) _
          refine XS.istore X0.here hx rfl (hb hby at_68) rfl (l' := #[.val (.int p1), .val (.long q2), .second, .val (.int p3), .val (.int p4), .val (.int (v0_4 p1)), .val (.long (v0_15 p1)), .second, .val (.int (v0_4 p1)), .val (.int (1 : Int32)), .val (.int (v0_50 p4)), .unset, .unset, .unset, .unset, .unset]) rfl ?_
          show Steps p.tables e below (s₁.setTop (mkF m 70 #[.val (.int p1), .val (.long q2), .second, .val (.int p3), .val (.int p4), .val (.int (v0_4 p1)), .val (.long (v0_15 p1)), .second, .val (.int (v0_4 p1)), .val (.int (1 : Int32)), .val (.int (v0_50 p4)), .unset, .unset, .unset, .unset, .unset] [])) _
          have q_j0_70_l8 : (j0_70_l8 p1 q2 p3 p4) = (v0_4 p1) := by unfold j0_70_l8; rw [if_pos hc40, if_neg hc54, if_pos hc63]
          have q_j0_70_l9 : (j0_70_l9 p3 p4) = (1 : Int32) := by unfold j0_70_l9; rw [if_pos hc40, if_neg hc54, if_pos hc63]
          rw [q_j0_70_l8, q_j0_70_l9] at k
          exact k
        · refine XS.icmpYes X0.here hx rfl (pc0 := 63) (pc' := 70) rfl (hb hby at_63) rfl (feq hc63).2 (by decide) (by decide) ?_
          show Steps p.tables e below (s₁.setTop (mkF m 70 #[.val (.int p1), .val (.long q2), .second, .val (.int p3), .val (.int p4), .val (.int (v0_4 p1)), .val (.long (v0_15 p1)), .second, .val (.int (v0_30 p1 q2)), .val (.int (1 : Int32)), .val (.int (v0_50 p4)), .unset, .unset, .unset, .unset, .unset] [])) _
          have q_j0_70_l8 : (j0_70_l8 p1 q2 p3 p4) = (v0_30 p1 q2) := by unfold j0_70_l8; rw [if_pos hc40, if_neg hc54, if_neg hc63]
          have q_j0_70_l9 : (j0_70_l9 p3 p4) = (1 : Int32) := by unfold j0_70_l9; rw [if_pos hc40, if_neg hc54, if_neg hc63]
          rw [q_j0_70_l8, q_j0_70_l9] at k
          exact k
    · refine XS.ifYes X0.here hx rfl (pc0 := 40) (pc' := 46) rfl (hb hby at_40) rfl ((if0 _ _).trans (feq hc40).2) (by decide) (by decide) ?_
      show Steps p.tables e below (s₁.setTop (mkF m 46 #[.val (.int p1), .val (.long q2), .second, .val (.int p3), .val (.int p4), .val (.int (v0_4 p1)), .val (.long (v0_15 p1)), .second, .val (.int (v0_30 p1 q2)), .val (.int (v0_36 p3)), .unset, .unset, .unset, .unset, .unset, .unset] [])) _
      refine XS.iload X0.here hx rfl (hb hby at_46) rfl ?_
      show Steps p.tables e below (s₁.setTop (mkF m 48 #[.val (.int p1), .val (.long q2), .second, .val (.int p3), .val (.int p4), .val (.int (v0_4 p1)), .val (.long (v0_15 p1)), .second, .val (.int (v0_30 p1 q2)), .val (.int (v0_36 p3)), .unset, .unset, .unset, .unset, .unset, .unset] [(.int p4)])) _
      refine XS.iconst X0.here hx rfl (hb hby at_48) ?_
      show Steps p.tables e below (s₁.setTop (mkF m 49 #[.val (.int p1), .val (.long q2), .second, .val (.int p3), .val (.int p4), .val (.int (v0_4 p1)), .val (.long (v0_15 p1)), .second, .val (.int (v0_30 p1 q2)), .val (.int (v0_36 p3)), .unset, .unset, .unset, .unset, .unset, .unset] [(.int (3 : Int32)), (.int p4)])) _
      refine XS.iand X0.here hx rfl (hb hby at_49) rfl ?_
      show Steps p.tables e below (s₁.setTop (mkF m 50 #[.val (.int p1), .val (.long q2), .second, .val (.int p3), .val (.int p4), .val (.int (v0_4 p1)), .val (.long (v0_15 p1)), .second, .val (.int (v0_30 p1 q2)), .val (.int (v0_36 p3)), .unset, .unset, .unset, .unset, .unset, .unset] [(.int (p4 &&& (3 : Int32)))])) _
      show Steps p.tables e below (s₁.setTop (mkF m 50 #[.val (.int p1), .val (.long q2), .second, .val (.int p3), .val (.int p4), .val (.int (v0_4 p1)), .val (.long (v0_15 p1)), .second, .val (.int (v0_30 p1 q2)), .val (.int (v0_36 p3)), .unset, .unset, .unset, .unset, .unset, .unset] [(.int (v0_50 p4))])) _
      refine XS.istore X0.here hx rfl (hb hby at_50) rfl (l' := #[.val (.int p1), .val (.long q2), .second, .val (.int p3), .val (.int p4), .val (.int (v0_4 p1)), .val (.long (v0_15 p1)), .second, .val (.int (v0_30 p1 q2)), .val (.int (v0_36 p3)), .val (.int (v0_50 p4)), .unset, .unset, .unset, .unset, .unset]) rfl ?_
      show Steps p.tables e below (s₁.setTop (mkF m 52 #[.val (.int p1), .val (.long q2), .second, .val (.int p3), .val (.int p4), .val (.int (v0_4 p1)), .val (.long (v0_15 p1)), .second, .val (.int (v0_30 p1 q2)), .val (.int (v0_36 p3)), .val (.int (v0_50 p4)), .unset, .unset, .unset, .unset, .unset] [])) _
      refine XS.iload X0.here hx rfl (hb hby at_52) rfl ?_
      show Steps p.tables e below (s₁.setTop (mkF m 54 #[.val (.int p1), .val (.long q2), .second, .val (.int p3), .val (.int p4), .val (.int (v0_4 p1)), .val (.long (v0_15 p1)), .second, .val (.int (v0_30 p1 q2)), .val (.int (v0_36 p3)), .val (.int (v0_50 p4)), .unset, .unset, .unset, .unset, .unset] [(.int (v0_50 p4))])) _
      by_cases hc54 : (v0_50 p4) = (0 : Int32)
      · refine XS.ifNo X0.here hx rfl (hb hby at_54) rfl ((if0 _ _).trans (teq hc54).2) ?_
        show Steps p.tables e below (s₁.setTop (mkF m 57 #[.val (.int p1), .val (.long q2), .second, .val (.int p3), .val (.int p4), .val (.int (v0_4 p1)), .val (.long (v0_15 p1)), .second, .val (.int (v0_30 p1 q2)), .val (.int (v0_36 p3)), .val (.int (v0_50 p4)), .unset, .unset, .unset, .unset, .unset] [])) _
        refine XS.iconst X0.here hx rfl (hb hby at_57) ?_
        show Steps p.tables e below (s₁.setTop (mkF m 58 #[.val (.int p1), .val (.long q2), .second, .val (.int p3), .val (.int p4), .val (.int (v0_4 p1)), .val (.long (v0_15 p1)), .second, .val (.int (v0_30 p1 q2)), .val (.int (v0_36 p3)), .val (.int (v0_50 p4)), .unset, .unset, .unset, .unset, .unset] [(.int (1 : Int32))])) _
        refine XS.istore X0.here hx rfl (hb hby at_58) rfl (l' := #[.val (.int p1), .val (.long q2), .second, .val (.int p3), .val (.int p4), .val (.int (v0_4 p1)), .val (.long (v0_15 p1)), .second, .val (.int (v0_30 p1 q2)), .val (.int (1 : Int32)), .val (.int (v0_50 p4)), .unset, .unset, .unset, .unset, .unset]) rfl ?_
        show Steps p.tables e below (s₁.setTop (mkF m 60 #[.val (.int p1), .val (.long q2), .second, .val (.int p3), .val (.int p4), .val (.int (v0_4 p1)), .val (.long (v0_15 p1)), .second, .val (.int (v0_30 p1 q2)), .val (.int (1 : Int32)), .val (.int (v0_50 p4)), .unset, .unset, .unset, .unset, .unset] [])) _
        refine XS.iload X0.here hx rfl (hb hby at_60) rfl ?_
        show Steps p.tables e below (s₁.setTop (mkF m 62 #[.val (.int p1), .val (.long q2), .second, .val (.int p3), .val (.int p4), .val (.int (v0_4 p1)), .val (.long (v0_15 p1)), .second, .val (.int (v0_30 p1 q2)), .val (.int (1 : Int32)), .val (.int (v0_50 p4)), .unset, .unset, .unset, .unset, .unset] [(.int (v0_50 p4))])) _
        refine XS.iconst X0.here hx rfl (hb hby at_62) ?_
        show Steps p.tables e below (s₁.setTop (mkF m 63 #[.val (.int p1), .val (.long q2), .second, .val (.int p3), .val (.int p4), .val (.int (v0_4 p1)), .val (.long (v0_15 p1)), .second, .val (.int (v0_30 p1 q2)), .val (.int (1 : Int32)), .val (.int (v0_50 p4)), .unset, .unset, .unset, .unset, .unset] [(.int (1 : Int32)), (.int (v0_50 p4))])) _
        by_cases hc63 : (v0_50 p4) = (1 : Int32)
        · refine XS.icmpNo X0.here hx rfl (hb hby at_63) rfl (teq hc63).2 ?_
          show Steps p.tables e below (s₁.setTop (mkF m 66 #[.val (.int p1), .val (.long q2), .second, .val (.int p3), .val (.int p4), .val (.int (v0_4 p1)), .val (.long (v0_15 p1)), .second, .val (.int (v0_30 p1 q2)), .val (.int (1 : Int32)), .val (.int (v0_50 p4)), .unset, .unset, .unset, .unset, .unset] [])) _
          refine XS.iload X0.here hx rfl (hb hby at_66) rfl ?_
          show Steps p.tables e below (s₁.setTop (mkF m 68 #[.val (.int p1), .val (.long q2), .second, .val (.int p3), .val (.int p4), .val (.int (v0_4 p1)), .val (.long (v0_15 p1)), .second, .val (.int (v0_30 p1 q2)), .val (.int (1 : Int32)), .val (.int (v0_50 p4)), .unset, .unset, .unset, .unset, .unset] [(.int (v0_4 p1))])) _
          refine XS.istore X0.here hx rfl (hb hby at_68) rfl (l' := #[.val (.int p1), .val (.long q2), .second, .val (.int p3), .val (.int p4), .val (.int (v0_4 p1)), .val (.long (v0_15 p1)), .second, .val (.int (v0_4 p1)), .val (.int (1 : Int32)), .val (.int (v0_50 p4)), .unset, .unset, .unset, .unset, .unset]) rfl ?_
          show Steps p.tables e below (s₁.setTop (mkF m 70 #[.val (.int p1), .val (.long q2), .second, .val (.int p3), .val (.int p4), .val (.int (v0_4 p1)), .val (.long (v0_15 p1)), .second, .val (.int (v0_4 p1)), .val (.int (1 : Int32)), .val (.int (v0_50 p4)), .unset, .unset, .unset, .unset, .unset] [])) _
          have q_j0_70_l8 : (j0_70_l8 p1 q2 p3 p4) = (v0_4 p1) := by unfold j0_70_l8; rw [if_neg hc40, if_pos hc54, if_pos hc63]
          have q_j0_70_l9 : (j0_70_l9 p3 p4) = (1 : Int32) := by unfold j0_70_l9; rw [if_neg hc40, if_pos hc54, if_pos hc63]
          rw [q_j0_70_l8, q_j0_70_l9] at k
          exact k
        · refine XS.icmpYes X0.here hx rfl (pc0 := 63) (pc' := 70) rfl (hb hby at_63) rfl (feq hc63).2 (by decide) (by decide) ?_
          show Steps p.tables e below (s₁.setTop (mkF m 70 #[.val (.int p1), .val (.long q2), .second, .val (.int p3), .val (.int p4), .val (.int (v0_4 p1)), .val (.long (v0_15 p1)), .second, .val (.int (v0_30 p1 q2)), .val (.int (1 : Int32)), .val (.int (v0_50 p4)), .unset, .unset, .unset, .unset, .unset] [])) _
          have q_j0_70_l8 : (j0_70_l8 p1 q2 p3 p4) = (v0_30 p1 q2) := by unfold j0_70_l8; rw [if_neg hc40, if_pos hc54, if_neg hc63]
          have q_j0_70_l9 : (j0_70_l9 p3 p4) = (1 : Int32) := by unfold j0_70_l9; rw [if_neg hc40, if_pos hc54, if_neg hc63]
          rw [q_j0_70_l8, q_j0_70_l9] at k
          exact k
      · refine XS.ifYes X0.here hx rfl (pc0 := 54) (pc' := 60) rfl (hb hby at_54) rfl ((if0 _ _).trans (feq hc54).2) (by decide) (by decide) ?_
        show Steps p.tables e below (s₁.setTop (mkF m 60 #[.val (.int p1), .val (.long q2), .second, .val (.int p3), .val (.int p4), .val (.int (v0_4 p1)), .val (.long (v0_15 p1)), .second, .val (.int (v0_30 p1 q2)), .val (.int (v0_36 p3)), .val (.int (v0_50 p4)), .unset, .unset, .unset, .unset, .unset] [])) _
        refine XS.iload X0.here hx rfl (hb hby at_60) rfl ?_
        show Steps p.tables e below (s₁.setTop (mkF m 62 #[.val (.int p1), .val (.long q2), .second, .val (.int p3), .val (.int p4), .val (.int (v0_4 p1)), .val (.long (v0_15 p1)), .second, .val (.int (v0_30 p1 q2)), .val (.int (v0_36 p3)), .val (.int (v0_50 p4)), .unset, .unset, .unset, .unset, .unset] [(.int (v0_50 p4))])) _
        refine XS.iconst X0.here hx rfl (hb hby at_62) ?_
        show Steps p.tables e below (s₁.setTop (mkF m 63 #[.val (.int p1), .val (.long q2), .second, .val (.int p3), .val (.int p4), .val (.int (v0_4 p1)), .val (.long (v0_15 p1)), .second, .val (.int (v0_30 p1 q2)), .val (.int (v0_36 p3)), .val (.int (v0_50 p4)), .unset, .unset, .unset, .unset, .unset] [(.int (1 : Int32)), (.int (v0_50 p4))])) _
        by_cases hc63 : (v0_50 p4) = (1 : Int32)
        · refine XS.icmpNo X0.here hx rfl (hb hby at_63) rfl (teq hc63).2 ?_
          show Steps p.tables e below (s₁.setTop (mkF m 66 #[.val (.int p1), .val (.long q2), .second, .val (.int p3), .val (.int p4), .val (.int (v0_4 p1)), .val (.long (v0_15 p1)), .second, .val (.int (v0_30 p1 q2)), .val (.int (v0_36 p3)), .val (.int (v0_50 p4)), .unset, .unset, .unset, .unset, .unset] [])) _
          refine XS.iload X0.here hx rfl (hb hby at_66) rfl ?_
          show Steps p.tables e below (s₁.setTop (mkF m 68 #[.val (.int p1), .val (.long q2), .second, .val (.int p3), .val (.int p4), .val (.int (v0_4 p1)), .val (.long (v0_15 p1)), .second, .val (.int (v0_30 p1 q2)), .val (.int (v0_36 p3)), .val (.int (v0_50 p4)), .unset, .unset, .unset, .unset, .unset] [(.int (v0_4 p1))])) _
          refine XS.istore X0.here hx rfl (hb hby at_68) rfl (l' := #[.val (.int p1), .val (.long q2), .second, .val (.int p3), .val (.int p4), .val (.int (v0_4 p1)), .val (.long (v0_15 p1)), .second, .val (.int (v0_4 p1)), .val (.int (v0_36 p3)), .val (.int (v0_50 p4)), .unset, .unset, .unset, .unset, .unset]) rfl ?_
          show Steps p.tables e below (s₁.setTop (mkF m 70 #[.val (.int p1), .val (.long q2), .second, .val (.int p3), .val (.int p4), .val (.int (v0_4 p1)), .val (.long (v0_15 p1)), .second, .val (.int (v0_4 p1)), .val (.int (v0_36 p3)), .val (.int (v0_50 p4)), .unset, .unset, .unset, .unset, .unset] [])) _
          have q_j0_70_l8 : (j0_70_l8 p1 q2 p3 p4) = (v0_4 p1) := by unfold j0_70_l8; rw [if_neg hc40, if_neg hc54, if_pos hc63]
          have q_j0_70_l9 : (j0_70_l9 p3 p4) = (v0_36 p3) := by unfold j0_70_l9; rw [if_neg hc40, if_neg hc54, if_pos hc63]
          rw [q_j0_70_l8, q_j0_70_l9] at k
          exact k
        · refine XS.icmpYes X0.here hx rfl (pc0 := 63) (pc' := 70) rfl (hb hby at_63) rfl (feq hc63).2 (by decide) (by decide) ?_
          show Steps p.tables e below (s₁.setTop (mkF m 70 #[.val (.int p1), .val (.long q2), .second, .val (.int p3), .val (.int p4), .val (.int (v0_4 p1)), .val (.long (v0_15 p1)), .second, .val (.int (v0_30 p1 q2)), .val (.int (v0_36 p3)), .val (.int (v0_50 p4)), .unset, .unset, .unset, .unset, .unset] [])) _
          have q_j0_70_l8 : (j0_70_l8 p1 q2 p3 p4) = (v0_30 p1 q2) := by unfold j0_70_l8; rw [if_neg hc40, if_neg hc54, if_neg hc63]
          have q_j0_70_l9 : (j0_70_l9 p3 p4) = (v0_36 p3) := by unfold j0_70_l9; rw [if_neg hc40, if_neg hc54, if_neg hc63]
          rw [q_j0_70_l8, q_j0_70_l9] at k
          exact k
  obtain ⟨T13, h13, X13, e13, E13, A13, D13, -, st13⟩ := newO X0 hx hZ hown (hw _ (List.mem_of_getElem? (i := 3) rfl)) (hw _ (List.mem_of_getElem? (i := 4) rfl)) (hw _ (List.mem_of_getElem? (i := 5) rfl)) e0 (g := (mkF m 70 #[.val (.int p1), .val (.long q2), .second, .val (.int p3), .val (.int p4), .val (.int (v0_4 p1)), .val (.long (v0_15 p1)), .second, .val (.int (j0_70_l8 p1 q2 p3 p4)), .val (.int (j0_70_l9 p3 p4)), .val (.int (v0_50 p4)), .unset, .unset, .unset, .unset, .unset] [])) rfl (hb hby at_70) (by decide) (by decide)
  obtain ⟨b13, g13⟩ : ∃ z, z = h0.size := ⟨_, rfl⟩
  rw [← g13] at A13 D13 st13
  have F_start_b13 : Fld Z h13 b13 "com/example/eager_dispatch/eagerdispatch/model/ElementIndex$Range" "start" "I" (.int (0 : Int32)) := D13 (Or.inr (hw _ (List.mem_of_getElem? (i := 18) rfl))) (ty := .int) (by decide)
  have F_stop_b13 : Fld Z h13 b13 "com/example/eager_dispatch/eagerdispatch/model/ElementIndex$Range" "stop" "I" (.int (0 : Int32)) := D13 (Or.inr (hw _ (List.mem_of_getElem? (i := 20) rfl))) (ty := .int) (by decide)
  have F_stride_b13 : Fld Z h13 b13 "com/example/eager_dispatch/eagerdispatch/model/ElementIndex$Range" "stride" "I" (.int (0 : Int32)) := D13 (Or.inr (hw _ (List.mem_of_getElem? (i := 22) rfl))) (ty := .int) (by decide)
  have g_b13 : n0 ≤ b13 := Nat.le_trans Z0 (Nat.le_of_eq g13.symm)
  have Z13 : n0 ≤ h13.size := Nat.le_trans Z0 E13.1
  obtain ⟨_, _, ⟨T14, L14, k14, n14⟩, -, X14, ⟨Lc14, hQ14, l14, y14, z14⟩, st14⟩ := X13.specialBack hx (y := (⟨"com/example/eager_dispatch/eagerdispatch/model/ElementIndex$Range", "<init>", "(III)V"⟩ : MethodName)) rfl hown (mvT hZ (hw _ (List.mem_of_getElem? (i := 6) rfl))) (mvT hZ (hw _ (List.mem_of_getElem? (i := 7) rfl))) (mvT hZ (hw _ (List.mem_of_getElem? (i := 8) rfl))) (by decide) (backOf (W := 1) (rm1 l Z a0 hw [] b13 (v0_4 p1) (j0_70_l8 p1 q2 p3 p4) (j0_70_l9 p3 p4) (.int (0 : Int32)) (.int (0 : Int32)) (.int (0 : Int32)) h13 n0 Z13 (own_i1 p1) (own_i2 p1 q2 p3 p4) (own_i3 p1 q2 p3 p4) A13 g_b13 F_start_b13 F_stop_b13 F_stride_b13) hZ (hw _ (List.mem_of_getElem? (i := 8) rfl)) (hw _ (List.mem_of_getElem? (i := 5) rfl)) (by decide) (by decide)) (g := (mkF m 80 #[.val (.int p1), .val (.long q2), .second, .val (.int p3), .val (.int p4), .val (.int (v0_4 p1)), .val (.long (v0_15 p1)), .second, .val (.int (j0_70_l8 p1 q2 p3 p4)), .val (.int (j0_70_l9 p3 p4)), .val (.int (v0_50 p4)), .unset, .unset, .unset, .unset, .unset] [(.int (j0_70_l9 p3 p4)), (.int (j0_70_l8 p1 q2 p3 p4)), (.int (v0_4 p1)), (.ref b13), (.ref b13)])) rfl (by rw [hml]; rfl) (Steps.refl _) (a := b13) (argsL := [(.int (v0_4 p1)), (.int (j0_70_l8 p1 q2 p3 p4)), (.int (j0_70_l9 p3 p4))]) (rest := [(.ref b13)]) (lenOf pd__III_V rfl) rfl (by show 2 * 0 + _ ≤ _; exact Nat.le_of_eq rfl) (hb hby at_80) (fun _ _ => ⟨rfl, e13, (by decide : 1 + 0 ≤ _), (by decide : 3 + 0 ≤ _)⟩)
  dsimp only [Pt.U, Pt.locs, Pt.cells, Pt.slots] at X14 l14 y14 z14 st14 hQ14
  subst l14 y14 z14
  obtain ⟨rfl, Nq14, K14, Ex14, Fstart14, Fstop14, Fstride14⟩ := hQ14
  have N14 := Fr.app N0 Nq14
  have Z14 : n0 ≤ T14.heap.size := Nat.le_trans Z13 K14.1
  obtain ⟨cq15, kq15, q15a, q15b, q15c⟩ := isOf hZ rfl Ex14
  obtain ⟨_, _, ⟨T15, L15, k15, n15⟩, -, X15, ⟨Lc15, hQ15, l15, y15, z15⟩, st15⟩ := X14.virtualBack hx (y := (⟨"com/example/eager_dispatch/eagerdispatch/model/ElementIndex$Range", "count", "()J"⟩ : MethodName)) (z := (⟨"com/example/eager_dispatch/eagerdispatch/model/ElementIndex$Range", "count", "()J"⟩ : MethodName)) hown (mvT hZ (hw _ (List.mem_of_getElem? (i := 23) rfl))) (mvT hZ (hw _ (List.mem_of_getElem? (i := 24) rfl))) (notFace_of_selects (args := #[]) (mvT hZ (hw _ (List.mem_of_getElem? (i := 26) rfl)))) (mvT hZ (hw _ (List.mem_of_getElem? (i := 26) rfl))) (mvT hZ (hw _ (List.mem_of_getElem? (i := 25) rfl))) (by decide) (backOf (W := 0) (rm4 l Z a0 hw [] b13 (v0_4 p1) (j0_70_l8 p1 q2 p3 p4) (j0_70_l9 p3 p4) T14.heap n0 Z14 Fstart14 Fstop14 Fstride14 (own_i4 p1 q2 p3 p4)) hZ (hw _ (List.mem_of_getElem? (i := 27) rfl)) (hw _ (List.mem_of_getElem? (i := 5) rfl)) (by decide) (by decide)) q15a q15c (g := (mkF m 87 #[.val (.int p1), .val (.long q2), .second, .val (.int p3), .val (.int p4), .val (.int (v0_4 p1)), .val (.long (v0_15 p1)), .second, .val (.int (j0_70_l8 p1 q2 p3 p4)), .val (.int (j0_70_l9 p3 p4)), .val (.int (v0_50 p4)), .val (.ref b13), .unset, .unset, .unset, .unset] [(.ref b13)])) rfl (by rw [hml]; rfl) (Steps.refl _) (argsL := []) (rest := []) (lenOf pd___J rfl) rfl (by show 2 * 0 + _ ≤ _; exact Nat.le_of_eq rfl) (hb hby at_87) (fun _ _ => ⟨rfl, rfl, (by decide : 1 + 0 ≤ _), (by decide : 3 + 0 ≤ _)⟩)
  dsimp only [Pt.U, Pt.locs, Pt.cells, Pt.slots] at X15 l15 y15 z15 st15 hQ15
  subst l15 y15 z15
  obtain ⟨rfl, Nq15, eh15⟩ := hQ15
  have N15 := Fr.app N14 Nq15
  obtain ⟨fs, hr, hrun, hended, hW, hsame⟩ := X15.leave (v := some (.int (1 : Int32))) (fun h => by rw [Bd.returns] at h; cases h)
  refine ⟨_, _, pre0 _ ?_, hrun, hended, _, _, rfl, ?_, ⟨_, rfl⟩, hW, hsame.mono (by decide) (by decide)⟩
  · show Steps p.tables e below (s₁.setTop (mkF m 0 #[.val (.int p1), .val (.long q2), .second, .val (.int p3), .val (.int p4), .unset, .unset, .unset, .unset, .unset, .unset, .unset, .unset, .unset, .unset, .unset] [])) _
    refine sg0_0 _ ?_
    show Steps p.tables e below (s₁.setTop (mkF m 70 #[.val (.int p1), .val (.long q2), .second, .val (.int p3), .val (.int p4), .val (.int (v0_4 p1)), .val (.long (v0_15 p1)), .second, .val (.int (j0_70_l8 p1 q2 p3 p4)), .val (.int (j0_70_l9 p3 p4)), .val (.int (v0_50 p4)), .unset, .unset, .unset, .unset, .unset] [])) _
    refine st13 _ ?_
    show Steps p.tables e below (T13.setTop (mkF m 73 #[.val (.int p1), .val (.long q2), .second, .val (.int p3), .val (.int p4), .val (.int (v0_4 p1)), .val (.long (v0_15 p1)), .second, .val (.int (j0_70_l8 p1 q2 p3 p4)), .val (.int (j0_70_l9 p3 p4)), .val (.int (v0_50 p4)), .unset, .unset, .unset, .unset, .unset] [(.ref b13)])) _
    refine XS.dup X13.here hx rfl (hb hby at_73) rfl rfl ?_
    show Steps p.tables e below (T13.setTop (mkF m 74 #[.val (.int p1), .val (.long q2), .second, .val (.int p3), .val (.int p4), .val (.int (v0_4 p1)), .val (.long (v0_15 p1)), .second, .val (.int (j0_70_l8 p1 q2 p3 p4)), .val (.int (j0_70_l9 p3 p4)), .val (.int (v0_50 p4)), .unset, .unset, .unset, .unset, .unset] [(.ref b13), (.ref b13)])) _
    refine XS.iload X13.here hx rfl (hb hby at_74) rfl ?_
    show Steps p.tables e below (T13.setTop (mkF m 76 #[.val (.int p1), .val (.long q2), .second, .val (.int p3), .val (.int p4), .val (.int (v0_4 p1)), .val (.long (v0_15 p1)), .second, .val (.int (j0_70_l8 p1 q2 p3 p4)), .val (.int (j0_70_l9 p3 p4)), .val (.int (v0_50 p4)), .unset, .unset, .unset, .unset, .unset] [(.int (v0_4 p1)), (.ref b13), (.ref b13)])) _
    refine XS.iload X13.here hx rfl (hb hby at_76) rfl ?_
    show Steps p.tables e below (T13.setTop (mkF m 78 #[.val (.int p1), .val (.long q2), .second, .val (.int p3), .val (.int p4), .val (.int (v0_4 p1)), .val (.long (v0_15 p1)), .second, .val (.int (j0_70_l8 p1 q2 p3 p4)), .val (.int (j0_70_l9 p3 p4)), .val (.int (v0_50 p4)), .unset, .unset, .unset, .unset, .unset] [(.int (j0_70_l8 p1 q2 p3 p4)), (.int (v0_4 p1)), (.ref b13), (.ref b13)])) _
    refine XS.iload X13.here hx rfl (hb hby at_78) rfl ?_
    show Steps p.tables e below (T13.setTop (mkF m 80 #[.val (.int p1), .val (.long q2), .second, .val (.int p3), .val (.int p4), .val (.int (v0_4 p1)), .val (.long (v0_15 p1)), .second, .val (.int (j0_70_l8 p1 q2 p3 p4)), .val (.int (j0_70_l9 p3 p4)), .val (.int (v0_50 p4)), .unset, .unset, .unset, .unset, .unset] [(.int (j0_70_l9 p3 p4)), (.int (j0_70_l8 p1 q2 p3 p4)), (.int (v0_4 p1)), (.ref b13), (.ref b13)])) _
    refine st14.trans ?_
    show Steps p.tables e below (T14.setTop (mkF m 83 #[.val (.int p1), .val (.long q2), .second, .val (.int p3), .val (.int p4), .val (.int (v0_4 p1)), .val (.long (v0_15 p1)), .second, .val (.int (j0_70_l8 p1 q2 p3 p4)), .val (.int (j0_70_l9 p3 p4)), .val (.int (v0_50 p4)), .unset, .unset, .unset, .unset, .unset] [(.ref b13)])) _
    refine XS.astore X14.here hx rfl (hb hby at_83) rfl rfl (l' := #[.val (.int p1), .val (.long q2), .second, .val (.int p3), .val (.int p4), .val (.int (v0_4 p1)), .val (.long (v0_15 p1)), .second, .val (.int (j0_70_l8 p1 q2 p3 p4)), .val (.int (j0_70_l9 p3 p4)), .val (.int (v0_50 p4)), .val (.ref b13), .unset, .unset, .unset, .unset]) rfl ?_
    show Steps p.tables e below (T14.setTop (mkF m 85 #[.val (.int p1), .val (.long q2), .second, .val (.int p3), .val (.int p4), .val (.int (v0_4 p1)), .val (.long (v0_15 p1)), .second, .val (.int (j0_70_l8 p1 q2 p3 p4)), .val (.int (j0_70_l9 p3 p4)), .val (.int (v0_50 p4)), .val (.ref b13), .unset, .unset, .unset, .unset] [])) _
    refine XS.aload X14.here hx rfl (hb hby at_85) rfl rfl ?_
    show Steps p.tables e below (T14.setTop (mkF m 87 #[.val (.int p1), .val (.long q2), .second, .val (.int p3), .val (.int p4), .val (.int (v0_4 p1)), .val (.long (v0_15 p1)), .second, .val (.int (j0_70_l8 p1 q2 p3 p4)), .val (.int (j0_70_l9 p3 p4)), .val (.int (v0_50 p4)), .val (.ref b13), .unset, .unset, .unset, .unset] [(.ref b13)])) _
    refine st15.trans ?_
    show Steps p.tables e below (T15.setTop (mkF m 90 #[.val (.int p1), .val (.long q2), .second, .val (.int p3), .val (.int p4), .val (.int (v0_4 p1)), .val (.long (v0_15 p1)), .second, .val (.int (j0_70_l8 p1 q2 p3 p4)), .val (.int (j0_70_l9 p3 p4)), .val (.int (v0_50 p4)), .val (.ref b13), .unset, .unset, .unset, .unset] [(.long (f4 (v0_4 p1) (j0_70_l8 p1 q2 p3 p4) (j0_70_l9 p3 p4)))])) _
    show Steps p.tables e below (T15.setTop (mkF m 90 #[.val (.int p1), .val (.long q2), .second, .val (.int p3), .val (.int p4), .val (.int (v0_4 p1)), .val (.long (v0_15 p1)), .second, .val (.int (j0_70_l8 p1 q2 p3 p4)), .val (.int (j0_70_l9 p3 p4)), .val (.int (v0_50 p4)), .val (.ref b13), .unset, .unset, .unset, .unset] [(.long (v0_90 p1 q2 p3 p4))])) _
    refine XS.lstore X15.here hx rfl (hb hby at_90) rfl (l' := #[.val (.int p1), .val (.long q2), .second, .val (.int p3), .val (.int p4), .val (.int (v0_4 p1)), .val (.long (v0_15 p1)), .second, .val (.int (j0_70_l8 p1 q2 p3 p4)), .val (.int (j0_70_l9 p3 p4)), .val (.int (v0_50 p4)), .val (.ref b13), .val (.long (v0_90 p1 q2 p3 p4)), .second, .unset, .unset]) rfl ?_
    show Steps p.tables e below (T15.setTop (mkF m 92 #[.val (.int p1), .val (.long q2), .second, .val (.int p3), .val (.int p4), .val (.int (v0_4 p1)), .val (.long (v0_15 p1)), .second, .val (.int (j0_70_l8 p1 q2 p3 p4)), .val (.int (j0_70_l9 p3 p4)), .val (.int (v0_50 p4)), .val (.ref b13), .val (.long (v0_90 p1 q2 p3 p4)), .second, .unset, .unset] [])) _
    refine XS.iload X15.here hx rfl (hb hby at_92) rfl ?_
    show Steps p.tables e below (T15.setTop (mkF m 94 #[.val (.int p1), .val (.long q2), .second, .val (.int p3), .val (.int p4), .val (.int (v0_4 p1)), .val (.long (v0_15 p1)), .second, .val (.int (j0_70_l8 p1 q2 p3 p4)), .val (.int (j0_70_l9 p3 p4)), .val (.int (v0_50 p4)), .val (.ref b13), .val (.long (v0_90 p1 q2 p3 p4)), .second, .unset, .unset] [(.int (j0_70_l8 p1 q2 p3 p4))])) _
    refine XS.i2l X15.here hx rfl (hb hby at_94) rfl ?_
    show Steps p.tables e below (T15.setTop (mkF m 95 #[.val (.int p1), .val (.long q2), .second, .val (.int p3), .val (.int p4), .val (.int (v0_4 p1)), .val (.long (v0_15 p1)), .second, .val (.int (j0_70_l8 p1 q2 p3 p4)), .val (.int (j0_70_l9 p3 p4)), .val (.int (v0_50 p4)), .val (.ref b13), .val (.long (v0_90 p1 q2 p3 p4)), .second, .unset, .unset] [(.long ((j0_70_l8 p1 q2 p3 p4).toInt64))])) _
    refine XS.iload X15.here hx rfl (hb hby at_95) rfl ?_
    show Steps p.tables e below (T15.setTop (mkF m 97 #[.val (.int p1), .val (.long q2), .second, .val (.int p3), .val (.int p4), .val (.int (v0_4 p1)), .val (.long (v0_15 p1)), .second, .val (.int (j0_70_l8 p1 q2 p3 p4)), .val (.int (j0_70_l9 p3 p4)), .val (.int (v0_50 p4)), .val (.ref b13), .val (.long (v0_90 p1 q2 p3 p4)), .second, .unset, .unset] [(.int (v0_4 p1)), (.long ((j0_70_l8 p1 q2 p3 p4).toInt64))])) _
    refine XS.i2l X15.here hx rfl (hb hby at_97) rfl ?_
    show Steps p.tables e below (T15.setTop (mkF m 98 #[.val (.int p1), .val (.long q2), .second, .val (.int p3), .val (.int p4), .val (.int (v0_4 p1)), .val (.long (v0_15 p1)), .second, .val (.int (j0_70_l8 p1 q2 p3 p4)), .val (.int (j0_70_l9 p3 p4)), .val (.int (v0_50 p4)), .val (.ref b13), .val (.long (v0_90 p1 q2 p3 p4)), .second, .unset, .unset] [(.long ((v0_4 p1).toInt64)), (.long ((j0_70_l8 p1 q2 p3 p4).toInt64))])) _
    refine XS.lsub X15.here hx rfl (hb hby at_98) rfl ?_
    show Steps p.tables e below (T15.setTop (mkF m 99 #[.val (.int p1), .val (.long q2), .second, .val (.int p3), .val (.int p4), .val (.int (v0_4 p1)), .val (.long (v0_15 p1)), .second, .val (.int (j0_70_l8 p1 q2 p3 p4)), .val (.int (j0_70_l9 p3 p4)), .val (.int (v0_50 p4)), .val (.ref b13), .val (.long (v0_90 p1 q2 p3 p4)), .second, .unset, .unset] [(.long (((j0_70_l8 p1 q2 p3 p4).toInt64) - ((v0_4 p1).toInt64)))])) _
    show Steps p.tables e below (T15.setTop (mkF m 99 #[.val (.int p1), .val (.long q2), .second, .val (.int p3), .val (.int p4), .val (.int (v0_4 p1)), .val (.long (v0_15 p1)), .second, .val (.int (j0_70_l8 p1 q2 p3 p4)), .val (.int (j0_70_l9 p3 p4)), .val (.int (v0_50 p4)), .val (.ref b13), .val (.long (v0_90 p1 q2 p3 p4)), .second, .unset, .unset] [(.long (v0_99 p1 q2 p3 p4))])) _
    refine XS.lstore X15.here hx rfl (hb hby at_99) rfl (l' := #[.val (.int p1), .val (.long q2), .second, .val (.int p3), .val (.int p4), .val (.int (v0_4 p1)), .val (.long (v0_15 p1)), .second, .val (.int (j0_70_l8 p1 q2 p3 p4)), .val (.int (j0_70_l9 p3 p4)), .val (.int (v0_50 p4)), .val (.ref b13), .val (.long (v0_90 p1 q2 p3 p4)), .second, .val (.long (v0_99 p1 q2 p3 p4)), .second]) rfl ?_
    show Steps p.tables e below (T15.setTop (mkF m 101 #[.val (.int p1), .val (.long q2), .second, .val (.int p3), .val (.int p4), .val (.int (v0_4 p1)), .val (.long (v0_15 p1)), .second, .val (.int (j0_70_l8 p1 q2 p3 p4)), .val (.int (j0_70_l9 p3 p4)), .val (.int (v0_50 p4)), .val (.ref b13), .val (.long (v0_90 p1 q2 p3 p4)), .second, .val (.long (v0_99 p1 q2 p3 p4)), .second] [])) _
    refine XS.lload X15.here hx rfl (hb hby at_101) rfl ?_
    show Steps p.tables e below (T15.setTop (mkF m 103 #[.val (.int p1), .val (.long q2), .second, .val (.int p3), .val (.int p4), .val (.int (v0_4 p1)), .val (.long (v0_15 p1)), .second, .val (.int (j0_70_l8 p1 q2 p3 p4)), .val (.int (j0_70_l9 p3 p4)), .val (.int (v0_50 p4)), .val (.ref b13), .val (.long (v0_90 p1 q2 p3 p4)), .second, .val (.long (v0_99 p1 q2 p3 p4)), .second] [(.long (v0_90 p1 q2 p3 p4))])) _
    refine XS.lconst X15.here hx rfl (hb hby at_103) ?_
    show Steps p.tables e below (T15.setTop (mkF m 104 #[.val (.int p1), .val (.long q2), .second, .val (.int p3), .val (.int p4), .val (.int (v0_4 p1)), .val (.long (v0_15 p1)), .second, .val (.int (j0_70_l8 p1 q2 p3 p4)), .val (.int (j0_70_l9 p3 p4)), .val (.int (v0_50 p4)), .val (.ref b13), .val (.long (v0_90 p1 q2 p3 p4)), .second, .val (.long (v0_99 p1 q2 p3 p4)), .second] [(.long (1 : Int64)), (.long (v0_90 p1 q2 p3 p4))])) _
    refine XS.lcmp X15.here hx rfl (hb hby at_104) rfl ?_
    show Steps p.tables e below (T15.setTop (mkF m 105 #[.val (.int p1), .val (.long q2), .second, .val (.int p3), .val (.int p4), .val (.int (v0_4 p1)), .val (.long (v0_15 p1)), .second, .val (.int (j0_70_l8 p1 q2 p3 p4)), .val (.int (j0_70_l9 p3 p4)), .val (.int (v0_50 p4)), .val (.ref b13), .val (.long (v0_90 p1 q2 p3 p4)), .second, .val (.long (v0_99 p1 q2 p3 p4)), .second] [(.int (lcmpW (v0_90 p1 q2 p3 p4) (1 : Int64)))])) _
    refine XS.ifNo X15.here hx rfl (hb hby at_105) rfl ((if0 _ _).trans (flt (mt (lw_lt (v0_90 p1 q2 p3 p4) (1 : Int64)).mp (own_c1 p1 q2 p3 p4))).1) ?_
    show Steps p.tables e below (T15.setTop (mkF m 108 #[.val (.int p1), .val (.long q2), .second, .val (.int p3), .val (.int p4), .val (.int (v0_4 p1)), .val (.long (v0_15 p1)), .second, .val (.int (j0_70_l8 p1 q2 p3 p4)), .val (.int (j0_70_l9 p3 p4)), .val (.int (v0_50 p4)), .val (.ref b13), .val (.long (v0_90 p1 q2 p3 p4)), .second, .val (.long (v0_99 p1 q2 p3 p4)), .second] [])) _
    refine XS.lload X15.here hx rfl (hb hby at_108) rfl ?_
    show Steps p.tables e below (T15.setTop (mkF m 110 #[.val (.int p1), .val (.long q2), .second, .val (.int p3), .val (.int p4), .val (.int (v0_4 p1)), .val (.long (v0_15 p1)), .second, .val (.int (j0_70_l8 p1 q2 p3 p4)), .val (.int (j0_70_l9 p3 p4)), .val (.int (v0_50 p4)), .val (.ref b13), .val (.long (v0_90 p1 q2 p3 p4)), .second, .val (.long (v0_99 p1 q2 p3 p4)), .second] [(.long (v0_90 p1 q2 p3 p4))])) _
    refine XS.lload X15.here hx rfl (hb hby at_110) rfl ?_
    show Steps p.tables e below (T15.setTop (mkF m 112 #[.val (.int p1), .val (.long q2), .second, .val (.int p3), .val (.int p4), .val (.int (v0_4 p1)), .val (.long (v0_15 p1)), .second, .val (.int (j0_70_l8 p1 q2 p3 p4)), .val (.int (j0_70_l9 p3 p4)), .val (.int (v0_50 p4)), .val (.ref b13), .val (.long (v0_90 p1 q2 p3 p4)), .second, .val (.long (v0_99 p1 q2 p3 p4)), .second] [(.long (v0_99 p1 q2 p3 p4)), (.long (v0_90 p1 q2 p3 p4))])) _
    refine XS.lconst X15.here hx rfl (hb hby at_112) ?_
    show Steps p.tables e below (T15.setTop (mkF m 113 #[.val (.int p1), .val (.long q2), .second, .val (.int p3), .val (.int p4), .val (.int (v0_4 p1)), .val (.long (v0_15 p1)), .second, .val (.int (j0_70_l8 p1 q2 p3 p4)), .val (.int (j0_70_l9 p3 p4)), .val (.int (v0_50 p4)), .val (.ref b13), .val (.long (v0_90 p1 q2 p3 p4)), .second, .val (.long (v0_99 p1 q2 p3 p4)), .second] [(.long (1 : Int64)), (.long (v0_99 p1 q2 p3 p4)), (.long (v0_90 p1 q2 p3 p4))])) _
    refine XS.ladd X15.here hx rfl (hb hby at_113) rfl ?_
    show Steps p.tables e below (T15.setTop (mkF m 114 #[.val (.int p1), .val (.long q2), .second, .val (.int p3), .val (.int p4), .val (.int (v0_4 p1)), .val (.long (v0_15 p1)), .second, .val (.int (j0_70_l8 p1 q2 p3 p4)), .val (.int (j0_70_l9 p3 p4)), .val (.int (v0_50 p4)), .val (.ref b13), .val (.long (v0_90 p1 q2 p3 p4)), .second, .val (.long (v0_99 p1 q2 p3 p4)), .second] [(.long ((v0_99 p1 q2 p3 p4) + (1 : Int64))), (.long (v0_90 p1 q2 p3 p4))])) _
    refine XS.lcmp X15.here hx rfl (hb hby at_114) rfl ?_
    show Steps p.tables e below (T15.setTop (mkF m 115 #[.val (.int p1), .val (.long q2), .second, .val (.int p3), .val (.int p4), .val (.int (v0_4 p1)), .val (.long (v0_15 p1)), .second, .val (.int (j0_70_l8 p1 q2 p3 p4)), .val (.int (j0_70_l9 p3 p4)), .val (.int (v0_50 p4)), .val (.ref b13), .val (.long (v0_90 p1 q2 p3 p4)), .second, .val (.long (v0_99 p1 q2 p3 p4)), .second] [(.int (lcmpW (v0_90 p1 q2 p3 p4) ((v0_99 p1 q2 p3 p4) + (1 : Int64))))])) _
    refine XS.ifYes X15.here hx rfl (pc0 := 115) (pc' := 120) rfl (hb hby at_115) rfl ((if0 _ _).trans (flt (mt (lw_gt (v0_90 p1 q2 p3 p4) ((v0_99 p1 q2 p3 p4) + (1 : Int64))).mp (own_c2 p1 q2 p3 p4))).2.2.2) (by decide) (by decide) ?_
    show Steps p.tables e below (T15.setTop (mkF m 120 #[.val (.int p1), .val (.long q2), .second, .val (.int p3), .val (.int p4), .val (.int (v0_4 p1)), .val (.long (v0_15 p1)), .second, .val (.int (j0_70_l8 p1 q2 p3 p4)), .val (.int (j0_70_l9 p3 p4)), .val (.int (v0_50 p4)), .val (.ref b13), .val (.long (v0_90 p1 q2 p3 p4)), .second, .val (.long (v0_99 p1 q2 p3 p4)), .second] [])) _
    refine XS.lload X15.here hx rfl (hb hby at_120) rfl ?_
    show Steps p.tables e below (T15.setTop (mkF m 122 #[.val (.int p1), .val (.long q2), .second, .val (.int p3), .val (.int p4), .val (.int (v0_4 p1)), .val (.long (v0_15 p1)), .second, .val (.int (j0_70_l8 p1 q2 p3 p4)), .val (.int (j0_70_l9 p3 p4)), .val (.int (v0_50 p4)), .val (.ref b13), .val (.long (v0_90 p1 q2 p3 p4)), .second, .val (.long (v0_99 p1 q2 p3 p4)), .second] [(.long (v0_90 p1 q2 p3 p4))])) _
    refine XS.lconst X15.here hx rfl (hb hby at_122) ?_
    show Steps p.tables e below (T15.setTop (mkF m 123 #[.val (.int p1), .val (.long q2), .second, .val (.int p3), .val (.int p4), .val (.int (v0_4 p1)), .val (.long (v0_15 p1)), .second, .val (.int (j0_70_l8 p1 q2 p3 p4)), .val (.int (j0_70_l9 p3 p4)), .val (.int (v0_50 p4)), .val (.ref b13), .val (.long (v0_90 p1 q2 p3 p4)), .second, .val (.long (v0_99 p1 q2 p3 p4)), .second] [(.long (1 : Int64)), (.long (v0_90 p1 q2 p3 p4))])) _
    refine XS.lsub X15.here hx rfl (hb hby at_123) rfl ?_
    show Steps p.tables e below (T15.setTop (mkF m 124 #[.val (.int p1), .val (.long q2), .second, .val (.int p3), .val (.int p4), .val (.int (v0_4 p1)), .val (.long (v0_15 p1)), .second, .val (.int (j0_70_l8 p1 q2 p3 p4)), .val (.int (j0_70_l9 p3 p4)), .val (.int (v0_50 p4)), .val (.ref b13), .val (.long (v0_90 p1 q2 p3 p4)), .second, .val (.long (v0_99 p1 q2 p3 p4)), .second] [(.long ((v0_90 p1 q2 p3 p4) - (1 : Int64)))])) _
    refine XS.iload X15.here hx rfl (hb hby at_124) rfl ?_
    show Steps p.tables e below (T15.setTop (mkF m 126 #[.val (.int p1), .val (.long q2), .second, .val (.int p3), .val (.int p4), .val (.int (v0_4 p1)), .val (.long (v0_15 p1)), .second, .val (.int (j0_70_l8 p1 q2 p3 p4)), .val (.int (j0_70_l9 p3 p4)), .val (.int (v0_50 p4)), .val (.ref b13), .val (.long (v0_90 p1 q2 p3 p4)), .second, .val (.long (v0_99 p1 q2 p3 p4)), .second] [(.int (j0_70_l9 p3 p4)), (.long ((v0_90 p1 q2 p3 p4) - (1 : Int64)))])) _
    refine XS.i2l X15.here hx rfl (hb hby at_126) rfl ?_
    show Steps p.tables e below (T15.setTop (mkF m 127 #[.val (.int p1), .val (.long q2), .second, .val (.int p3), .val (.int p4), .val (.int (v0_4 p1)), .val (.long (v0_15 p1)), .second, .val (.int (j0_70_l8 p1 q2 p3 p4)), .val (.int (j0_70_l9 p3 p4)), .val (.int (v0_50 p4)), .val (.ref b13), .val (.long (v0_90 p1 q2 p3 p4)), .second, .val (.long (v0_99 p1 q2 p3 p4)), .second] [(.long ((j0_70_l9 p3 p4).toInt64)), (.long ((v0_90 p1 q2 p3 p4) - (1 : Int64)))])) _
    refine XS.lmul X15.here hx rfl (hb hby at_127) rfl ?_
    show Steps p.tables e below (T15.setTop (mkF m 128 #[.val (.int p1), .val (.long q2), .second, .val (.int p3), .val (.int p4), .val (.int (v0_4 p1)), .val (.long (v0_15 p1)), .second, .val (.int (j0_70_l8 p1 q2 p3 p4)), .val (.int (j0_70_l9 p3 p4)), .val (.int (v0_50 p4)), .val (.ref b13), .val (.long (v0_90 p1 q2 p3 p4)), .second, .val (.long (v0_99 p1 q2 p3 p4)), .second] [(.long (((v0_90 p1 q2 p3 p4) - (1 : Int64)) * ((j0_70_l9 p3 p4).toInt64)))])) _
    refine XS.lload X15.here hx rfl (hb hby at_128) rfl ?_
    show Steps p.tables e below (T15.setTop (mkF m 130 #[.val (.int p1), .val (.long q2), .second, .val (.int p3), .val (.int p4), .val (.int (v0_4 p1)), .val (.long (v0_15 p1)), .second, .val (.int (j0_70_l8 p1 q2 p3 p4)), .val (.int (j0_70_l9 p3 p4)), .val (.int (v0_50 p4)), .val (.ref b13), .val (.long (v0_90 p1 q2 p3 p4)), .second, .val (.long (v0_99 p1 q2 p3 p4)), .second] [(.long (v0_99 p1 q2 p3 p4)), (.long (((v0_90 p1 q2 p3 p4) - (1 : Int64)) * ((j0_70_l9 p3 p4).toInt64)))])) _
    refine XS.lcmp X15.here hx rfl (hb hby at_130) rfl ?_
    show Steps p.tables e below (T15.setTop (mkF m 131 #[.val (.int p1), .val (.long q2), .second, .val (.int p3), .val (.int p4), .val (.int (v0_4 p1)), .val (.long (v0_15 p1)), .second, .val (.int (j0_70_l8 p1 q2 p3 p4)), .val (.int (j0_70_l9 p3 p4)), .val (.int (v0_50 p4)), .val (.ref b13), .val (.long (v0_90 p1 q2 p3 p4)), .second, .val (.long (v0_99 p1 q2 p3 p4)), .second] [(.int (lcmpW (((v0_90 p1 q2 p3 p4) - (1 : Int64)) * ((j0_70_l9 p3 p4).toInt64)) (v0_99 p1 q2 p3 p4)))])) _
    refine XS.ifNo X15.here hx rfl (hb hby at_131) rfl ((if0 _ _).trans (flt (mt (lw_gt (((v0_90 p1 q2 p3 p4) - (1 : Int64)) * ((j0_70_l9 p3 p4).toInt64)) (v0_99 p1 q2 p3 p4)).mp (own_c3 p1 q2 p3 p4))).2.2.1) ?_
    show Steps p.tables e below (T15.setTop (mkF m 134 #[.val (.int p1), .val (.long q2), .second, .val (.int p3), .val (.int p4), .val (.int (v0_4 p1)), .val (.long (v0_15 p1)), .second, .val (.int (j0_70_l8 p1 q2 p3 p4)), .val (.int (j0_70_l9 p3 p4)), .val (.int (v0_50 p4)), .val (.ref b13), .val (.long (v0_90 p1 q2 p3 p4)), .second, .val (.long (v0_99 p1 q2 p3 p4)), .second] [])) _
    refine XS.lload X15.here hx rfl (hb hby at_134) rfl ?_
    show Steps p.tables e below (T15.setTop (mkF m 136 #[.val (.int p1), .val (.long q2), .second, .val (.int p3), .val (.int p4), .val (.int (v0_4 p1)), .val (.long (v0_15 p1)), .second, .val (.int (j0_70_l8 p1 q2 p3 p4)), .val (.int (j0_70_l9 p3 p4)), .val (.int (v0_50 p4)), .val (.ref b13), .val (.long (v0_90 p1 q2 p3 p4)), .second, .val (.long (v0_99 p1 q2 p3 p4)), .second] [(.long (v0_90 p1 q2 p3 p4))])) _
    refine XS.iload X15.here hx rfl (hb hby at_136) rfl ?_
    show Steps p.tables e below (T15.setTop (mkF m 138 #[.val (.int p1), .val (.long q2), .second, .val (.int p3), .val (.int p4), .val (.int (v0_4 p1)), .val (.long (v0_15 p1)), .second, .val (.int (j0_70_l8 p1 q2 p3 p4)), .val (.int (j0_70_l9 p3 p4)), .val (.int (v0_50 p4)), .val (.ref b13), .val (.long (v0_90 p1 q2 p3 p4)), .second, .val (.long (v0_99 p1 q2 p3 p4)), .second] [(.int (j0_70_l9 p3 p4)), (.long (v0_90 p1 q2 p3 p4))])) _
    refine XS.i2l X15.here hx rfl (hb hby at_138) rfl ?_
    show Steps p.tables e below (T15.setTop (mkF m 139 #[.val (.int p1), .val (.long q2), .second, .val (.int p3), .val (.int p4), .val (.int (v0_4 p1)), .val (.long (v0_15 p1)), .second, .val (.int (j0_70_l8 p1 q2 p3 p4)), .val (.int (j0_70_l9 p3 p4)), .val (.int (v0_50 p4)), .val (.ref b13), .val (.long (v0_90 p1 q2 p3 p4)), .second, .val (.long (v0_99 p1 q2 p3 p4)), .second] [(.long ((j0_70_l9 p3 p4).toInt64)), (.long (v0_90 p1 q2 p3 p4))])) _
    refine XS.lmul X15.here hx rfl (hb hby at_139) rfl ?_
    show Steps p.tables e below (T15.setTop (mkF m 140 #[.val (.int p1), .val (.long q2), .second, .val (.int p3), .val (.int p4), .val (.int (v0_4 p1)), .val (.long (v0_15 p1)), .second, .val (.int (j0_70_l8 p1 q2 p3 p4)), .val (.int (j0_70_l9 p3 p4)), .val (.int (v0_50 p4)), .val (.ref b13), .val (.long (v0_90 p1 q2 p3 p4)), .second, .val (.long (v0_99 p1 q2 p3 p4)), .second] [(.long ((v0_90 p1 q2 p3 p4) * ((j0_70_l9 p3 p4).toInt64)))])) _
    refine XS.lload X15.here hx rfl (hb hby at_140) rfl ?_
    show Steps p.tables e below (T15.setTop (mkF m 142 #[.val (.int p1), .val (.long q2), .second, .val (.int p3), .val (.int p4), .val (.int (v0_4 p1)), .val (.long (v0_15 p1)), .second, .val (.int (j0_70_l8 p1 q2 p3 p4)), .val (.int (j0_70_l9 p3 p4)), .val (.int (v0_50 p4)), .val (.ref b13), .val (.long (v0_90 p1 q2 p3 p4)), .second, .val (.long (v0_99 p1 q2 p3 p4)), .second] [(.long (v0_99 p1 q2 p3 p4)), (.long ((v0_90 p1 q2 p3 p4) * ((j0_70_l9 p3 p4).toInt64)))])) _
    refine XS.lcmp X15.here hx rfl (hb hby at_142) rfl ?_
    show Steps p.tables e below (T15.setTop (mkF m 143 #[.val (.int p1), .val (.long q2), .second, .val (.int p3), .val (.int p4), .val (.int (v0_4 p1)), .val (.long (v0_15 p1)), .second, .val (.int (j0_70_l8 p1 q2 p3 p4)), .val (.int (j0_70_l9 p3 p4)), .val (.int (v0_50 p4)), .val (.ref b13), .val (.long (v0_90 p1 q2 p3 p4)), .second, .val (.long (v0_99 p1 q2 p3 p4)), .second] [(.int (lcmpW ((v0_90 p1 q2 p3 p4) * ((j0_70_l9 p3 p4).toInt64)) (v0_99 p1 q2 p3 p4)))])) _
    refine XS.ifNo X15.here hx rfl (hb hby at_143) rfl ((if0 _ _).trans (tlt ((lw_gt ((v0_90 p1 q2 p3 p4) * ((j0_70_l9 p3 p4).toInt64)) (v0_99 p1 q2 p3 p4)).mpr (own_c4 p1 q2 p3 p4))).2.2.2) ?_
    show Steps p.tables e below (T15.setTop (mkF m 146 #[.val (.int p1), .val (.long q2), .second, .val (.int p3), .val (.int p4), .val (.int (v0_4 p1)), .val (.long (v0_15 p1)), .second, .val (.int (j0_70_l8 p1 q2 p3 p4)), .val (.int (j0_70_l9 p3 p4)), .val (.int (v0_50 p4)), .val (.ref b13), .val (.long (v0_90 p1 q2 p3 p4)), .second, .val (.long (v0_99 p1 q2 p3 p4)), .second] [])) _
    refine XS.iconst X15.here hx rfl (hb hby at_146) ?_
    show Steps p.tables e below (T15.setTop (mkF m 147 #[.val (.int p1), .val (.long q2), .second, .val (.int p3), .val (.int p4), .val (.int (v0_4 p1)), .val (.long (v0_15 p1)), .second, .val (.int (j0_70_l8 p1 q2 p3 p4)), .val (.int (j0_70_l9 p3 p4)), .val (.int (v0_50 p4)), .val (.ref b13), .val (.long (v0_90 p1 q2 p3 p4)), .second, .val (.long (v0_99 p1 q2 p3 p4)), .second] [(.int (1 : Int32))])) _
    refine XS.goto X15.here hx rfl (pc0 := 147) (pc' := 151) rfl (hb hby at_147) (by decide) (by decide) ?_
    show Steps p.tables e below (T15.setTop (mkF m 151 #[.val (.int p1), .val (.long q2), .second, .val (.int p3), .val (.int p4), .val (.int (v0_4 p1)), .val (.long (v0_15 p1)), .second, .val (.int (j0_70_l8 p1 q2 p3 p4)), .val (.int (j0_70_l9 p3 p4)), .val (.int (v0_50 p4)), .val (.ref b13), .val (.long (v0_90 p1 q2 p3 p4)), .second, .val (.long (v0_99 p1 q2 p3 p4)), .second] [(.int (1 : Int32))])) _
    exact retN X15 hx (t := .boolean) Bd.returns (by simp) (hb hby at_151) hr
  · show Q0 Z p1 q2 p3 p4 h0 n0 _ T15.heap _
    rw [eh15]
    exact ⟨rfl, N15⟩
set_option maxRecDepth 65536 in
set_option maxHeartbeats 40000000 in
theorem comes_1 {Post : Tables → Env → Array Value → State → Outcome → State → Prop} (hpost : ∀ tb e args s v u, (limb_1_1.after args s (.returned v) u = true ∧ limb_1_2.after args s (.returned v) u = true ∧ True) → FrameEnd s (.returned v) u (Jvm.fieldLocs frame_1_writes args s ++ Jvm.arrayLocs frame_1_arrays args s ++ Jvm.staticLocs frame_1_statics s) 16 128 → Post tb e args s (.returned v) u) :
    ArmFor flags0 classFile x code maxLocals ret World_1 tables_1 room_1 Calls_1 rest_1 Pre_1 Post := by
  intro l hfl _ _ p e ha hc hk s m args below hf hA hF happ hP
  obtain ⟨hcalls, hrest, hpre⟩ := hP
  obtain ⟨-, -, -, hnamed, -, -, -, hat⟩ := (Spec.applies_iff hf).mp happ
  obtain ⟨hg, hn⟩ := and_e (Cond.before_iff.mp (show (Jvm.Cond.and given_1 narrow_1).before args s = true from hpre))
  obtain ⟨gc, r0⟩ := and_e hg
  obtain ⟨t0, r1⟩ := and_e r0
  obtain ⟨t1, r2⟩ := and_e r1
  obtain ⟨t2, r3⟩ := and_e r2
  have t3 := r3
  obtain ⟨w0, w1, w2, w3, rfl⟩ : ∃ w0 w1 w2 w3 : Value, args = #[w0, w1, w2, w3] := by
    have hs : args.size = 4 := by simpa [Cond.value, given_1] using gc
    obtain ⟨L⟩ := args
    match L, hs with
    | [w0, w1, w2, w3], _ => exact ⟨w0, w1, w2, w3, rfl⟩
  have hw := fun d (hd : d ∈ tables_1) => atoms_spec (ws := Jvm.Cond.code x code maxLocals ret :: tables_1) hat d (List.mem_cons_of_mem _ hd)
  obtain ⟨i0, ei0⟩ := is_v t0
  obtain rfl : w0 = (.int i0) := Option.some.inj ei0
  obtain ⟨i1, ei1⟩ := isL_v t1
  obtain rfl : w1 = (.long i1) := Option.some.inj ei1
  obtain ⟨i2, ei2⟩ := is_v t2
  obtain rfl : w2 = (.int i2) := Option.some.inj ei2
  obtain ⟨i3, ei3⟩ := is_v t3
  obtain rfl : w3 = (.int i3) := Option.some.inj ei3
  obtain ⟨n, o, h1, h2, h3, _, L, rfl, ⟨rfl, N⟩, hq⟩ := rm0 l s _ hw tables_1 i0 i1 i2 i3 s.heap s.heap.size (Nat.le_refl _)  p e ha hc hk s m _ below hf ((Spec.applies_iff_loose hf).mp happ).1 ⟨rfl, State.Warmed39.refl s, rfl⟩ trivial
  refine ⟨n, _, h1, h2, h3, hpost _ _ _ _ _ _ ⟨Cond.after_iff.mpr rfl, Cond.after_iff.mpr (eq_i res_at (Term.int_eval (1)) rfl), trivial⟩ ⟨hq.1, hq.2.1, (hq.2.2.sift fun y hy => Or.inr (N y hy)).mono (by decide) (by decide)⟩⟩
theorem main_1_1 : Claimed_1_1 := comes_1 fun _ _ _ _ _ _ h hF => ⟨h.1, hF⟩
theorem main_1_2 : Claimed_1_2 := comes_1 fun _ _ _ _ _ _ h hF => ⟨h.2.1, hF⟩
end Jvm.Pilot.@@N@@
namespace Jvm.Pilot.@@N@@
open Jvm Jvm.ClassFile Sem Op Lib Jvm.Free Jvm.Stand Jvm.Pilot.@@N@@.Jvm.D
/-! MADE BY PROGRAM (witnessworld.py) out of the Statement's table words and the real class files: 10 classes; the members and pool entries that the words name. The judged class is class 1, her method 1. -/
namespace start1
open Jvm.ClassFile
def u (s : String) : CpInfo := .utf8 (stringToUtf16 s)
/-- a pool by its gaps: so many unusable entries, then the entry; so many at the end -/
def gap : Nat → List CpInfo → List CpInfo
  | 0, r => r
  | n + 1, r => .unusable :: gap n r
def poolList (es : List (Nat × CpInfo)) (last : Nat) : List CpInfo := es.foldr (fun e r => gap e.1 (e.2 :: r)) (gap last [])
def pool (es : List (Nat × CpInfo)) (last : Nat) : Array CpInfo := ⟨poolList es last⟩
def fileOf (pool : Array CpInfo) (this : Nat) (attrs : Array Attribute := #[]) (ms : Array MethodInfo := #[]) (fl : Nat := 33) (sup : Nat := 0) (ifs : Array Nat := #[]) (fds : Array FieldInfo := #[]) : ClassFile where
  minorVersion := 0
  majorVersion := 65
  constantPool := pool
  accessFlags := fl
  thisClass := this
  superClass := sup
  interfaces := ifs
  fields := fds
  methods := ms
  attributes := attrs
def plain (name : String) (sup : Option ClassId) : Class where
  name := name
  kind := .ordinary
  loader := none
  accessFlags := 33
  super := sup
  interfaces := #[]
  cf := none
  fields := #[]
  methods := #[]
  instanceTypes := #[]
  staticTypes := #[]
  resolved := #[]
  callSites := []
  init := .initialized
  statics := none
  mirror := none

def pool0 : Array CpInfo := pool [(5, u "<init>"), (0, u "()V"), (1, .class_ 10), (1, u "java/lang/Object")] 113

def k0c0 : Code := { maxStack := 0, maxLocals := 1, code := object_method_1_code, exceptionTable := #[], attributes := #[] }
def k0m0 : Method := { name := "<init>", desc := "()V", sig := { parameters := [], returnType := none }, accessFlags := 1, code := some k0c0 }
/-- java/lang/Object -/
def k0 : Class := { plain "java/lang/Object" none with
  accessFlags := 33
  interfaces := #[]
  cf := some (fileOf pool0 8 #[] #[{ accessFlags := 1, nameIndex := 5, descriptorIndex := 6, attributes := #[] }] 33 0 #[] #[])
  fields := #[]
  methods := #[k0m0]
  instanceTypes := #[]
  staticTypes := #[]
  resolved := Array.replicate 124 none
  statics := none }

def pool1 : Array CpInfo := pool [(2, .class_ 4), (1, u "java/lang/Object"), (0, u "<init>"), (0, u "()V"), (0, .integer 2147483647), (2, .long 2147483647), (1, .long 9223372036854775807), (1, .class_ 15), (0, u "com/example/eager_dispatch/eagerdispatch/model/ElementIndex$Range"), (0, .methodref 14 17), (0, .nameAndType 5 18), (0, u "(III)V"), (0, .methodref 14 20), (0, .nameAndType 21 22), (0, u "count"), (0, u "()J"), (0, .class_ 24), (0, u "com/example/eager_dispatch/eagerdispatch/model/RangeCountPinLaw"), (2, u "law"), (0, u "(IJII)Z")] 7

def k1m0 : Method := { name := "<init>", desc := "()V", sig := { parameters := [], returnType := none }, accessFlags := 1, code := none }
def k1c1 : Code := { maxStack := 6, maxLocals := 16, code := code, exceptionTable := #[], attributes := #[] }
def k1m1 : Method := { name := "law", desc := "(IJII)Z", sig := { parameters := [.int, .long, .int, .int], returnType := some .boolean }, accessFlags := 9, code := some k1c1 }
/-- com/example/eager_dispatch/eagerdispatch/model/RangeCountPinLaw -/
def k1 : Class := { plain "com/example/eager_dispatch/eagerdispatch/model/RangeCountPinLaw" (some 0) with
  accessFlags := 49
  interfaces := #[]
  cf := some (fileOf pool1 23 #[] #[{ accessFlags := 1, nameIndex := 5, descriptorIndex := 6, attributes := #[] }, { accessFlags := 9, nameIndex := 27, descriptorIndex := 28, attributes := #[] }] 49 2 #[] #[])
  fields := #[]
  methods := #[k1m0, k1m1]
  instanceTypes := #[]
  staticTypes := #[]
  resolved := Array.replicate 36 none
  statics := none }

def pool2 : Array CpInfo := pool [(1, .methodref 2 3), (0, .class_ 4), (0, .nameAndType 5 6), (0, u "java/lang/Object"), (0, u "<init>"), (0, u "()V"), (0, .class_ 8), (0, u "java/lang/Record")] 13

def k2c0 : Code := { maxStack := 1, maxLocals := 1, code := jdk_30_method_1_code, exceptionTable := #[], attributes := #[] }
def k2m0 : Method := { name := "<init>", desc := "()V", sig := { parameters := [], returnType := none }, accessFlags := 4, code := some k2c0 }
/-- java/lang/Record -/
def k2 : Class := { plain "java/lang/Record" (some 0) with
  accessFlags := 1057
  interfaces := #[]
  cf := some (fileOf pool2 7 #[] #[{ accessFlags := 4, nameIndex := 5, descriptorIndex := 6, attributes := #[] }] 1057 2 #[] #[])
  fields := #[]
  methods := #[k2m0]
  instanceTypes := #[]
  staticTypes := #[]
  resolved := Array.replicate 22 none
  statics := none }

def pool3 : Array CpInfo := pool [(1, .methodref 2 3), (0, .class_ 4), (0, .nameAndType 5 6), (0, u "java/lang/Record"), (0, u "<init>"), (0, u "()V"), (9, .fieldref 17 18), (0, .class_ 19), (0, .nameAndType 20 21), (0, u "com/example/eager_dispatch/eagerdispatch/model/ElementIndex$Range"), (0, u "start"), (0, u "I"), (0, .fieldref 17 23), (0, .nameAndType 24 21), (0, u "stop"), (0, .fieldref 17 26), (0, .nameAndType 27 21), (0, u "stride"), (12, u "(III)V"), (4, u "count"), (0, u "()J"), (6, .class_ 54), (0, u "com/example/eager_dispatch/eagerdispatch/model/ElementIndex")] 29

def k3c0 : Code := { maxStack := 5, maxLocals := 4, code := prog_54_method_1_code, exceptionTable := #[], attributes := #[] }
def k3m0 : Method := { name := "<init>", desc := "(III)V", sig := { parameters := [.int, .int, .int], returnType := none }, accessFlags := 1, code := some k3c0 }
def k3c1 : Code := { maxStack := 4, maxLocals := 1, code := prog_54_method_2_code, exceptionTable := #[], attributes := #[] }
def k3m1 : Method := { name := "count", desc := "()J", sig := { parameters := [], returnType := some .long }, accessFlags := 0, code := some k3c1 }
/-- com/example/eager_dispatch/eagerdispatch/model/ElementIndex$Range -/
def k3 : Class := { plain "com/example/eager_dispatch/eagerdispatch/model/ElementIndex$Range" (some 2) with
  accessFlags := 49
  interfaces := #[]
  cf := some (fileOf pool3 17 #[.nestHost 53] #[{ accessFlags := 1, nameIndex := 5, descriptorIndex := 40, attributes := #[] }, { accessFlags := 0, nameIndex := 45, descriptorIndex := 46, attributes := #[] }] 49 2 #[] #[{ accessFlags := 18, nameIndex := 20, descriptorIndex := 21, attributes := #[] }, { accessFlags := 18, nameIndex := 24, descriptorIndex := 21, attributes := #[] }, { accessFlags := 18, nameIndex := 27, descriptorIndex := 21, attributes := #[] }])
  fields := #[{ name := "start", type := .int, accessFlags := 18, slot := 0, constantValue := 0 }, { name := "stop", type := .int, accessFlags := 18, slot := 1, constantValue := 0 }, { name := "stride", type := .int, accessFlags := 18, slot := 2, constantValue := 0 }]
  methods := #[k3m0, k3m1]
  instanceTypes := #[.int, .int, .int]
  staticTypes := #[]
  resolved := Array.replicate 84 none
  statics := none }

def pool4 : Array CpInfo := pool [(1, u "java/lang/Cloneable"), (0, .class_ 1), (0, u "java/lang/Object"), (0, .class_ 3)] 3

/-- java/lang/Cloneable -/
def k4 : Class := { plain "java/lang/Cloneable" (some 0) with
  accessFlags := 1537
  interfaces := #[]
  cf := some (fileOf pool4 2 #[] #[] 1537 4 #[] #[])
  fields := #[]
  methods := #[]
  instanceTypes := #[]
  staticTypes := #[]
  resolved := Array.replicate 8 none
  statics := none }

def pool5 : Array CpInfo := pool [(1, u "java/io/Serializable"), (0, .class_ 1), (0, u "java/lang/Object"), (0, .class_ 3)] 3

/-- java/io/Serializable -/
def k5 : Class := { plain "java/io/Serializable" (some 0) with
  accessFlags := 1537
  interfaces := #[]
  cf := some (fileOf pool5 2 #[] #[] 1537 4 #[] #[])
  fields := #[]
  methods := #[]
  instanceTypes := #[]
  staticTypes := #[]
  resolved := Array.replicate 8 none
  statics := none }

/-- the primitive byte -/
def k6 : Class := { plain "byte" none with kind := .primitive 'B', accessFlags := 0x411 }
/-- [B -/
def k7 : Class := { plain "[B" (some 0) with kind := .array 6 .byte, interfaces := #[4, 5], accessFlags := 1041 }

/-- the primitive int -/
def k8 : Class := { plain "int" none with kind := .primitive 'I', accessFlags := 0x411 }
/-- [I -/
def k9 : Class := { plain "[I" (some 0) with kind := .array 8 .int, interfaces := #[4, 5], accessFlags := 1041 }

def heap : Heap := #[]
def classes : Array Class := #[k0, k1, k2, k3, k4, k5, k6, k7, k8, k9]
def interned : List (Array UInt16 × Addr) := []
def slotsUsed : Nat := 0
def theMethod : MethodId := ⟨1, 1⟩
def args0 : Array Value := #[.int 3, .long 10, .int 2, .int 2]
def aboutOver (below : List Frame) : State where
  vm := { classes := classes, interned := interned.toArray }
  heap := heap
  slotsUsed := slotsUsed
  threads := #[{ frames := .invoking theMethod args0 :: below }]
def below0 : List Frame := [.native { method := ⟨0, 0⟩, args := #[] }]
def about1 : State := aboutOver below0
def p0 : Program := .bare "" "" ""
def e0 : Env := launch0.env 0 0 0
theorem w_frames : about1.frames = Frame.invoking theMethod args0 :: below0 := rfl
set_option maxRecDepth 65536 in
theorem w_args : argsFit about1.vm theMethod args0 = true := by decide +kernel
set_option maxRecDepth 65536 in
theorem w_heap : heapFits about1 = true := by decide +kernel
set_option maxRecDepth 65536 in
theorem w_runnable : about1.curStatus? = some .runnable := by decide +kernel
set_option maxRecDepth 65536 in
theorem w_alone : about1.alone = true := by decide +kernel
set_option maxRecDepth 65536 in
theorem w_named : about1.methodNamed? x = some theMethod := by decide +kernel
set_option maxRecDepth 65536 in
theorem w_hears : about1.hears theMethod below0 = true := by decide +kernel
set_option maxRecDepth 65536 in
theorem w_ripe : about1.ripe theMethod args0 below0 = true := by decide +kernel
theorem w_running : about1.status = .running := rfl
set_option maxRecDepth 65536 in
theorem w_room : about1.hasRoom e0.platform room_1 = true :=
  launch0.hasRoom_least _ room_1 (by decide +kernel) (by decide +kernel) (by decide +kernel) (by decide +kernel) (by decide +kernel) (by decide +kernel)
theorem allAtoms_all (ts : List Jvm.Cond) (a : Array Jvm.Value) (st : Jvm.State) : (allAtoms ts).before a st = ts.all (fun c => c.before a st) := by
  induction ts with
  | nil => rfl
  | cons c t ih =>
    show (Jvm.Cond.and c (allAtoms t)).before a st = _
    rw [Jvm.Cond.before_and, ih, List.all_cons]
def words1 : List Jvm.Cond := Jvm.Cond.code x code maxLocals ret :: tables_1
/-- a 'code' word, met by the world's own term for the bytes: nothing is compared byte by byte -/
theorem code_word {y : MethodName} {bytes : ByteArray} {mx : Nat} {rt : Option FieldType} {a : Array Value} {s : State} {m : MethodId} {meth : Method} {c : Code} (h1 : s.methodNamed? y = some m) (h2 : s.vm.method? m = some meth) (h3 : meth.code = some c) (h4 : c.code = bytes)
    (h5 : (c.maxLocals == mx && c.exceptionTable.isEmpty && decide (c.maxStack ≤ mostOperands) && decide (meth.sig.returnType = rt) && !meth.locks && decide (parseMethodDescriptor y.desc = some meth.sig)) = true) : (Jvm.Cond.code y bytes mx rt).before a s = true := by
  simp only [Bool.and_eq_true, beq_iff_eq, Bool.not_eq_true', decide_eq_true_eq] at h5
  obtain ⟨⟨⟨⟨⟨g1, g2⟩, g3⟩, g4⟩, g5⟩, g6⟩ := h5
  simp [Cond.before, Cond.holds, Cond.value, h1, h2, h3, h4, g1, g2, g3, g4, g5, g6]
def isCode : Jvm.Cond → Bool
  | .code _ _ _ _ => true
  | _ => false
theorem all_split {L : List Jvm.Cond} {P : Jvm.Cond → Bool} (h1 : L.all (fun c => isCode c || P c) = true) (h2 : ∀ c ∈ L.filter isCode, P c = true) : L.all P = true := by
  refine List.all_eq_true.mpr fun c hc => ?_
  have h := List.all_eq_true.mp h1 c hc
  rcases Bool.eq_false_or_eq_true (isCode c) with hi | hi
  · exact h2 c (List.mem_filter.mpr ⟨hc, hi⟩)
  · simpa [hi] using h
set_option maxRecDepth 65536 in
theorem w_c0 : (Jvm.Cond.code x code maxLocals ret).before args0 about1 = true := code_word (m := ⟨1, 1⟩) (meth := k1m1) (c := k1c1) (by decide +kernel) rfl rfl rfl (by decide +kernel)
set_option maxRecDepth 65536 in
theorem w_c1 : (Jvm.Cond.code ({ cls := "com/example/eager_dispatch/eagerdispatch/model/ElementIndex$Range", name := "<init>", desc := "(III)V" } : Jvm.MethodName) prog_54_method_1_code (4 : Nat) (Option.none : Option Jvm.ClassFile.FieldType)).before args0 about1 = true := code_word (m := ⟨3, 0⟩) (meth := k3m0) (c := k3c0) (by decide +kernel) rfl rfl rfl (by decide +kernel)
set_option maxRecDepth 65536 in
theorem w_c2 : (Jvm.Cond.code ({ cls := "java/lang/Record", name := "<init>", desc := "()V" } : Jvm.MethodName) jdk_30_method_1_code (1 : Nat) (Option.none : Option Jvm.ClassFile.FieldType)).before args0 about1 = true := code_word (m := ⟨2, 0⟩) (meth := k2m0) (c := k2c0) (by decide +kernel) rfl rfl rfl (by decide +kernel)
set_option maxRecDepth 65536 in
theorem w_c3 : (Jvm.Cond.code ({ cls := "java/lang/Object", name := "<init>", desc := "()V" } : Jvm.MethodName) object_method_1_code (1 : Nat) (Option.none : Option Jvm.ClassFile.FieldType)).before args0 about1 = true := code_word (m := ⟨0, 0⟩) (meth := k0m0) (c := k0c0) (by decide +kernel) rfl rfl rfl (by decide +kernel)
set_option maxRecDepth 65536 in
theorem w_c4 : (Jvm.Cond.code ({ cls := "com/example/eager_dispatch/eagerdispatch/model/ElementIndex$Range", name := "count", desc := "()J" } : Jvm.MethodName) prog_54_method_2_code (1 : Nat) (Option.some Jvm.ClassFile.FieldType.long)).before args0 about1 = true := code_word (m := ⟨3, 1⟩) (meth := k3m1) (c := k3c1) (by decide +kernel) rfl rfl rfl (by decide +kernel)
def codes1 : List Jvm.Cond := [Jvm.Cond.code x code maxLocals ret, Jvm.Cond.code ({ cls := "com/example/eager_dispatch/eagerdispatch/model/ElementIndex$Range", name := "<init>", desc := "(III)V" } : Jvm.MethodName) prog_54_method_1_code (4 : Nat) (Option.none : Option Jvm.ClassFile.FieldType), Jvm.Cond.code ({ cls := "java/lang/Record", name := "<init>", desc := "()V" } : Jvm.MethodName) jdk_30_method_1_code (1 : Nat) (Option.none : Option Jvm.ClassFile.FieldType), Jvm.Cond.code ({ cls := "java/lang/Object", name := "<init>", desc := "()V" } : Jvm.MethodName) object_method_1_code (1 : Nat) (Option.none : Option Jvm.ClassFile.FieldType), Jvm.Cond.code ({ cls := "com/example/eager_dispatch/eagerdispatch/model/ElementIndex$Range", name := "count", desc := "()J" } : Jvm.MethodName) prog_54_method_2_code (1 : Nat) (Option.some Jvm.ClassFile.FieldType.long)]
set_option maxRecDepth 65536 in
theorem codes_eq : words1.filter isCode = codes1 := rfl
theorem w_codes : ∀ c ∈ words1.filter isCode, c.before args0 about1 = true := by
  rw [codes_eq]
  intro c hc
  simp only [codes1, List.mem_cons, List.not_mem_nil, or_false] at hc
  rcases hc with rfl | rfl | rfl | rfl | rfl
  · exact w_c0
  · exact w_c1
  · exact w_c2
  · exact w_c3
  · exact w_c4
set_option maxRecDepth 65536 in
theorem w_t1 : (words1.take 24).all (fun c => isCode c || c.before args0 about1) = true := by decide +kernel
set_option maxRecDepth 65536 in
theorem w_t2 : (words1.drop 24).all (fun c => isCode c || c.before args0 about1) = true := by decide +kernel
theorem w_tables : (allAtoms (Jvm.Cond.code x code maxLocals ret :: tables_1)).before args0 about1 = true := by
  rw [allAtoms_all]
  show words1.all (fun c => c.before args0 about1) = true
  refine all_split ?_ w_codes
  rw [← List.take_append_drop 24 words1, List.all_append, w_t1, w_t2]
  rfl
set_option maxRecDepth 65536 in
theorem w_case : (Jvm.Cond.and given_1 narrow_1).before args0 about1 = true := by decide +kernel
theorem w_applies : (headSpec (Jvm.Cond.code x code maxLocals ret :: tables_1) room_1).applies x e0.platform about1 = true :=
  (Spec.applies_iff w_frames).mpr ⟨w_running, w_runnable, w_alone, w_named, w_hears, w_ripe, w_room, w_tables⟩
theorem atStart : AtStart classFile x code maxLocals ret World_1 tables_1 room_1 Calls_1 rest_1 Pre_1 launch0 p0 e0 about1 theMethod args0 below0 :=
  ⟨lists_1, trivial, launch0.admits_env _ _ _, launch0.least_env, fairChoices_fair.cas, fairChoices_fair.clock, w_frames, w_args, w_heap, w_applies, trivial, trivial, w_case⟩
end start1
theorem witness_1 : WitnessClaimed_1 := ⟨start1.p0, start1.e0, start1.about1, start1.theMethod, start1.args0, start1.below0, start1.atStart⟩
end Jvm.Pilot.@@N@@
