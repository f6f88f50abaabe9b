import JvmDerived
import JvmDerived.Pilot.@@N@@Statement
import JvmDerived.Pilot.@@N@@Code
set_option linter.unusedVariables false
set_option linter.unusedSimpArgs false
namespace Jvm.Pilot.@@N@@
open Jvm Jvm.ClassFile Sem Op Lib Jvm.Free Jvm.Stand Jvm.LawKit Jvm.RoadKit Bundle Jvm.Pilot.@@N@@.Jvm.D
theorem own_forget {p : Program} {l : Launch} {e : Env} {R : Room} {s : State} {m : MethodId} {args : Array Value} {below : List Frame} {meth : Method} {c : Code} {T : State} {locs : List Loc} {cells slots n0 : Nat} (X : Stand p l e R s m args below meth c T locs cells slots) (N : Fr n0 locs) : ∃ L, Stand p l e R s m args below meth c T L cells slots ∧ Fr n0 L := ⟨locs, X, N⟩
theorem d1_0 : decode prog_28_method_3_code 0 = .ok (.iload_n 0, 1) := by decide +kernel
theorem d1_1 : decode prog_28_method_3_code 1 = .ok (.bipush 9, 2) := by decide +kernel
theorem d1_3 : decode prog_28_method_3_code 3 = .ok (.if_icmp .eq 45, 3) := by decide +kernel
theorem d1_48 : decode prog_28_method_3_code 48 = .ok (.iconst 1, 1) := by decide +kernel
theorem d1_49 : decode prog_28_method_3_code 49 = .ok (.goto 4, 3) := by decide +kernel
theorem d1_6 : decode prog_28_method_3_code 6 = .ok (.iload_n 0, 1) := by decide +kernel
theorem d1_7 : decode prog_28_method_3_code 7 = .ok (.bipush 10, 2) := by decide +kernel
theorem d1_9 : decode prog_28_method_3_code 9 = .ok (.if_icmp .eq 39, 3) := by decide +kernel
theorem d1_12 : decode prog_28_method_3_code 12 = .ok (.iload_n 0, 1) := by decide +kernel
theorem d1_13 : decode prog_28_method_3_code 13 = .ok (.bipush 13, 2) := by decide +kernel
theorem d1_15 : decode prog_28_method_3_code 15 = .ok (.if_icmp .eq 33, 3) := by decide +kernel
theorem d1_18 : decode prog_28_method_3_code 18 = .ok (.iload_n 0, 1) := by decide +kernel
theorem d1_19 : decode prog_28_method_3_code 19 = .ok (.bipush 32, 2) := by decide +kernel
theorem d1_21 : decode prog_28_method_3_code 21 = .ok (.if_icmp .lt 9, 3) := by decide +kernel
theorem d1_30 : decode prog_28_method_3_code 30 = .ok (.iload_n 0, 1) := by decide +kernel
theorem d1_31 : decode prog_28_method_3_code 31 = .ok (.ldc 66, 2) := by decide +kernel
theorem d1_33 : decode prog_28_method_3_code 33 = .ok (.if_icmp .lt 9, 3) := by decide +kernel
theorem d1_42 : decode prog_28_method_3_code 42 = .ok (.iload_n 0, 1) := by decide +kernel
theorem d1_43 : decode prog_28_method_3_code 43 = .ok (.ldc 34, 2) := by decide +kernel
theorem d1_45 : decode prog_28_method_3_code 45 = .ok (.if_icmp .lt 7, 3) := by decide +kernel
theorem d1_52 : decode prog_28_method_3_code 52 = .ok (.iconst 0, 1) := by decide +kernel
theorem d1_36 : decode prog_28_method_3_code 36 = .ok (.iload_n 0, 1) := by decide +kernel
theorem d1_37 : decode prog_28_method_3_code 37 = .ok (.ldc 67, 2) := by decide +kernel
theorem d1_39 : decode prog_28_method_3_code 39 = .ok (.if_icmp .le 9, 3) := by decide +kernel
theorem d1_24 : decode prog_28_method_3_code 24 = .ok (.iload_n 0, 1) := by decide +kernel
theorem d1_25 : decode prog_28_method_3_code 25 = .ok (.ldc 65, 2) := by decide +kernel
theorem d1_27 : decode prog_28_method_3_code 27 = .ok (.if_icmp .le 21, 3) := by decide +kernel
def f1 (p1 : Int32) : Int32 := (if p1 = (9 : Int32) then (1 : Int32) else (if p1 = (10 : Int32) then (1 : Int32) else (if p1 = (13 : Int32) then (1 : Int32) else (if p1 < (32 : Int32) then (if p1 < (57344 : Int32) then (if p1 < (65536 : Int32) then (0 : Int32) else (1 : Int32)) else (if (65533 : Int32) < p1 then (if p1 < (65536 : Int32) then (0 : Int32) else (1 : Int32)) else (1 : Int32))) else (if (55295 : Int32) < p1 then (if p1 < (57344 : Int32) then (if p1 < (65536 : Int32) then (0 : Int32) else (1 : Int32)) else (if (65533 : Int32) < p1 then (if p1 < (65536 : Int32) then (0 : Int32) else (1 : Int32)) else (1 : Int32))) else (1 : Int32))))))
theorem d1_53 : decode prog_28_method_3_code 53 = .ok (.ireturn, 1) := by decide +kernel
theorem ef_1 (m : MethodId) (x0 : Int32) : entryFrame m #[(.int x0)] 1 = mkF m 0 #[.val (.int x0)] [] := by first | (simp [entryFrame, mkF, argsToLocals, Value.category]; done) | rfl
theorem pn_IndentedXml : plainName "com/example/cartulary/cartulary/io/IndentedXml" = true := by first | (simp [plainName, overriddenIn]; done) | decide +kernel
def Q1 (Z : State) (p1 : Int32) (h0 : Heap) (n0 : Nat) (v : Option Value) (h : Heap) (L : List Loc) : Prop := v = some (.int (f1 p1)) ∧ Fr n0 L ∧ h = h0
set_option maxRecDepth 65536 in
set_option maxHeartbeats 40000000 in
theorem rm1 (l : Launch) (Z : State) (a0 : Array Value) (hw : ∀ d ∈ tables_1, d.before a0 Z = true) (ws : List Jvm.Cond) (p1 : Int32) (h0 : Heap) (n0 : Nat) (Z0 : n0 ≤ h0.size) :
    MetFree l (⟨"com/example/cartulary/cartulary/io/IndentedXml", "canHold", "(I)Z"⟩ : MethodName) (head1 (Jvm.Cond.code (⟨"com/example/cartulary/cartulary/io/IndentedXml", "canHold", "(I)Z"⟩ : MethodName) prog_28_method_3_code 1 (some .boolean) :: ws) ({ frames := 0, cells := 0, slots := 0, locals := 0 } : Room)) (fun a U => a = #[(.int p1)] ∧ Z.Warmed39 U.vm ∧ U.heap = h0) (fun _ _ _ _ _ => True) (fun _ U o U' => ∃ v L, o = .returned v ∧ Q1 Z p1 h0 n0 v U'.heap L ∧ FrameEnd U o U' L ({ frames := 0, cells := 0, slots := 0, locals := 0 } : Room).cells ({ frames := 0, cells := 0, slots := 0, locals := 0 } : Room).slots) := by
  refine MetFree.of_bodySF (plainFor_of_name pn_IndentedXml) hisR ?_
  intro p e s m args below meth c s₁ Bd hml0 hP hK
  obtain ⟨rfl, hZ, hh⟩ := hP
  have hx := Bd.exec
  have hby := Bd.bytes
  have hml : c.maxLocals = 1 := hml0
  have hown : s.vm.findClass "com/example/cartulary/cartulary/io/IndentedXml" = some m.cls := findClass_of_methodNamed Bd.named
  have hnm := (name_of_methodNamed Bd.named Bd.method).1
  have X0 : Stand p l e ({ frames := 0, cells := 0, slots := 0, locals := 0 } : Room) s m #[(.int p1)] below meth c s₁ [] 0 0 := Stand.of_body Bd
  have e0 : s₁.heap = h0 := by rw [← hh, Bd.state]; rfl
  have N0 := Fr.nil n0
  have pre0 : ∀ t, Steps p.tables e below (s₁.setTop (mkF m 0 #[.val (.int p1)] [])) t → Steps p.tables e below (s₁.setTop (entryFrame m #[(.int p1)] 1)) t := fun t k => castTop (ef_1 m p1) k
  obtain ⟨fs, hr, hrun, hended, hW, hsame⟩ := X0.leave (v := some (.int (f1 p1))) (fun h => by rw [Bd.returns] at h; cases h)
  refine ⟨_, _, pre0 _ ?_, hrun, hended, _, _, rfl, ?_, ⟨_, rfl⟩, hW, hsame.mono (by decide) (by decide)⟩
  · show Steps p.tables e below (s₁.setTop (mkF m 0 #[.val (.int p1)] [])) _
    refine XS.iloadN X0.here hx rfl (hb hby d1_0) rfl ?_
    show Steps p.tables e below (s₁.setTop (mkF m 1 #[.val (.int p1)] [(.int p1)])) _
    refine XS.bipush X0.here hx rfl (hb hby d1_1) ?_
    show Steps p.tables e below (s₁.setTop (mkF m 3 #[.val (.int p1)] [(.int (9 : Int32)), (.int p1)])) _
    by_cases hc3 : p1 = (9 : Int32)
    · refine XS.icmpYes X0.here hx rfl (pc0 := 3) (pc' := 48) rfl (hb hby d1_3) rfl (teq hc3).1 (by decide) (by decide) ?_
      show Steps p.tables e below (s₁.setTop (mkF m 48 #[.val (.int p1)] [])) _
      refine XS.iconst X0.here hx rfl (hb hby d1_48) ?_
      show Steps p.tables e below (s₁.setTop (mkF m 49 #[.val (.int p1)] [(.int (1 : Int32))])) _
      refine XS.goto X0.here hx rfl (pc0 := 49) (pc' := 53) rfl (hb hby d1_49) (by decide) (by decide) ?_
      show Steps p.tables e below (s₁.setTop (mkF m 53 #[.val (.int p1)] [(.int (1 : Int32))])) _
      have q : (f1 p1) = (1 : Int32) := by unfold f1; rw [if_pos hc3]
      rw [q] at hr
      exact retN X0 hx (t := .boolean) Bd.returns (by simp) (hb hby d1_53) hr
    · refine XS.icmpNo X0.here hx rfl (hb hby d1_3) rfl (feq hc3).1 ?_
      show Steps p.tables e below (s₁.setTop (mkF m 6 #[.val (.int p1)] [])) _
      refine XS.iloadN X0.here hx rfl (hb hby d1_6) rfl ?_
      show Steps p.tables e below (s₁.setTop (mkF m 7 #[.val (.int p1)] [(.int p1)])) _
      refine XS.bipush X0.here hx rfl (hb hby d1_7) ?_
      show Steps p.tables e below (s₁.setTop (mkF m 9 #[.val (.int p1)] [(.int (10 : Int32)), (.int p1)])) _
      by_cases hc9 : p1 = (10 : Int32)
      · refine XS.icmpYes X0.here hx rfl (pc0 := 9) (pc' := 48) rfl (hb hby d1_9) rfl (teq hc9).1 (by decide) (by decide) ?_
        show Steps p.tables e below (s₁.setTop (mkF m 48 #[.val (.int p1)] [])) _
        refine XS.iconst X0.here hx rfl (hb hby d1_48) ?_
        show Steps p.tables e below (s₁.setTop (mkF m 49 #[.val (.int p1)] [(.int (1 : Int32))])) _
        refine XS.goto X0.here hx rfl (pc0 := 49) (pc' := 53) rfl (hb hby d1_49) (by decide) (by decide) ?_
        show Steps p.tables e below (s₁.setTop (mkF m 53 #[.val (.int p1)] [(.int (1 : Int32))])) _
        have q : (f1 p1) = (1 : Int32) := by unfold f1; rw [if_neg hc3, if_pos hc9]
        rw [q] at hr
        exact retN X0 hx (t := .boolean) Bd.returns (by simp) (hb hby d1_53) hr
      · refine XS.icmpNo X0.here hx rfl (hb hby d1_9) rfl (feq hc9).1 ?_
        show Steps p.tables e below (s₁.setTop (mkF m 12 #[.val (.int p1)] [])) _
        refine XS.iloadN X0.here hx rfl (hb hby d1_12) rfl ?_
        show Steps p.tables e below (s₁.setTop (mkF m 13 #[.val (.int p1)] [(.int p1)])) _
        refine XS.bipush X0.here hx rfl (hb hby d1_13) ?_
        show Steps p.tables e below (s₁.setTop (mkF m 15 #[.val (.int p1)] [(.int (13 : Int32)), (.int p1)])) _
        by_cases hc15 : p1 = (13 : Int32)
        · refine XS.icmpYes X0.here hx rfl (pc0 := 15) (pc' := 48) rfl (hb hby d1_15) rfl (teq hc15).1 (by decide) (by decide) ?_
          show Steps p.tables e below (s₁.setTop (mkF m 48 #[.val (.int p1)] [])) _
          refine XS.iconst X0.here hx rfl (hb hby d1_48) ?_
          show Steps p.tables e below (s₁.setTop (mkF m 49 #[.val (.int p1)] [(.int (1 : Int32))])) _
          refine XS.goto X0.here hx rfl (pc0 := 49) (pc' := 53) rfl (hb hby d1_49) (by decide) (by decide) ?_
          show Steps p.tables e below (s₁.setTop (mkF m 53 #[.val (.int p1)] [(.int (1 : Int32))])) _
          have q : (f1 p1) = (1 : Int32) := by unfold f1; rw [if_neg hc3, if_neg hc9, if_pos hc15]
          rw [q] at hr
          exact retN X0 hx (t := .boolean) Bd.returns (by simp) (hb hby d1_53) hr
        · refine XS.icmpNo X0.here hx rfl (hb hby d1_15) rfl (feq hc15).1 ?_
          show Steps p.tables e below (s₁.setTop (mkF m 18 #[.val (.int p1)] [])) _
          refine XS.iloadN X0.here hx rfl (hb hby d1_18) rfl ?_
          show Steps p.tables e below (s₁.setTop (mkF m 19 #[.val (.int p1)] [(.int p1)])) _
          refine XS.bipush X0.here hx rfl (hb hby d1_19) ?_
          show Steps p.tables e below (s₁.setTop (mkF m 21 #[.val (.int p1)] [(.int (32 : Int32)), (.int p1)])) _
          by_cases hc21 : p1 < (32 : Int32)
          · refine XS.icmpYes X0.here hx rfl (pc0 := 21) (pc' := 30) rfl (hb hby d1_21) rfl (tlt hc21).1 (by decide) (by decide) ?_
            show Steps p.tables e below (s₁.setTop (mkF m 30 #[.val (.int p1)] [])) _
            refine XS.iloadN X0.here hx rfl (hb hby d1_30) rfl ?_
            show Steps p.tables e below (s₁.setTop (mkF m 31 #[.val (.int p1)] [(.int p1)])) _
            refine X0.ldcInt hx hown (mvT hZ (hw _ (List.mem_of_getElem? (i := 15) rfl))) (g := (mkF m 31 #[.val (.int p1)] [(.int p1)])) rfl (hb hby d1_31) _ ?_
            show Steps p.tables e below (s₁.setTop (mkF m 33 #[.val (.int p1)] [(.int (57344 : Int32)), (.int p1)])) _
            by_cases hc33 : p1 < (57344 : Int32)
            · refine XS.icmpYes X0.here hx rfl (pc0 := 33) (pc' := 42) rfl (hb hby d1_33) rfl (tlt hc33).1 (by decide) (by decide) ?_
              show Steps p.tables e below (s₁.setTop (mkF m 42 #[.val (.int p1)] [])) _
              refine XS.iloadN X0.here hx rfl (hb hby d1_42) rfl ?_
              show Steps p.tables e below (s₁.setTop (mkF m 43 #[.val (.int p1)] [(.int p1)])) _
              refine X0.ldcInt hx hown (mvT hZ (hw _ (List.mem_of_getElem? (i := 16) rfl))) (g := (mkF m 43 #[.val (.int p1)] [(.int p1)])) rfl (hb hby d1_43) _ ?_
              show Steps p.tables e below (s₁.setTop (mkF m 45 #[.val (.int p1)] [(.int (65536 : Int32)), (.int p1)])) _
              by_cases hc45 : p1 < (65536 : Int32)
              · refine XS.icmpYes X0.here hx rfl (pc0 := 45) (pc' := 52) rfl (hb hby d1_45) rfl (tlt hc45).1 (by decide) (by decide) ?_
                show Steps p.tables e below (s₁.setTop (mkF m 52 #[.val (.int p1)] [])) _
                refine XS.iconst X0.here hx rfl (hb hby d1_52) ?_
                show Steps p.tables e below (s₁.setTop (mkF m 53 #[.val (.int p1)] [(.int (0 : Int32))])) _
                have q : (f1 p1) = (0 : Int32) := by unfold f1; rw [if_neg hc3, if_neg hc9, if_neg hc15, if_pos hc21, if_pos hc33, if_pos hc45]
                rw [q] at hr
                exact retN X0 hx (t := .boolean) Bd.returns (by simp) (hb hby d1_53) hr
              · refine XS.icmpNo X0.here hx rfl (hb hby d1_45) rfl (flt hc45).1 ?_
                show Steps p.tables e below (s₁.setTop (mkF m 48 #[.val (.int p1)] [])) _
                refine XS.iconst X0.here hx rfl (hb hby d1_48) ?_
                show Steps p.tables e below (s₁.setTop (mkF m 49 #[.val (.int p1)] [(.int (1 : Int32))])) _
                refine XS.goto X0.here hx rfl (pc0 := 49) (pc' := 53) rfl (hb hby d1_49) (by decide) (by decide) ?_
                show Steps p.tables e below (s₁.setTop (mkF m 53 #[.val (.int p1)] [(.int (1 : Int32))])) _
                have q : (f1 p1) = (1 : Int32) := by unfold f1; rw [if_neg hc3, if_neg hc9, if_neg hc15, if_pos hc21, if_pos hc33, if_neg hc45]
                rw [q] at hr
                exact retN X0 hx (t := .boolean) Bd.returns (by simp) (hb hby d1_53) hr
            · refine XS.icmpNo X0.here hx rfl (hb hby d1_33) rfl (flt hc33).1 ?_
              show Steps p.tables e below (s₁.setTop (mkF m 36 #[.val (.int p1)] [])) _
              refine XS.iloadN X0.here hx rfl (hb hby d1_36) rfl ?_
              show Steps p.tables e below (s₁.setTop (mkF m 37 #[.val (.int p1)] [(.int p1)])) _
              refine X0.ldcInt hx hown (mvT hZ (hw _ (List.mem_of_getElem? (i := 24) rfl))) (g := (mkF m 37 #[.val (.int p1)] [(.int p1)])) rfl (hb hby d1_37) _ ?_
              show Steps p.tables e below (s₁.setTop (mkF m 39 #[.val (.int p1)] [(.int (65533 : Int32)), (.int p1)])) _
              by_cases hc39 : (65533 : Int32) < p1
              · refine XS.icmpNo X0.here hx rfl (hb hby d1_39) rfl (tlt hc39).2.2.2 ?_
                show Steps p.tables e below (s₁.setTop (mkF m 42 #[.val (.int p1)] [])) _
                refine XS.iloadN X0.here hx rfl (hb hby d1_42) rfl ?_
                show Steps p.tables e below (s₁.setTop (mkF m 43 #[.val (.int p1)] [(.int p1)])) _
                refine X0.ldcInt hx hown (mvT hZ (hw _ (List.mem_of_getElem? (i := 16) rfl))) (g := (mkF m 43 #[.val (.int p1)] [(.int p1)])) rfl (hb hby d1_43) _ ?_
                show Steps p.tables e below (s₁.setTop (mkF m 45 #[.val (.int p1)] [(.int (65536 : Int32)), (.int p1)])) _
                by_cases hc45 : p1 < (65536 : Int32)
                · refine XS.icmpYes X0.here hx rfl (pc0 := 45) (pc' := 52) rfl (hb hby d1_45) rfl (tlt hc45).1 (by decide) (by decide) ?_
                  show Steps p.tables e below (s₁.setTop (mkF m 52 #[.val (.int p1)] [])) _
                  refine XS.iconst X0.here hx rfl (hb hby d1_52) ?_
                  show Steps p.tables e below (s₁.setTop (mkF m 53 #[.val (.int p1)] [(.int (0 : Int32))])) _
                  have q : (f1 p1) = (0 : Int32) := by unfold f1; rw [if_neg hc3, if_neg hc9, if_neg hc15, if_pos hc21, if_neg hc33, if_pos hc39, if_pos hc45]
                  rw [q] at hr
                  exact retN X0 hx (t := .boolean) Bd.returns (by simp) (hb hby d1_53) hr
                · refine XS.icmpNo X0.here hx rfl (hb hby d1_45) rfl (flt hc45).1 ?_
                  show Steps p.tables e below (s₁.setTop (mkF m 48 #[.val (.int p1)] [])) _
                  refine XS.iconst X0.here hx rfl (hb hby d1_48) ?_
                  show Steps p.tables e below (s₁.setTop (mkF m 49 #[.val (.int p1)] [(.int (1 : Int32))])) _
                  refine XS.goto X0.here hx rfl (pc0 := 49) (pc' := 53) rfl (hb hby d1_49) (by decide) (by decide) ?_
                  show Steps p.tables e below (s₁.setTop (mkF m 53 #[.val (.int p1)] [(.int (1 : Int32))])) _
                  have q : (f1 p1) = (1 : Int32) := by unfold f1; rw [if_neg hc3, if_neg hc9, if_neg hc15, if_pos hc21, if_neg hc33, if_pos hc39, if_neg hc45]
                  rw [q] at hr
                  exact retN X0 hx (t := .boolean) Bd.returns (by simp) (hb hby d1_53) hr
              · refine XS.icmpYes X0.here hx rfl (pc0 := 39) (pc' := 48) rfl (hb hby d1_39) rfl (flt hc39).2.2.2 (by decide) (by decide) ?_
                show Steps p.tables e below (s₁.setTop (mkF m 48 #[.val (.int p1)] [])) _
                refine XS.iconst X0.here hx rfl (hb hby d1_48) ?_
                show Steps p.tables e below (s₁.setTop (mkF m 49 #[.val (.int p1)] [(.int (1 : Int32))])) _
                refine XS.goto X0.here hx rfl (pc0 := 49) (pc' := 53) rfl (hb hby d1_49) (by decide) (by decide) ?_
                show Steps p.tables e below (s₁.setTop (mkF m 53 #[.val (.int p1)] [(.int (1 : Int32))])) _
                have q : (f1 p1) = (1 : Int32) := by unfold f1; rw [if_neg hc3, if_neg hc9, if_neg hc15, if_pos hc21, if_neg hc33, if_neg hc39]
                rw [q] at hr
                exact retN X0 hx (t := .boolean) Bd.returns (by simp) (hb hby d1_53) hr
          · refine XS.icmpNo X0.here hx rfl (hb hby d1_21) rfl (flt hc21).1 ?_
            show Steps p.tables e below (s₁.setTop (mkF m 24 #[.val (.int p1)] [])) _
            refine XS.iloadN X0.here hx rfl (hb hby d1_24) rfl ?_
            show Steps p.tables e below (s₁.setTop (mkF m 25 #[.val (.int p1)] [(.int p1)])) _
            refine X0.ldcInt hx hown (mvT hZ (hw _ (List.mem_of_getElem? (i := 22) rfl))) (g := (mkF m 25 #[.val (.int p1)] [(.int p1)])) rfl (hb hby d1_25) _ ?_
            show Steps p.tables e below (s₁.setTop (mkF m 27 #[.val (.int p1)] [(.int (55295 : Int32)), (.int p1)])) _
            by_cases hc27 : (55295 : Int32) < p1
            · refine XS.icmpNo X0.here hx rfl (hb hby d1_27) rfl (tlt hc27).2.2.2 ?_
              show Steps p.tables e below (s₁.setTop (mkF m 30 #[.val (.int p1)] [])) _
              refine XS.iloadN X0.here hx rfl (hb hby d1_30) rfl ?_
              show Steps p.tables e below (s₁.setTop (mkF m 31 #[.val (.int p1)] [(.int p1)])) _
              refine X0.ldcInt hx hown (mvT hZ (hw _ (List.mem_of_getElem? (i := 15) rfl))) (g := (mkF m 31 #[.val (.int p1)] [(.int p1)])) rfl (hb hby d1_31) _ ?_
              show Steps p.tables e below (s₁.setTop (mkF m 33 #[.val (.int p1)] [(.int (57344 : Int32)), (.int p1)])) _
              by_cases hc33 : p1 < (57344 : Int32)
              · refine XS.icmpYes X0.here hx rfl (pc0 := 33) (pc' := 42) rfl (hb hby d1_33) rfl (tlt hc33).1 (by decide) (by decide) ?_
                show Steps p.tables e below (s₁.setTop (mkF m 42 #[.val (.int p1)] [])) _
                refine XS.iloadN X0.here hx rfl (hb hby d1_42) rfl ?_
                show Steps p.tables e below (s₁.setTop (mkF m 43 #[.val (.int p1)] [(.int p1)])) _
                refine X0.ldcInt hx hown (mvT hZ (hw _ (List.mem_of_getElem? (i := 16) rfl))) (g := (mkF m 43 #[.val (.int p1)] [(.int p1)])) rfl (hb hby d1_43) _ ?_
                show Steps p.tables e below (s₁.setTop (mkF m 45 #[.val (.int p1)] [(.int (65536 : Int32)), (.int p1)])) _
                by_cases hc45 : p1 < (65536 : Int32)
                · refine XS.icmpYes X0.here hx rfl (pc0 := 45) (pc' := 52) rfl (hb hby d1_45) rfl (tlt hc45).1 (by decide) (by decide) ?_
                  show Steps p.tables e below (s₁.setTop (mkF m 52 #[.val (.int p1)] [])) _
                  refine XS.iconst X0.here hx rfl (hb hby d1_52) ?_
                  show Steps p.tables e below (s₁.setTop (mkF m 53 #[.val (.int p1)] [(.int (0 : Int32))])) _
                  have q : (f1 p1) = (0 : Int32) := by unfold f1; rw [if_neg hc3, if_neg hc9, if_neg hc15, if_neg hc21, if_pos hc27, if_pos hc33, if_pos hc45]
                  rw [q] at hr
                  exact retN X0 hx (t := .boolean) Bd.returns (by simp) (hb hby d1_53) hr
                · refine XS.icmpNo X0.here hx rfl (hb hby d1_45) rfl (flt hc45).1 ?_
                  show Steps p.tables e below (s₁.setTop (mkF m 48 #[.val (.int p1)] [])) _
                  refine XS.iconst X0.here hx rfl (hb hby d1_48) ?_
                  show Steps p.tables e below (s₁.setTop (mkF m 49 #[.val (.int p1)] [(.int (1 : Int32))])) _
                  refine XS.goto X0.here hx rfl (pc0 := 49) (pc' := 53) rfl (hb hby d1_49) (by decide) (by decide) ?_
                  show Steps p.tables e below (s₁.setTop (mkF m 53 #[.val (.int p1)] [(.int (1 : Int32))])) _
                  have q : (f1 p1) = (1 : Int32) := by unfold f1; rw [if_neg hc3, if_neg hc9, if_neg hc15, if_neg hc21, if_pos hc27, if_pos hc33, if_neg hc45]
                  rw [q] at hr
                  exact retN X0 hx (t := .boolean) Bd.returns (by simp) (hb hby d1_53) hr
              · refine XS.icmpNo X0.here hx rfl (hb hby d1_33) rfl (flt hc33).1 ?_
                show Steps p.tables e below (s₁.setTop (mkF m 36 #[.val (.int p1)] [])) _
                refine XS.iloadN X0.here hx rfl (hb hby d1_36) rfl ?_
                show Steps p.tables e below (s₁.setTop (mkF m 37 #[.val (.int p1)] [(.int p1)])) _
                refine X0.ldcInt hx hown (mvT hZ (hw _ (List.mem_of_getElem? (i := 24) rfl))) (g := (mkF m 37 #[.val (.int p1)] [(.int p1)])) rfl (hb hby d1_37) _ ?_
                show Steps p.tables e below (s₁.setTop (mkF m 39 #[.val (.int p1)] [(.int (65533 : Int32)), (.int p1)])) _
                by_cases hc39 : (65533 : Int32) < p1
                · refine XS.icmpNo X0.here hx rfl (hb hby d1_39) rfl (tlt hc39).2.2.2 ?_
                  show Steps p.tables e below (s₁.setTop (mkF m 42 #[.val (.int p1)] [])) _
                  refine XS.iloadN X0.here hx rfl (hb hby d1_42) rfl ?_
                  show Steps p.tables e below (s₁.setTop (mkF m 43 #[.val (.int p1)] [(.int p1)])) _
                  refine X0.ldcInt hx hown (mvT hZ (hw _ (List.mem_of_getElem? (i := 16) rfl))) (g := (mkF m 43 #[.val (.int p1)] [(.int p1)])) rfl (hb hby d1_43) _ ?_
                  show Steps p.tables e below (s₁.setTop (mkF m 45 #[.val (.int p1)] [(.int (65536 : Int32)), (.int p1)])) _
                  by_cases hc45 : p1 < (65536 : Int32)
                  · refine XS.icmpYes X0.here hx rfl (pc0 := 45) (pc' := 52) rfl (hb hby d1_45) rfl (tlt hc45).1 (by decide) (by decide) ?_
                    show Steps p.tables e below (s₁.setTop (mkF m 52 #[.val (.int p1)] [])) _
                    refine XS.iconst X0.here hx rfl (hb hby d1_52) ?_
                    show Steps p.tables e below (s₁.setTop (mkF m 53 #[.val (.int p1)] [(.int (0 : Int32))])) _
                    have q : (f1 p1) = (0 : Int32) := by unfold f1; rw [if_neg hc3, if_neg hc9, if_neg hc15, if_neg hc21, if_pos hc27, if_neg hc33, if_pos hc39, if_pos hc45]
                    rw [q] at hr
                    exact retN X0 hx (t := .boolean) Bd.returns (by simp) (hb hby d1_53) hr
                  · refine XS.icmpNo X0.here hx rfl (hb hby d1_45) rfl (flt hc45).1 ?_
                    show Steps p.tables e below (s₁.setTop (mkF m 48 #[.val (.int p1)] [])) _
                    refine XS.iconst X0.here hx rfl (hb hby d1_48) ?_
                    show Steps p.tables e below (s₁.setTop (mkF m 49 #[.val (.int p1)] [(.int (1 : Int32))])) _
                    refine XS.goto X0.here hx rfl (pc0 := 49) (pc' := 53) rfl (hb hby d1_49) (by decide) (by decide) ?_
                    show Steps p.tables e below (s₁.setTop (mkF m 53 #[.val (.int p1)] [(.int (1 : Int32))])) _
                    have q : (f1 p1) = (1 : Int32) := by unfold f1; rw [if_neg hc3, if_neg hc9, if_neg hc15, if_neg hc21, if_pos hc27, if_neg hc33, if_pos hc39, if_neg hc45]
                    rw [q] at hr
                    exact retN X0 hx (t := .boolean) Bd.returns (by simp) (hb hby d1_53) hr
                · refine XS.icmpYes X0.here hx rfl (pc0 := 39) (pc' := 48) rfl (hb hby d1_39) rfl (flt hc39).2.2.2 (by decide) (by decide) ?_
                  show Steps p.tables e below (s₁.setTop (mkF m 48 #[.val (.int p1)] [])) _
                  refine XS.iconst X0.here hx rfl (hb hby d1_48) ?_
                  show Steps p.tables e below (s₁.setTop (mkF m 49 #[.val (.int p1)] [(.int (1 : Int32))])) _
                  refine XS.goto X0.here hx rfl (pc0 := 49) (pc' := 53) rfl (hb hby d1_49) (by decide) (by decide) ?_
                  show Steps p.tables e below (s₁.setTop (mkF m 53 #[.val (.int p1)] [(.int (1 : Int32))])) _
                  have q : (f1 p1) = (1 : Int32) := by unfold f1; rw [if_neg hc3, if_neg hc9, if_neg hc15, if_neg hc21, if_pos hc27, if_neg hc33, if_neg hc39]
                  rw [q] at hr
                  exact retN X0 hx (t := .boolean) Bd.returns (by simp) (hb hby d1_53) hr
            · refine XS.icmpYes X0.here hx rfl (pc0 := 27) (pc' := 48) rfl (hb hby d1_27) rfl (flt hc27).2.2.2 (by decide) (by decide) ?_
              show Steps p.tables e below (s₁.setTop (mkF m 48 #[.val (.int p1)] [])) _
              refine XS.iconst X0.here hx rfl (hb hby d1_48) ?_
              show Steps p.tables e below (s₁.setTop (mkF m 49 #[.val (.int p1)] [(.int (1 : Int32))])) _
              refine XS.goto X0.here hx rfl (pc0 := 49) (pc' := 53) rfl (hb hby d1_49) (by decide) (by decide) ?_
              show Steps p.tables e below (s₁.setTop (mkF m 53 #[.val (.int p1)] [(.int (1 : Int32))])) _
              have q : (f1 p1) = (1 : Int32) := by unfold f1; rw [if_neg hc3, if_neg hc9, if_neg hc15, if_neg hc21, if_neg hc27]
              rw [q] at hr
              exact retN X0 hx (t := .boolean) Bd.returns (by simp) (hb hby d1_53) hr
  · show Q1 Z p1 h0 n0 _ s₁.heap _
    rw [e0]
    exact ⟨rfl, N0, rfl⟩
theorem d2_0 : decode method_2_code 0 = .ok (.iload_n 0, 1) := by decide +kernel
theorem d2_1 : decode method_2_code 1 = .ok (.bipush 32, 2) := by decide +kernel
theorem d2_3 : decode method_2_code 3 = .ok (.if_icmp .ge 27, 3) := by decide +kernel
theorem d2_6 : decode method_2_code 6 = .ok (.iload_n 0, 1) := by decide +kernel
theorem d2_7 : decode method_2_code 7 = .ok (.bipush 9, 2) := by decide +kernel
theorem d2_9 : decode method_2_code 9 = .ok (.if_icmp .eq 15, 3) := by decide +kernel
theorem d2_24 : decode method_2_code 24 = .ok (.iconst 1, 1) := by decide +kernel
theorem d2_25 : decode method_2_code 25 = .ok (.goto 4, 3) := by decide +kernel
theorem d2_12 : decode method_2_code 12 = .ok (.iload_n 0, 1) := by decide +kernel
theorem d2_13 : decode method_2_code 13 = .ok (.bipush 10, 2) := by decide +kernel
theorem d2_15 : decode method_2_code 15 = .ok (.if_icmp .eq 9, 3) := by decide +kernel
theorem d2_18 : decode method_2_code 18 = .ok (.iload_n 0, 1) := by decide +kernel
theorem d2_19 : decode method_2_code 19 = .ok (.bipush 13, 2) := by decide +kernel
theorem d2_21 : decode method_2_code 21 = .ok (.if_icmp .ne 7, 3) := by decide +kernel
theorem d2_28 : decode method_2_code 28 = .ok (.iconst 0, 1) := by decide +kernel
theorem d2_30 : decode method_2_code 30 = .ok (.iload_n 0, 1) := by decide +kernel
theorem d2_31 : decode method_2_code 31 = .ok (.ldc 7, 2) := by decide +kernel
theorem d2_33 : decode method_2_code 33 = .ok (.if_icmp .lt 11, 3) := by decide +kernel
theorem d2_44 : decode method_2_code 44 = .ok (.iload_n 0, 1) := by decide +kernel
theorem d2_45 : decode method_2_code 45 = .ok (.ldc 9, 2) := by decide +kernel
theorem d2_47 : decode method_2_code 47 = .ok (.if_icmp .eq 9, 3) := by decide +kernel
theorem d2_56 : decode method_2_code 56 = .ok (.iconst 0, 1) := by decide +kernel
theorem d2_50 : decode method_2_code 50 = .ok (.iload_n 0, 1) := by decide +kernel
theorem d2_51 : decode method_2_code 51 = .ok (.ldc 10, 2) := by decide +kernel
theorem d2_53 : decode method_2_code 53 = .ok (.if_icmp .ne 5, 3) := by decide +kernel
theorem d2_58 : decode method_2_code 58 = .ok (.iconst 1, 1) := by decide +kernel
theorem d2_36 : decode method_2_code 36 = .ok (.iload_n 0, 1) := by decide +kernel
theorem d2_37 : decode method_2_code 37 = .ok (.ldc 8, 2) := by decide +kernel
theorem d2_39 : decode method_2_code 39 = .ok (.if_icmp .gt 5, 3) := by decide +kernel
theorem d2_42 : decode method_2_code 42 = .ok (.iconst 0, 1) := by decide +kernel
def f2 (p1 : Int32) : Int32 := (if p1 < (32 : Int32) then (if p1 = (9 : Int32) then (1 : Int32) else (if p1 = (10 : Int32) then (1 : Int32) else (if p1 = (13 : Int32) then (1 : Int32) else (0 : Int32)))) else (if p1 < (55296 : Int32) then (if p1 = (65534 : Int32) then (0 : Int32) else (if p1 = (65535 : Int32) then (0 : Int32) else (1 : Int32))) else (if (57343 : Int32) < p1 then (if p1 = (65534 : Int32) then (0 : Int32) else (if p1 = (65535 : Int32) then (0 : Int32) else (1 : Int32))) else (0 : Int32))))
theorem d2_29 : decode method_2_code 29 = .ok (.ireturn, 1) := by decide +kernel
theorem d2_57 : decode method_2_code 57 = .ok (.ireturn, 1) := by decide +kernel
theorem d2_59 : decode method_2_code 59 = .ok (.ireturn, 1) := by decide +kernel
theorem d2_43 : decode method_2_code 43 = .ok (.ireturn, 1) := by decide +kernel
theorem ef_2 (m : MethodId) (x0 : Int32) : entryFrame m #[(.int x0)] 1 = mkF m 0 #[.val (.int x0)] [] := by first | (simp [entryFrame, mkF, argsToLocals, Value.category]; done) | rfl
theorem pn_IndentedXmlCanHoldPinLaw : plainName "com/example/cartulary/cartulary/io/IndentedXmlCanHoldPinLaw" = true := by first | (simp [plainName, overriddenIn]; done) | decide +kernel
def Q2 (Z : State) (p1 : Int32) (h0 : Heap) (n0 : Nat) (v : Option Value) (h : Heap) (L : List Loc) : Prop := v = some (.int (f2 p1)) ∧ Fr n0 L ∧ h = h0
set_option maxRecDepth 65536 in
set_option maxHeartbeats 40000000 in
theorem rm2 (l : Launch) (Z : State) (a0 : Array Value) (hw : ∀ d ∈ tables_1, d.before a0 Z = true) (ws : List Jvm.Cond) (p1 : Int32) (h0 : Heap) (n0 : Nat) (Z0 : n0 ≤ h0.size) :
    MetFree l (⟨"com/example/cartulary/cartulary/io/IndentedXmlCanHoldPinLaw", "expected", "(I)Z"⟩ : MethodName) (head1 (Jvm.Cond.code (⟨"com/example/cartulary/cartulary/io/IndentedXmlCanHoldPinLaw", "expected", "(I)Z"⟩ : MethodName) method_2_code 1 (some .boolean) :: ws) ({ frames := 0, cells := 0, slots := 0, locals := 0 } : Room)) (fun a U => a = #[(.int p1)] ∧ Z.Warmed39 U.vm ∧ U.heap = h0) (fun _ _ _ _ _ => True) (fun _ U o U' => ∃ v L, o = .returned v ∧ Q2 Z p1 h0 n0 v U'.heap L ∧ FrameEnd U o U' L ({ frames := 0, cells := 0, slots := 0, locals := 0 } : Room).cells ({ frames := 0, cells := 0, slots := 0, locals := 0 } : Room).slots) := by
  refine MetFree.of_bodySF (plainFor_of_name pn_IndentedXmlCanHoldPinLaw) hisR ?_
  intro p e s m args below meth c s₁ Bd hml0 hP hK
  obtain ⟨rfl, hZ, hh⟩ := hP
  have hx := Bd.exec
  have hby := Bd.bytes
  have hml : c.maxLocals = 1 := hml0
  have hown : s.vm.findClass "com/example/cartulary/cartulary/io/IndentedXmlCanHoldPinLaw" = some m.cls := findClass_of_methodNamed Bd.named
  have hnm := (name_of_methodNamed Bd.named Bd.method).1
  have X0 : Stand p l e ({ frames := 0, cells := 0, slots := 0, locals := 0 } : Room) s m #[(.int p1)] below meth c s₁ [] 0 0 := Stand.of_body Bd
  have e0 : s₁.heap = h0 := by rw [← hh, Bd.state]; rfl
  have N0 := Fr.nil n0
  have pre0 : ∀ t, Steps p.tables e below (s₁.setTop (mkF m 0 #[.val (.int p1)] [])) t → Steps p.tables e below (s₁.setTop (entryFrame m #[(.int p1)] 1)) t := fun t k => castTop (ef_2 m p1) k
  obtain ⟨fs, hr, hrun, hended, hW, hsame⟩ := X0.leave (v := some (.int (f2 p1))) (fun h => by rw [Bd.returns] at h; cases h)
  refine ⟨_, _, pre0 _ ?_, hrun, hended, _, _, rfl, ?_, ⟨_, rfl⟩, hW, hsame.mono (by decide) (by decide)⟩
  · show Steps p.tables e below (s₁.setTop (mkF m 0 #[.val (.int p1)] [])) _
    refine XS.iloadN X0.here hx rfl (hb hby d2_0) rfl ?_
    show Steps p.tables e below (s₁.setTop (mkF m 1 #[.val (.int p1)] [(.int p1)])) _
    refine XS.bipush X0.here hx rfl (hb hby d2_1) ?_
    show Steps p.tables e below (s₁.setTop (mkF m 3 #[.val (.int p1)] [(.int (32 : Int32)), (.int p1)])) _
    by_cases hc3 : p1 < (32 : Int32)
    · refine XS.icmpNo X0.here hx rfl (hb hby d2_3) rfl (tlt hc3).2.1 ?_
      show Steps p.tables e below (s₁.setTop (mkF m 6 #[.val (.int p1)] [])) _
      refine XS.iloadN X0.here hx rfl (hb hby d2_6) rfl ?_
      show Steps p.tables e below (s₁.setTop (mkF m 7 #[.val (.int p1)] [(.int p1)])) _
      refine XS.bipush X0.here hx rfl (hb hby d2_7) ?_
      show Steps p.tables e below (s₁.setTop (mkF m 9 #[.val (.int p1)] [(.int (9 : Int32)), (.int p1)])) _
      by_cases hc9 : p1 = (9 : Int32)
      · refine XS.icmpYes X0.here hx rfl (pc0 := 9) (pc' := 24) rfl (hb hby d2_9) rfl (teq hc9).1 (by decide) (by decide) ?_
        show Steps p.tables e below (s₁.setTop (mkF m 24 #[.val (.int p1)] [])) _
        refine XS.iconst X0.here hx rfl (hb hby d2_24) ?_
        show Steps p.tables e below (s₁.setTop (mkF m 25 #[.val (.int p1)] [(.int (1 : Int32))])) _
        refine XS.goto X0.here hx rfl (pc0 := 25) (pc' := 29) rfl (hb hby d2_25) (by decide) (by decide) ?_
        show Steps p.tables e below (s₁.setTop (mkF m 29 #[.val (.int p1)] [(.int (1 : Int32))])) _
        have q : (f2 p1) = (1 : Int32) := by unfold f2; rw [if_pos hc3, if_pos hc9]
        rw [q] at hr
        exact retN X0 hx (t := .boolean) Bd.returns (by simp) (hb hby d2_29) hr
      · refine XS.icmpNo X0.here hx rfl (hb hby d2_9) rfl (feq hc9).1 ?_
        show Steps p.tables e below (s₁.setTop (mkF m 12 #[.val (.int p1)] [])) _
        refine XS.iloadN X0.here hx rfl (hb hby d2_12) rfl ?_
        show Steps p.tables e below (s₁.setTop (mkF m 13 #[.val (.int p1)] [(.int p1)])) _
        refine XS.bipush X0.here hx rfl (hb hby d2_13) ?_
        show Steps p.tables e below (s₁.setTop (mkF m 15 #[.val (.int p1)] [(.int (10 : Int32)), (.int p1)])) _
        by_cases hc15 : p1 = (10 : Int32)
        · refine XS.icmpYes X0.here hx rfl (pc0 := 15) (pc' := 24) rfl (hb hby d2_15) rfl (teq hc15).1 (by decide) (by decide) ?_
          show Steps p.tables e below (s₁.setTop (mkF m 24 #[.val (.int p1)] [])) _
          refine XS.iconst X0.here hx rfl (hb hby d2_24) ?_
          show Steps p.tables e below (s₁.setTop (mkF m 25 #[.val (.int p1)] [(.int (1 : Int32))])) _
          refine XS.goto X0.here hx rfl (pc0 := 25) (pc' := 29) rfl (hb hby d2_25) (by decide) (by decide) ?_
          show Steps p.tables e below (s₁.setTop (mkF m 29 #[.val (.int p1)] [(.int (1 : Int32))])) _
          have q : (f2 p1) = (1 : Int32) := by unfold f2; rw [if_pos hc3, if_neg hc9, if_pos hc15]
          rw [q] at hr
          exact retN X0 hx (t := .boolean) Bd.returns (by simp) (hb hby d2_29) hr
        · refine XS.icmpNo X0.here hx rfl (hb hby d2_15) rfl (feq hc15).1 ?_
          show Steps p.tables e below (s₁.setTop (mkF m 18 #[.val (.int p1)] [])) _
          refine XS.iloadN X0.here hx rfl (hb hby d2_18) rfl ?_
          show Steps p.tables e below (s₁.setTop (mkF m 19 #[.val (.int p1)] [(.int p1)])) _
          refine XS.bipush X0.here hx rfl (hb hby d2_19) ?_
          show Steps p.tables e below (s₁.setTop (mkF m 21 #[.val (.int p1)] [(.int (13 : Int32)), (.int p1)])) _
          by_cases hc21 : p1 = (13 : Int32)
          · refine XS.icmpNo X0.here hx rfl (hb hby d2_21) rfl (teq hc21).2 ?_
            show Steps p.tables e below (s₁.setTop (mkF m 24 #[.val (.int p1)] [])) _
            refine XS.iconst X0.here hx rfl (hb hby d2_24) ?_
            show Steps p.tables e below (s₁.setTop (mkF m 25 #[.val (.int p1)] [(.int (1 : Int32))])) _
            refine XS.goto X0.here hx rfl (pc0 := 25) (pc' := 29) rfl (hb hby d2_25) (by decide) (by decide) ?_
            show Steps p.tables e below (s₁.setTop (mkF m 29 #[.val (.int p1)] [(.int (1 : Int32))])) _
            have q : (f2 p1) = (1 : Int32) := by unfold f2; rw [if_pos hc3, if_neg hc9, if_neg hc15, if_pos hc21]
            rw [q] at hr
            exact retN X0 hx (t := .boolean) Bd.returns (by simp) (hb hby d2_29) hr
          · refine XS.icmpYes X0.here hx rfl (pc0 := 21) (pc' := 28) rfl (hb hby d2_21) rfl (feq hc21).2 (by decide) (by decide) ?_
            show Steps p.tables e below (s₁.setTop (mkF m 28 #[.val (.int p1)] [])) _
            refine XS.iconst X0.here hx rfl (hb hby d2_28) ?_
            show Steps p.tables e below (s₁.setTop (mkF m 29 #[.val (.int p1)] [(.int (0 : Int32))])) _
            have q : (f2 p1) = (0 : Int32) := by unfold f2; rw [if_pos hc3, if_neg hc9, if_neg hc15, if_neg hc21]
            rw [q] at hr
            exact retN X0 hx (t := .boolean) Bd.returns (by simp) (hb hby d2_29) hr
    · refine XS.icmpYes X0.here hx rfl (pc0 := 3) (pc' := 30) rfl (hb hby d2_3) rfl (flt hc3).2.1 (by decide) (by decide) ?_
      show Steps p.tables e below (s₁.setTop (mkF m 30 #[.val (.int p1)] [])) _
      refine XS.iloadN X0.here hx rfl (hb hby d2_30) rfl ?_
      show Steps p.tables e below (s₁.setTop (mkF m 31 #[.val (.int p1)] [(.int p1)])) _
      refine X0.ldcInt hx hown (mvT hZ (hw _ (List.mem_of_getElem? (i := 2) rfl))) (g := (mkF m 31 #[.val (.int p1)] [(.int p1)])) rfl (hb hby d2_31) _ ?_
      show Steps p.tables e below (s₁.setTop (mkF m 33 #[.val (.int p1)] [(.int (55296 : Int32)), (.int p1)])) _
      by_cases hc33 : p1 < (55296 : Int32)
      · refine XS.icmpYes X0.here hx rfl (pc0 := 33) (pc' := 44) rfl (hb hby d2_33) rfl (tlt hc33).1 (by decide) (by decide) ?_
        show Steps p.tables e below (s₁.setTop (mkF m 44 #[.val (.int p1)] [])) _
        refine XS.iloadN X0.here hx rfl (hb hby d2_44) rfl ?_
        show Steps p.tables e below (s₁.setTop (mkF m 45 #[.val (.int p1)] [(.int p1)])) _
        refine X0.ldcInt hx hown (mvT hZ (hw _ (List.mem_of_getElem? (i := 6) rfl))) (g := (mkF m 45 #[.val (.int p1)] [(.int p1)])) rfl (hb hby d2_45) _ ?_
        show Steps p.tables e below (s₁.setTop (mkF m 47 #[.val (.int p1)] [(.int (65534 : Int32)), (.int p1)])) _
        by_cases hc47 : p1 = (65534 : Int32)
        · refine XS.icmpYes X0.here hx rfl (pc0 := 47) (pc' := 56) rfl (hb hby d2_47) rfl (teq hc47).1 (by decide) (by decide) ?_
          show Steps p.tables e below (s₁.setTop (mkF m 56 #[.val (.int p1)] [])) _
          refine XS.iconst X0.here hx rfl (hb hby d2_56) ?_
          show Steps p.tables e below (s₁.setTop (mkF m 57 #[.val (.int p1)] [(.int (0 : Int32))])) _
          have q : (f2 p1) = (0 : Int32) := by unfold f2; rw [if_neg hc3, if_pos hc33, if_pos hc47]
          rw [q] at hr
          exact retN X0 hx (t := .boolean) Bd.returns (by simp) (hb hby d2_57) hr
        · refine XS.icmpNo X0.here hx rfl (hb hby d2_47) rfl (feq hc47).1 ?_
          show Steps p.tables e below (s₁.setTop (mkF m 50 #[.val (.int p1)] [])) _
          refine XS.iloadN X0.here hx rfl (hb hby d2_50) rfl ?_
          show Steps p.tables e below (s₁.setTop (mkF m 51 #[.val (.int p1)] [(.int p1)])) _
          refine X0.ldcInt hx hown (mvT hZ (hw _ (List.mem_of_getElem? (i := 23) rfl))) (g := (mkF m 51 #[.val (.int p1)] [(.int p1)])) rfl (hb hby d2_51) _ ?_
          show Steps p.tables e below (s₁.setTop (mkF m 53 #[.val (.int p1)] [(.int (65535 : Int32)), (.int p1)])) _
          by_cases hc53 : p1 = (65535 : Int32)
          · refine XS.icmpNo X0.here hx rfl (hb hby d2_53) rfl (teq hc53).2 ?_
            show Steps p.tables e below (s₁.setTop (mkF m 56 #[.val (.int p1)] [])) _
            refine XS.iconst X0.here hx rfl (hb hby d2_56) ?_
            show Steps p.tables e below (s₁.setTop (mkF m 57 #[.val (.int p1)] [(.int (0 : Int32))])) _
            have q : (f2 p1) = (0 : Int32) := by unfold f2; rw [if_neg hc3, if_pos hc33, if_neg hc47, if_pos hc53]
            rw [q] at hr
            exact retN X0 hx (t := .boolean) Bd.returns (by simp) (hb hby d2_57) hr
          · refine XS.icmpYes X0.here hx rfl (pc0 := 53) (pc' := 58) rfl (hb hby d2_53) rfl (feq hc53).2 (by decide) (by decide) ?_
            show Steps p.tables e below (s₁.setTop (mkF m 58 #[.val (.int p1)] [])) _
            refine XS.iconst X0.here hx rfl (hb hby d2_58) ?_
            show Steps p.tables e below (s₁.setTop (mkF m 59 #[.val (.int p1)] [(.int (1 : Int32))])) _
            have q : (f2 p1) = (1 : Int32) := by unfold f2; rw [if_neg hc3, if_pos hc33, if_neg hc47, if_neg hc53]
            rw [q] at hr
            exact retN X0 hx (t := .boolean) Bd.returns (by simp) (hb hby d2_59) hr
      · refine XS.icmpNo X0.here hx rfl (hb hby d2_33) rfl (flt hc33).1 ?_
        show Steps p.tables e below (s₁.setTop (mkF m 36 #[.val (.int p1)] [])) _
        refine XS.iloadN X0.here hx rfl (hb hby d2_36) rfl ?_
        show Steps p.tables e below (s₁.setTop (mkF m 37 #[.val (.int p1)] [(.int p1)])) _
        refine X0.ldcInt hx hown (mvT hZ (hw _ (List.mem_of_getElem? (i := 3) rfl))) (g := (mkF m 37 #[.val (.int p1)] [(.int p1)])) rfl (hb hby d2_37) _ ?_
        show Steps p.tables e below (s₁.setTop (mkF m 39 #[.val (.int p1)] [(.int (57343 : Int32)), (.int p1)])) _
        by_cases hc39 : (57343 : Int32) < p1
        · refine XS.icmpYes X0.here hx rfl (pc0 := 39) (pc' := 44) rfl (hb hby d2_39) rfl (tlt hc39).2.2.1 (by decide) (by decide) ?_
          show Steps p.tables e below (s₁.setTop (mkF m 44 #[.val (.int p1)] [])) _
          refine XS.iloadN X0.here hx rfl (hb hby d2_44) rfl ?_
          show Steps p.tables e below (s₁.setTop (mkF m 45 #[.val (.int p1)] [(.int p1)])) _
          refine X0.ldcInt hx hown (mvT hZ (hw _ (List.mem_of_getElem? (i := 6) rfl))) (g := (mkF m 45 #[.val (.int p1)] [(.int p1)])) rfl (hb hby d2_45) _ ?_
          show Steps p.tables e below (s₁.setTop (mkF m 47 #[.val (.int p1)] [(.int (65534 : Int32)), (.int p1)])) _
          by_cases hc47 : p1 = (65534 : Int32)
          · refine XS.icmpYes X0.here hx rfl (pc0 := 47) (pc' := 56) rfl (hb hby d2_47) rfl (teq hc47).1 (by decide) (by decide) ?_
            show Steps p.tables e below (s₁.setTop (mkF m 56 #[.val (.int p1)] [])) _
            refine XS.iconst X0.here hx rfl (hb hby d2_56) ?_
            show Steps p.tables e below (s₁.setTop (mkF m 57 #[.val (.int p1)] [(.int (0 : Int32))])) _
            have q : (f2 p1) = (0 : Int32) := by unfold f2; rw [if_neg hc3, if_neg hc33, if_pos hc39, if_pos hc47]
            rw [q] at hr
            exact retN X0 hx (t := .boolean) Bd.returns (by simp) (hb hby d2_57) hr
          · refine XS.icmpNo X0.here hx rfl (hb hby d2_47) rfl (feq hc47).1 ?_
            show Steps p.tables e below (s₁.setTop (mkF m 50 #[.val (.int p1)] [])) _
            refine XS.iloadN X0.here hx rfl (hb hby d2_50) rfl ?_
            show Steps p.tables e below (s₁.setTop (mkF m 51 #[.val (.int p1)] [(.int p1)])) _
            refine X0.ldcInt hx hown (mvT hZ (hw _ (List.mem_of_getElem? (i := 23) rfl))) (g := (mkF m 51 #[.val (.int p1)] [(.int p1)])) rfl (hb hby d2_51) _ ?_
            show Steps p.tables e below (s₁.setTop (mkF m 53 #[.val (.int p1)] [(.int (65535 : Int32)), (.int p1)])) _
            by_cases hc53 : p1 = (65535 : Int32)
            · refine XS.icmpNo X0.here hx rfl (hb hby d2_53) rfl (teq hc53).2 ?_
              show Steps p.tables e below (s₁.setTop (mkF m 56 #[.val (.int p1)] [])) _
              refine XS.iconst X0.here hx rfl (hb hby d2_56) ?_
              show Steps p.tables e below (s₁.setTop (mkF m 57 #[.val (.int p1)] [(.int (0 : Int32))])) _
              have q : (f2 p1) = (0 : Int32) := by unfold f2; rw [if_neg hc3, if_neg hc33, if_pos hc39, if_neg hc47, if_pos hc53]
              rw [q] at hr
              exact retN X0 hx (t := .boolean) Bd.returns (by simp) (hb hby d2_57) hr
            · refine XS.icmpYes X0.here hx rfl (pc0 := 53) (pc' := 58) rfl (hb hby d2_53) rfl (feq hc53).2 (by decide) (by decide) ?_
              show Steps p.tables e below (s₁.setTop (mkF m 58 #[.val (.int p1)] [])) _
              refine XS.iconst X0.here hx rfl (hb hby d2_58) ?_
              show Steps p.tables e below (s₁.setTop (mkF m 59 #[.val (.int p1)] [(.int (1 : Int32))])) _
              have q : (f2 p1) = (1 : Int32) := by unfold f2; rw [if_neg hc3, if_neg hc33, if_pos hc39, if_neg hc47, if_neg hc53]
              rw [q] at hr
              exact retN X0 hx (t := .boolean) Bd.returns (by simp) (hb hby d2_59) hr
        · refine XS.icmpNo X0.here hx rfl (hb hby d2_39) rfl (flt hc39).2.2.1 ?_
          show Steps p.tables e below (s₁.setTop (mkF m 42 #[.val (.int p1)] [])) _
          refine XS.iconst X0.here hx rfl (hb hby d2_42) ?_
          show Steps p.tables e below (s₁.setTop (mkF m 43 #[.val (.int p1)] [(.int (0 : Int32))])) _
          have q : (f2 p1) = (0 : Int32) := by unfold f2; rw [if_neg hc3, if_neg hc33, if_neg hc39]
          rw [q] at hr
          exact retN X0 hx (t := .boolean) Bd.returns (by simp) (hb hby d2_43) hr
  · show Q2 Z p1 h0 n0 _ s₁.heap _
    rw [e0]
    exact ⟨rfl, N0, rfl⟩
theorem ef_0 (m : MethodId) (x0 : Int32) (x1 : Int32) (x2 : Int32) : entryFrame m #[(.int x0), (.int x1), (.int x2)] maxLocals = mkF m 0 #[.val (.int x0), .val (.int x1), .val (.int x2), .unset, .unset, .unset] [] := by first | (simp [entryFrame, mkF, argsToLocals, Value.category, maxLocals]; done) | rfl
def v0_95 (p3 : Int32) : Int32 := ((p3 &&& (2147483647 : Int32)) % (1114112 : Int32))
def v0_109 (p1 : Int32) : Int32 := ((((p1.toUInt32 >>> ((1 : Int32) &&& 31).toUInt32).toInt32) &&& (1073741823 : Int32)) % (14 : Int32))
def v0_124 (p2 : Int32) (w44 : Int32) : Int32 := ((w44 + ((p2 &&& (2147483647 : Int32)) % (3 : Int32))) - (1 : Int32))
def j0_126_l4 (p1 : Int32) (p2 : Int32) (p3 : Int32) (w44 : Int32) : Int32 := (if (p1 &&& (1 : Int32)) = (0 : Int32) then (v0_95 p3) else (v0_124 p2 w44))
def j0_126_l5 (p1 : Int32) : Slot := (if (p1 &&& (1 : Int32)) = (0 : Int32) then (.unset) else (.val (.int (v0_109 p1))))
theorem pd__I_Z : parseMethodDescriptor "(I)Z" = some ⟨[.int], some .boolean⟩ := by decide +kernel
theorem own_ints (l : List Int32) (n : Nat) : ∃ z : Int32, (l.map Value.int).getD n (.int (0 : Int32)) = .int z := by
  rw [List.getD_eq_getElem?_getD, List.getElem?_map]
  cases l[n]? with
  | none => exact ⟨0, rfl⟩
  | some z => exact ⟨z, rfl⟩
theorem own_and_bounds (p m : Int32) (k : Nat) (hm : m.toBitVec.toNat = 2 ^ k - 1) (hk : k < 32) : 0 ≤ (p &&& m).toInt ∧ (p &&& m).toInt < 2 ^ k := by
  have h : (p &&& m).toBitVec.toNat = p.toBitVec.toNat % 2 ^ k := by
    show (p.toBitVec &&& m.toBitVec).toNat = _
    rw [BitVec.toNat_and, hm, Nat.and_two_pow_sub_one_eq_mod]
  have lt : p.toBitVec.toNat % 2 ^ k < 2 ^ k := Nat.mod_lt _ (Nat.two_pow_pos k)
  have le : 2 ^ k ≤ 2 ^ 31 := Nat.pow_le_pow_right (by decide) (by omega)
  have e : (p &&& m).toInt = ((p.toBitVec.toNat % 2 ^ k : Nat) : Int) := by
    show (p &&& m).toBitVec.toInt = _
    rw [BitVec.toInt_eq_toNat_of_lt (by rw [h]; omega), h]
  rw [e]
  constructor
  · omega
  · exact_mod_cast lt
theorem own_idx (p : Int32) : ¬ v0_109 p < 0 ∧ v0_109 p < (14 : Int32) := by
  unfold v0_109
  obtain ⟨h1, h2⟩ := own_and_bounds ((p.toUInt32 >>> ((1 : Int32) &&& 31).toUInt32).toInt32) 1073741823 30 (by decide) (by decide)
  generalize (p.toUInt32 >>> ((1 : Int32) &&& 31).toUInt32).toInt32 &&& (1073741823 : Int32) = y at h1 h2
  have e : (y % (14 : Int32)).toInt = y.toInt % 14 := by rw [Int32.toInt_mod, Int.tmod_eq_emod_of_nonneg h1]; rfl
  rw [Int32.lt_iff_toInt_lt, Int32.lt_iff_toInt_lt, e]
  exact ⟨by show ¬ y.toInt % 14 < 0; omega, by show y.toInt % 14 < 14; omega⟩
theorem own_eq (p1 : Int32) : f1 p1 = f2 p1 := by
  have c0 : ((55295 : Int32) < p1) ↔ 55295 < p1.toInt := by rw [Int32.lt_iff_toInt_lt]; rfl
  have c1 : ((57343 : Int32) < p1) ↔ 57343 < p1.toInt := by rw [Int32.lt_iff_toInt_lt]; rfl
  have c2 : ((65533 : Int32) < p1) ↔ 65533 < p1.toInt := by rw [Int32.lt_iff_toInt_lt]; rfl
  have c3 : (p1 < (32 : Int32)) ↔ p1.toInt < 32 := by rw [Int32.lt_iff_toInt_lt]; rfl
  have c4 : (p1 < (55296 : Int32)) ↔ p1.toInt < 55296 := by rw [Int32.lt_iff_toInt_lt]; rfl
  have c5 : (p1 < (57344 : Int32)) ↔ p1.toInt < 57344 := by rw [Int32.lt_iff_toInt_lt]; rfl
  have c6 : (p1 < (65536 : Int32)) ↔ p1.toInt < 65536 := by rw [Int32.lt_iff_toInt_lt]; rfl
  have c7 : (p1 = (10 : Int32)) ↔ p1.toInt = 10 := by rw [← Int32.toInt_inj]; rfl
  have c8 : (p1 = (13 : Int32)) ↔ p1.toInt = 13 := by rw [← Int32.toInt_inj]; rfl
  have c9 : (p1 = (65534 : Int32)) ↔ p1.toInt = 65534 := by rw [← Int32.toInt_inj]; rfl
  have c10 : (p1 = (65535 : Int32)) ↔ p1.toInt = 65535 := by rw [← Int32.toInt_inj]; rfl
  have c11 : (p1 = (9 : Int32)) ↔ p1.toInt = 9 := by rw [← Int32.toInt_inj]; rfl
  unfold f1 f2
  simp only [c0, c1, c2, c3, c4, c5, c6, c7, c8, c9, c10, c11]
  generalize p1.toInt = x
  repeat' split
  all_goals first | rfl | (exfalso; omega)

def Q0 (Z : State) (p1 : Int32) (p2 : Int32) (p3 : Int32) (h0 : Heap) (n0 : Nat) (v : Option Value) (h : Heap) (L : List Loc) : Prop := v = some (.int (1 : Int32)) ∧ Fr n0 L
set_option maxRecDepth 65536 in
set_option maxHeartbeats 40000000 in
theorem rm0 (l : Launch) (Z : State) (a0 : Array Value) (hw : ∀ d ∈ tables_1, d.before a0 Z = true) (ws : List Jvm.Cond) (p1 : Int32) (p2 : Int32) (p3 : Int32) (h0 : Heap) (n0 : Nat) (Z0 : n0 ≤ h0.size) :
    MetFree l x (head1 (Jvm.Cond.code x code maxLocals ret :: ws) room_1) (fun a U => a = #[(.int p1), (.int p2), (.int p3)] ∧ Z.Warmed39 U.vm ∧ U.heap = h0) (fun _ _ _ _ _ => True) (fun _ U o U' => ∃ v L, o = .returned v ∧ Q0 Z p1 p2 p3 h0 n0 v U'.heap L ∧ FrameEnd U o U' L room_1.cells room_1.slots) := by
  refine MetFree.of_bodySF (plainFor_of_name pn_IndentedXmlCanHoldPinLaw) hisR ?_
  intro p e s m args below meth c s₁ Bd hml0 hP hK
  obtain ⟨rfl, hZ, hh⟩ := hP
  have hx := Bd.exec
  have hby := Bd.bytes
  have hml : c.maxLocals = 6 := hml0
  have hown : s.vm.findClass "com/example/cartulary/cartulary/io/IndentedXmlCanHoldPinLaw" = some m.cls := findClass_of_methodNamed Bd.named
  have hnm := (name_of_methodNamed Bd.named Bd.method).1
  have X0 : Stand p l e room_1 s m #[(.int p1), (.int p2), (.int p3)] below meth c s₁ [] 0 0 := Stand.of_body Bd
  have e0 : s₁.heap = h0 := by rw [← hh, Bd.state]; rfl
  have N0 := Fr.nil n0
  have pre0 : ∀ t, Steps p.tables e below (s₁.setTop (mkF m 0 #[.val (.int p1), .val (.int p2), .val (.int p3), .unset, .unset, .unset] [])) t → Steps p.tables e below (s₁.setTop (entryFrame m #[(.int p1), (.int p2), (.int p3)] maxLocals)) t := fun t k => castTop (ef_0 m p1 p2 p3) k
  obtain ⟨T1, h1, k1, X1, e1, E1, A1, st1⟩ := newP X0 hx hZ (hw _ (List.mem_of_getElem? (i := 0) rfl)) e0 (g := (mkF m 2 #[.val (.int p1), .val (.int p2), .val (.int p3), .unset, .unset, .unset] [(.int (14 : Int32))])) rfl (hb hby at_2) rfl (by decide) (cap := 14) (by decide) (by decide) (by decide) (by decide)
  obtain ⟨b1, g1⟩ : ∃ z, z = h0.size := ⟨_, rfl⟩
  rw [← g1] at A1 st1
  have V_b1 : Arv Z h1 b1 k1 .int (14 : Int32) [(.int (0 : Int32)), (.int (0 : Int32)), (.int (0 : Int32)), (.int (0 : Int32)), (.int (0 : Int32)), (.int (0 : Int32)), (.int (0 : Int32)), (.int (0 : Int32)), (.int (0 : Int32)), (.int (0 : Int32)), (.int (0 : Int32)), (.int (0 : Int32)), (.int (0 : Int32)), (.int (0 : Int32))] (.int (0 : Int32)) := (Arv.new A1 (by decide)).pad (pad_rep [] (.int (0 : Int32)) 14)
  have g_b1 : n0 ≤ b1 := Nat.le_trans Z0 (Nat.le_of_eq g1.symm)
  have Z1 : n0 ≤ h1.size := Nat.le_trans Z0 E1.1
  obtain ⟨cl2, Ar2, qc2, Sz2, Nn2, Hs2, Gs2⟩ := V_b1
  have F3 : Arv Z h1 b1 k1 .int (14 : Int32) [(.int (0 : Int32)), (.int (0 : Int32)), (.int (0 : Int32)), (.int (0 : Int32)), (.int (0 : Int32)), (.int (0 : Int32)), (.int (0 : Int32)), (.int (0 : Int32)), (.int (0 : Int32)), (.int (0 : Int32)), (.int (0 : Int32)), (.int (0 : Int32)), (.int (0 : Int32)), (.int (0 : Int32))] (.int (0 : Int32)) := ⟨cl2, Ar2, qc2, Sz2, Nn2, Hs2, Gs2⟩
  obtain ⟨T4, h4, X4, e4, W4, st4⟩ := stI X1 hx hZ e1 Ar2 (j := (0 : Int32)) (inb_of Sz2 ⟨by decide, by decide⟩) (g := (mkF m 7 #[.val (.int p1), .val (.int p2), .val (.int p3), .unset, .unset, .unset] [(.int (1 : Int32)), (.int (0 : Int32)), (.ref b1), (.ref b1)])) rfl rfl (hb hby at_7)
  have V4 : Arv Z h4 b1 k1 .int (14 : Int32) [(.int (1 : Int32)), (.int (0 : Int32)), (.int (0 : Int32)), (.int (0 : Int32)), (.int (0 : Int32)), (.int (0 : Int32)), (.int (0 : Int32)), (.int (0 : Int32)), (.int (0 : Int32)), (.int (0 : Int32)), (.int (0 : Int32)), (.int (0 : Int32)), (.int (0 : Int32)), (.int (0 : Int32))] (.int (0 : Int32)) := Arv.set Ar2 qc2 Sz2 Nn2 Hs2 Gs2 rfl W4 0 rfl (Nat.le_of_ble_eq_true rfl)
  have N4 := Fr.snoc X4 N0 g_b1
  have Z4 : n0 ≤ h4.size := by rw [W4.size]; exact Z1
  obtain ⟨Lo4, X4, N4⟩ := own_forget X4 N4
  obtain ⟨cl5, Ar5, qc5, Sz5, Nn5, Hs5, Gs5⟩ := V4
  have F6 : Arv Z h4 b1 k1 .int (14 : Int32) [(.int (1 : Int32)), (.int (0 : Int32)), (.int (0 : Int32)), (.int (0 : Int32)), (.int (0 : Int32)), (.int (0 : Int32)), (.int (0 : Int32)), (.int (0 : Int32)), (.int (0 : Int32)), (.int (0 : Int32)), (.int (0 : Int32)), (.int (0 : Int32)), (.int (0 : Int32)), (.int (0 : Int32))] (.int (0 : Int32)) := ⟨cl5, Ar5, qc5, Sz5, Nn5, Hs5, Gs5⟩
  obtain ⟨T7, h7, X7, e7, W7, st7⟩ := stI X4 hx hZ e4 Ar5 (j := (1 : Int32)) (inb_of Sz5 ⟨by decide, by decide⟩) (g := (mkF m 12 #[.val (.int p1), .val (.int p2), .val (.int p3), .unset, .unset, .unset] [(.int (9 : Int32)), (.int (1 : Int32)), (.ref b1), (.ref b1)])) rfl rfl (hb hby at_12)
  have V7 : Arv Z h7 b1 k1 .int (14 : Int32) [(.int (1 : Int32)), (.int (9 : Int32)), (.int (0 : Int32)), (.int (0 : Int32)), (.int (0 : Int32)), (.int (0 : Int32)), (.int (0 : Int32)), (.int (0 : Int32)), (.int (0 : Int32)), (.int (0 : Int32)), (.int (0 : Int32)), (.int (0 : Int32)), (.int (0 : Int32)), (.int (0 : Int32))] (.int (0 : Int32)) := Arv.set Ar5 qc5 Sz5 Nn5 Hs5 Gs5 rfl W7 1 rfl (Nat.le_of_ble_eq_true rfl)
  have N7 := Fr.snoc X7 N4 g_b1
  have Z7 : n0 ≤ h7.size := by rw [W7.size]; exact Z4
  obtain ⟨Lo7, X7, N7⟩ := own_forget X7 N7
  obtain ⟨cl8, Ar8, qc8, Sz8, Nn8, Hs8, Gs8⟩ := V7
  have F9 : Arv Z h7 b1 k1 .int (14 : Int32) [(.int (1 : Int32)), (.int (9 : Int32)), (.int (0 : Int32)), (.int (0 : Int32)), (.int (0 : Int32)), (.int (0 : Int32)), (.int (0 : Int32)), (.int (0 : Int32)), (.int (0 : Int32)), (.int (0 : Int32)), (.int (0 : Int32)), (.int (0 : Int32)), (.int (0 : Int32)), (.int (0 : Int32))] (.int (0 : Int32)) := ⟨cl8, Ar8, qc8, Sz8, Nn8, Hs8, Gs8⟩
  obtain ⟨T10, h10, X10, e10, W10, st10⟩ := stI X7 hx hZ e7 Ar8 (j := (2 : Int32)) (inb_of Sz8 ⟨by decide, by decide⟩) (g := (mkF m 17 #[.val (.int p1), .val (.int p2), .val (.int p3), .unset, .unset, .unset] [(.int (10 : Int32)), (.int (2 : Int32)), (.ref b1), (.ref b1)])) rfl rfl (hb hby at_17)
  have V10 : Arv Z h10 b1 k1 .int (14 : Int32) [(.int (1 : Int32)), (.int (9 : Int32)), (.int (10 : Int32)), (.int (0 : Int32)), (.int (0 : Int32)), (.int (0 : Int32)), (.int (0 : Int32)), (.int (0 : Int32)), (.int (0 : Int32)), (.int (0 : Int32)), (.int (0 : Int32)), (.int (0 : Int32)), (.int (0 : Int32)), (.int (0 : Int32))] (.int (0 : Int32)) := Arv.set Ar8 qc8 Sz8 Nn8 Hs8 Gs8 rfl W10 2 rfl (Nat.le_of_ble_eq_true rfl)
  have N10 := Fr.snoc X10 N7 g_b1
  have Z10 : n0 ≤ h10.size := by rw [W10.size]; exact Z7
  obtain ⟨Lo10, X10, N10⟩ := own_forget X10 N10
  obtain ⟨cl11, Ar11, qc11, Sz11, Nn11, Hs11, Gs11⟩ := V10
  have F12 : Arv Z h10 b1 k1 .int (14 : Int32) [(.int (1 : Int32)), (.int (9 : Int32)), (.int (10 : Int32)), (.int (0 : Int32)), (.int (0 : Int32)), (.int (0 : Int32)), (.int (0 : Int32)), (.int (0 : Int32)), (.int (0 : Int32)), (.int (0 : Int32)), (.int (0 : Int32)), (.int (0 : Int32)), (.int (0 : Int32)), (.int (0 : Int32))] (.int (0 : Int32)) := ⟨cl11, Ar11, qc11, Sz11, Nn11, Hs11, Gs11⟩
  obtain ⟨T13, h13, X13, e13, W13, st13⟩ := stI X10 hx hZ e10 Ar11 (j := (3 : Int32)) (inb_of Sz11 ⟨by decide, by decide⟩) (g := (mkF m 22 #[.val (.int p1), .val (.int p2), .val (.int p3), .unset, .unset, .unset] [(.int (13 : Int32)), (.int (3 : Int32)), (.ref b1), (.ref b1)])) rfl rfl (hb hby at_22)
  have V13 : Arv Z h13 b1 k1 .int (14 : Int32) [(.int (1 : Int32)), (.int (9 : Int32)), (.int (10 : Int32)), (.int (13 : Int32)), (.int (0 : Int32)), (.int (0 : Int32)), (.int (0 : Int32)), (.int (0 : Int32)), (.int (0 : Int32)), (.int (0 : Int32)), (.int (0 : Int32)), (.int (0 : Int32)), (.int (0 : Int32)), (.int (0 : Int32))] (.int (0 : Int32)) := Arv.set Ar11 qc11 Sz11 Nn11 Hs11 Gs11 rfl W13 3 rfl (Nat.le_of_ble_eq_true rfl)
  have N13 := Fr.snoc X13 N10 g_b1
  have Z13 : n0 ≤ h13.size := by rw [W13.size]; exact Z10
  obtain ⟨Lo13, X13, N13⟩ := own_forget X13 N13
  obtain ⟨cl14, Ar14, qc14, Sz14, Nn14, Hs14, Gs14⟩ := V13
  have F15 : Arv Z h13 b1 k1 .int (14 : Int32) [(.int (1 : Int32)), (.int (9 : Int32)), (.int (10 : Int32)), (.int (13 : Int32)), (.int (0 : Int32)), (.int (0 : Int32)), (.int (0 : Int32)), (.int (0 : Int32)), (.int (0 : Int32)), (.int (0 : Int32)), (.int (0 : Int32)), (.int (0 : Int32)), (.int (0 : Int32)), (.int (0 : Int32))] (.int (0 : Int32)) := ⟨cl14, Ar14, qc14, Sz14, Nn14, Hs14, Gs14⟩
  obtain ⟨T16, h16, X16, e16, W16, st16⟩ := stI X13 hx hZ e13 Ar14 (j := (4 : Int32)) (inb_of Sz14 ⟨by decide, by decide⟩) (g := (mkF m 27 #[.val (.int p1), .val (.int p2), .val (.int p3), .unset, .unset, .unset] [(.int (31 : Int32)), (.int (4 : Int32)), (.ref b1), (.ref b1)])) rfl rfl (hb hby at_27)
  have V16 : Arv Z h16 b1 k1 .int (14 : Int32) [(.int (1 : Int32)), (.int (9 : Int32)), (.int (10 : Int32)), (.int (13 : Int32)), (.int (31 : Int32)), (.int (0 : Int32)), (.int (0 : Int32)), (.int (0 : Int32)), (.int (0 : Int32)), (.int (0 : Int32)), (.int (0 : Int32)), (.int (0 : Int32)), (.int (0 : Int32)), (.int (0 : Int32))] (.int (0 : Int32)) := Arv.set Ar14 qc14 Sz14 Nn14 Hs14 Gs14 rfl W16 4 rfl (Nat.le_of_ble_eq_true rfl)
  have N16 := Fr.snoc X16 N13 g_b1
  have Z16 : n0 ≤ h16.size := by rw [W16.size]; exact Z13
  obtain ⟨Lo16, X16, N16⟩ := own_forget X16 N16
  obtain ⟨cl17, Ar17, qc17, Sz17, Nn17, Hs17, Gs17⟩ := V16
  have F18 : Arv Z h16 b1 k1 .int (14 : Int32) [(.int (1 : Int32)), (.int (9 : Int32)), (.int (10 : Int32)), (.int (13 : Int32)), (.int (31 : Int32)), (.int (0 : Int32)), (.int (0 : Int32)), (.int (0 : Int32)), (.int (0 : Int32)), (.int (0 : Int32)), (.int (0 : Int32)), (.int (0 : Int32)), (.int (0 : Int32)), (.int (0 : Int32))] (.int (0 : Int32)) := ⟨cl17, Ar17, qc17, Sz17, Nn17, Hs17, Gs17⟩
  obtain ⟨T19, h19, X19, e19, W19, st19⟩ := stI X16 hx hZ e16 Ar17 (j := (5 : Int32)) (inb_of Sz17 ⟨by decide, by decide⟩) (g := (mkF m 32 #[.val (.int p1), .val (.int p2), .val (.int p3), .unset, .unset, .unset] [(.int (32 : Int32)), (.int (5 : Int32)), (.ref b1), (.ref b1)])) rfl rfl (hb hby at_32)
  have V19 : Arv Z h19 b1 k1 .int (14 : Int32) [(.int (1 : Int32)), (.int (9 : Int32)), (.int (10 : Int32)), (.int (13 : Int32)), (.int (31 : Int32)), (.int (32 : Int32)), (.int (0 : Int32)), (.int (0 : Int32)), (.int (0 : Int32)), (.int (0 : Int32)), (.int (0 : Int32)), (.int (0 : Int32)), (.int (0 : Int32)), (.int (0 : Int32))] (.int (0 : Int32)) := Arv.set Ar17 qc17 Sz17 Nn17 Hs17 Gs17 rfl W19 5 rfl (Nat.le_of_ble_eq_true rfl)
  have N19 := Fr.snoc X19 N16 g_b1
  have Z19 : n0 ≤ h19.size := by rw [W19.size]; exact Z16
  obtain ⟨Lo19, X19, N19⟩ := own_forget X19 N19
  obtain ⟨cl20, Ar20, qc20, Sz20, Nn20, Hs20, Gs20⟩ := V19
  have F21 : Arv Z h19 b1 k1 .int (14 : Int32) [(.int (1 : Int32)), (.int (9 : Int32)), (.int (10 : Int32)), (.int (13 : Int32)), (.int (31 : Int32)), (.int (32 : Int32)), (.int (0 : Int32)), (.int (0 : Int32)), (.int (0 : Int32)), (.int (0 : Int32)), (.int (0 : Int32)), (.int (0 : Int32)), (.int (0 : Int32)), (.int (0 : Int32))] (.int (0 : Int32)) := ⟨cl20, Ar20, qc20, Sz20, Nn20, Hs20, Gs20⟩
  obtain ⟨T22, h22, X22, e22, W22, st22⟩ := stI X19 hx hZ e19 Ar20 (j := (6 : Int32)) (inb_of Sz20 ⟨by decide, by decide⟩) (g := (mkF m 38 #[.val (.int p1), .val (.int p2), .val (.int p3), .unset, .unset, .unset] [(.int (55295 : Int32)), (.int (6 : Int32)), (.ref b1), (.ref b1)])) rfl rfl (hb hby at_38)
  have V22 : Arv Z h22 b1 k1 .int (14 : Int32) [(.int (1 : Int32)), (.int (9 : Int32)), (.int (10 : Int32)), (.int (13 : Int32)), (.int (31 : Int32)), (.int (32 : Int32)), (.int (55295 : Int32)), (.int (0 : Int32)), (.int (0 : Int32)), (.int (0 : Int32)), (.int (0 : Int32)), (.int (0 : Int32)), (.int (0 : Int32)), (.int (0 : Int32))] (.int (0 : Int32)) := Arv.set Ar20 qc20 Sz20 Nn20 Hs20 Gs20 rfl W22 6 rfl (Nat.le_of_ble_eq_true rfl)
  have N22 := Fr.snoc X22 N19 g_b1
  have Z22 : n0 ≤ h22.size := by rw [W22.size]; exact Z19
  obtain ⟨Lo22, X22, N22⟩ := own_forget X22 N22
  obtain ⟨cl23, Ar23, qc23, Sz23, Nn23, Hs23, Gs23⟩ := V22
  have F24 : Arv Z h22 b1 k1 .int (14 : Int32) [(.int (1 : Int32)), (.int (9 : Int32)), (.int (10 : Int32)), (.int (13 : Int32)), (.int (31 : Int32)), (.int (32 : Int32)), (.int (55295 : Int32)), (.int (0 : Int32)), (.int (0 : Int32)), (.int (0 : Int32)), (.int (0 : Int32)), (.int (0 : Int32)), (.int (0 : Int32)), (.int (0 : Int32))] (.int (0 : Int32)) := ⟨cl23, Ar23, qc23, Sz23, Nn23, Hs23, Gs23⟩
  obtain ⟨T25, h25, X25, e25, W25, st25⟩ := stI X22 hx hZ e22 Ar23 (j := (7 : Int32)) (inb_of Sz23 ⟨by decide, by decide⟩) (g := (mkF m 44 #[.val (.int p1), .val (.int p2), .val (.int p3), .unset, .unset, .unset] [(.int (55296 : Int32)), (.int (7 : Int32)), (.ref b1), (.ref b1)])) rfl rfl (hb hby at_44)
  have V25 : Arv Z h25 b1 k1 .int (14 : Int32) [(.int (1 : Int32)), (.int (9 : Int32)), (.int (10 : Int32)), (.int (13 : Int32)), (.int (31 : Int32)), (.int (32 : Int32)), (.int (55295 : Int32)), (.int (55296 : Int32)), (.int (0 : Int32)), (.int (0 : Int32)), (.int (0 : Int32)), (.int (0 : Int32)), (.int (0 : Int32)), (.int (0 : Int32))] (.int (0 : Int32)) := Arv.set Ar23 qc23 Sz23 Nn23 Hs23 Gs23 rfl W25 7 rfl (Nat.le_of_ble_eq_true rfl)
  have N25 := Fr.snoc X25 N22 g_b1
  have Z25 : n0 ≤ h25.size := by rw [W25.size]; exact Z22
  obtain ⟨Lo25, X25, N25⟩ := own_forget X25 N25
  obtain ⟨cl26, Ar26, qc26, Sz26, Nn26, Hs26, Gs26⟩ := V25
  have F27 : Arv Z h25 b1 k1 .int (14 : Int32) [(.int (1 : Int32)), (.int (9 : Int32)), (.int (10 : Int32)), (.int (13 : Int32)), (.int (31 : Int32)), (.int (32 : Int32)), (.int (55295 : Int32)), (.int (55296 : Int32)), (.int (0 : Int32)), (.int (0 : Int32)), (.int (0 : Int32)), (.int (0 : Int32)), (.int (0 : Int32)), (.int (0 : Int32))] (.int (0 : Int32)) := ⟨cl26, Ar26, qc26, Sz26, Nn26, Hs26, Gs26⟩
  obtain ⟨T28, h28, X28, e28, W28, st28⟩ := stI X25 hx hZ e25 Ar26 (j := (8 : Int32)) (inb_of Sz26 ⟨by decide, by decide⟩) (g := (mkF m 50 #[.val (.int p1), .val (.int p2), .val (.int p3), .unset, .unset, .unset] [(.int (57343 : Int32)), (.int (8 : Int32)), (.ref b1), (.ref b1)])) rfl rfl (hb hby at_50)
  have V28 : Arv Z h28 b1 k1 .int (14 : Int32) [(.int (1 : Int32)), (.int (9 : Int32)), (.int (10 : Int32)), (.int (13 : Int32)), (.int (31 : Int32)), (.int (32 : Int32)), (.int (55295 : Int32)), (.int (55296 : Int32)), (.int (57343 : Int32)), (.int (0 : Int32)), (.int (0 : Int32)), (.int (0 : Int32)), (.int (0 : Int32)), (.int (0 : Int32))] (.int (0 : Int32)) := Arv.set Ar26 qc26 Sz26 Nn26 Hs26 Gs26 rfl W28 8 rfl (Nat.le_of_ble_eq_true rfl)
  have N28 := Fr.snoc X28 N25 g_b1
  have Z28 : n0 ≤ h28.size := by rw [W28.size]; exact Z25
  obtain ⟨Lo28, X28, N28⟩ := own_forget X28 N28
  obtain ⟨cl29, Ar29, qc29, Sz29, Nn29, Hs29, Gs29⟩ := V28
  have F30 : Arv Z h28 b1 k1 .int (14 : Int32) [(.int (1 : Int32)), (.int (9 : Int32)), (.int (10 : Int32)), (.int (13 : Int32)), (.int (31 : Int32)), (.int (32 : Int32)), (.int (55295 : Int32)), (.int (55296 : Int32)), (.int (57343 : Int32)), (.int (0 : Int32)), (.int (0 : Int32)), (.int (0 : Int32)), (.int (0 : Int32)), (.int (0 : Int32))] (.int (0 : Int32)) := ⟨cl29, Ar29, qc29, Sz29, Nn29, Hs29, Gs29⟩
  obtain ⟨T31, h31, X31, e31, W31, st31⟩ := stI X28 hx hZ e28 Ar29 (j := (9 : Int32)) (inb_of Sz29 ⟨by decide, by decide⟩) (g := (mkF m 56 #[.val (.int p1), .val (.int p2), .val (.int p3), .unset, .unset, .unset] [(.int (57344 : Int32)), (.int (9 : Int32)), (.ref b1), (.ref b1)])) rfl rfl (hb hby at_56)
  have V31 : Arv Z h31 b1 k1 .int (14 : Int32) [(.int (1 : Int32)), (.int (9 : Int32)), (.int (10 : Int32)), (.int (13 : Int32)), (.int (31 : Int32)), (.int (32 : Int32)), (.int (55295 : Int32)), (.int (55296 : Int32)), (.int (57343 : Int32)), (.int (57344 : Int32)), (.int (0 : Int32)), (.int (0 : Int32)), (.int (0 : Int32)), (.int (0 : Int32))] (.int (0 : Int32)) := Arv.set Ar29 qc29 Sz29 Nn29 Hs29 Gs29 rfl W31 9 rfl (Nat.le_of_ble_eq_true rfl)
  have N31 := Fr.snoc X31 N28 g_b1
  have Z31 : n0 ≤ h31.size := by rw [W31.size]; exact Z28
  obtain ⟨Lo31, X31, N31⟩ := own_forget X31 N31
  obtain ⟨cl32, Ar32, qc32, Sz32, Nn32, Hs32, Gs32⟩ := V31
  have F33 : Arv Z h31 b1 k1 .int (14 : Int32) [(.int (1 : Int32)), (.int (9 : Int32)), (.int (10 : Int32)), (.int (13 : Int32)), (.int (31 : Int32)), (.int (32 : Int32)), (.int (55295 : Int32)), (.int (55296 : Int32)), (.int (57343 : Int32)), (.int (57344 : Int32)), (.int (0 : Int32)), (.int (0 : Int32)), (.int (0 : Int32)), (.int (0 : Int32))] (.int (0 : Int32)) := ⟨cl32, Ar32, qc32, Sz32, Nn32, Hs32, Gs32⟩
  obtain ⟨T34, h34, X34, e34, W34, st34⟩ := stI X31 hx hZ e31 Ar32 (j := (10 : Int32)) (inb_of Sz32 ⟨by decide, by decide⟩) (g := (mkF m 62 #[.val (.int p1), .val (.int p2), .val (.int p3), .unset, .unset, .unset] [(.int (65533 : Int32)), (.int (10 : Int32)), (.ref b1), (.ref b1)])) rfl rfl (hb hby at_62)
  have V34 : Arv Z h34 b1 k1 .int (14 : Int32) [(.int (1 : Int32)), (.int (9 : Int32)), (.int (10 : Int32)), (.int (13 : Int32)), (.int (31 : Int32)), (.int (32 : Int32)), (.int (55295 : Int32)), (.int (55296 : Int32)), (.int (57343 : Int32)), (.int (57344 : Int32)), (.int (65533 : Int32)), (.int (0 : Int32)), (.int (0 : Int32)), (.int (0 : Int32))] (.int (0 : Int32)) := Arv.set Ar32 qc32 Sz32 Nn32 Hs32 Gs32 rfl W34 10 rfl (Nat.le_of_ble_eq_true rfl)
  have N34 := Fr.snoc X34 N31 g_b1
  have Z34 : n0 ≤ h34.size := by rw [W34.size]; exact Z31
  obtain ⟨Lo34, X34, N34⟩ := own_forget X34 N34
  obtain ⟨cl35, Ar35, qc35, Sz35, Nn35, Hs35, Gs35⟩ := V34
  have F36 : Arv Z h34 b1 k1 .int (14 : Int32) [(.int (1 : Int32)), (.int (9 : Int32)), (.int (10 : Int32)), (.int (13 : Int32)), (.int (31 : Int32)), (.int (32 : Int32)), (.int (55295 : Int32)), (.int (55296 : Int32)), (.int (57343 : Int32)), (.int (57344 : Int32)), (.int (65533 : Int32)), (.int (0 : Int32)), (.int (0 : Int32)), (.int (0 : Int32))] (.int (0 : Int32)) := ⟨cl35, Ar35, qc35, Sz35, Nn35, Hs35, Gs35⟩
  obtain ⟨T37, h37, X37, e37, W37, st37⟩ := stI X34 hx hZ e34 Ar35 (j := (11 : Int32)) (inb_of Sz35 ⟨by decide, by decide⟩) (g := (mkF m 68 #[.val (.int p1), .val (.int p2), .val (.int p3), .unset, .unset, .unset] [(.int (65534 : Int32)), (.int (11 : Int32)), (.ref b1), (.ref b1)])) rfl rfl (hb hby at_68)
  have V37 : Arv Z h37 b1 k1 .int (14 : Int32) [(.int (1 : Int32)), (.int (9 : Int32)), (.int (10 : Int32)), (.int (13 : Int32)), (.int (31 : Int32)), (.int (32 : Int32)), (.int (55295 : Int32)), (.int (55296 : Int32)), (.int (57343 : Int32)), (.int (57344 : Int32)), (.int (65533 : Int32)), (.int (65534 : Int32)), (.int (0 : Int32)), (.int (0 : Int32))] (.int (0 : Int32)) := Arv.set Ar35 qc35 Sz35 Nn35 Hs35 Gs35 rfl W37 11 rfl (Nat.le_of_ble_eq_true rfl)
  have N37 := Fr.snoc X37 N34 g_b1
  have Z37 : n0 ≤ h37.size := by rw [W37.size]; exact Z34
  obtain ⟨Lo37, X37, N37⟩ := own_forget X37 N37
  obtain ⟨cl38, Ar38, qc38, Sz38, Nn38, Hs38, Gs38⟩ := V37
  have F39 : Arv Z h37 b1 k1 .int (14 : Int32) [(.int (1 : Int32)), (.int (9 : Int32)), (.int (10 : Int32)), (.int (13 : Int32)), (.int (31 : Int32)), (.int (32 : Int32)), (.int (55295 : Int32)), (.int (55296 : Int32)), (.int (57343 : Int32)), (.int (57344 : Int32)), (.int (65533 : Int32)), (.int (65534 : Int32)), (.int (0 : Int32)), (.int (0 : Int32))] (.int (0 : Int32)) := ⟨cl38, Ar38, qc38, Sz38, Nn38, Hs38, Gs38⟩
  obtain ⟨T40, h40, X40, e40, W40, st40⟩ := stI X37 hx hZ e37 Ar38 (j := (12 : Int32)) (inb_of Sz38 ⟨by decide, by decide⟩) (g := (mkF m 74 #[.val (.int p1), .val (.int p2), .val (.int p3), .unset, .unset, .unset] [(.int (65536 : Int32)), (.int (12 : Int32)), (.ref b1), (.ref b1)])) rfl rfl (hb hby at_74)
  have V40 : Arv Z h40 b1 k1 .int (14 : Int32) [(.int (1 : Int32)), (.int (9 : Int32)), (.int (10 : Int32)), (.int (13 : Int32)), (.int (31 : Int32)), (.int (32 : Int32)), (.int (55295 : Int32)), (.int (55296 : Int32)), (.int (57343 : Int32)), (.int (57344 : Int32)), (.int (65533 : Int32)), (.int (65534 : Int32)), (.int (65536 : Int32)), (.int (0 : Int32))] (.int (0 : Int32)) := Arv.set Ar38 qc38 Sz38 Nn38 Hs38 Gs38 rfl W40 12 rfl (Nat.le_of_ble_eq_true rfl)
  have N40 := Fr.snoc X40 N37 g_b1
  have Z40 : n0 ≤ h40.size := by rw [W40.size]; exact Z37
  obtain ⟨Lo40, X40, N40⟩ := own_forget X40 N40
  obtain ⟨cl41, Ar41, qc41, Sz41, Nn41, Hs41, Gs41⟩ := V40
  have F42 : Arv Z h40 b1 k1 .int (14 : Int32) [(.int (1 : Int32)), (.int (9 : Int32)), (.int (10 : Int32)), (.int (13 : Int32)), (.int (31 : Int32)), (.int (32 : Int32)), (.int (55295 : Int32)), (.int (55296 : Int32)), (.int (57343 : Int32)), (.int (57344 : Int32)), (.int (65533 : Int32)), (.int (65534 : Int32)), (.int (65536 : Int32)), (.int (0 : Int32))] (.int (0 : Int32)) := ⟨cl41, Ar41, qc41, Sz41, Nn41, Hs41, Gs41⟩
  obtain ⟨T43, h43, X43, e43, W43, st43⟩ := stI X40 hx hZ e40 Ar41 (j := (13 : Int32)) (inb_of Sz41 ⟨by decide, by decide⟩) (g := (mkF m 80 #[.val (.int p1), .val (.int p2), .val (.int p3), .unset, .unset, .unset] [(.int (1114110 : Int32)), (.int (13 : Int32)), (.ref b1), (.ref b1)])) rfl rfl (hb hby at_80)
  have V43 : Arv Z h43 b1 k1 .int (14 : Int32) [(.int (1 : Int32)), (.int (9 : Int32)), (.int (10 : Int32)), (.int (13 : Int32)), (.int (31 : Int32)), (.int (32 : Int32)), (.int (55295 : Int32)), (.int (55296 : Int32)), (.int (57343 : Int32)), (.int (57344 : Int32)), (.int (65533 : Int32)), (.int (65534 : Int32)), (.int (65536 : Int32)), (.int (1114110 : Int32))] (.int (0 : Int32)) := Arv.set Ar41 qc41 Sz41 Nn41 Hs41 Gs41 rfl W43 13 rfl (Nat.le_of_ble_eq_true rfl)
  have N43 := Fr.snoc X43 N40 g_b1
  have Z43 : n0 ≤ h43.size := by rw [W43.size]; exact Z40
  obtain ⟨Lo43, X43, N43⟩ := own_forget X43 N43
  obtain ⟨cl44, Ar44, qc44, Sz44, Nn44, Hs44, Gs44⟩ := V43
  have F45 : Arv Z h43 b1 k1 .int (14 : Int32) [(.int (1 : Int32)), (.int (9 : Int32)), (.int (10 : Int32)), (.int (13 : Int32)), (.int (31 : Int32)), (.int (32 : Int32)), (.int (55295 : Int32)), (.int (55296 : Int32)), (.int (57343 : Int32)), (.int (57344 : Int32)), (.int (65533 : Int32)), (.int (65534 : Int32)), (.int (65536 : Int32)), (.int (1114110 : Int32))] (.int (0 : Int32)) := ⟨cl44, Ar44, qc44, Sz44, Nn44, Hs44, Gs44⟩
  have hin_44 : ¬ ((v0_109 p1) < 0 ∨ cl44.slots.size ≤ ((v0_109 p1)).toNatClampNeg) := inb_of Sz44 (own_idx p1)
  obtain ⟨w44, hv_44⟩ : ∃ z : Int32, ([(.int (1 : Int32)), (.int (9 : Int32)), (.int (10 : Int32)), (.int (13 : Int32)), (.int (31 : Int32)), (.int (32 : Int32)), (.int (55295 : Int32)), (.int (55296 : Int32)), (.int (57343 : Int32)), (.int (57344 : Int32)), (.int (65533 : Int32)), (.int (65534 : Int32)), (.int (65536 : Int32)), (.int (1114110 : Int32))] : List Value).getD ((v0_109 p1)).toNatClampNeg (.int (0 : Int32)) = .int z := own_ints [(1 : Int32), (9 : Int32), (10 : Int32), (13 : Int32), (31 : Int32), (32 : Int32), (55295 : Int32), (55296 : Int32), (57343 : Int32), (57344 : Int32), (65533 : Int32), (65534 : Int32), (65536 : Int32), (1114110 : Int32)] _
  have hat_44 : cl44.slots[((v0_109 p1)).toNatClampNeg]? = some (.int w44) := by rw [← hv_44]; exact Hs44 _ (Nat.not_le.mp fun q => hin_44 (Or.inr q))
  have sg0_82 : ∀ t, Steps p.tables e below (T43.setTop (mkF m 126 #[.val (.int p1), .val (.int p2), .val (.int p3), .val (.ref b1), .val (.int (j0_126_l4 p1 p2 p3 w44)), (j0_126_l5 p1)] [])) t → Steps p.tables e below (T43.setTop (mkF m 82 #[.val (.int p1), .val (.int p2), .val (.int p3), .val (.ref b1), .unset, .unset] [])) t := by
    intro t k
    refine XS.iloadN X43.here hx rfl (hb hby at_82) rfl ?_
    show Steps p.tables e below (T43.setTop (mkF m 83 #[.val (.int p1), .val (.int p2), .val (.int p3), .val (.ref b1), .unset, .unset] [(.int p1)])) _
    refine XS.iconst X43.here hx rfl (hb hby at_83) ?_
    show Steps p.tables e below (T43.setTop (mkF m 84 #[.val (.int p1), .val (.int p2), .val (.int p3), .val (.ref b1), .unset, .unset] [(.int (1 : Int32)), (.int p1)])) _
    refine XS.iand X43.here hx rfl (hb hby at_84) rfl ?_
    show Steps p.tables e below (T43.setTop (mkF m 85 #[.val (.int p1), .val (.int p2), .val (.int p3), .val (.ref b1), .unset, .unset] [(.int (p1 &&& (1 : Int32)))])) _
    by_cases hc85 : (p1 &&& (1 : Int32)) = (0 : Int32)
    · refine XS.ifNo X43.here hx rfl (hb hby at_85) rfl ((if0 _ _).trans (teq hc85).2) ?_
      show Steps p.tables e below (T43.setTop (mkF m 88 #[.val (.int p1), .val (.int p2), .val (.int p3), .val (.ref b1), .unset, .unset] [])) _
      refine XS.iloadN X43.here hx rfl (hb hby at_88) rfl ?_
      show Steps p.tables e below (T43.setTop (mkF m 89 #[.val (.int p1), .val (.int p2), .val (.int p3), .val (.ref b1), .unset, .unset] [(.int p3)])) _
      refine X43.ldcInt hx hown (mvT hZ (hw _ (List.mem_of_getElem? (i := 9) rfl))) (g := (mkF m 89 #[.val (.int p1), .val (.int p2), .val (.int p3), .val (.ref b1), .unset, .unset] [(.int p3)])) rfl (hb hby at_89) _ ?_
      show Steps p.tables e below (T43.setTop (mkF m 91 #[.val (.int p1), .val (.int p2), .val (.int p3), .val (.ref b1), .unset, .unset] [(.int (2147483647 : Int32)), (.int p3)])) _
      refine XS.iand X43.here hx rfl (hb hby at_91) rfl ?_
      show Steps p.tables e below (T43.setTop (mkF m 92 #[.val (.int p1), .val (.int p2), .val (.int p3), .val (.ref b1), .unset, .unset] [(.int (p3 &&& (2147483647 : Int32)))])) _
      refine X43.ldcInt hx hown (mvT hZ (hw _ (List.mem_of_getElem? (i := 10) rfl))) (g := (mkF m 92 #[.val (.int p1), .val (.int p2), .val (.int p3), .val (.ref b1), .unset, .unset] [(.int (p3 &&& (2147483647 : Int32)))])) rfl (hb hby at_92) _ ?_
      show Steps p.tables e below (T43.setTop (mkF m 94 #[.val (.int p1), .val (.int p2), .val (.int p3), .val (.ref b1), .unset, .unset] [(.int (1114112 : Int32)), (.int (p3 &&& (2147483647 : Int32)))])) _
      refine iremM X43 hx rfl (hb hby at_94) rfl (by decide) ?_
      show Steps p.tables e below (T43.setTop (mkF m 95 #[.val (.int p1), .val (.int p2), .val (.int p3), .val (.ref b1), .unset, .unset] [(.int ((p3 &&& (2147483647 : Int32)) % (1114112 : Int32)))])) _
      show Steps p.tables e below (T43.setTop (mkF m 95 #[.val (.int p1), .val (.int p2), .val (.int p3), .val (.ref b1), .unset, .unset] [(.int (v0_95 p3))])) _
      refine XS.istore X43.here hx rfl (hb hby at_95) rfl (l' := #[.val (.int p1), .val (.int p2), .val (.int p3), .val (.ref b1), .val (.int (v0_95 p3)), .unset]) rfl ?_
      show Steps p.tables e below (T43.setTop (mkF m 97 #[.val (.int p1), .val (.int p2), .val (.int p3), .val (.ref b1), .val (.int (v0_95 p3)), .unset] [])) _
      refine XS.goto X43.here hx rfl (pc0 := 97) (pc' := 126) rfl (hb hby at_97) (by decide) (by decide) ?_
      show Steps p.tables e below (T43.setTop (mkF m 126 #[.val (.int p1), .val (.int p2), .val (.int p3), .val (.ref b1), .val (.int (v0_95 p3)), .unset] [])) _
      have q_j0_126_l4 : (j0_126_l4 p1 p2 p3 w44) = (v0_95 p3) := by unfold j0_126_l4; rw [if_pos hc85]
      have q_j0_126_l5 : (j0_126_l5 p1) = (.unset) := by unfold j0_126_l5; rw [if_pos hc85]
      rw [q_j0_126_l4, q_j0_126_l5] at k
      exact k
    · refine XS.ifYes X43.here hx rfl (pc0 := 85) (pc' := 100) rfl (hb hby at_85) rfl ((if0 _ _).trans (feq hc85).2) (by decide) (by decide) ?_
      show Steps p.tables e below (T43.setTop (mkF m 100 #[.val (.int p1), .val (.int p2), .val (.int p3), .val (.ref b1), .unset, .unset] [])) _
      refine XS.iloadN X43.here hx rfl (hb hby at_100) rfl ?_
      show Steps p.tables e below (T43.setTop (mkF m 101 #[.val (.int p1), .val (.int p2), .val (.int p3), .val (.ref b1), .unset, .unset] [(.int p1)])) _
      refine XS.iconst X43.here hx rfl (hb hby at_101) ?_
      show Steps p.tables e below (T43.setTop (mkF m 102 #[.val (.int p1), .val (.int p2), .val (.int p3), .val (.ref b1), .unset, .unset] [(.int (1 : Int32)), (.int p1)])) _
      refine XS.iushr X43.here hx rfl (hb hby at_102) rfl ?_
      show Steps p.tables e below (T43.setTop (mkF m 103 #[.val (.int p1), .val (.int p2), .val (.int p3), .val (.ref b1), .unset, .unset] [(.int ((p1.toUInt32 >>> ((1 : Int32) &&& 31).toUInt32).toInt32))])) _
      refine X43.ldcInt hx hown (mvT hZ (hw _ (List.mem_of_getElem? (i := 21) rfl))) (g := (mkF m 103 #[.val (.int p1), .val (.int p2), .val (.int p3), .val (.ref b1), .unset, .unset] [(.int ((p1.toUInt32 >>> ((1 : Int32) &&& 31).toUInt32).toInt32))])) rfl (hb hby at_103) _ ?_
      show Steps p.tables e below (T43.setTop (mkF m 105 #[.val (.int p1), .val (.int p2), .val (.int p3), .val (.ref b1), .unset, .unset] [(.int (1073741823 : Int32)), (.int ((p1.toUInt32 >>> ((1 : Int32) &&& 31).toUInt32).toInt32))])) _
      refine XS.iand X43.here hx rfl (hb hby at_105) rfl ?_
      show Steps p.tables e below (T43.setTop (mkF m 106 #[.val (.int p1), .val (.int p2), .val (.int p3), .val (.ref b1), .unset, .unset] [(.int (((p1.toUInt32 >>> ((1 : Int32) &&& 31).toUInt32).toInt32) &&& (1073741823 : Int32)))])) _
      refine XS.aloadN X43.here hx rfl (hb hby at_106) rfl rfl ?_
      show Steps p.tables e below (T43.setTop (mkF m 107 #[.val (.int p1), .val (.int p2), .val (.int p3), .val (.ref b1), .unset, .unset] [(.ref b1), (.int (((p1.toUInt32 >>> ((1 : Int32) &&& 31).toUInt32).toInt32) &&& (1073741823 : Int32)))])) _
      refine X43.arraylength hx (by rw [e43]; exact Ar44.1) (State.isArrayOf_alike hZ.alike Ar44.2.1) (g := (mkF m 107 #[.val (.int p1), .val (.int p2), .val (.int p3), .val (.ref b1), .unset, .unset] [(.ref b1), (.int (((p1.toUInt32 >>> ((1 : Int32) &&& 31).toUInt32).toInt32) &&& (1073741823 : Int32)))])) rfl rfl (hb hby at_107) _ ?_
      rw [len_of Sz44 Nn44]
      show Steps p.tables e below (T43.setTop (mkF m 108 #[.val (.int p1), .val (.int p2), .val (.int p3), .val (.ref b1), .unset, .unset] [(.int (14 : Int32)), (.int (((p1.toUInt32 >>> ((1 : Int32) &&& 31).toUInt32).toInt32) &&& (1073741823 : Int32)))])) _
      refine iremM X43 hx rfl (hb hby at_108) rfl (by decide) ?_
      show Steps p.tables e below (T43.setTop (mkF m 109 #[.val (.int p1), .val (.int p2), .val (.int p3), .val (.ref b1), .unset, .unset] [(.int ((((p1.toUInt32 >>> ((1 : Int32) &&& 31).toUInt32).toInt32) &&& (1073741823 : Int32)) % (14 : Int32)))])) _
      show Steps p.tables e below (T43.setTop (mkF m 109 #[.val (.int p1), .val (.int p2), .val (.int p3), .val (.ref b1), .unset, .unset] [(.int (v0_109 p1))])) _
      refine XS.istore X43.here hx rfl (hb hby at_109) rfl (l' := #[.val (.int p1), .val (.int p2), .val (.int p3), .val (.ref b1), .unset, .val (.int (v0_109 p1))]) rfl ?_
      show Steps p.tables e below (T43.setTop (mkF m 111 #[.val (.int p1), .val (.int p2), .val (.int p3), .val (.ref b1), .unset, .val (.int (v0_109 p1))] [])) _
      refine XS.aloadN X43.here hx rfl (hb hby at_111) rfl rfl ?_
      show Steps p.tables e below (T43.setTop (mkF m 112 #[.val (.int p1), .val (.int p2), .val (.int p3), .val (.ref b1), .unset, .val (.int (v0_109 p1))] [(.ref b1)])) _
      refine XS.iload X43.here hx rfl (hb hby at_112) rfl ?_
      show Steps p.tables e below (T43.setTop (mkF m 114 #[.val (.int p1), .val (.int p2), .val (.int p3), .val (.ref b1), .unset, .val (.int (v0_109 p1))] [(.int (v0_109 p1)), (.ref b1)])) _
      refine X43.iaload hx (j := (v0_109 p1)) (v := (.int w44)) (by rw [e43]; exact Ar44.1) (State.isArrayOf_alike hZ.alike Ar44.2.1) Ar44.2.2 hin_44 hat_44 (g := (mkF m 114 #[.val (.int p1), .val (.int p2), .val (.int p3), .val (.ref b1), .unset, .val (.int (v0_109 p1))] [(.int (v0_109 p1)), (.ref b1)])) rfl rfl (hb hby at_114) _ ?_
      show Steps p.tables e below (T43.setTop (mkF m 115 #[.val (.int p1), .val (.int p2), .val (.int p3), .val (.ref b1), .unset, .val (.int (v0_109 p1))] [(.int w44)])) _
      refine XS.iloadN X43.here hx rfl (hb hby at_115) rfl ?_
      show Steps p.tables e below (T43.setTop (mkF m 116 #[.val (.int p1), .val (.int p2), .val (.int p3), .val (.ref b1), .unset, .val (.int (v0_109 p1))] [(.int p2), (.int w44)])) _
      refine X43.ldcInt hx hown (mvT hZ (hw _ (List.mem_of_getElem? (i := 9) rfl))) (g := (mkF m 116 #[.val (.int p1), .val (.int p2), .val (.int p3), .val (.ref b1), .unset, .val (.int (v0_109 p1))] [(.int p2), (.int w44)])) rfl (hb hby at_116) _ ?_
      show Steps p.tables e below (T43.setTop (mkF m 118 #[.val (.int p1), .val (.int p2), .val (.int p3), .val (.ref b1), .unset, .val (.int (v0_109 p1))] [(.int (2147483647 : Int32)), (.int p2), (.int w44)])) _
      refine XS.iand X43.here hx rfl (hb hby at_118) rfl ?_
      show Steps p.tables e below (T43.setTop (mkF m 119 #[.val (.int p1), .val (.int p2), .val (.int p3), .val (.ref b1), .unset, .val (.int (v0_109 p1))] [(.int (p2 &&& (2147483647 : Int32))), (.int w44)])) _
      refine XS.iconst X43.here hx rfl (hb hby at_119) ?_
      show Steps p.tables e below (T43.setTop (mkF m 120 #[.val (.int p1), .val (.int p2), .val (.int p3), .val (.ref b1), .unset, .val (.int (v0_109 p1))] [(.int (3 : Int32)), (.int (p2 &&& (2147483647 : Int32))), (.int w44)])) _
      refine iremM X43 hx rfl (hb hby at_120) rfl (by decide) ?_
      show Steps p.tables e below (T43.setTop (mkF m 121 #[.val (.int p1), .val (.int p2), .val (.int p3), .val (.ref b1), .unset, .val (.int (v0_109 p1))] [(.int ((p2 &&& (2147483647 : Int32)) % (3 : Int32))), (.int w44)])) _
      refine XS.iadd X43.here hx rfl (hb hby at_121) rfl ?_
      show Steps p.tables e below (T43.setTop (mkF m 122 #[.val (.int p1), .val (.int p2), .val (.int p3), .val (.ref b1), .unset, .val (.int (v0_109 p1))] [(.int (w44 + ((p2 &&& (2147483647 : Int32)) % (3 : Int32))))])) _
      refine XS.iconst X43.here hx rfl (hb hby at_122) ?_
      show Steps p.tables e below (T43.setTop (mkF m 123 #[.val (.int p1), .val (.int p2), .val (.int p3), .val (.ref b1), .unset, .val (.int (v0_109 p1))] [(.int (1 : Int32)), (.int (w44 + ((p2 &&& (2147483647 : Int32)) % (3 : Int32))))])) _
      refine XS.isub X43.here hx rfl (hb hby at_123) rfl ?_
      show Steps p.tables e below (T43.setTop (mkF m 124 #[.val (.int p1), .val (.int p2), .val (.int p3), .val (.ref b1), .unset, .val (.int (v0_109 p1))] [(.int ((w44 + ((p2 &&& (2147483647 : Int32)) % (3 : Int32))) - (1 : Int32)))])) _
      show Steps p.tables e below (T43.setTop (mkF m 124 #[.val (.int p1), .val (.int p2), .val (.int p3), .val (.ref b1), .unset, .val (.int (v0_109 p1))] [(.int (v0_124 p2 w44))])) _
      refine XS.istore X43.here hx rfl (hb hby at_124) rfl (l' := #[.val (.int p1), .val (.int p2), .val (.int p3), .val (.ref b1), .val (.int (v0_124 p2 w44)), .val (.int (v0_109 p1))]) rfl ?_
      show Steps p.tables e below (T43.setTop (mkF m 126 #[.val (.int p1), .val (.int p2), .val (.int p3), .val (.ref b1), .val (.int (v0_124 p2 w44)), .val (.int (v0_109 p1))] [])) _
      have q_j0_126_l4 : (j0_126_l4 p1 p2 p3 w44) = (v0_124 p2 w44) := by unfold j0_126_l4; rw [if_neg hc85]
      have q_j0_126_l5 : (j0_126_l5 p1) = (.val (.int (v0_109 p1))) := by unfold j0_126_l5; rw [if_neg hc85]
      rw [q_j0_126_l4, q_j0_126_l5] at k
      exact k
  obtain ⟨_, _, ⟨T46, L46, k46, n46⟩, -, X46, ⟨Lc46, hQ46, l46, y46, z46⟩, st46⟩ := Jvm.LawKit.callS X43 hx (y := (⟨"com/example/cartulary/cartulary/io/IndentedXml", "canHold", "(I)Z"⟩ : MethodName)) hown (mvT hZ (hw _ (List.mem_of_getElem? (i := 11) rfl))) (mvT hZ (hw _ (List.mem_of_getElem? (i := 12) rfl))) (mvT hZ (hw _ (List.mem_of_getElem? (i := 13) rfl))) (mvT hZ (hw _ (List.mem_of_getElem? (i := 14) rfl))) (by decide) (backOf (W := 0) (rm1 l Z a0 hw [] (j0_126_l4 p1 p2 p3 w44) h43 n0 Z43) hZ (hw _ (List.mem_of_getElem? (i := 14) rfl)) (hw _ (List.mem_of_getElem? (i := 13) rfl)) (by decide) (by decide)) (g := (mkF m 128 #[.val (.int p1), .val (.int p2), .val (.int p3), .val (.ref b1), .val (.int (j0_126_l4 p1 p2 p3 w44)), (j0_126_l5 p1)] [(.int (j0_126_l4 p1 p2 p3 w44))])) rfl (by rw [hml]; rfl) (argsL := [(.int (j0_126_l4 p1 p2 p3 w44))]) (rest := []) (lenOf pd__I_Z rfl) rfl (by show 2 * 0 + _ ≤ _; exact Nat.le_of_eq rfl) (hb hby at_128) (fun _ _ => ⟨rfl, e43, (by decide : 1 + 0 ≤ _), (by decide : 14 + 0 ≤ _)⟩)
  dsimp only [Pt.U, Pt.locs, Pt.cells, Pt.slots] at X46 l46 y46 z46 st46 hQ46
  subst l46 y46 z46
  obtain ⟨rfl, Nq46, eh46⟩ := hQ46
  have N46 := Fr.app N43 Nq46
  obtain ⟨Lo46, X46, N46⟩ := own_forget X46 N46
  obtain ⟨_, _, ⟨T47, L47, k47, n47⟩, -, X47, ⟨Lc47, hQ47, l47, y47, z47⟩, st47⟩ := Jvm.LawKit.callS X46 hx (y := (⟨"com/example/cartulary/cartulary/io/IndentedXmlCanHoldPinLaw", "expected", "(I)Z"⟩ : MethodName)) hown (mvT hZ (hw _ (List.mem_of_getElem? (i := 17) rfl))) (mvT hZ (hw _ (List.mem_of_getElem? (i := 18) rfl))) (mvT hZ (hw _ (List.mem_of_getElem? (i := 19) rfl))) (mvT hZ (hw _ (List.mem_of_getElem? (i := 20) rfl))) (by decide) (backOf (W := 1) (rm2 l Z a0 hw [] (j0_126_l4 p1 p2 p3 w44) h43 n0 Z43) hZ (hw _ (List.mem_of_getElem? (i := 20) rfl)) (hw _ (List.mem_of_getElem? (i := 19) rfl)) (by decide) (by decide)) (g := (mkF m 133 #[.val (.int p1), .val (.int p2), .val (.int p3), .val (.ref b1), .val (.int (j0_126_l4 p1 p2 p3 w44)), (j0_126_l5 p1)] [(.int (j0_126_l4 p1 p2 p3 w44)), (.int (f1 (j0_126_l4 p1 p2 p3 w44)))])) rfl (by rw [hml]; rfl) (argsL := [(.int (j0_126_l4 p1 p2 p3 w44))]) (rest := [(.int (f1 (j0_126_l4 p1 p2 p3 w44)))]) (lenOf pd__I_Z rfl) rfl (by show 2 * 0 + _ ≤ _; exact Nat.le_of_eq rfl) (hb hby at_133) (fun _ _ => ⟨rfl, eh46, (by decide : 1 + 0 ≤ _), (by decide : 14 + 0 ≤ _)⟩)
  dsimp only [Pt.U, Pt.locs, Pt.cells, Pt.slots] at X47 l47 y47 z47 st47 hQ47
  subst l47 y47 z47
  obtain ⟨rfl, Nq47, eh47⟩ := hQ47
  have N47 := Fr.app N46 Nq47
  obtain ⟨Lo47, X47, N47⟩ := own_forget X47 N47
  obtain ⟨fs, hr, hrun, hended, hW, hsame⟩ := X47.leave (v := some (.int (1 : Int32))) (fun h => by rw [Bd.returns] at h; cases h)
  refine ⟨_, _, pre0 _ ?_, hrun, hended, _, _, rfl, ?_, ⟨_, rfl⟩, hW, hsame.mono (by decide) (by decide)⟩
  · show Steps p.tables e below (s₁.setTop (mkF m 0 #[.val (.int p1), .val (.int p2), .val (.int p3), .unset, .unset, .unset] [])) _
    refine XS.bipush X0.here hx rfl (hb hby at_0) ?_
    show Steps p.tables e below (s₁.setTop (mkF m 2 #[.val (.int p1), .val (.int p2), .val (.int p3), .unset, .unset, .unset] [(.int (14 : Int32))])) _
    refine st1 _ ?_
    show Steps p.tables e below (T1.setTop (mkF m 4 #[.val (.int p1), .val (.int p2), .val (.int p3), .unset, .unset, .unset] [(.ref b1)])) _
    refine XS.dup X1.here hx rfl (hb hby at_4) rfl rfl ?_
    show Steps p.tables e below (T1.setTop (mkF m 5 #[.val (.int p1), .val (.int p2), .val (.int p3), .unset, .unset, .unset] [(.ref b1), (.ref b1)])) _
    refine XS.iconst X1.here hx rfl (hb hby at_5) ?_
    show Steps p.tables e below (T1.setTop (mkF m 6 #[.val (.int p1), .val (.int p2), .val (.int p3), .unset, .unset, .unset] [(.int (0 : Int32)), (.ref b1), (.ref b1)])) _
    refine XS.iconst X1.here hx rfl (hb hby at_6) ?_
    show Steps p.tables e below (T1.setTop (mkF m 7 #[.val (.int p1), .val (.int p2), .val (.int p3), .unset, .unset, .unset] [(.int (1 : Int32)), (.int (0 : Int32)), (.ref b1), (.ref b1)])) _
    refine st4 _ ?_
    show Steps p.tables e below (T4.setTop (mkF m 8 #[.val (.int p1), .val (.int p2), .val (.int p3), .unset, .unset, .unset] [(.ref b1)])) _
    refine XS.dup X4.here hx rfl (hb hby at_8) rfl rfl ?_
    show Steps p.tables e below (T4.setTop (mkF m 9 #[.val (.int p1), .val (.int p2), .val (.int p3), .unset, .unset, .unset] [(.ref b1), (.ref b1)])) _
    refine XS.iconst X4.here hx rfl (hb hby at_9) ?_
    show Steps p.tables e below (T4.setTop (mkF m 10 #[.val (.int p1), .val (.int p2), .val (.int p3), .unset, .unset, .unset] [(.int (1 : Int32)), (.ref b1), (.ref b1)])) _
    refine XS.bipush X4.here hx rfl (hb hby at_10) ?_
    show Steps p.tables e below (T4.setTop (mkF m 12 #[.val (.int p1), .val (.int p2), .val (.int p3), .unset, .unset, .unset] [(.int (9 : Int32)), (.int (1 : Int32)), (.ref b1), (.ref b1)])) _
    refine st7 _ ?_
    show Steps p.tables e below (T7.setTop (mkF m 13 #[.val (.int p1), .val (.int p2), .val (.int p3), .unset, .unset, .unset] [(.ref b1)])) _
    refine XS.dup X7.here hx rfl (hb hby at_13) rfl rfl ?_
    show Steps p.tables e below (T7.setTop (mkF m 14 #[.val (.int p1), .val (.int p2), .val (.int p3), .unset, .unset, .unset] [(.ref b1), (.ref b1)])) _
    refine XS.iconst X7.here hx rfl (hb hby at_14) ?_
    show Steps p.tables e below (T7.setTop (mkF m 15 #[.val (.int p1), .val (.int p2), .val (.int p3), .unset, .unset, .unset] [(.int (2 : Int32)), (.ref b1), (.ref b1)])) _
    refine XS.bipush X7.here hx rfl (hb hby at_15) ?_
    show Steps p.tables e below (T7.setTop (mkF m 17 #[.val (.int p1), .val (.int p2), .val (.int p3), .unset, .unset, .unset] [(.int (10 : Int32)), (.int (2 : Int32)), (.ref b1), (.ref b1)])) _
    refine st10 _ ?_
    show Steps p.tables e below (T10.setTop (mkF m 18 #[.val (.int p1), .val (.int p2), .val (.int p3), .unset, .unset, .unset] [(.ref b1)])) _
    refine XS.dup X10.here hx rfl (hb hby at_18) rfl rfl ?_
    show Steps p.tables e below (T10.setTop (mkF m 19 #[.val (.int p1), .val (.int p2), .val (.int p3), .unset, .unset, .unset] [(.ref b1), (.ref b1)])) _
    refine XS.iconst X10.here hx rfl (hb hby at_19) ?_
    show Steps p.tables e below (T10.setTop (mkF m 20 #[.val (.int p1), .val (.int p2), .val (.int p3), .unset, .unset, .unset] [(.int (3 : Int32)), (.ref b1), (.ref b1)])) _
    refine XS.bipush X10.here hx rfl (hb hby at_20) ?_
    show Steps p.tables e below (T10.setTop (mkF m 22 #[.val (.int p1), .val (.int p2), .val (.int p3), .unset, .unset, .unset] [(.int (13 : Int32)), (.int (3 : Int32)), (.ref b1), (.ref b1)])) _
    refine st13 _ ?_
    show Steps p.tables e below (T13.setTop (mkF m 23 #[.val (.int p1), .val (.int p2), .val (.int p3), .unset, .unset, .unset] [(.ref b1)])) _
    refine XS.dup X13.here hx rfl (hb hby at_23) rfl rfl ?_
    show Steps p.tables e below (T13.setTop (mkF m 24 #[.val (.int p1), .val (.int p2), .val (.int p3), .unset, .unset, .unset] [(.ref b1), (.ref b1)])) _
    refine XS.iconst X13.here hx rfl (hb hby at_24) ?_
    show Steps p.tables e below (T13.setTop (mkF m 25 #[.val (.int p1), .val (.int p2), .val (.int p3), .unset, .unset, .unset] [(.int (4 : Int32)), (.ref b1), (.ref b1)])) _
    refine XS.bipush X13.here hx rfl (hb hby at_25) ?_
    show Steps p.tables e below (T13.setTop (mkF m 27 #[.val (.int p1), .val (.int p2), .val (.int p3), .unset, .unset, .unset] [(.int (31 : Int32)), (.int (4 : Int32)), (.ref b1), (.ref b1)])) _
    refine st16 _ ?_
    show Steps p.tables e below (T16.setTop (mkF m 28 #[.val (.int p1), .val (.int p2), .val (.int p3), .unset, .unset, .unset] [(.ref b1)])) _
    refine XS.dup X16.here hx rfl (hb hby at_28) rfl rfl ?_
    show Steps p.tables e below (T16.setTop (mkF m 29 #[.val (.int p1), .val (.int p2), .val (.int p3), .unset, .unset, .unset] [(.ref b1), (.ref b1)])) _
    refine XS.iconst X16.here hx rfl (hb hby at_29) ?_
    show Steps p.tables e below (T16.setTop (mkF m 30 #[.val (.int p1), .val (.int p2), .val (.int p3), .unset, .unset, .unset] [(.int (5 : Int32)), (.ref b1), (.ref b1)])) _
    refine XS.bipush X16.here hx rfl (hb hby at_30) ?_
    show Steps p.tables e below (T16.setTop (mkF m 32 #[.val (.int p1), .val (.int p2), .val (.int p3), .unset, .unset, .unset] [(.int (32 : Int32)), (.int (5 : Int32)), (.ref b1), (.ref b1)])) _
    refine st19 _ ?_
    show Steps p.tables e below (T19.setTop (mkF m 33 #[.val (.int p1), .val (.int p2), .val (.int p3), .unset, .unset, .unset] [(.ref b1)])) _
    refine XS.dup X19.here hx rfl (hb hby at_33) rfl rfl ?_
    show Steps p.tables e below (T19.setTop (mkF m 34 #[.val (.int p1), .val (.int p2), .val (.int p3), .unset, .unset, .unset] [(.ref b1), (.ref b1)])) _
    refine XS.bipush X19.here hx rfl (hb hby at_34) ?_
    show Steps p.tables e below (T19.setTop (mkF m 36 #[.val (.int p1), .val (.int p2), .val (.int p3), .unset, .unset, .unset] [(.int (6 : Int32)), (.ref b1), (.ref b1)])) _
    refine X19.ldcInt hx hown (mvT hZ (hw _ (List.mem_of_getElem? (i := 1) rfl))) (g := (mkF m 36 #[.val (.int p1), .val (.int p2), .val (.int p3), .unset, .unset, .unset] [(.int (6 : Int32)), (.ref b1), (.ref b1)])) rfl (hb hby at_36) _ ?_
    show Steps p.tables e below (T19.setTop (mkF m 38 #[.val (.int p1), .val (.int p2), .val (.int p3), .unset, .unset, .unset] [(.int (55295 : Int32)), (.int (6 : Int32)), (.ref b1), (.ref b1)])) _
    refine st22 _ ?_
    show Steps p.tables e below (T22.setTop (mkF m 39 #[.val (.int p1), .val (.int p2), .val (.int p3), .unset, .unset, .unset] [(.ref b1)])) _
    refine XS.dup X22.here hx rfl (hb hby at_39) rfl rfl ?_
    show Steps p.tables e below (T22.setTop (mkF m 40 #[.val (.int p1), .val (.int p2), .val (.int p3), .unset, .unset, .unset] [(.ref b1), (.ref b1)])) _
    refine XS.bipush X22.here hx rfl (hb hby at_40) ?_
    show Steps p.tables e below (T22.setTop (mkF m 42 #[.val (.int p1), .val (.int p2), .val (.int p3), .unset, .unset, .unset] [(.int (7 : Int32)), (.ref b1), (.ref b1)])) _
    refine X22.ldcInt hx hown (mvT hZ (hw _ (List.mem_of_getElem? (i := 2) rfl))) (g := (mkF m 42 #[.val (.int p1), .val (.int p2), .val (.int p3), .unset, .unset, .unset] [(.int (7 : Int32)), (.ref b1), (.ref b1)])) rfl (hb hby at_42) _ ?_
    show Steps p.tables e below (T22.setTop (mkF m 44 #[.val (.int p1), .val (.int p2), .val (.int p3), .unset, .unset, .unset] [(.int (55296 : Int32)), (.int (7 : Int32)), (.ref b1), (.ref b1)])) _
    refine st25 _ ?_
    show Steps p.tables e below (T25.setTop (mkF m 45 #[.val (.int p1), .val (.int p2), .val (.int p3), .unset, .unset, .unset] [(.ref b1)])) _
    refine XS.dup X25.here hx rfl (hb hby at_45) rfl rfl ?_
    show Steps p.tables e below (T25.setTop (mkF m 46 #[.val (.int p1), .val (.int p2), .val (.int p3), .unset, .unset, .unset] [(.ref b1), (.ref b1)])) _
    refine XS.bipush X25.here hx rfl (hb hby at_46) ?_
    show Steps p.tables e below (T25.setTop (mkF m 48 #[.val (.int p1), .val (.int p2), .val (.int p3), .unset, .unset, .unset] [(.int (8 : Int32)), (.ref b1), (.ref b1)])) _
    refine X25.ldcInt hx hown (mvT hZ (hw _ (List.mem_of_getElem? (i := 3) rfl))) (g := (mkF m 48 #[.val (.int p1), .val (.int p2), .val (.int p3), .unset, .unset, .unset] [(.int (8 : Int32)), (.ref b1), (.ref b1)])) rfl (hb hby at_48) _ ?_
    show Steps p.tables e below (T25.setTop (mkF m 50 #[.val (.int p1), .val (.int p2), .val (.int p3), .unset, .unset, .unset] [(.int (57343 : Int32)), (.int (8 : Int32)), (.ref b1), (.ref b1)])) _
    refine st28 _ ?_
    show Steps p.tables e below (T28.setTop (mkF m 51 #[.val (.int p1), .val (.int p2), .val (.int p3), .unset, .unset, .unset] [(.ref b1)])) _
    refine XS.dup X28.here hx rfl (hb hby at_51) rfl rfl ?_
    show Steps p.tables e below (T28.setTop (mkF m 52 #[.val (.int p1), .val (.int p2), .val (.int p3), .unset, .unset, .unset] [(.ref b1), (.ref b1)])) _
    refine XS.bipush X28.here hx rfl (hb hby at_52) ?_
    show Steps p.tables e below (T28.setTop (mkF m 54 #[.val (.int p1), .val (.int p2), .val (.int p3), .unset, .unset, .unset] [(.int (9 : Int32)), (.ref b1), (.ref b1)])) _
    refine X28.ldcInt hx hown (mvT hZ (hw _ (List.mem_of_getElem? (i := 4) rfl))) (g := (mkF m 54 #[.val (.int p1), .val (.int p2), .val (.int p3), .unset, .unset, .unset] [(.int (9 : Int32)), (.ref b1), (.ref b1)])) rfl (hb hby at_54) _ ?_
    show Steps p.tables e below (T28.setTop (mkF m 56 #[.val (.int p1), .val (.int p2), .val (.int p3), .unset, .unset, .unset] [(.int (57344 : Int32)), (.int (9 : Int32)), (.ref b1), (.ref b1)])) _
    refine st31 _ ?_
    show Steps p.tables e below (T31.setTop (mkF m 57 #[.val (.int p1), .val (.int p2), .val (.int p3), .unset, .unset, .unset] [(.ref b1)])) _
    refine XS.dup X31.here hx rfl (hb hby at_57) rfl rfl ?_
    show Steps p.tables e below (T31.setTop (mkF m 58 #[.val (.int p1), .val (.int p2), .val (.int p3), .unset, .unset, .unset] [(.ref b1), (.ref b1)])) _
    refine XS.bipush X31.here hx rfl (hb hby at_58) ?_
    show Steps p.tables e below (T31.setTop (mkF m 60 #[.val (.int p1), .val (.int p2), .val (.int p3), .unset, .unset, .unset] [(.int (10 : Int32)), (.ref b1), (.ref b1)])) _
    refine X31.ldcInt hx hown (mvT hZ (hw _ (List.mem_of_getElem? (i := 5) rfl))) (g := (mkF m 60 #[.val (.int p1), .val (.int p2), .val (.int p3), .unset, .unset, .unset] [(.int (10 : Int32)), (.ref b1), (.ref b1)])) rfl (hb hby at_60) _ ?_
    show Steps p.tables e below (T31.setTop (mkF m 62 #[.val (.int p1), .val (.int p2), .val (.int p3), .unset, .unset, .unset] [(.int (65533 : Int32)), (.int (10 : Int32)), (.ref b1), (.ref b1)])) _
    refine st34 _ ?_
    show Steps p.tables e below (T34.setTop (mkF m 63 #[.val (.int p1), .val (.int p2), .val (.int p3), .unset, .unset, .unset] [(.ref b1)])) _
    refine XS.dup X34.here hx rfl (hb hby at_63) rfl rfl ?_
    show Steps p.tables e below (T34.setTop (mkF m 64 #[.val (.int p1), .val (.int p2), .val (.int p3), .unset, .unset, .unset] [(.ref b1), (.ref b1)])) _
    refine XS.bipush X34.here hx rfl (hb hby at_64) ?_
    show Steps p.tables e below (T34.setTop (mkF m 66 #[.val (.int p1), .val (.int p2), .val (.int p3), .unset, .unset, .unset] [(.int (11 : Int32)), (.ref b1), (.ref b1)])) _
    refine X34.ldcInt hx hown (mvT hZ (hw _ (List.mem_of_getElem? (i := 6) rfl))) (g := (mkF m 66 #[.val (.int p1), .val (.int p2), .val (.int p3), .unset, .unset, .unset] [(.int (11 : Int32)), (.ref b1), (.ref b1)])) rfl (hb hby at_66) _ ?_
    show Steps p.tables e below (T34.setTop (mkF m 68 #[.val (.int p1), .val (.int p2), .val (.int p3), .unset, .unset, .unset] [(.int (65534 : Int32)), (.int (11 : Int32)), (.ref b1), (.ref b1)])) _
    refine st37 _ ?_
    show Steps p.tables e below (T37.setTop (mkF m 69 #[.val (.int p1), .val (.int p2), .val (.int p3), .unset, .unset, .unset] [(.ref b1)])) _
    refine XS.dup X37.here hx rfl (hb hby at_69) rfl rfl ?_
    show Steps p.tables e below (T37.setTop (mkF m 70 #[.val (.int p1), .val (.int p2), .val (.int p3), .unset, .unset, .unset] [(.ref b1), (.ref b1)])) _
    refine XS.bipush X37.here hx rfl (hb hby at_70) ?_
    show Steps p.tables e below (T37.setTop (mkF m 72 #[.val (.int p1), .val (.int p2), .val (.int p3), .unset, .unset, .unset] [(.int (12 : Int32)), (.ref b1), (.ref b1)])) _
    refine X37.ldcInt hx hown (mvT hZ (hw _ (List.mem_of_getElem? (i := 7) rfl))) (g := (mkF m 72 #[.val (.int p1), .val (.int p2), .val (.int p3), .unset, .unset, .unset] [(.int (12 : Int32)), (.ref b1), (.ref b1)])) rfl (hb hby at_72) _ ?_
    show Steps p.tables e below (T37.setTop (mkF m 74 #[.val (.int p1), .val (.int p2), .val (.int p3), .unset, .unset, .unset] [(.int (65536 : Int32)), (.int (12 : Int32)), (.ref b1), (.ref b1)])) _
    refine st40 _ ?_
    show Steps p.tables e below (T40.setTop (mkF m 75 #[.val (.int p1), .val (.int p2), .val (.int p3), .unset, .unset, .unset] [(.ref b1)])) _
    refine XS.dup X40.here hx rfl (hb hby at_75) rfl rfl ?_
    show Steps p.tables e below (T40.setTop (mkF m 76 #[.val (.int p1), .val (.int p2), .val (.int p3), .unset, .unset, .unset] [(.ref b1), (.ref b1)])) _
    refine XS.bipush X40.here hx rfl (hb hby at_76) ?_
    show Steps p.tables e below (T40.setTop (mkF m 78 #[.val (.int p1), .val (.int p2), .val (.int p3), .unset, .unset, .unset] [(.int (13 : Int32)), (.ref b1), (.ref b1)])) _
    refine X40.ldcInt hx hown (mvT hZ (hw _ (List.mem_of_getElem? (i := 8) rfl))) (g := (mkF m 78 #[.val (.int p1), .val (.int p2), .val (.int p3), .unset, .unset, .unset] [(.int (13 : Int32)), (.ref b1), (.ref b1)])) rfl (hb hby at_78) _ ?_
    show Steps p.tables e below (T40.setTop (mkF m 80 #[.val (.int p1), .val (.int p2), .val (.int p3), .unset, .unset, .unset] [(.int (1114110 : Int32)), (.int (13 : Int32)), (.ref b1), (.ref b1)])) _
    refine st43 _ ?_
    show Steps p.tables e below (T43.setTop (mkF m 81 #[.val (.int p1), .val (.int p2), .val (.int p3), .unset, .unset, .unset] [(.ref b1)])) _
    refine XS.astoreN X43.here hx rfl (hb hby at_81) rfl rfl (l' := #[.val (.int p1), .val (.int p2), .val (.int p3), .val (.ref b1), .unset, .unset]) rfl ?_
    show Steps p.tables e below (T43.setTop (mkF m 82 #[.val (.int p1), .val (.int p2), .val (.int p3), .val (.ref b1), .unset, .unset] [])) _
    refine sg0_82 _ ?_
    show Steps p.tables e below (T43.setTop (mkF m 126 #[.val (.int p1), .val (.int p2), .val (.int p3), .val (.ref b1), .val (.int (j0_126_l4 p1 p2 p3 w44)), (j0_126_l5 p1)] [])) _
    refine XS.iload X43.here hx rfl (hb hby at_126) rfl ?_
    show Steps p.tables e below (T43.setTop (mkF m 128 #[.val (.int p1), .val (.int p2), .val (.int p3), .val (.ref b1), .val (.int (j0_126_l4 p1 p2 p3 w44)), (j0_126_l5 p1)] [(.int (j0_126_l4 p1 p2 p3 w44))])) _
    refine st46 _ ?_
    show Steps p.tables e below (T46.setTop (mkF m 131 #[.val (.int p1), .val (.int p2), .val (.int p3), .val (.ref b1), .val (.int (j0_126_l4 p1 p2 p3 w44)), (j0_126_l5 p1)] [(.int (f1 (j0_126_l4 p1 p2 p3 w44)))])) _
    refine XS.iload X46.here hx rfl (hb hby at_131) rfl ?_
    show Steps p.tables e below (T46.setTop (mkF m 133 #[.val (.int p1), .val (.int p2), .val (.int p3), .val (.ref b1), .val (.int (j0_126_l4 p1 p2 p3 w44)), (j0_126_l5 p1)] [(.int (j0_126_l4 p1 p2 p3 w44)), (.int (f1 (j0_126_l4 p1 p2 p3 w44)))])) _
    refine st47 _ ?_
    show Steps p.tables e below (T47.setTop (mkF m 136 #[.val (.int p1), .val (.int p2), .val (.int p3), .val (.ref b1), .val (.int (j0_126_l4 p1 p2 p3 w44)), (j0_126_l5 p1)] [(.int (f2 (j0_126_l4 p1 p2 p3 w44))), (.int (f1 (j0_126_l4 p1 p2 p3 w44)))])) _
    refine XS.icmpNo X47.here hx rfl (hb hby at_136) rfl (teq (own_eq _ : (f1 (j0_126_l4 p1 p2 p3 w44)) = (f2 (j0_126_l4 p1 p2 p3 w44)))).2 ?_
    show Steps p.tables e below (T47.setTop (mkF m 139 #[.val (.int p1), .val (.int p2), .val (.int p3), .val (.ref b1), .val (.int (j0_126_l4 p1 p2 p3 w44)), (j0_126_l5 p1)] [])) _
    refine XS.iconst X47.here hx rfl (hb hby at_139) ?_
    show Steps p.tables e below (T47.setTop (mkF m 140 #[.val (.int p1), .val (.int p2), .val (.int p3), .val (.ref b1), .val (.int (j0_126_l4 p1 p2 p3 w44)), (j0_126_l5 p1)] [(.int (1 : Int32))])) _
    refine XS.goto X47.here hx rfl (pc0 := 140) (pc' := 144) rfl (hb hby at_140) (by decide) (by decide) ?_
    show Steps p.tables e below (T47.setTop (mkF m 144 #[.val (.int p1), .val (.int p2), .val (.int p3), .val (.ref b1), .val (.int (j0_126_l4 p1 p2 p3 w44)), (j0_126_l5 p1)] [(.int (1 : Int32))])) _
    exact retN X47 hx (t := .boolean) Bd.returns (by simp) (hb hby at_144) hr
  · show Q0 Z p1 p2 p3 h0 n0 _ T47.heap _
    rw [eh47]
    exact ⟨rfl, N47⟩
set_option maxRecDepth 65536 in
set_option maxHeartbeats 40000000 in
theorem comes_1 {Post : Tables → Env → Array Value → State → Outcome → State → Prop} (hpost : ∀ tb e args s v u, (limb_1_1.after args s (.returned v) u = true ∧ limb_1_2.after args s (.returned v) u = true ∧ True) → FrameEnd s (.returned v) u (Jvm.fieldLocs frame_1_writes args s ++ Jvm.arrayLocs frame_1_arrays args s ++ Jvm.staticLocs frame_1_statics s) 16 128 → Post tb e args s (.returned v) u) :
    ArmFor flags0 classFile x code maxLocals ret World_1 tables_1 room_1 Calls_1 rest_1 Pre_1 Post := by
  intro l hfl _ _ p e ha hc hk s m args below hf hA hF happ hP
  obtain ⟨hcalls, hrest, hpre⟩ := hP
  obtain ⟨-, -, -, hnamed, -, -, -, hat⟩ := (Spec.applies_iff hf).mp happ
  obtain ⟨hg, hn⟩ := and_e (Cond.before_iff.mp (show (Jvm.Cond.and given_1 narrow_1).before args s = true from hpre))
  obtain ⟨gc, r0⟩ := and_e hg
  obtain ⟨t0, r1⟩ := and_e r0
  obtain ⟨t1, r2⟩ := and_e r1
  have t2 := r2
  obtain ⟨w0, w1, w2, rfl⟩ : ∃ w0 w1 w2 : Value, args = #[w0, w1, w2] := by
    have hs : args.size = 3 := by simpa [Cond.value, given_1] using gc
    obtain ⟨L⟩ := args
    match L, hs with
    | [w0, w1, w2], _ => exact ⟨w0, w1, w2, rfl⟩
  have hw := fun d (hd : d ∈ tables_1) => atoms_spec (ws := Jvm.Cond.code x code maxLocals ret :: tables_1) hat d (List.mem_cons_of_mem _ hd)
  obtain ⟨i0, ei0⟩ := is_v t0
  obtain rfl : w0 = (.int i0) := Option.some.inj ei0
  obtain ⟨i1, ei1⟩ := is_v t1
  obtain rfl : w1 = (.int i1) := Option.some.inj ei1
  obtain ⟨i2, ei2⟩ := is_v t2
  obtain rfl : w2 = (.int i2) := Option.some.inj ei2
  obtain ⟨n, o, h1, h2, h3, _, L, rfl, ⟨rfl, N⟩, hq⟩ := rm0 l s _ hw tables_1 i0 i1 i2 s.heap s.heap.size (Nat.le_refl _)  p e ha hc hk s m _ below hf ((Spec.applies_iff_loose hf).mp happ).1 ⟨rfl, State.Warmed39.refl s, rfl⟩ trivial
  refine ⟨n, _, h1, h2, h3, hpost _ _ _ _ _ _ ⟨Cond.after_iff.mpr rfl, Cond.after_iff.mpr (eq_i res_at (Term.int_eval (1)) rfl), trivial⟩ ⟨hq.1, hq.2.1, (hq.2.2.sift fun y hy => Or.inr (N y hy)).mono (by decide) (by decide)⟩⟩
theorem main_1_1 : Claimed_1_1 := comes_1 fun _ _ _ _ _ _ h hF => ⟨h.1, hF⟩
theorem main_1_2 : Claimed_1_2 := comes_1 fun _ _ _ _ _ _ h hF => ⟨h.2.1, hF⟩
end Jvm.Pilot.@@N@@
namespace Jvm.Pilot.@@N@@
open Jvm Jvm.ClassFile Sem Op Lib Jvm.Free Jvm.Stand Jvm.Pilot.@@N@@.Jvm.D
/-! MADE BY PROGRAM (witnessworld.py) out of the Statement's table words and the real class files: 9 classes; the members and pool entries that the words name. The judged class is class 1, her method 2. -/
namespace start1
open Jvm.ClassFile
def u (s : String) : CpInfo := .utf8 (stringToUtf16 s)
/-- a pool by its gaps: so many unusable entries, then the entry; so many at the end -/
def gap : Nat → List CpInfo → List CpInfo
  | 0, r => r
  | n + 1, r => .unusable :: gap n r
def poolList (es : List (Nat × CpInfo)) (last : Nat) : List CpInfo := es.foldr (fun e r => gap e.1 (e.2 :: r)) (gap last [])
def pool (es : List (Nat × CpInfo)) (last : Nat) : Array CpInfo := ⟨poolList es last⟩
def fileOf (pool : Array CpInfo) (this : Nat) (attrs : Array Attribute := #[]) (ms : Array MethodInfo := #[]) (fl : Nat := 33) (sup : Nat := 0) (ifs : Array Nat := #[]) (fds : Array FieldInfo := #[]) : ClassFile where
  minorVersion := 0
  majorVersion := 65
  constantPool := pool
  accessFlags := fl
  thisClass := this
  superClass := sup
  interfaces := ifs
  fields := fds
  methods := ms
  attributes := attrs
def plain (name : String) (sup : Option ClassId) : Class where
  name := name
  kind := .ordinary
  loader := none
  accessFlags := 33
  super := sup
  interfaces := #[]
  cf := none
  fields := #[]
  methods := #[]
  instanceTypes := #[]
  staticTypes := #[]
  resolved := #[]
  callSites := []
  init := .initialized
  statics := none
  mirror := none

def pool0 : Array CpInfo := pool [(5, u "<init>"), (0, u "()V"), (1, .class_ 10), (1, u "java/lang/Object")] 113

def k0m0 : Method := { name := "<init>", desc := "()V", sig := { parameters := [], returnType := none }, accessFlags := 1, code := none }
/-- java/lang/Object -/
def k0 : Class := { plain "java/lang/Object" none with
  accessFlags := 33
  interfaces := #[]
  cf := some (fileOf pool0 8 #[] #[{ accessFlags := 1, nameIndex := 5, descriptorIndex := 6, attributes := #[] }] 33 0 #[] #[])
  fields := #[]
  methods := #[k0m0]
  instanceTypes := #[]
  staticTypes := #[]
  resolved := Array.replicate 124 none
  statics := none }

def pool1 : Array CpInfo := pool [(2, .class_ 4), (1, u "java/lang/Object"), (0, u "<init>"), (0, u "()V"), (0, .integer 55296), (0, .integer 57343), (0, .integer 65534), (0, .integer 65535), (0, .integer 55295), (0, .integer 57344), (0, .integer 65533), (0, .integer 65536), (0, .integer 1114110), (0, .integer 2147483647), (0, .integer 1114112), (0, .integer 1073741823), (0, .methodref 20 21), (0, .class_ 22), (0, .nameAndType 23 24), (0, u "com/example/cartulary/cartulary/io/IndentedXml"), (0, u "canHold"), (0, u "(I)Z"), (0, .methodref 26 27), (0, .class_ 28), (0, .nameAndType 29 24), (0, u "com/example/cartulary/cartulary/io/IndentedXmlCanHoldPinLaw"), (0, u "expected"), (3, u "law"), (0, u "(III)Z")] 4

def k1m0 : Method := { name := "<init>", desc := "()V", sig := { parameters := [], returnType := none }, accessFlags := 1, code := none }
def k1c1 : Code := { maxStack := 2, maxLocals := 1, code := method_2_code, exceptionTable := #[], attributes := #[] }
def k1m1 : Method := { name := "expected", desc := "(I)Z", sig := { parameters := [.int], returnType := some .boolean }, accessFlags := 10, code := some k1c1 }
def k1c2 : Code := { maxStack := 4, maxLocals := 6, code := code, exceptionTable := #[], attributes := #[] }
def k1m2 : Method := { name := "law", desc := "(III)Z", sig := { parameters := [.int, .int, .int], returnType := some .boolean }, accessFlags := 9, code := some k1c2 }
/-- com/example/cartulary/cartulary/io/IndentedXmlCanHoldPinLaw -/
def k1 : Class := { plain "com/example/cartulary/cartulary/io/IndentedXmlCanHoldPinLaw" (some 0) with
  accessFlags := 49
  interfaces := #[]
  cf := some (fileOf pool1 26 #[] #[{ accessFlags := 1, nameIndex := 5, descriptorIndex := 6, attributes := #[] }, { accessFlags := 10, nameIndex := 29, descriptorIndex := 24, attributes := #[] }, { accessFlags := 9, nameIndex := 33, descriptorIndex := 34, attributes := #[] }] 49 2 #[] #[])
  fields := #[]
  methods := #[k1m0, k1m1, k1m2]
  instanceTypes := #[]
  staticTypes := #[]
  resolved := Array.replicate 39 none
  statics := none }

def pool2 : Array CpInfo := pool [(2, .class_ 4), (1, u "java/lang/Object"), (3, .class_ 10), (1, u "com/example/cartulary/cartulary/io/IndentedXml"), (0, u "text"), (0, u "Ljava/io/Writer;"), (2, u "xml"), (0, u "Ljavax/xml/stream/XMLStreamWriter;"), (2, u "namespace"), (0, u "Ljava/lang/String;"), (13, .integer 65536), (30, .integer 55295), (0, .integer 57344), (0, .integer 65533), (2, u "DATE_TIME"), (0, u "Ljava/time/format/DateTimeFormatter;"), (27, u "depth"), (0, u "I"), (69, u "INDENT"), (1, u "BUFFER_SIZE"), (4, u "canHold"), (0, u "(I)Z")] 26

def k2c0 : Code := { maxStack := 2, maxLocals := 1, code := prog_28_method_3_code, exceptionTable := #[], attributes := #[] }
def k2m0 : Method := { name := "canHold", desc := "(I)Z", sig := { parameters := [.int], returnType := some .boolean }, accessFlags := 8, code := some k2c0 }
/-- com/example/cartulary/cartulary/io/IndentedXml -/
def k2 : Class := { plain "com/example/cartulary/cartulary/io/IndentedXml" (some 0) with
  accessFlags := 48
  interfaces := #[]
  cf := some (fileOf pool2 8 #[] #[{ accessFlags := 8, nameIndex := 177, descriptorIndex := 178, attributes := #[] }] 48 2 #[] #[{ accessFlags := 26, nameIndex := 70, descriptorIndex := 71, attributes := #[] }, { accessFlags := 26, nameIndex := 170, descriptorIndex := 20, attributes := #[] }, { accessFlags := 26, nameIndex := 172, descriptorIndex := 100, attributes := #[] }, { accessFlags := 18, nameIndex := 11, descriptorIndex := 12, attributes := #[] }, { accessFlags := 18, nameIndex := 15, descriptorIndex := 16, attributes := #[] }, { accessFlags := 18, nameIndex := 19, descriptorIndex := 20, attributes := #[] }, { accessFlags := 2, nameIndex := 99, descriptorIndex := 100, attributes := #[] }])
  fields := #[{ name := "DATE_TIME", type := (.object "java/time/format/DateTimeFormatter"), accessFlags := 26, slot := 0, constantValue := 0 }, { name := "INDENT", type := (.object "java/lang/String"), accessFlags := 26, slot := 1, constantValue := 0 }, { name := "BUFFER_SIZE", type := .int, accessFlags := 26, slot := 2, constantValue := 0 }, { name := "text", type := (.object "java/io/Writer"), accessFlags := 18, slot := 0, constantValue := 0 }, { name := "xml", type := (.object "javax/xml/stream/XMLStreamWriter"), accessFlags := 18, slot := 1, constantValue := 0 }, { name := "namespace", type := (.object "java/lang/String"), accessFlags := 18, slot := 2, constantValue := 0 }, { name := "depth", type := .int, accessFlags := 2, slot := 3, constantValue := 0 }]
  methods := #[k2m0]
  instanceTypes := #[(.object "java/io/Writer"), (.object "javax/xml/stream/XMLStreamWriter"), (.object "java/lang/String"), .int]
  staticTypes := #[(.object "java/time/format/DateTimeFormatter"), (.object "java/lang/String"), .int]
  resolved := Array.replicate 205 none
  statics := none }

def pool3 : Array CpInfo := pool [(1, u "java/lang/Cloneable"), (0, .class_ 1), (0, u "java/lang/Object"), (0, .class_ 3)] 3

/-- java/lang/Cloneable -/
def k3 : Class := { plain "java/lang/Cloneable" (some 0) with
  accessFlags := 1537
  interfaces := #[]
  cf := some (fileOf pool3 2 #[] #[] 1537 4 #[] #[])
  fields := #[]
  methods := #[]
  instanceTypes := #[]
  staticTypes := #[]
  resolved := Array.replicate 8 none
  statics := none }

def pool4 : Array CpInfo := pool [(1, u "java/io/Serializable"), (0, .class_ 1), (0, u "java/lang/Object"), (0, .class_ 3)] 3

/-- java/io/Serializable -/
def k4 : Class := { plain "java/io/Serializable" (some 0) with
  accessFlags := 1537
  interfaces := #[]
  cf := some (fileOf pool4 2 #[] #[] 1537 4 #[] #[])
  fields := #[]
  methods := #[]
  instanceTypes := #[]
  staticTypes := #[]
  resolved := Array.replicate 8 none
  statics := none }

/-- the primitive byte -/
def k5 : Class := { plain "byte" none with kind := .primitive 'B', accessFlags := 0x411 }
/-- [B -/
def k6 : Class := { plain "[B" (some 0) with kind := .array 5 .byte, interfaces := #[3, 4], accessFlags := 1041 }

/-- the primitive int -/
def k7 : Class := { plain "int" none with kind := .primitive 'I', accessFlags := 0x411 }
/-- [I -/
def k8 : Class := { plain "[I" (some 0) with kind := .array 7 .int, interfaces := #[3, 4], accessFlags := 1041 }

def heap : Heap := #[]
def classes : Array Class := #[k0, k1, k2, k3, k4, k5, k6, k7, k8]
def interned : List (Array UInt16 × Addr) := []
def slotsUsed : Nat := 0
def theMethod : MethodId := ⟨1, 2⟩
def args0 : Array Value := #[.int 4, .int 1, .int 65]
def aboutOver (below : List Frame) : State where
  vm := { classes := classes, interned := interned.toArray }
  heap := heap
  slotsUsed := slotsUsed
  threads := #[{ frames := .invoking theMethod args0 :: below }]
def below0 : List Frame := [.native { method := ⟨0, 0⟩, args := #[] }]
def about1 : State := aboutOver below0
def p0 : Program := .bare "" "" ""
def e0 : Env := launch0.env 0 0 0
theorem w_frames : about1.frames = Frame.invoking theMethod args0 :: below0 := rfl
set_option maxRecDepth 65536 in
theorem w_args : argsFit about1.vm theMethod args0 = true := by decide +kernel
set_option maxRecDepth 65536 in
theorem w_heap : heapFits about1 = true := by decide +kernel
set_option maxRecDepth 65536 in
theorem w_runnable : about1.curStatus? = some .runnable := by decide +kernel
set_option maxRecDepth 65536 in
theorem w_alone : about1.alone = true := by decide +kernel
set_option maxRecDepth 65536 in
theorem w_named : about1.methodNamed? x = some theMethod := by decide +kernel
set_option maxRecDepth 65536 in
theorem w_hears : about1.hears theMethod below0 = true := by decide +kernel
set_option maxRecDepth 65536 in
theorem w_ripe : about1.ripe theMethod args0 below0 = true := by decide +kernel
theorem w_running : about1.status = .running := rfl
set_option maxRecDepth 65536 in
theorem w_room : about1.hasRoom e0.platform room_1 = true :=
  launch0.hasRoom_least _ room_1 (by decide +kernel) (by decide +kernel) (by decide +kernel) (by decide +kernel) (by decide +kernel) (by decide +kernel)
theorem allAtoms_all (ts : List Jvm.Cond) (a : Array Jvm.Value) (st : Jvm.State) : (allAtoms ts).before a st = ts.all (fun c => c.before a st) := by
  induction ts with
  | nil => rfl
  | cons c t ih =>
    show (Jvm.Cond.and c (allAtoms t)).before a st = _
    rw [Jvm.Cond.before_and, ih, List.all_cons]
def words1 : List Jvm.Cond := Jvm.Cond.code x code maxLocals ret :: tables_1
/-- a 'code' word, met by the world's own term for the bytes: nothing is compared byte by byte -/
theorem code_word {y : MethodName} {bytes : ByteArray} {mx : Nat} {rt : Option FieldType} {a : Array Value} {s : State} {m : MethodId} {meth : Method} {c : Code} (h1 : s.methodNamed? y = some m) (h2 : s.vm.method? m = some meth) (h3 : meth.code = some c) (h4 : c.code = bytes)
    (h5 : (c.maxLocals == mx && c.exceptionTable.isEmpty && decide (c.maxStack ≤ mostOperands) && decide (meth.sig.returnType = rt) && !meth.locks && decide (parseMethodDescriptor y.desc = some meth.sig)) = true) : (Jvm.Cond.code y bytes mx rt).before a s = true := by
  simp only [Bool.and_eq_true, beq_iff_eq, Bool.not_eq_true', decide_eq_true_eq] at h5
  obtain ⟨⟨⟨⟨⟨g1, g2⟩, g3⟩, g4⟩, g5⟩, g6⟩ := h5
  simp [Cond.before, Cond.holds, Cond.value, h1, h2, h3, h4, g1, g2, g3, g4, g5, g6]
def isCode : Jvm.Cond → Bool
  | .code _ _ _ _ => true
  | _ => false
theorem all_split {L : List Jvm.Cond} {P : Jvm.Cond → Bool} (h1 : L.all (fun c => isCode c || P c) = true) (h2 : ∀ c ∈ L.filter isCode, P c = true) : L.all P = true := by
  refine List.all_eq_true.mpr fun c hc => ?_
  have h := List.all_eq_true.mp h1 c hc
  rcases Bool.eq_false_or_eq_true (isCode c) with hi | hi
  · exact h2 c (List.mem_filter.mpr ⟨hc, hi⟩)
  · simpa [hi] using h
set_option maxRecDepth 65536 in
theorem w_c0 : (Jvm.Cond.code x code maxLocals ret).before args0 about1 = true := code_word (m := ⟨1, 2⟩) (meth := k1m2) (c := k1c2) (by decide +kernel) rfl rfl rfl (by decide +kernel)
set_option maxRecDepth 65536 in
theorem w_c1 : (Jvm.Cond.code ({ cls := "com/example/cartulary/cartulary/io/IndentedXml", name := "canHold", desc := "(I)Z" } : Jvm.MethodName) prog_28_method_3_code (1 : Nat) (Option.some Jvm.ClassFile.FieldType.boolean)).before args0 about1 = true := code_word (m := ⟨2, 0⟩) (meth := k2m0) (c := k2c0) (by decide +kernel) rfl rfl rfl (by decide +kernel)
set_option maxRecDepth 65536 in
theorem w_c2 : (Jvm.Cond.code ({ cls := "com/example/cartulary/cartulary/io/IndentedXmlCanHoldPinLaw", name := "expected", desc := "(I)Z" } : Jvm.MethodName) method_2_code (1 : Nat) (Option.some Jvm.ClassFile.FieldType.boolean)).before args0 about1 = true := code_word (m := ⟨1, 1⟩) (meth := k1m1) (c := k1c1) (by decide +kernel) rfl rfl rfl (by decide +kernel)
def codes1 : List Jvm.Cond := [Jvm.Cond.code x code maxLocals ret, Jvm.Cond.code ({ cls := "com/example/cartulary/cartulary/io/IndentedXml", name := "canHold", desc := "(I)Z" } : Jvm.MethodName) prog_28_method_3_code (1 : Nat) (Option.some Jvm.ClassFile.FieldType.boolean), Jvm.Cond.code ({ cls := "com/example/cartulary/cartulary/io/IndentedXmlCanHoldPinLaw", name := "expected", desc := "(I)Z" } : Jvm.MethodName) method_2_code (1 : Nat) (Option.some Jvm.ClassFile.FieldType.boolean)]
set_option maxRecDepth 65536 in
theorem codes_eq : words1.filter isCode = codes1 := rfl
theorem w_codes : ∀ c ∈ words1.filter isCode, c.before args0 about1 = true := by
  rw [codes_eq]
  intro c hc
  simp only [codes1, List.mem_cons, List.not_mem_nil, or_false] at hc
  rcases hc with rfl | rfl | rfl
  · exact w_c0
  · exact w_c1
  · exact w_c2
set_option maxRecDepth 65536 in
theorem w_t1 : (words1.take 24).all (fun c => isCode c || c.before args0 about1) = true := by decide +kernel
set_option maxRecDepth 65536 in
theorem w_t2 : (words1.drop 24).all (fun c => isCode c || c.before args0 about1) = true := by decide +kernel
theorem w_tables : (allAtoms (Jvm.Cond.code x code maxLocals ret :: tables_1)).before args0 about1 = true := by
  rw [allAtoms_all]
  show words1.all (fun c => c.before args0 about1) = true
  refine all_split ?_ w_codes
  rw [← List.take_append_drop 24 words1, List.all_append, w_t1, w_t2]
  rfl
set_option maxRecDepth 65536 in
theorem w_case : (Jvm.Cond.and given_1 narrow_1).before args0 about1 = true := by decide +kernel
theorem w_applies : (headSpec (Jvm.Cond.code x code maxLocals ret :: tables_1) room_1).applies x e0.platform about1 = true :=
  (Spec.applies_iff w_frames).mpr ⟨w_running, w_runnable, w_alone, w_named, w_hears, w_ripe, w_room, w_tables⟩
theorem atStart : AtStart classFile x code maxLocals ret World_1 tables_1 room_1 Calls_1 rest_1 Pre_1 launch0 p0 e0 about1 theMethod args0 below0 :=
  ⟨lists_1, trivial, launch0.admits_env _ _ _, launch0.least_env, fairChoices_fair.cas, fairChoices_fair.clock, w_frames, w_args, w_heap, w_applies, trivial, trivial, w_case⟩
end start1
theorem witness_1 : WitnessClaimed_1 := ⟨start1.p0, start1.e0, start1.about1, start1.theMethod, start1.args0, start1.below0, start1.atStart⟩
end Jvm.Pilot.@@N@@
