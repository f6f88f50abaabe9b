import JvmDerived
import JvmDerived.Pilot.@@N@@Statement
import JvmDerived.Pilot.@@N@@Code
set_option linter.unusedVariables false
set_option linter.unusedSimpArgs false
namespace Jvm.Pilot.@@N@@
open Jvm Jvm.ClassFile Sem Op Lib Jvm.Free Jvm.Stand Jvm.LawKit Jvm.RoadKit Bundle Jvm.Pilot.@@N@@.Jvm.D
theorem ef_4 (m : MethodId) (x0 : Int64) : entryFrame m #[(.long x0)] 4 = mkF m 0 #[.val (.long x0), .second, .unset, .unset] [] := by first | (simp [entryFrame, mkF, argsToLocals, Value.category]; done) | rfl
theorem pn_DrawsDrawPinLaw : plainName "com/example/heapmark/heapmark/generate/DrawsDrawPinLaw" = true := by first | (simp [plainName, overriddenIn]; done) | decide +kernel
theorem d4_0 : decode method_3_code 0 = .ok (.lload_n 0, 1) := by decide +kernel
theorem d4_1 : decode method_3_code 1 = .ok (.lstore_n 2, 1) := by decide +kernel
theorem d4_2 : decode method_3_code 2 = .ok (.lload_n 2, 1) := by decide +kernel
theorem d4_3 : decode method_3_code 3 = .ok (.ldc2_w 22, 3) := by decide +kernel
theorem d4_6 : decode method_3_code 6 = .ok (.lload_n 0, 1) := by decide +kernel
theorem d4_7 : decode method_3_code 7 = .ok (.lload_n 2, 1) := by decide +kernel
theorem d4_8 : decode method_3_code 8 = .ok (.lmul, 1) := by decide +kernel
theorem d4_9 : decode method_3_code 9 = .ok (.lsub, 1) := by decide +kernel
theorem d4_10 : decode method_3_code 10 = .ok (.lmul, 1) := by decide +kernel
theorem d4_11 : decode method_3_code 11 = .ok (.lstore_n 2, 1) := by decide +kernel
def v4_11 (q1 : Int64) : Int64 := (q1 * ((2 : Int64) - (q1 * q1)))
theorem d4_12 : decode method_3_code 12 = .ok (.lload_n 2, 1) := by decide +kernel
theorem d4_13 : decode method_3_code 13 = .ok (.ldc2_w 22, 3) := by decide +kernel
theorem d4_16 : decode method_3_code 16 = .ok (.lload_n 0, 1) := by decide +kernel
theorem d4_17 : decode method_3_code 17 = .ok (.lload_n 2, 1) := by decide +kernel
theorem d4_18 : decode method_3_code 18 = .ok (.lmul, 1) := by decide +kernel
theorem d4_19 : decode method_3_code 19 = .ok (.lsub, 1) := by decide +kernel
theorem d4_20 : decode method_3_code 20 = .ok (.lmul, 1) := by decide +kernel
theorem d4_21 : decode method_3_code 21 = .ok (.lstore_n 2, 1) := by decide +kernel
def v4_21 (q1 : Int64) : Int64 := ((v4_11 q1) * ((2 : Int64) - (q1 * (v4_11 q1))))
theorem d4_22 : decode method_3_code 22 = .ok (.lload_n 2, 1) := by decide +kernel
theorem d4_23 : decode method_3_code 23 = .ok (.ldc2_w 22, 3) := by decide +kernel
theorem d4_26 : decode method_3_code 26 = .ok (.lload_n 0, 1) := by decide +kernel
theorem d4_27 : decode method_3_code 27 = .ok (.lload_n 2, 1) := by decide +kernel
theorem d4_28 : decode method_3_code 28 = .ok (.lmul, 1) := by decide +kernel
theorem d4_29 : decode method_3_code 29 = .ok (.lsub, 1) := by decide +kernel
theorem d4_30 : decode method_3_code 30 = .ok (.lmul, 1) := by decide +kernel
theorem d4_31 : decode method_3_code 31 = .ok (.lstore_n 2, 1) := by decide +kernel
def v4_31 (q1 : Int64) : Int64 := ((v4_21 q1) * ((2 : Int64) - (q1 * (v4_21 q1))))
theorem d4_32 : decode method_3_code 32 = .ok (.lload_n 2, 1) := by decide +kernel
theorem d4_33 : decode method_3_code 33 = .ok (.ldc2_w 22, 3) := by decide +kernel
theorem d4_36 : decode method_3_code 36 = .ok (.lload_n 0, 1) := by decide +kernel
theorem d4_37 : decode method_3_code 37 = .ok (.lload_n 2, 1) := by decide +kernel
theorem d4_38 : decode method_3_code 38 = .ok (.lmul, 1) := by decide +kernel
theorem d4_39 : decode method_3_code 39 = .ok (.lsub, 1) := by decide +kernel
theorem d4_40 : decode method_3_code 40 = .ok (.lmul, 1) := by decide +kernel
theorem d4_41 : decode method_3_code 41 = .ok (.lstore_n 2, 1) := by decide +kernel
def v4_41 (q1 : Int64) : Int64 := ((v4_31 q1) * ((2 : Int64) - (q1 * (v4_31 q1))))
theorem d4_42 : decode method_3_code 42 = .ok (.lload_n 2, 1) := by decide +kernel
theorem d4_43 : decode method_3_code 43 = .ok (.ldc2_w 22, 3) := by decide +kernel
theorem d4_46 : decode method_3_code 46 = .ok (.lload_n 0, 1) := by decide +kernel
theorem d4_47 : decode method_3_code 47 = .ok (.lload_n 2, 1) := by decide +kernel
theorem d4_48 : decode method_3_code 48 = .ok (.lmul, 1) := by decide +kernel
theorem d4_49 : decode method_3_code 49 = .ok (.lsub, 1) := by decide +kernel
theorem d4_50 : decode method_3_code 50 = .ok (.lmul, 1) := by decide +kernel
theorem d4_51 : decode method_3_code 51 = .ok (.lstore_n 2, 1) := by decide +kernel
def v4_51 (q1 : Int64) : Int64 := ((v4_41 q1) * ((2 : Int64) - (q1 * (v4_41 q1))))
theorem d4_52 : decode method_3_code 52 = .ok (.lload_n 2, 1) := by decide +kernel
def f4 (q1 : Int64) : Int64 := (v4_51 q1)
theorem d4_53 : decode method_3_code 53 = .ok (.lreturn, 1) := by decide +kernel
def Q4 (Z : State) (q1 : Int64) (h0 : Heap) (n0 : Nat) (v : Option Value) (h : Heap) (L : List Loc) : Prop := v = some (.long (f4 q1)) ∧ Fr n0 L ∧ h = h0
set_option maxRecDepth 65536 in
set_option maxHeartbeats 40000000 in
theorem rm4 (l : Launch) (Z : State) (a0 : Array Value) (hw : ∀ d ∈ tables_1, d.before a0 Z = true) (ws : List Jvm.Cond) (q1 : Int64) (h0 : Heap) (n0 : Nat) (Z0 : n0 ≤ h0.size) :
    MetFree l (⟨"com/example/heapmark/heapmark/generate/DrawsDrawPinLaw", "inverse", "(J)J"⟩ : MethodName) (head1 (Jvm.Cond.code (⟨"com/example/heapmark/heapmark/generate/DrawsDrawPinLaw", "inverse", "(J)J"⟩ : MethodName) method_3_code 4 (some .long) :: ws) ({ frames := 0, cells := 0, slots := 0, locals := 0 } : Room)) (fun a U => a = #[(.long q1)] ∧ Z.Warmed39 U.vm ∧ U.heap = h0) (fun _ _ _ _ _ => True) (fun _ U o U' => ∃ v L, o = .returned v ∧ Q4 Z q1 h0 n0 v U'.heap L ∧ FrameEnd U o U' L ({ frames := 0, cells := 0, slots := 0, locals := 0 } : Room).cells ({ frames := 0, cells := 0, slots := 0, locals := 0 } : Room).slots) := by
  refine MetFree.of_bodySF (plainFor_of_name pn_DrawsDrawPinLaw) hisR ?_
  intro p e s m args below meth c s₁ Bd hml0 hP hK
  obtain ⟨rfl, hZ, hh⟩ := hP
  have hx := Bd.exec
  have hby := Bd.bytes
  have hml : c.maxLocals = 4 := hml0
  have hown : s.vm.findClass "com/example/heapmark/heapmark/generate/DrawsDrawPinLaw" = some m.cls := findClass_of_methodNamed Bd.named
  have hnm := (name_of_methodNamed Bd.named Bd.method).1
  have X0 : Stand p l e ({ frames := 0, cells := 0, slots := 0, locals := 0 } : Room) s m #[(.long q1)] below meth c s₁ [] 0 0 := Stand.of_body Bd
  have e0 : s₁.heap = h0 := by rw [← hh, Bd.state]; rfl
  have N0 := Fr.nil n0
  have pre0 : ∀ t, Steps p.tables e below (s₁.setTop (mkF m 0 #[.val (.long q1), .second, .unset, .unset] [])) t → Steps p.tables e below (s₁.setTop (entryFrame m #[(.long q1)] 4)) t := fun t k => castTop (ef_4 m q1) k
  obtain ⟨fs, hr, hrun, hended, hW, hsame⟩ := X0.leave (v := some (.long (f4 q1))) (fun h => by rw [Bd.returns] at h; cases h)
  refine ⟨_, _, pre0 _ ?_, hrun, hended, _, _, rfl, ?_, ⟨_, rfl⟩, hW, hsame.mono (by decide) (by decide)⟩
  · show Steps p.tables e below (s₁.setTop (mkF m 0 #[.val (.long q1), .second, .unset, .unset] [])) _
    refine XS.lloadN X0.here hx rfl (hb hby d4_0) rfl ?_
    show Steps p.tables e below (s₁.setTop (mkF m 1 #[.val (.long q1), .second, .unset, .unset] [(.long q1)])) _
    refine XS.lstoreN X0.here hx rfl (hb hby d4_1) rfl (l' := #[.val (.long q1), .second, .val (.long q1), .second]) rfl ?_
    show Steps p.tables e below (s₁.setTop (mkF m 2 #[.val (.long q1), .second, .val (.long q1), .second] [])) _
    refine XS.lloadN X0.here hx rfl (hb hby d4_2) rfl ?_
    show Steps p.tables e below (s₁.setTop (mkF m 3 #[.val (.long q1), .second, .val (.long q1), .second] [(.long q1)])) _
    refine X0.ldc2Long hx hown (mvT hZ (hw _ (List.mem_of_getElem? (i := 20) rfl))) (g := (mkF m 3 #[.val (.long q1), .second, .val (.long q1), .second] [(.long q1)])) rfl (hb hby d4_3) _ ?_
    show Steps p.tables e below (s₁.setTop (mkF m 6 #[.val (.long q1), .second, .val (.long q1), .second] [(.long (2 : Int64)), (.long q1)])) _
    refine XS.lloadN X0.here hx rfl (hb hby d4_6) rfl ?_
    show Steps p.tables e below (s₁.setTop (mkF m 7 #[.val (.long q1), .second, .val (.long q1), .second] [(.long q1), (.long (2 : Int64)), (.long q1)])) _
    refine XS.lloadN X0.here hx rfl (hb hby d4_7) rfl ?_
    show Steps p.tables e below (s₁.setTop (mkF m 8 #[.val (.long q1), .second, .val (.long q1), .second] [(.long q1), (.long q1), (.long (2 : Int64)), (.long q1)])) _
    refine XS.lmul X0.here hx rfl (hb hby d4_8) rfl ?_
    show Steps p.tables e below (s₁.setTop (mkF m 9 #[.val (.long q1), .second, .val (.long q1), .second] [(.long (q1 * q1)), (.long (2 : Int64)), (.long q1)])) _
    refine XS.lsub X0.here hx rfl (hb hby d4_9) rfl ?_
    show Steps p.tables e below (s₁.setTop (mkF m 10 #[.val (.long q1), .second, .val (.long q1), .second] [(.long ((2 : Int64) - (q1 * q1))), (.long q1)])) _
    refine XS.lmul X0.here hx rfl (hb hby d4_10) rfl ?_
    show Steps p.tables e below (s₁.setTop (mkF m 11 #[.val (.long q1), .second, .val (.long q1), .second] [(.long (q1 * ((2 : Int64) - (q1 * q1))))])) _
    show Steps p.tables e below (s₁.setTop (mkF m 11 #[.val (.long q1), .second, .val (.long q1), .second] [(.long (v4_11 q1))])) _
    refine XS.lstoreN X0.here hx rfl (hb hby d4_11) rfl (l' := #[.val (.long q1), .second, .val (.long (v4_11 q1)), .second]) rfl ?_
    show Steps p.tables e below (s₁.setTop (mkF m 12 #[.val (.long q1), .second, .val (.long (v4_11 q1)), .second] [])) _
    refine XS.lloadN X0.here hx rfl (hb hby d4_12) rfl ?_
    show Steps p.tables e below (s₁.setTop (mkF m 13 #[.val (.long q1), .second, .val (.long (v4_11 q1)), .second] [(.long (v4_11 q1))])) _
    refine X0.ldc2Long hx hown (mvT hZ (hw _ (List.mem_of_getElem? (i := 20) rfl))) (g := (mkF m 13 #[.val (.long q1), .second, .val (.long (v4_11 q1)), .second] [(.long (v4_11 q1))])) rfl (hb hby d4_13) _ ?_
    show Steps p.tables e below (s₁.setTop (mkF m 16 #[.val (.long q1), .second, .val (.long (v4_11 q1)), .second] [(.long (2 : Int64)), (.long (v4_11 q1))])) _
    refine XS.lloadN X0.here hx rfl (hb hby d4_16) rfl ?_
    show Steps p.tables e below (s₁.setTop (mkF m 17 #[.val (.long q1), .second, .val (.long (v4_11 q1)), .second] [(.long q1), (.long (2 : Int64)), (.long (v4_11 q1))])) _
    refine XS.lloadN X0.here hx rfl (hb hby d4_17) rfl ?_
    show Steps p.tables e below (s₁.setTop (mkF m 18 #[.val (.long q1), .second, .val (.long (v4_11 q1)), .second] [(.long (v4_11 q1)), (.long q1), (.long (2 : Int64)), (.long (v4_11 q1))])) _
    refine XS.lmul X0.here hx rfl (hb hby d4_18) rfl ?_
    show Steps p.tables e below (s₁.setTop (mkF m 19 #[.val (.long q1), .second, .val (.long (v4_11 q1)), .second] [(.long (q1 * (v4_11 q1))), (.long (2 : Int64)), (.long (v4_11 q1))])) _
    refine XS.lsub X0.here hx rfl (hb hby d4_19) rfl ?_
    show Steps p.tables e below (s₁.setTop (mkF m 20 #[.val (.long q1), .second, .val (.long (v4_11 q1)), .second] [(.long ((2 : Int64) - (q1 * (v4_11 q1)))), (.long (v4_11 q1))])) _
    refine XS.lmul X0.here hx rfl (hb hby d4_20) rfl ?_
    show Steps p.tables e below (s₁.setTop (mkF m 21 #[.val (.long q1), .second, .val (.long (v4_11 q1)), .second] [(.long ((v4_11 q1) * ((2 : Int64) - (q1 * (v4_11 q1)))))])) _
    show Steps p.tables e below (s₁.setTop (mkF m 21 #[.val (.long q1), .second, .val (.long (v4_11 q1)), .second] [(.long (v4_21 q1))])) _
    refine XS.lstoreN X0.here hx rfl (hb hby d4_21) rfl (l' := #[.val (.long q1), .second, .val (.long (v4_21 q1)), .second]) rfl ?_
    show Steps p.tables e below (s₁.setTop (mkF m 22 #[.val (.long q1), .second, .val (.long (v4_21 q1)), .second] [])) _
    refine XS.lloadN X0.here hx rfl (hb hby d4_22) rfl ?_
    show Steps p.tables e below (s₁.setTop (mkF m 23 #[.val (.long q1), .second, .val (.long (v4_21 q1)), .second] [(.long (v4_21 q1))])) _
    refine X0.ldc2Long hx hown (mvT hZ (hw _ (List.mem_of_getElem? (i := 20) rfl))) (g := (mkF m 23 #[.val (.long q1), .second, .val (.long (v4_21 q1)), .second] [(.long (v4_21 q1))])) rfl (hb hby d4_23) _ ?_
    show Steps p.tables e below (s₁.setTop (mkF m 26 #[.val (.long q1), .second, .val (.long (v4_21 q1)), .second] [(.long (2 : Int64)), (.long (v4_21 q1))])) _
    refine XS.lloadN X0.here hx rfl (hb hby d4_26) rfl ?_
    show Steps p.tables e below (s₁.setTop (mkF m 27 #[.val (.long q1), .second, .val (.long (v4_21 q1)), .second] [(.long q1), (.long (2 : Int64)), (.long (v4_21 q1))])) _
    refine XS.lloadN X0.here hx rfl (hb hby d4_27) rfl ?_
    show Steps p.tables e below (s₁.setTop (mkF m 28 #[.val (.long q1), .second, .val (.long (v4_21 q1)), .second] [(.long (v4_21 q1)), (.long q1), (.long (2 : Int64)), (.long (v4_21 q1))])) _
    refine XS.lmul X0.here hx rfl (hb hby d4_28) rfl ?_
    show Steps p.tables e below (s₁.setTop (mkF m 29 #[.val (.long q1), .second, .val (.long (v4_21 q1)), .second] [(.long (q1 * (v4_21 q1))), (.long (2 : Int64)), (.long (v4_21 q1))])) _
    refine XS.lsub X0.here hx rfl (hb hby d4_29) rfl ?_
    show Steps p.tables e below (s₁.setTop (mkF m 30 #[.val (.long q1), .second, .val (.long (v4_21 q1)), .second] [(.long ((2 : Int64) - (q1 * (v4_21 q1)))), (.long (v4_21 q1))])) _
    refine XS.lmul X0.here hx rfl (hb hby d4_30) rfl ?_
    show Steps p.tables e below (s₁.setTop (mkF m 31 #[.val (.long q1), .second, .val (.long (v4_21 q1)), .second] [(.long ((v4_21 q1) * ((2 : Int64) - (q1 * (v4_21 q1)))))])) _
    show Steps p.tables e below (s₁.setTop (mkF m 31 #[.val (.long q1), .second, .val (.long (v4_21 q1)), .second] [(.long (v4_31 q1))])) _
    refine XS.lstoreN X0.here hx rfl (hb hby d4_31) rfl (l' := #[.val (.long q1), .second, .val (.long (v4_31 q1)), .second]) rfl ?_
    show Steps p.tables e below (s₁.setTop (mkF m 32 #[.val (.long q1), .second, .val (.long (v4_31 q1)), .second] [])) _
    refine XS.lloadN X0.here hx rfl (hb hby d4_32) rfl ?_
    show Steps p.tables e below (s₁.setTop (mkF m 33 #[.val (.long q1), .second, .val (.long (v4_31 q1)), .second] [(.long (v4_31 q1))])) _
    refine X0.ldc2Long hx hown (mvT hZ (hw _ (List.mem_of_getElem? (i := 20) rfl))) (g := (mkF m 33 #[.val (.long q1), .second, .val (.long (v4_31 q1)), .second] [(.long (v4_31 q1))])) rfl (hb hby d4_33) _ ?_
    show Steps p.tables e below (s₁.setTop (mkF m 36 #[.val (.long q1), .second, .val (.long (v4_31 q1)), .second] [(.long (2 : Int64)), (.long (v4_31 q1))])) _
    refine XS.lloadN X0.here hx rfl (hb hby d4_36) rfl ?_
    show Steps p.tables e below (s₁.setTop (mkF m 37 #[.val (.long q1), .second, .val (.long (v4_31 q1)), .second] [(.long q1), (.long (2 : Int64)), (.long (v4_31 q1))])) _
    refine XS.lloadN X0.here hx rfl (hb hby d4_37) rfl ?_
    show Steps p.tables e below (s₁.setTop (mkF m 38 #[.val (.long q1), .second, .val (.long (v4_31 q1)), .second] [(.long (v4_31 q1)), (.long q1), (.long (2 : Int64)), (.long (v4_31 q1))])) _
    refine XS.lmul X0.here hx rfl (hb hby d4_38) rfl ?_
    show Steps p.tables e below (s₁.setTop (mkF m 39 #[.val (.long q1), .second, .val (.long (v4_31 q1)), .second] [(.long (q1 * (v4_31 q1))), (.long (2 : Int64)), (.long (v4_31 q1))])) _
    refine XS.lsub X0.here hx rfl (hb hby d4_39) rfl ?_
    show Steps p.tables e below (s₁.setTop (mkF m 40 #[.val (.long q1), .second, .val (.long (v4_31 q1)), .second] [(.long ((2 : Int64) - (q1 * (v4_31 q1)))), (.long (v4_31 q1))])) _
    refine XS.lmul X0.here hx rfl (hb hby d4_40) rfl ?_
    show Steps p.tables e below (s₁.setTop (mkF m 41 #[.val (.long q1), .second, .val (.long (v4_31 q1)), .second] [(.long ((v4_31 q1) * ((2 : Int64) - (q1 * (v4_31 q1)))))])) _
    show Steps p.tables e below (s₁.setTop (mkF m 41 #[.val (.long q1), .second, .val (.long (v4_31 q1)), .second] [(.long (v4_41 q1))])) _
    refine XS.lstoreN X0.here hx rfl (hb hby d4_41) rfl (l' := #[.val (.long q1), .second, .val (.long (v4_41 q1)), .second]) rfl ?_
    show Steps p.tables e below (s₁.setTop (mkF m 42 #[.val (.long q1), .second, .val (.long (v4_41 q1)), .second] [])) _
    refine XS.lloadN X0.here hx rfl (hb hby d4_42) rfl ?_
    show Steps p.tables e below (s₁.setTop (mkF m 43 #[.val (.long q1), .second, .val (.long (v4_41 q1)), .second] [(.long (v4_41 q1))])) _
    refine X0.ldc2Long hx hown (mvT hZ (hw _ (List.mem_of_getElem? (i := 20) rfl))) (g := (mkF m 43 #[.val (.long q1), .second, .val (.long (v4_41 q1)), .second] [(.long (v4_41 q1))])) rfl (hb hby d4_43) _ ?_
    show Steps p.tables e below (s₁.setTop (mkF m 46 #[.val (.long q1), .second, .val (.long (v4_41 q1)), .second] [(.long (2 : Int64)), (.long (v4_41 q1))])) _
    refine XS.lloadN X0.here hx rfl (hb hby d4_46) rfl ?_
    show Steps p.tables e below (s₁.setTop (mkF m 47 #[.val (.long q1), .second, .val (.long (v4_41 q1)), .second] [(.long q1), (.long (2 : Int64)), (.long (v4_41 q1))])) _
    refine XS.lloadN X0.here hx rfl (hb hby d4_47) rfl ?_
    show Steps p.tables e below (s₁.setTop (mkF m 48 #[.val (.long q1), .second, .val (.long (v4_41 q1)), .second] [(.long (v4_41 q1)), (.long q1), (.long (2 : Int64)), (.long (v4_41 q1))])) _
    refine XS.lmul X0.here hx rfl (hb hby d4_48) rfl ?_
    show Steps p.tables e below (s₁.setTop (mkF m 49 #[.val (.long q1), .second, .val (.long (v4_41 q1)), .second] [(.long (q1 * (v4_41 q1))), (.long (2 : Int64)), (.long (v4_41 q1))])) _
    refine XS.lsub X0.here hx rfl (hb hby d4_49) rfl ?_
    show Steps p.tables e below (s₁.setTop (mkF m 50 #[.val (.long q1), .second, .val (.long (v4_41 q1)), .second] [(.long ((2 : Int64) - (q1 * (v4_41 q1)))), (.long (v4_41 q1))])) _
    refine XS.lmul X0.here hx rfl (hb hby d4_50) rfl ?_
    show Steps p.tables e below (s₁.setTop (mkF m 51 #[.val (.long q1), .second, .val (.long (v4_41 q1)), .second] [(.long ((v4_41 q1) * ((2 : Int64) - (q1 * (v4_41 q1)))))])) _
    show Steps p.tables e below (s₁.setTop (mkF m 51 #[.val (.long q1), .second, .val (.long (v4_41 q1)), .second] [(.long (v4_51 q1))])) _
    refine XS.lstoreN X0.here hx rfl (hb hby d4_51) rfl (l' := #[.val (.long q1), .second, .val (.long (v4_51 q1)), .second]) rfl ?_
    show Steps p.tables e below (s₁.setTop (mkF m 52 #[.val (.long q1), .second, .val (.long (v4_51 q1)), .second] [])) _
    refine XS.lloadN X0.here hx rfl (hb hby d4_52) rfl ?_
    show Steps p.tables e below (s₁.setTop (mkF m 53 #[.val (.long q1), .second, .val (.long (v4_51 q1)), .second] [(.long (v4_51 q1))])) _
    show Steps p.tables e below (s₁.setTop (mkF m 53 #[.val (.long q1), .second, .val (.long (v4_51 q1)), .second] [(.long (f4 q1))])) _
    exact X0.lreturnOut hx Bd.returns (hb hby d4_53) hr
  · show Q4 Z q1 h0 n0 _ s₁.heap _
    rw [e0]
    exact ⟨rfl, N0, rfl⟩
theorem ef_2 (m : MethodId) (x0 : Int64) : entryFrame m #[(.long x0)] 2 = mkF m 0 #[.val (.long x0), .second] [] := by first | (simp [entryFrame, mkF, argsToLocals, Value.category]; done) | rfl
theorem pn_Draws : plainName "com/example/heapmark/heapmark/generate/Draws" = true := by first | (simp [plainName, overriddenIn]; done) | decide +kernel
theorem d2_0 : decode prog_42_method_7_code 0 = .ok (.lload_n 0, 1) := by decide +kernel
theorem d2_1 : decode prog_42_method_7_code 1 = .ok (.lload_n 0, 1) := by decide +kernel
theorem d2_2 : decode prog_42_method_7_code 2 = .ok (.bipush 30, 2) := by decide +kernel
theorem d2_4 : decode prog_42_method_7_code 4 = .ok (.lushr, 1) := by decide +kernel
theorem d2_5 : decode prog_42_method_7_code 5 = .ok (.lxor, 1) := by decide +kernel
theorem d2_6 : decode prog_42_method_7_code 6 = .ok (.ldc2_w 27, 3) := by decide +kernel
theorem d2_9 : decode prog_42_method_7_code 9 = .ok (.lmul, 1) := by decide +kernel
theorem d2_10 : decode prog_42_method_7_code 10 = .ok (.lstore_n 0, 1) := by decide +kernel
def v2_10 (q1 : Int64) : Int64 := ((q1 ^^^ ((q1.toUInt64 >>> ((30 : Int32) &&& 0x3f).toInt64.toUInt64).toInt64)) * (-4658895280553007687 : Int64))
theorem d2_11 : decode prog_42_method_7_code 11 = .ok (.lload_n 0, 1) := by decide +kernel
theorem d2_12 : decode prog_42_method_7_code 12 = .ok (.lload_n 0, 1) := by decide +kernel
theorem d2_13 : decode prog_42_method_7_code 13 = .ok (.bipush 27, 2) := by decide +kernel
theorem d2_15 : decode prog_42_method_7_code 15 = .ok (.lushr, 1) := by decide +kernel
theorem d2_16 : decode prog_42_method_7_code 16 = .ok (.lxor, 1) := by decide +kernel
theorem d2_17 : decode prog_42_method_7_code 17 = .ok (.ldc2_w 29, 3) := by decide +kernel
theorem d2_20 : decode prog_42_method_7_code 20 = .ok (.lmul, 1) := by decide +kernel
theorem d2_21 : decode prog_42_method_7_code 21 = .ok (.lstore_n 0, 1) := by decide +kernel
def v2_21 (q1 : Int64) : Int64 := (((v2_10 q1) ^^^ (((v2_10 q1).toUInt64 >>> ((27 : Int32) &&& 0x3f).toInt64.toUInt64).toInt64)) * (-7723592293110705685 : Int64))
theorem d2_22 : decode prog_42_method_7_code 22 = .ok (.lload_n 0, 1) := by decide +kernel
theorem d2_23 : decode prog_42_method_7_code 23 = .ok (.lload_n 0, 1) := by decide +kernel
theorem d2_24 : decode prog_42_method_7_code 24 = .ok (.bipush 31, 2) := by decide +kernel
theorem d2_26 : decode prog_42_method_7_code 26 = .ok (.lushr, 1) := by decide +kernel
theorem d2_27 : decode prog_42_method_7_code 27 = .ok (.lxor, 1) := by decide +kernel
def f2 (q1 : Int64) : Int64 := ((v2_21 q1) ^^^ (((v2_21 q1).toUInt64 >>> ((31 : Int32) &&& 0x3f).toInt64.toUInt64).toInt64))
theorem d2_28 : decode prog_42_method_7_code 28 = .ok (.lreturn, 1) := by decide +kernel
def Q2 (Z : State) (q1 : Int64) (h0 : Heap) (n0 : Nat) (v : Option Value) (h : Heap) (L : List Loc) : Prop := v = some (.long (f2 q1)) ∧ Fr n0 L ∧ h = h0
set_option maxRecDepth 65536 in
set_option maxHeartbeats 40000000 in
theorem rm2 (l : Launch) (Z : State) (a0 : Array Value) (hw : ∀ d ∈ tables_1, d.before a0 Z = true) (ws : List Jvm.Cond) (q1 : Int64) (h0 : Heap) (n0 : Nat) (Z0 : n0 ≤ h0.size) :
    MetFree l (⟨"com/example/heapmark/heapmark/generate/Draws", "mix", "(J)J"⟩ : MethodName) (head1 (Jvm.Cond.code (⟨"com/example/heapmark/heapmark/generate/Draws", "mix", "(J)J"⟩ : MethodName) prog_42_method_7_code 2 (some .long) :: ws) ({ frames := 0, cells := 0, slots := 0, locals := 0 } : Room)) (fun a U => a = #[(.long q1)] ∧ Z.Warmed39 U.vm ∧ U.heap = h0) (fun _ _ _ _ _ => True) (fun _ U o U' => ∃ v L, o = .returned v ∧ Q2 Z q1 h0 n0 v U'.heap L ∧ FrameEnd U o U' L ({ frames := 0, cells := 0, slots := 0, locals := 0 } : Room).cells ({ frames := 0, cells := 0, slots := 0, locals := 0 } : Room).slots) := by
  refine MetFree.of_bodySF (plainFor_of_name pn_Draws) hisR ?_
  intro p e s m args below meth c s₁ Bd hml0 hP hK
  obtain ⟨rfl, hZ, hh⟩ := hP
  have hx := Bd.exec
  have hby := Bd.bytes
  have hml : c.maxLocals = 2 := hml0
  have hown : s.vm.findClass "com/example/heapmark/heapmark/generate/Draws" = some m.cls := findClass_of_methodNamed Bd.named
  have hnm := (name_of_methodNamed Bd.named Bd.method).1
  have X0 : Stand p l e ({ frames := 0, cells := 0, slots := 0, locals := 0 } : Room) s m #[(.long q1)] below meth c s₁ [] 0 0 := Stand.of_body Bd
  have e0 : s₁.heap = h0 := by rw [← hh, Bd.state]; rfl
  have N0 := Fr.nil n0
  have pre0 : ∀ t, Steps p.tables e below (s₁.setTop (mkF m 0 #[.val (.long q1), .second] [])) t → Steps p.tables e below (s₁.setTop (entryFrame m #[(.long q1)] 2)) t := fun t k => castTop (ef_2 m q1) k
  obtain ⟨fs, hr, hrun, hended, hW, hsame⟩ := X0.leave (v := some (.long (f2 q1))) (fun h => by rw [Bd.returns] at h; cases h)
  refine ⟨_, _, pre0 _ ?_, hrun, hended, _, _, rfl, ?_, ⟨_, rfl⟩, hW, hsame.mono (by decide) (by decide)⟩
  · show Steps p.tables e below (s₁.setTop (mkF m 0 #[.val (.long q1), .second] [])) _
    refine XS.lloadN X0.here hx rfl (hb hby d2_0) rfl ?_
    show Steps p.tables e below (s₁.setTop (mkF m 1 #[.val (.long q1), .second] [(.long q1)])) _
    refine XS.lloadN X0.here hx rfl (hb hby d2_1) rfl ?_
    show Steps p.tables e below (s₁.setTop (mkF m 2 #[.val (.long q1), .second] [(.long q1), (.long q1)])) _
    refine XS.bipush X0.here hx rfl (hb hby d2_2) ?_
    show Steps p.tables e below (s₁.setTop (mkF m 4 #[.val (.long q1), .second] [(.int (30 : Int32)), (.long q1), (.long q1)])) _
    refine XS.lushr X0.here hx rfl (hb hby d2_4) rfl ?_
    show Steps p.tables e below (s₁.setTop (mkF m 5 #[.val (.long q1), .second] [(.long ((q1.toUInt64 >>> ((30 : Int32) &&& 0x3f).toInt64.toUInt64).toInt64)), (.long q1)])) _
    refine XS.lxor X0.here hx rfl (hb hby d2_5) rfl ?_
    show Steps p.tables e below (s₁.setTop (mkF m 6 #[.val (.long q1), .second] [(.long (q1 ^^^ ((q1.toUInt64 >>> ((30 : Int32) &&& 0x3f).toInt64.toUInt64).toInt64)))])) _
    refine X0.ldc2Long hx hown (mvT hZ (hw _ (List.mem_of_getElem? (i := 9) rfl))) (g := (mkF m 6 #[.val (.long q1), .second] [(.long (q1 ^^^ ((q1.toUInt64 >>> ((30 : Int32) &&& 0x3f).toInt64.toUInt64).toInt64)))])) rfl (hb hby d2_6) _ ?_
    show Steps p.tables e below (s₁.setTop (mkF m 9 #[.val (.long q1), .second] [(.long (-4658895280553007687 : Int64)), (.long (q1 ^^^ ((q1.toUInt64 >>> ((30 : Int32) &&& 0x3f).toInt64.toUInt64).toInt64)))])) _
    refine XS.lmul X0.here hx rfl (hb hby d2_9) rfl ?_
    show Steps p.tables e below (s₁.setTop (mkF m 10 #[.val (.long q1), .second] [(.long ((q1 ^^^ ((q1.toUInt64 >>> ((30 : Int32) &&& 0x3f).toInt64.toUInt64).toInt64)) * (-4658895280553007687 : Int64)))])) _
    show Steps p.tables e below (s₁.setTop (mkF m 10 #[.val (.long q1), .second] [(.long (v2_10 q1))])) _
    refine XS.lstoreN X0.here hx rfl (hb hby d2_10) rfl (l' := #[.val (.long (v2_10 q1)), .second]) rfl ?_
    show Steps p.tables e below (s₁.setTop (mkF m 11 #[.val (.long (v2_10 q1)), .second] [])) _
    refine XS.lloadN X0.here hx rfl (hb hby d2_11) rfl ?_
    show Steps p.tables e below (s₁.setTop (mkF m 12 #[.val (.long (v2_10 q1)), .second] [(.long (v2_10 q1))])) _
    refine XS.lloadN X0.here hx rfl (hb hby d2_12) rfl ?_
    show Steps p.tables e below (s₁.setTop (mkF m 13 #[.val (.long (v2_10 q1)), .second] [(.long (v2_10 q1)), (.long (v2_10 q1))])) _
    refine XS.bipush X0.here hx rfl (hb hby d2_13) ?_
    show Steps p.tables e below (s₁.setTop (mkF m 15 #[.val (.long (v2_10 q1)), .second] [(.int (27 : Int32)), (.long (v2_10 q1)), (.long (v2_10 q1))])) _
    refine XS.lushr X0.here hx rfl (hb hby d2_15) rfl ?_
    show Steps p.tables e below (s₁.setTop (mkF m 16 #[.val (.long (v2_10 q1)), .second] [(.long (((v2_10 q1).toUInt64 >>> ((27 : Int32) &&& 0x3f).toInt64.toUInt64).toInt64)), (.long (v2_10 q1))])) _
    refine XS.lxor X0.here hx rfl (hb hby d2_16) rfl ?_
    show Steps p.tables e below (s₁.setTop (mkF m 17 #[.val (.long (v2_10 q1)), .second] [(.long ((v2_10 q1) ^^^ (((v2_10 q1).toUInt64 >>> ((27 : Int32) &&& 0x3f).toInt64.toUInt64).toInt64)))])) _
    refine X0.ldc2Long hx hown (mvT hZ (hw _ (List.mem_of_getElem? (i := 10) rfl))) (g := (mkF m 17 #[.val (.long (v2_10 q1)), .second] [(.long ((v2_10 q1) ^^^ (((v2_10 q1).toUInt64 >>> ((27 : Int32) &&& 0x3f).toInt64.toUInt64).toInt64)))])) rfl (hb hby d2_17) _ ?_
    show Steps p.tables e below (s₁.setTop (mkF m 20 #[.val (.long (v2_10 q1)), .second] [(.long (-7723592293110705685 : Int64)), (.long ((v2_10 q1) ^^^ (((v2_10 q1).toUInt64 >>> ((27 : Int32) &&& 0x3f).toInt64.toUInt64).toInt64)))])) _
    refine XS.lmul X0.here hx rfl (hb hby d2_20) rfl ?_
    show Steps p.tables e below (s₁.setTop (mkF m 21 #[.val (.long (v2_10 q1)), .second] [(.long (((v2_10 q1) ^^^ (((v2_10 q1).toUInt64 >>> ((27 : Int32) &&& 0x3f).toInt64.toUInt64).toInt64)) * (-7723592293110705685 : Int64)))])) _
    show Steps p.tables e below (s₁.setTop (mkF m 21 #[.val (.long (v2_10 q1)), .second] [(.long (v2_21 q1))])) _
    refine XS.lstoreN X0.here hx rfl (hb hby d2_21) rfl (l' := #[.val (.long (v2_21 q1)), .second]) rfl ?_
    show Steps p.tables e below (s₁.setTop (mkF m 22 #[.val (.long (v2_21 q1)), .second] [])) _
    refine XS.lloadN X0.here hx rfl (hb hby d2_22) rfl ?_
    show Steps p.tables e below (s₁.setTop (mkF m 23 #[.val (.long (v2_21 q1)), .second] [(.long (v2_21 q1))])) _
    refine XS.lloadN X0.here hx rfl (hb hby d2_23) rfl ?_
    show Steps p.tables e below (s₁.setTop (mkF m 24 #[.val (.long (v2_21 q1)), .second] [(.long (v2_21 q1)), (.long (v2_21 q1))])) _
    refine XS.bipush X0.here hx rfl (hb hby d2_24) ?_
    show Steps p.tables e below (s₁.setTop (mkF m 26 #[.val (.long (v2_21 q1)), .second] [(.int (31 : Int32)), (.long (v2_21 q1)), (.long (v2_21 q1))])) _
    refine XS.lushr X0.here hx rfl (hb hby d2_26) rfl ?_
    show Steps p.tables e below (s₁.setTop (mkF m 27 #[.val (.long (v2_21 q1)), .second] [(.long (((v2_21 q1).toUInt64 >>> ((31 : Int32) &&& 0x3f).toInt64.toUInt64).toInt64)), (.long (v2_21 q1))])) _
    refine XS.lxor X0.here hx rfl (hb hby d2_27) rfl ?_
    show Steps p.tables e below (s₁.setTop (mkF m 28 #[.val (.long (v2_21 q1)), .second] [(.long ((v2_21 q1) ^^^ (((v2_21 q1).toUInt64 >>> ((31 : Int32) &&& 0x3f).toInt64.toUInt64).toInt64)))])) _
    show Steps p.tables e below (s₁.setTop (mkF m 28 #[.val (.long (v2_21 q1)), .second] [(.long (f2 q1))])) _
    exact X0.lreturnOut hx Bd.returns (hb hby d2_28) hr
  · show Q2 Z q1 h0 n0 _ s₁.heap _
    rw [e0]
    exact ⟨rfl, N0, rfl⟩
theorem ef_1 (m : MethodId) (x0 : Int64) (x1 : Int32) : entryFrame m #[(.long x0), (.int x1)] 3 = mkF m 0 #[.val (.long x0), .second, .val (.int x1)] [] := by first | (simp [entryFrame, mkF, argsToLocals, Value.category]; done) | rfl
theorem d1_0 : decode prog_42_method_4_code 0 = .ok (.lload_n 0, 1) := by decide +kernel
theorem d1_1 : decode prog_42_method_4_code 1 = .ok (.iload_n 2, 1) := by decide +kernel
theorem d1_2 : decode prog_42_method_4_code 2 = .ok (.iconst 1, 1) := by decide +kernel
theorem d1_3 : decode prog_42_method_4_code 3 = .ok (.iadd, 1) := by decide +kernel
theorem d1_4 : decode prog_42_method_4_code 4 = .ok (.i2l, 1) := by decide +kernel
theorem d1_5 : decode prog_42_method_4_code 5 = .ok (.ldc2_w 19, 3) := by decide +kernel
theorem d1_8 : decode prog_42_method_4_code 8 = .ok (.lmul, 1) := by decide +kernel
theorem d1_9 : decode prog_42_method_4_code 9 = .ok (.ladd, 1) := by decide +kernel
def v1_1000 (q1 : Int64) (p2 : Int32) : Int64 := (q1 + (((p2 + (1 : Int32)).toInt64) * (-7046029254386353131 : Int64)))
theorem pd__J_J : parseMethodDescriptor "(J)J" = some ⟨[.long], some .long⟩ := by decide +kernel
theorem d1_10 : decode prog_42_method_4_code 10 = .ok (.invokestatic 7, 3) := by decide +kernel
def f1 (q1 : Int64) (p2 : Int32) : Int64 := (f2 (v1_1000 q1 p2))
theorem d1_13 : decode prog_42_method_4_code 13 = .ok (.lreturn, 1) := by decide +kernel
def Q1 (Z : State) (q1 : Int64) (p2 : Int32) (h0 : Heap) (n0 : Nat) (v : Option Value) (h : Heap) (L : List Loc) : Prop := v = some (.long (f1 q1 p2)) ∧ Fr n0 L ∧ h = h0
set_option maxRecDepth 65536 in
set_option maxHeartbeats 40000000 in
theorem rm1 (l : Launch) (Z : State) (a0 : Array Value) (hw : ∀ d ∈ tables_1, d.before a0 Z = true) (ws : List Jvm.Cond) (q1 : Int64) (p2 : Int32) (h0 : Heap) (n0 : Nat) (Z0 : n0 ≤ h0.size) :
    MetFree l (⟨"com/example/heapmark/heapmark/generate/Draws", "draw", "(JI)J"⟩ : MethodName) (head1 (Jvm.Cond.code (⟨"com/example/heapmark/heapmark/generate/Draws", "draw", "(JI)J"⟩ : MethodName) prog_42_method_4_code 3 (some .long) :: ws) ({ frames := 1, cells := 0, slots := 0, locals := 13 } : Room)) (fun a U => a = #[(.long q1), (.int p2)] ∧ Z.Warmed39 U.vm ∧ U.heap = h0) (fun _ _ _ _ _ => True) (fun _ U o U' => ∃ v L, o = .returned v ∧ Q1 Z q1 p2 h0 n0 v U'.heap L ∧ FrameEnd U o U' L ({ frames := 1, cells := 0, slots := 0, locals := 13 } : Room).cells ({ frames := 1, cells := 0, slots := 0, locals := 13 } : Room).slots) := by
  refine MetFree.of_bodySF (plainFor_of_name pn_Draws) hisR ?_
  intro p e s m args below meth c s₁ Bd hml0 hP hK
  obtain ⟨rfl, hZ, hh⟩ := hP
  have hx := Bd.exec
  have hby := Bd.bytes
  have hml : c.maxLocals = 3 := hml0
  have hown : s.vm.findClass "com/example/heapmark/heapmark/generate/Draws" = some m.cls := findClass_of_methodNamed Bd.named
  have hnm := (name_of_methodNamed Bd.named Bd.method).1
  have X0 : Stand p l e ({ frames := 1, cells := 0, slots := 0, locals := 13 } : Room) s m #[(.long q1), (.int p2)] below meth c s₁ [] 0 0 := Stand.of_body Bd
  have e0 : s₁.heap = h0 := by rw [← hh, Bd.state]; rfl
  have N0 := Fr.nil n0
  have pre0 : ∀ t, Steps p.tables e below (s₁.setTop (mkF m 0 #[.val (.long q1), .second, .val (.int p2)] [])) t → Steps p.tables e below (s₁.setTop (entryFrame m #[(.long q1), (.int p2)] 3)) t := fun t k => castTop (ef_1 m q1 p2) k
  obtain ⟨_, _, ⟨T1, L1, k1, n1⟩, -, X1, ⟨Lc1, hQ1, l1, y1, z1⟩, st1⟩ := Jvm.LawKit.callS X0 hx (y := (⟨"com/example/heapmark/heapmark/generate/Draws", "mix", "(J)J"⟩ : MethodName)) hown (mvT hZ (hw _ (List.mem_of_getElem? (i := 6) rfl))) (mvT hZ (hw _ (List.mem_of_getElem? (i := 7) rfl))) (mvT hZ (hw _ (List.mem_of_getElem? (i := 3) rfl))) (mvT hZ (hw _ (List.mem_of_getElem? (i := 8) rfl))) (by decide) (backOf (W := 0) (rm2 l Z a0 hw [] (v1_1000 q1 p2) h0 n0 Z0) hZ (hw _ (List.mem_of_getElem? (i := 8) rfl)) (hw _ (List.mem_of_getElem? (i := 3) rfl)) (by decide) (by decide)) (g := (mkF m 10 #[.val (.long q1), .second, .val (.int p2)] [(.long (v1_1000 q1 p2))])) rfl (by rw [hml]; rfl) (argsL := [(.long (v1_1000 q1 p2))]) (rest := []) (lenOf pd__J_J rfl) rfl (by show 2 * 0 + _ ≤ _; exact Nat.le_of_eq rfl) (hb hby d1_10) (fun _ _ => ⟨rfl, e0, (by decide : 0 + 0 ≤ _), (by decide : 0 + 0 ≤ _)⟩)
  dsimp only [Pt.U, Pt.locs, Pt.cells, Pt.slots] at X1 l1 y1 z1 st1 hQ1
  subst l1 y1 z1
  obtain ⟨rfl, Nq1, eh1⟩ := hQ1
  have N1 := Fr.app N0 Nq1
  obtain ⟨fs, hr, hrun, hended, hW, hsame⟩ := X1.leave (v := some (.long (f1 q1 p2))) (fun h => by rw [Bd.returns] at h; cases h)
  refine ⟨_, _, pre0 _ ?_, hrun, hended, _, _, rfl, ?_, ⟨_, rfl⟩, hW, hsame.mono (by decide) (by decide)⟩
  · show Steps p.tables e below (s₁.setTop (mkF m 0 #[.val (.long q1), .second, .val (.int p2)] [])) _
    refine XS.lloadN X0.here hx rfl (hb hby d1_0) rfl ?_
    show Steps p.tables e below (s₁.setTop (mkF m 1 #[.val (.long q1), .second, .val (.int p2)] [(.long q1)])) _
    refine XS.iloadN X0.here hx rfl (hb hby d1_1) rfl ?_
    show Steps p.tables e below (s₁.setTop (mkF m 2 #[.val (.long q1), .second, .val (.int p2)] [(.int p2), (.long q1)])) _
    refine XS.iconst X0.here hx rfl (hb hby d1_2) ?_
    show Steps p.tables e below (s₁.setTop (mkF m 3 #[.val (.long q1), .second, .val (.int p2)] [(.int (1 : Int32)), (.int p2), (.long q1)])) _
    refine XS.iadd X0.here hx rfl (hb hby d1_3) rfl ?_
    show Steps p.tables e below (s₁.setTop (mkF m 4 #[.val (.long q1), .second, .val (.int p2)] [(.int (p2 + (1 : Int32))), (.long q1)])) _
    refine XS.i2l X0.here hx rfl (hb hby d1_4) rfl ?_
    show Steps p.tables e below (s₁.setTop (mkF m 5 #[.val (.long q1), .second, .val (.int p2)] [(.long ((p2 + (1 : Int32)).toInt64)), (.long q1)])) _
    refine X0.ldc2Long hx hown (mvT hZ (hw _ (List.mem_of_getElem? (i := 5) rfl))) (g := (mkF m 5 #[.val (.long q1), .second, .val (.int p2)] [(.long ((p2 + (1 : Int32)).toInt64)), (.long q1)])) rfl (hb hby d1_5) _ ?_
    show Steps p.tables e below (s₁.setTop (mkF m 8 #[.val (.long q1), .second, .val (.int p2)] [(.long (-7046029254386353131 : Int64)), (.long ((p2 + (1 : Int32)).toInt64)), (.long q1)])) _
    refine XS.lmul X0.here hx rfl (hb hby d1_8) rfl ?_
    show Steps p.tables e below (s₁.setTop (mkF m 9 #[.val (.long q1), .second, .val (.int p2)] [(.long (((p2 + (1 : Int32)).toInt64) * (-7046029254386353131 : Int64))), (.long q1)])) _
    refine XS.ladd X0.here hx rfl (hb hby d1_9) rfl ?_
    show Steps p.tables e below (s₁.setTop (mkF m 10 #[.val (.long q1), .second, .val (.int p2)] [(.long (q1 + (((p2 + (1 : Int32)).toInt64) * (-7046029254386353131 : Int64))))])) _
    show Steps p.tables e below (s₁.setTop (mkF m 10 #[.val (.long q1), .second, .val (.int p2)] [(.long (v1_1000 q1 p2))])) _
    refine st1 _ ?_
    show Steps p.tables e below (T1.setTop (mkF m 13 #[.val (.long q1), .second, .val (.int p2)] [(.long (f2 (v1_1000 q1 p2)))])) _
    show Steps p.tables e below (T1.setTop (mkF m 13 #[.val (.long q1), .second, .val (.int p2)] [(.long (f1 q1 p2))])) _
    exact X1.lreturnOut hx Bd.returns (hb hby d1_13) hr
  · show Q1 Z q1 p2 h0 n0 _ T1.heap _
    rw [eh1]
    exact ⟨rfl, N1, rfl⟩
theorem ef_3 (m : MethodId) (x0 : Int64) : entryFrame m #[(.long x0)] 4 = mkF m 0 #[.val (.long x0), .second, .unset, .unset] [] := by first | (simp [entryFrame, mkF, argsToLocals, Value.category]; done) | rfl
theorem d3_0 : decode method_4_code 0 = .ok (.lload_n 0, 1) := by decide +kernel
theorem d3_1 : decode method_4_code 1 = .ok (.lload_n 0, 1) := by decide +kernel
theorem d3_2 : decode method_4_code 2 = .ok (.bipush 31, 2) := by decide +kernel
theorem d3_4 : decode method_4_code 4 = .ok (.lushr, 1) := by decide +kernel
theorem d3_5 : decode method_4_code 5 = .ok (.lxor, 1) := by decide +kernel
theorem d3_6 : decode method_4_code 6 = .ok (.lload_n 0, 1) := by decide +kernel
theorem d3_7 : decode method_4_code 7 = .ok (.bipush 62, 2) := by decide +kernel
theorem d3_9 : decode method_4_code 9 = .ok (.lushr, 1) := by decide +kernel
theorem d3_10 : decode method_4_code 10 = .ok (.lxor, 1) := by decide +kernel
theorem d3_11 : decode method_4_code 11 = .ok (.lstore_n 2, 1) := by decide +kernel
def v3_11 (q1 : Int64) : Int64 := ((q1 ^^^ ((q1.toUInt64 >>> ((31 : Int32) &&& 0x3f).toInt64.toUInt64).toInt64)) ^^^ ((q1.toUInt64 >>> ((62 : Int32) &&& 0x3f).toInt64.toUInt64).toInt64))
theorem d3_12 : decode method_4_code 12 = .ok (.lload_n 2, 1) := by decide +kernel
theorem d3_13 : decode method_4_code 13 = .ok (.ldc2_w 24, 3) := by decide +kernel
theorem d3_16 : decode method_4_code 16 = .ok (.invokestatic 26, 3) := by decide +kernel
theorem d3_19 : decode method_4_code 19 = .ok (.lmul, 1) := by decide +kernel
theorem d3_20 : decode method_4_code 20 = .ok (.lstore_n 2, 1) := by decide +kernel
def v3_20 (q1 : Int64) : Int64 := ((v3_11 q1) * (f4 (-7723592293110705685 : Int64)))
theorem d3_21 : decode method_4_code 21 = .ok (.lload_n 2, 1) := by decide +kernel
theorem d3_22 : decode method_4_code 22 = .ok (.lload_n 2, 1) := by decide +kernel
theorem d3_23 : decode method_4_code 23 = .ok (.bipush 27, 2) := by decide +kernel
theorem d3_25 : decode method_4_code 25 = .ok (.lushr, 1) := by decide +kernel
theorem d3_26 : decode method_4_code 26 = .ok (.lxor, 1) := by decide +kernel
theorem d3_27 : decode method_4_code 27 = .ok (.lload_n 2, 1) := by decide +kernel
theorem d3_28 : decode method_4_code 28 = .ok (.bipush 54, 2) := by decide +kernel
theorem d3_30 : decode method_4_code 30 = .ok (.lushr, 1) := by decide +kernel
theorem d3_31 : decode method_4_code 31 = .ok (.lxor, 1) := by decide +kernel
theorem d3_32 : decode method_4_code 32 = .ok (.lstore_n 2, 1) := by decide +kernel
def v3_32 (q1 : Int64) : Int64 := (((v3_20 q1) ^^^ (((v3_20 q1).toUInt64 >>> ((27 : Int32) &&& 0x3f).toInt64.toUInt64).toInt64)) ^^^ (((v3_20 q1).toUInt64 >>> ((54 : Int32) &&& 0x3f).toInt64.toUInt64).toInt64))
theorem d3_33 : decode method_4_code 33 = .ok (.lload_n 2, 1) := by decide +kernel
theorem d3_34 : decode method_4_code 34 = .ok (.ldc2_w 29, 3) := by decide +kernel
theorem d3_37 : decode method_4_code 37 = .ok (.invokestatic 26, 3) := by decide +kernel
theorem d3_40 : decode method_4_code 40 = .ok (.lmul, 1) := by decide +kernel
theorem d3_41 : decode method_4_code 41 = .ok (.lstore_n 2, 1) := by decide +kernel
def v3_41 (q1 : Int64) : Int64 := ((v3_32 q1) * (f4 (-4658895280553007687 : Int64)))
theorem d3_42 : decode method_4_code 42 = .ok (.lload_n 2, 1) := by decide +kernel
theorem d3_43 : decode method_4_code 43 = .ok (.lload_n 2, 1) := by decide +kernel
theorem d3_44 : decode method_4_code 44 = .ok (.bipush 30, 2) := by decide +kernel
theorem d3_46 : decode method_4_code 46 = .ok (.lushr, 1) := by decide +kernel
theorem d3_47 : decode method_4_code 47 = .ok (.lxor, 1) := by decide +kernel
theorem d3_48 : decode method_4_code 48 = .ok (.lload_n 2, 1) := by decide +kernel
theorem d3_49 : decode method_4_code 49 = .ok (.bipush 60, 2) := by decide +kernel
theorem d3_51 : decode method_4_code 51 = .ok (.lushr, 1) := by decide +kernel
theorem d3_52 : decode method_4_code 52 = .ok (.lxor, 1) := by decide +kernel
theorem d3_53 : decode method_4_code 53 = .ok (.lstore_n 2, 1) := by decide +kernel
def v3_53 (q1 : Int64) : Int64 := (((v3_41 q1) ^^^ (((v3_41 q1).toUInt64 >>> ((30 : Int32) &&& 0x3f).toInt64.toUInt64).toInt64)) ^^^ (((v3_41 q1).toUInt64 >>> ((60 : Int32) &&& 0x3f).toInt64.toUInt64).toInt64))
theorem d3_54 : decode method_4_code 54 = .ok (.lload_n 2, 1) := by decide +kernel
def f3 (q1 : Int64) : Int64 := (v3_53 q1)
theorem d3_55 : decode method_4_code 55 = .ok (.lreturn, 1) := by decide +kernel
def Q3 (Z : State) (q1 : Int64) (h0 : Heap) (n0 : Nat) (v : Option Value) (h : Heap) (L : List Loc) : Prop := v = some (.long (f3 q1)) ∧ Fr n0 L ∧ h = h0
set_option maxRecDepth 65536 in
set_option maxHeartbeats 40000000 in
theorem rm3 (l : Launch) (Z : State) (a0 : Array Value) (hw : ∀ d ∈ tables_1, d.before a0 Z = true) (ws : List Jvm.Cond) (q1 : Int64) (h0 : Heap) (n0 : Nat) (Z0 : n0 ≤ h0.size) :
    MetFree l (⟨"com/example/heapmark/heapmark/generate/DrawsDrawPinLaw", "unmix", "(J)J"⟩ : MethodName) (head1 (Jvm.Cond.code (⟨"com/example/heapmark/heapmark/generate/DrawsDrawPinLaw", "unmix", "(J)J"⟩ : MethodName) method_4_code 4 (some .long) :: ws) ({ frames := 1, cells := 0, slots := 0, locals := 17 } : Room)) (fun a U => a = #[(.long q1)] ∧ Z.Warmed39 U.vm ∧ U.heap = h0) (fun _ _ _ _ _ => True) (fun _ U o U' => ∃ v L, o = .returned v ∧ Q3 Z q1 h0 n0 v U'.heap L ∧ FrameEnd U o U' L ({ frames := 1, cells := 0, slots := 0, locals := 17 } : Room).cells ({ frames := 1, cells := 0, slots := 0, locals := 17 } : Room).slots) := by
  refine MetFree.of_bodySF (plainFor_of_name pn_DrawsDrawPinLaw) hisR ?_
  intro p e s m args below meth c s₁ Bd hml0 hP hK
  obtain ⟨rfl, hZ, hh⟩ := hP
  have hx := Bd.exec
  have hby := Bd.bytes
  have hml : c.maxLocals = 4 := hml0
  have hown : s.vm.findClass "com/example/heapmark/heapmark/generate/DrawsDrawPinLaw" = some m.cls := findClass_of_methodNamed Bd.named
  have hnm := (name_of_methodNamed Bd.named Bd.method).1
  have X0 : Stand p l e ({ frames := 1, cells := 0, slots := 0, locals := 17 } : Room) s m #[(.long q1)] below meth c s₁ [] 0 0 := Stand.of_body Bd
  have e0 : s₁.heap = h0 := by rw [← hh, Bd.state]; rfl
  have N0 := Fr.nil n0
  have pre0 : ∀ t, Steps p.tables e below (s₁.setTop (mkF m 0 #[.val (.long q1), .second, .unset, .unset] [])) t → Steps p.tables e below (s₁.setTop (entryFrame m #[(.long q1)] 4)) t := fun t k => castTop (ef_3 m q1) k
  obtain ⟨_, _, ⟨T2, L2, k2, n2⟩, -, X2, ⟨Lc2, hQ2, l2, y2, z2⟩, st2⟩ := Jvm.LawKit.callS X0 hx (y := (⟨"com/example/heapmark/heapmark/generate/DrawsDrawPinLaw", "inverse", "(J)J"⟩ : MethodName)) hown (mvT hZ (hw _ (List.mem_of_getElem? (i := 17) rfl))) (mvT hZ (hw _ (List.mem_of_getElem? (i := 18) rfl))) (mvT hZ (hw _ (List.mem_of_getElem? (i := 14) rfl))) (mvT hZ (hw _ (List.mem_of_getElem? (i := 19) rfl))) (by decide) (backOf (W := 2) (rm4 l Z a0 hw [] (-7723592293110705685 : Int64) h0 n0 Z0) hZ (hw _ (List.mem_of_getElem? (i := 19) rfl)) (hw _ (List.mem_of_getElem? (i := 14) rfl)) (by decide) (by decide)) (g := (mkF m 16 #[.val (.long q1), .second, .val (.long (v3_11 q1)), .second] [(.long (-7723592293110705685 : Int64)), (.long (v3_11 q1))])) rfl (by rw [hml]; rfl) (argsL := [(.long (-7723592293110705685 : Int64))]) (rest := [(.long (v3_11 q1))]) (lenOf pd__J_J rfl) rfl (by show 2 * 0 + _ ≤ _; exact Nat.le_of_eq rfl) (hb hby d3_16) (fun _ _ => ⟨rfl, e0, (by decide : 0 + 0 ≤ _), (by decide : 0 + 0 ≤ _)⟩)
  dsimp only [Pt.U, Pt.locs, Pt.cells, Pt.slots] at X2 l2 y2 z2 st2 hQ2
  subst l2 y2 z2
  obtain ⟨rfl, Nq2, eh2⟩ := hQ2
  have N2 := Fr.app N0 Nq2
  obtain ⟨_, _, ⟨T3, L3, k3, n3⟩, -, X3, ⟨Lc3, hQ3, l3, y3, z3⟩, st3⟩ := Jvm.LawKit.callS X2 hx (y := (⟨"com/example/heapmark/heapmark/generate/DrawsDrawPinLaw", "inverse", "(J)J"⟩ : MethodName)) hown (mvT hZ (hw _ (List.mem_of_getElem? (i := 17) rfl))) (mvT hZ (hw _ (List.mem_of_getElem? (i := 18) rfl))) (mvT hZ (hw _ (List.mem_of_getElem? (i := 14) rfl))) (mvT hZ (hw _ (List.mem_of_getElem? (i := 19) rfl))) (by decide) (backOf (W := 2) (rm4 l Z a0 hw [] (-4658895280553007687 : Int64) h0 n0 Z0) hZ (hw _ (List.mem_of_getElem? (i := 19) rfl)) (hw _ (List.mem_of_getElem? (i := 14) rfl)) (by decide) (by decide)) (g := (mkF m 37 #[.val (.long q1), .second, .val (.long (v3_32 q1)), .second] [(.long (-4658895280553007687 : Int64)), (.long (v3_32 q1))])) rfl (by rw [hml]; rfl) (argsL := [(.long (-4658895280553007687 : Int64))]) (rest := [(.long (v3_32 q1))]) (lenOf pd__J_J rfl) rfl (by show 2 * 0 + _ ≤ _; exact Nat.le_of_eq rfl) (hb hby d3_37) (fun _ _ => ⟨rfl, eh2, (by decide : 0 + 0 ≤ _), (by decide : 0 + 0 ≤ _)⟩)
  dsimp only [Pt.U, Pt.locs, Pt.cells, Pt.slots] at X3 l3 y3 z3 st3 hQ3
  subst l3 y3 z3
  obtain ⟨rfl, Nq3, eh3⟩ := hQ3
  have N3 := Fr.app N2 Nq3
  obtain ⟨fs, hr, hrun, hended, hW, hsame⟩ := X3.leave (v := some (.long (f3 q1))) (fun h => by rw [Bd.returns] at h; cases h)
  refine ⟨_, _, pre0 _ ?_, hrun, hended, _, _, rfl, ?_, ⟨_, rfl⟩, hW, hsame.mono (by decide) (by decide)⟩
  · show Steps p.tables e below (s₁.setTop (mkF m 0 #[.val (.long q1), .second, .unset, .unset] [])) _
    refine XS.lloadN X0.here hx rfl (hb hby d3_0) rfl ?_
    show Steps p.tables e below (s₁.setTop (mkF m 1 #[.val (.long q1), .second, .unset, .unset] [(.long q1)])) _
    refine XS.lloadN X0.here hx rfl (hb hby d3_1) rfl ?_
    show Steps p.tables e below (s₁.setTop (mkF m 2 #[.val (.long q1), .second, .unset, .unset] [(.long q1), (.long q1)])) _
    refine XS.bipush X0.here hx rfl (hb hby d3_2) ?_
    show Steps p.tables e below (s₁.setTop (mkF m 4 #[.val (.long q1), .second, .unset, .unset] [(.int (31 : Int32)), (.long q1), (.long q1)])) _
    refine XS.lushr X0.here hx rfl (hb hby d3_4) rfl ?_
    show Steps p.tables e below (s₁.setTop (mkF m 5 #[.val (.long q1), .second, .unset, .unset] [(.long ((q1.toUInt64 >>> ((31 : Int32) &&& 0x3f).toInt64.toUInt64).toInt64)), (.long q1)])) _
    refine XS.lxor X0.here hx rfl (hb hby d3_5) rfl ?_
    show Steps p.tables e below (s₁.setTop (mkF m 6 #[.val (.long q1), .second, .unset, .unset] [(.long (q1 ^^^ ((q1.toUInt64 >>> ((31 : Int32) &&& 0x3f).toInt64.toUInt64).toInt64)))])) _
    refine XS.lloadN X0.here hx rfl (hb hby d3_6) rfl ?_
    show Steps p.tables e below (s₁.setTop (mkF m 7 #[.val (.long q1), .second, .unset, .unset] [(.long q1), (.long (q1 ^^^ ((q1.toUInt64 >>> ((31 : Int32) &&& 0x3f).toInt64.toUInt64).toInt64)))])) _
    refine XS.bipush X0.here hx rfl (hb hby d3_7) ?_
    show Steps p.tables e below (s₁.setTop (mkF m 9 #[.val (.long q1), .second, .unset, .unset] [(.int (62 : Int32)), (.long q1), (.long (q1 ^^^ ((q1.toUInt64 >>> ((31 : Int32) &&& 0x3f).toInt64.toUInt64).toInt64)))])) _
    refine XS.lushr X0.here hx rfl (hb hby d3_9) rfl ?_
    show Steps p.tables e below (s₁.setTop (mkF m 10 #[.val (.long q1), .second, .unset, .unset] [(.long ((q1.toUInt64 >>> ((62 : Int32) &&& 0x3f).toInt64.toUInt64).toInt64)), (.long (q1 ^^^ ((q1.toUInt64 >>> ((31 : Int32) &&& 0x3f).toInt64.toUInt64).toInt64)))])) _
    refine XS.lxor X0.here hx rfl (hb hby d3_10) rfl ?_
    show Steps p.tables e below (s₁.setTop (mkF m 11 #[.val (.long q1), .second, .unset, .unset] [(.long ((q1 ^^^ ((q1.toUInt64 >>> ((31 : Int32) &&& 0x3f).toInt64.toUInt64).toInt64)) ^^^ ((q1.toUInt64 >>> ((62 : Int32) &&& 0x3f).toInt64.toUInt64).toInt64)))])) _
    show Steps p.tables e below (s₁.setTop (mkF m 11 #[.val (.long q1), .second, .unset, .unset] [(.long (v3_11 q1))])) _
    refine XS.lstoreN X0.here hx rfl (hb hby d3_11) rfl (l' := #[.val (.long q1), .second, .val (.long (v3_11 q1)), .second]) rfl ?_
    show Steps p.tables e below (s₁.setTop (mkF m 12 #[.val (.long q1), .second, .val (.long (v3_11 q1)), .second] [])) _
    refine XS.lloadN X0.here hx rfl (hb hby d3_12) rfl ?_
    show Steps p.tables e below (s₁.setTop (mkF m 13 #[.val (.long q1), .second, .val (.long (v3_11 q1)), .second] [(.long (v3_11 q1))])) _
    refine X0.ldc2Long hx hown (mvT hZ (hw _ (List.mem_of_getElem? (i := 16) rfl))) (g := (mkF m 13 #[.val (.long q1), .second, .val (.long (v3_11 q1)), .second] [(.long (v3_11 q1))])) rfl (hb hby d3_13) _ ?_
    show Steps p.tables e below (s₁.setTop (mkF m 16 #[.val (.long q1), .second, .val (.long (v3_11 q1)), .second] [(.long (-7723592293110705685 : Int64)), (.long (v3_11 q1))])) _
    refine st2 _ ?_
    show Steps p.tables e below (T2.setTop (mkF m 19 #[.val (.long q1), .second, .val (.long (v3_11 q1)), .second] [(.long (f4 (-7723592293110705685 : Int64))), (.long (v3_11 q1))])) _
    refine XS.lmul X2.here hx rfl (hb hby d3_19) rfl ?_
    show Steps p.tables e below (T2.setTop (mkF m 20 #[.val (.long q1), .second, .val (.long (v3_11 q1)), .second] [(.long ((v3_11 q1) * (f4 (-7723592293110705685 : Int64))))])) _
    show Steps p.tables e below (T2.setTop (mkF m 20 #[.val (.long q1), .second, .val (.long (v3_11 q1)), .second] [(.long (v3_20 q1))])) _
    refine XS.lstoreN X2.here hx rfl (hb hby d3_20) rfl (l' := #[.val (.long q1), .second, .val (.long (v3_20 q1)), .second]) rfl ?_
    show Steps p.tables e below (T2.setTop (mkF m 21 #[.val (.long q1), .second, .val (.long (v3_20 q1)), .second] [])) _
    refine XS.lloadN X2.here hx rfl (hb hby d3_21) rfl ?_
    show Steps p.tables e below (T2.setTop (mkF m 22 #[.val (.long q1), .second, .val (.long (v3_20 q1)), .second] [(.long (v3_20 q1))])) _
    refine XS.lloadN X2.here hx rfl (hb hby d3_22) rfl ?_
    show Steps p.tables e below (T2.setTop (mkF m 23 #[.val (.long q1), .second, .val (.long (v3_20 q1)), .second] [(.long (v3_20 q1)), (.long (v3_20 q1))])) _
    refine XS.bipush X2.here hx rfl (hb hby d3_23) ?_
    show Steps p.tables e below (T2.setTop (mkF m 25 #[.val (.long q1), .second, .val (.long (v3_20 q1)), .second] [(.int (27 : Int32)), (.long (v3_20 q1)), (.long (v3_20 q1))])) _
    refine XS.lushr X2.here hx rfl (hb hby d3_25) rfl ?_
    show Steps p.tables e below (T2.setTop (mkF m 26 #[.val (.long q1), .second, .val (.long (v3_20 q1)), .second] [(.long (((v3_20 q1).toUInt64 >>> ((27 : Int32) &&& 0x3f).toInt64.toUInt64).toInt64)), (.long (v3_20 q1))])) _
    refine XS.lxor X2.here hx rfl (hb hby d3_26) rfl ?_
    show Steps p.tables e below (T2.setTop (mkF m 27 #[.val (.long q1), .second, .val (.long (v3_20 q1)), .second] [(.long ((v3_20 q1) ^^^ (((v3_20 q1).toUInt64 >>> ((27 : Int32) &&& 0x3f).toInt64.toUInt64).toInt64)))])) _
    refine XS.lloadN X2.here hx rfl (hb hby d3_27) rfl ?_
    show Steps p.tables e below (T2.setTop (mkF m 28 #[.val (.long q1), .second, .val (.long (v3_20 q1)), .second] [(.long (v3_20 q1)), (.long ((v3_20 q1) ^^^ (((v3_20 q1).toUInt64 >>> ((27 : Int32) &&& 0x3f).toInt64.toUInt64).toInt64)))])) _
    refine XS.bipush X2.here hx rfl (hb hby d3_28) ?_
    show Steps p.tables e below (T2.setTop (mkF m 30 #[.val (.long q1), .second, .val (.long (v3_20 q1)), .second] [(.int (54 : Int32)), (.long (v3_20 q1)), (.long ((v3_20 q1) ^^^ (((v3_20 q1).toUInt64 >>> ((27 : Int32) &&& 0x3f).toInt64.toUInt64).toInt64)))])) _
    refine XS.lushr X2.here hx rfl (hb hby d3_30) rfl ?_
    show Steps p.tables e below (T2.setTop (mkF m 31 #[.val (.long q1), .second, .val (.long (v3_20 q1)), .second] [(.long (((v3_20 q1).toUInt64 >>> ((54 : Int32) &&& 0x3f).toInt64.toUInt64).toInt64)), (.long ((v3_20 q1) ^^^ (((v3_20 q1).toUInt64 >>> ((27 : Int32) &&& 0x3f).toInt64.toUInt64).toInt64)))])) _
    refine XS.lxor X2.here hx rfl (hb hby d3_31) rfl ?_
    show Steps p.tables e below (T2.setTop (mkF m 32 #[.val (.long q1), .second, .val (.long (v3_20 q1)), .second] [(.long (((v3_20 q1) ^^^ (((v3_20 q1).toUInt64 >>> ((27 : Int32) &&& 0x3f).toInt64.toUInt64).toInt64)) ^^^ (((v3_20 q1).toUInt64 >>> ((54 : Int32) &&& 0x3f).toInt64.toUInt64).toInt64)))])) _
    show Steps p.tables e below (T2.setTop (mkF m 32 #[.val (.long q1), .second, .val (.long (v3_20 q1)), .second] [(.long (v3_32 q1))])) _
    refine XS.lstoreN X2.here hx rfl (hb hby d3_32) rfl (l' := #[.val (.long q1), .second, .val (.long (v3_32 q1)), .second]) rfl ?_
    show Steps p.tables e below (T2.setTop (mkF m 33 #[.val (.long q1), .second, .val (.long (v3_32 q1)), .second] [])) _
    refine XS.lloadN X2.here hx rfl (hb hby d3_33) rfl ?_
    show Steps p.tables e below (T2.setTop (mkF m 34 #[.val (.long q1), .second, .val (.long (v3_32 q1)), .second] [(.long (v3_32 q1))])) _
    refine X2.ldc2Long hx hown (mvT hZ (hw _ (List.mem_of_getElem? (i := 21) rfl))) (g := (mkF m 34 #[.val (.long q1), .second, .val (.long (v3_32 q1)), .second] [(.long (v3_32 q1))])) rfl (hb hby d3_34) _ ?_
    show Steps p.tables e below (T2.setTop (mkF m 37 #[.val (.long q1), .second, .val (.long (v3_32 q1)), .second] [(.long (-4658895280553007687 : Int64)), (.long (v3_32 q1))])) _
    refine st3 _ ?_
    show Steps p.tables e below (T3.setTop (mkF m 40 #[.val (.long q1), .second, .val (.long (v3_32 q1)), .second] [(.long (f4 (-4658895280553007687 : Int64))), (.long (v3_32 q1))])) _
    refine XS.lmul X3.here hx rfl (hb hby d3_40) rfl ?_
    show Steps p.tables e below (T3.setTop (mkF m 41 #[.val (.long q1), .second, .val (.long (v3_32 q1)), .second] [(.long ((v3_32 q1) * (f4 (-4658895280553007687 : Int64))))])) _
    show Steps p.tables e below (T3.setTop (mkF m 41 #[.val (.long q1), .second, .val (.long (v3_32 q1)), .second] [(.long (v3_41 q1))])) _
    refine XS.lstoreN X3.here hx rfl (hb hby d3_41) rfl (l' := #[.val (.long q1), .second, .val (.long (v3_41 q1)), .second]) rfl ?_
    show Steps p.tables e below (T3.setTop (mkF m 42 #[.val (.long q1), .second, .val (.long (v3_41 q1)), .second] [])) _
    refine XS.lloadN X3.here hx rfl (hb hby d3_42) rfl ?_
    show Steps p.tables e below (T3.setTop (mkF m 43 #[.val (.long q1), .second, .val (.long (v3_41 q1)), .second] [(.long (v3_41 q1))])) _
    refine XS.lloadN X3.here hx rfl (hb hby d3_43) rfl ?_
    show Steps p.tables e below (T3.setTop (mkF m 44 #[.val (.long q1), .second, .val (.long (v3_41 q1)), .second] [(.long (v3_41 q1)), (.long (v3_41 q1))])) _
    refine XS.bipush X3.here hx rfl (hb hby d3_44) ?_
    show Steps p.tables e below (T3.setTop (mkF m 46 #[.val (.long q1), .second, .val (.long (v3_41 q1)), .second] [(.int (30 : Int32)), (.long (v3_41 q1)), (.long (v3_41 q1))])) _
    refine XS.lushr X3.here hx rfl (hb hby d3_46) rfl ?_
    show Steps p.tables e below (T3.setTop (mkF m 47 #[.val (.long q1), .second, .val (.long (v3_41 q1)), .second] [(.long (((v3_41 q1).toUInt64 >>> ((30 : Int32) &&& 0x3f).toInt64.toUInt64).toInt64)), (.long (v3_41 q1))])) _
    refine XS.lxor X3.here hx rfl (hb hby d3_47) rfl ?_
    show Steps p.tables e below (T3.setTop (mkF m 48 #[.val (.long q1), .second, .val (.long (v3_41 q1)), .second] [(.long ((v3_41 q1) ^^^ (((v3_41 q1).toUInt64 >>> ((30 : Int32) &&& 0x3f).toInt64.toUInt64).toInt64)))])) _
    refine XS.lloadN X3.here hx rfl (hb hby d3_48) rfl ?_
    show Steps p.tables e below (T3.setTop (mkF m 49 #[.val (.long q1), .second, .val (.long (v3_41 q1)), .second] [(.long (v3_41 q1)), (.long ((v3_41 q1) ^^^ (((v3_41 q1).toUInt64 >>> ((30 : Int32) &&& 0x3f).toInt64.toUInt64).toInt64)))])) _
    refine XS.bipush X3.here hx rfl (hb hby d3_49) ?_
    show Steps p.tables e below (T3.setTop (mkF m 51 #[.val (.long q1), .second, .val (.long (v3_41 q1)), .second] [(.int (60 : Int32)), (.long (v3_41 q1)), (.long ((v3_41 q1) ^^^ (((v3_41 q1).toUInt64 >>> ((30 : Int32) &&& 0x3f).toInt64.toUInt64).toInt64)))])) _
    refine XS.lushr X3.here hx rfl (hb hby d3_51) rfl ?_
    show Steps p.tables e below (T3.setTop (mkF m 52 #[.val (.long q1), .second, .val (.long (v3_41 q1)), .second] [(.long (((v3_41 q1).toUInt64 >>> ((60 : Int32) &&& 0x3f).toInt64.toUInt64).toInt64)), (.long ((v3_41 q1) ^^^ (((v3_41 q1).toUInt64 >>> ((30 : Int32) &&& 0x3f).toInt64.toUInt64).toInt64)))])) _
    refine XS.lxor X3.here hx rfl (hb hby d3_52) rfl ?_
    show Steps p.tables e below (T3.setTop (mkF m 53 #[.val (.long q1), .second, .val (.long (v3_41 q1)), .second] [(.long (((v3_41 q1) ^^^ (((v3_41 q1).toUInt64 >>> ((30 : Int32) &&& 0x3f).toInt64.toUInt64).toInt64)) ^^^ (((v3_41 q1).toUInt64 >>> ((60 : Int32) &&& 0x3f).toInt64.toUInt64).toInt64)))])) _
    show Steps p.tables e below (T3.setTop (mkF m 53 #[.val (.long q1), .second, .val (.long (v3_41 q1)), .second] [(.long (v3_53 q1))])) _
    refine XS.lstoreN X3.here hx rfl (hb hby d3_53) rfl (l' := #[.val (.long q1), .second, .val (.long (v3_53 q1)), .second]) rfl ?_
    show Steps p.tables e below (T3.setTop (mkF m 54 #[.val (.long q1), .second, .val (.long (v3_53 q1)), .second] [])) _
    refine XS.lloadN X3.here hx rfl (hb hby d3_54) rfl ?_
    show Steps p.tables e below (T3.setTop (mkF m 55 #[.val (.long q1), .second, .val (.long (v3_53 q1)), .second] [(.long (v3_53 q1))])) _
    show Steps p.tables e below (T3.setTop (mkF m 55 #[.val (.long q1), .second, .val (.long (v3_53 q1)), .second] [(.long (f3 q1))])) _
    exact X3.lreturnOut hx Bd.returns (hb hby d3_55) hr
  · show Q3 Z q1 h0 n0 _ T3.heap _
    rw [eh3]
    exact ⟨rfl, N3, rfl⟩
theorem ef_0 (m : MethodId) (x0 : Int64) (x1 : Int32) : entryFrame m #[(.long x0), (.int x1)] maxLocals = mkF m 0 #[.val (.long x0), .second, .val (.int x1), .unset, .unset, .unset, .unset, .unset] [] := by first | (simp [entryFrame, mkF, argsToLocals, Value.category, maxLocals]; done) | rfl
def v0_7 (p2 : Int32) : Int32 := ((p2 &&& (2147483647 : Int32)) % (2147483647 : Int32))
theorem pd__JI_J : parseMethodDescriptor "(JI)J" = some ⟨[.long, .int], some .long⟩ := by decide +kernel
def v0_13 (q1 : Int64) (p2 : Int32) : Int64 := (f1 q1 (v0_7 p2))
def v0_25 (q1 : Int64) (p2 : Int32) : Int64 := (q1 + ((((v0_7 p2).toInt64) + (1 : Int64)) * (-7046029254386353131 : Int64)))
theorem own_sh (k : Int32) (n : Nat) (hk : (k &&& 0x3f).toInt64.toUInt64.toBitVec % 64#64 = BitVec.ofNat 64 n) (hn : n < 64) (x : Int64) : ((x.toUInt64 >>> (k &&& 0x3f).toInt64.toUInt64).toInt64).toBitVec = x.toBitVec >>> n := by
  show x.toBitVec >>> ((k &&& 0x3f).toInt64.toUInt64.toBitVec % 64#64) = _
  rw [hk, BitVec.ushiftRight_eq', BitVec.toNat_ofNat, Nat.mod_eq_of_lt (by omega)]
theorem own_unxor {n m : Nat} (h1 : m = n + n) (h2 : 64 ≤ n + m) (x y : BitVec 64) (h : y = x ^^^ x >>> n) : y ^^^ y >>> n ^^^ y >>> m = x := by
  subst h h1
  apply BitVec.eq_of_getLsbD_eq
  intro i hi
  simp only [BitVec.getLsbD_xor, BitVec.getLsbD_ushiftRight]
  have e : x.getLsbD (n + (n + n + i)) = false := BitVec.getLsbD_of_ge _ _ (by omega)
  have e1 : n + n + i = n + (n + i) := by omega
  rw [e, e1]
  cases x.getLsbD i <;> cases x.getLsbD (n + i) <;> cases x.getLsbD (n + (n + i)) <;> rfl
theorem own_unx (k1 k2 : Int32) (n m : Nat) (e1 : (k1 &&& 0x3f).toInt64.toUInt64.toBitVec % 64#64 = BitVec.ofNat 64 n) (e2 : (k2 &&& 0x3f).toInt64.toUInt64.toBitVec % 64#64 = BitVec.ofNat 64 m) (hm : m = n + n) (hn : 64 ≤ n + m) (h64 : m < 64) (x y : Int64)
    (h : y = x ^^^ ((x.toUInt64 >>> (k1 &&& 0x3f).toInt64.toUInt64).toInt64)) : y ^^^ ((y.toUInt64 >>> (k1 &&& 0x3f).toInt64.toUInt64).toInt64) ^^^ ((y.toUInt64 >>> (k2 &&& 0x3f).toInt64.toUInt64).toInt64) = x := by
  apply Int64.toBitVec_inj.mp
  rw [Int64.toBitVec_xor, Int64.toBitVec_xor, own_sh k1 n e1 (by omega) y, own_sh k2 m e2 h64 y]
  refine own_unxor hm hn x.toBitVec y.toBitVec ?_
  rw [h, Int64.toBitVec_xor, own_sh k1 n e1 (by omega) x]
theorem own_invB : (-7723592293110705685 : Int64) * f4 (-7723592293110705685 : Int64) = 1 := by decide +kernel
theorem own_invA : (-4658895280553007687 : Int64) * f4 (-4658895280553007687 : Int64) = 1 := by decide +kernel
theorem own_unmix (z : Int64) : f3 (f2 z) = z := by
  have s1 : v3_11 (f2 z) = v2_21 z := own_unx 31 62 31 62 (by decide) (by decide) rfl (by decide) (by decide) (v2_21 z) (f2 z) rfl
  have s2 : v3_20 (f2 z) = v2_10 z ^^^ (((v2_10 z).toUInt64 >>> ((27 : Int32) &&& 0x3f).toInt64.toUInt64).toInt64) := by
    unfold v3_20; rw [s1]; unfold v2_21; rw [Int64.mul_assoc, own_invB, Int64.mul_one]
  have s3 : v3_32 (f2 z) = v2_10 z := own_unx 27 54 27 54 (by decide) (by decide) rfl (by decide) (by decide) (v2_10 z) (v3_20 (f2 z)) s2
  have s4 : v3_41 (f2 z) = z ^^^ ((z.toUInt64 >>> ((30 : Int32) &&& 0x3f).toInt64.toUInt64).toInt64) := by
    unfold v3_41; rw [s3]; unfold v2_10; rw [Int64.mul_assoc, own_invA, Int64.mul_one]
  exact own_unx 30 60 30 60 (by decide) (by decide) rfl (by decide) (by decide) z (v3_41 (f2 z)) s4
theorem own_bmod32 {n : Int} (h1 : -2147483648 ≤ n) (h2 : n < 2147483648) : n.bmod 4294967296 = n := Int.bmod_eq_of_le (by omega) (by omega)
theorem own_bmod64 {n : Int} (h1 : -9223372036854775808 ≤ n) (h2 : n < 9223372036854775808) : n.bmod 18446744073709551616 = n := Int.bmod_eq_of_le (by omega) (by omega)
theorem own_col (p2 : Int32) : 0 ≤ (v0_7 p2).toInt ∧ (v0_7 p2).toInt < 2147483647 := by
  have h : 0 ≤ (p2 &&& (2147483647 : Int32)).toInt := by
    have h : (p2 &&& (2147483647 : Int32)).toBitVec.msb = false := by
      show (p2.toBitVec &&& 2147483647#32).msb = false
      rw [BitVec.msb_and]
      have : (2147483647#32).msb = false := by decide
      rw [this, Bool.and_false]
    exact BitVec.toInt_nonneg_of_msb_false h
  have e : (v0_7 p2).toInt = (p2 &&& (2147483647 : Int32)).toInt % 2147483647 := by
    unfold v0_7
    rw [Int32.toInt_mod, Int.tmod_eq_emod_of_nonneg h]; rfl
  rw [e]
  exact ⟨Int.emod_nonneg _ (by decide), Int.emod_lt_of_pos _ (by decide)⟩
theorem own_inc (p2 : Int32) : ((v0_7 p2) + (1 : Int32)).toInt64 = ((v0_7 p2).toInt64) + (1 : Int64) := by
  obtain ⟨h1, h2⟩ := own_col p2
  rw [← Int64.toInt_inj, Int64.toInt_add, Int32.toInt_toInt64, Int32.toInt_toInt64, Int32.toInt_add]
  have e1 : (1 : Int32).toInt = 1 := by decide
  have e2 : (1 : Int64).toInt = 1 := by decide
  rw [e1, e2]
  show ((v0_7 p2).toInt + 1).bmod 4294967296 = ((v0_7 p2).toInt + 1).bmod 18446744073709551616
  rw [own_bmod32 (by omega) (by omega), own_bmod64 (by omega) (by omega)]
theorem own_eq (q1 : Int64) (p2 : Int32) : f3 (v0_13 q1 p2) = v0_25 q1 p2 := by
  unfold v0_13 f1
  rw [own_unmix]
  unfold v1_1000 v0_25
  rw [own_inc]

def Q0 (Z : State) (q1 : Int64) (p2 : Int32) (h0 : Heap) (n0 : Nat) (v : Option Value) (h : Heap) (L : List Loc) : Prop := v = some (.int (1 : Int32)) ∧ Fr n0 L
set_option maxRecDepth 65536 in
set_option maxHeartbeats 40000000 in
theorem rm0 (l : Launch) (Z : State) (a0 : Array Value) (hw : ∀ d ∈ tables_1, d.before a0 Z = true) (ws : List Jvm.Cond) (q1 : Int64) (p2 : Int32) (h0 : Heap) (n0 : Nat) (Z0 : n0 ≤ h0.size) :
    MetFree l x (head1 (Jvm.Cond.code x code maxLocals ret :: ws) room_1) (fun a U => a = #[(.long q1), (.int p2)] ∧ Z.Warmed39 U.vm ∧ U.heap = h0) (fun _ _ _ _ _ => True) (fun _ U o U' => ∃ v L, o = .returned v ∧ Q0 Z q1 p2 h0 n0 v U'.heap L ∧ FrameEnd U o U' L room_1.cells room_1.slots) := by
  refine MetFree.of_bodySF (plainFor_of_name pn_DrawsDrawPinLaw) hisR ?_
  intro p e s m args below meth c s₁ Bd hml0 hP hK
  obtain ⟨rfl, hZ, hh⟩ := hP
  have hx := Bd.exec
  have hby := Bd.bytes
  have hml : c.maxLocals = 8 := hml0
  have hown : s.vm.findClass "com/example/heapmark/heapmark/generate/DrawsDrawPinLaw" = some m.cls := findClass_of_methodNamed Bd.named
  have hnm := (name_of_methodNamed Bd.named Bd.method).1
  have X0 : Stand p l e room_1 s m #[(.long q1), (.int p2)] below meth c s₁ [] 0 0 := Stand.of_body Bd
  have e0 : s₁.heap = h0 := by rw [← hh, Bd.state]; rfl
  have N0 := Fr.nil n0
  have pre0 : ∀ t, Steps p.tables e below (s₁.setTop (mkF m 0 #[.val (.long q1), .second, .val (.int p2), .unset, .unset, .unset, .unset, .unset] [])) t → Steps p.tables e below (s₁.setTop (entryFrame m #[(.long q1), (.int p2)] maxLocals)) t := fun t k => castTop (ef_0 m q1 p2) k
  obtain ⟨_, _, ⟨T4, L4, k4, n4⟩, -, X4, ⟨Lc4, hQ4, l4, y4, z4⟩, st4⟩ := Jvm.LawKit.callS X0 hx (y := (⟨"com/example/heapmark/heapmark/generate/Draws", "draw", "(JI)J"⟩ : MethodName)) hown (mvT hZ (hw _ (List.mem_of_getElem? (i := 1) rfl))) (mvT hZ (hw _ (List.mem_of_getElem? (i := 2) rfl))) (mvT hZ (hw _ (List.mem_of_getElem? (i := 3) rfl))) (mvT hZ (hw _ (List.mem_of_getElem? (i := 4) rfl))) (by decide) (backOf (W := 0) (rm1 l Z a0 hw [] q1 (v0_7 p2) h0 n0 Z0) hZ (hw _ (List.mem_of_getElem? (i := 4) rfl)) (hw _ (List.mem_of_getElem? (i := 3) rfl)) (by decide) (by decide)) (g := (mkF m 10 #[.val (.long q1), .second, .val (.int p2), .val (.int (v0_7 p2)), .unset, .unset, .unset, .unset] [(.int (v0_7 p2)), (.long q1)])) rfl (by rw [hml]; rfl) (argsL := [(.long q1), (.int (v0_7 p2))]) (rest := []) (lenOf pd__JI_J rfl) rfl (by show 2 * 0 + _ ≤ _; exact Nat.le_of_eq rfl) (hb hby at_10) (fun _ _ => ⟨rfl, e0, (by decide : 0 + 0 ≤ _), (by decide : 0 + 0 ≤ _)⟩)
  dsimp only [Pt.U, Pt.locs, Pt.cells, Pt.slots] at X4 l4 y4 z4 st4 hQ4
  subst l4 y4 z4
  obtain ⟨rfl, Nq4, eh4⟩ := hQ4
  have N4 := Fr.app N0 Nq4
  obtain ⟨_, _, ⟨T5, L5, k5, n5⟩, -, X5, ⟨Lc5, hQ5, l5, y5, z5⟩, st5⟩ := Jvm.LawKit.callS X4 hx (y := (⟨"com/example/heapmark/heapmark/generate/DrawsDrawPinLaw", "unmix", "(J)J"⟩ : MethodName)) hown (mvT hZ (hw _ (List.mem_of_getElem? (i := 12) rfl))) (mvT hZ (hw _ (List.mem_of_getElem? (i := 13) rfl))) (mvT hZ (hw _ (List.mem_of_getElem? (i := 14) rfl))) (mvT hZ (hw _ (List.mem_of_getElem? (i := 15) rfl))) (by decide) (backOf (W := 0) (rm3 l Z a0 hw [] (v0_13 q1 p2) h0 n0 Z0) hZ (hw _ (List.mem_of_getElem? (i := 15) rfl)) (hw _ (List.mem_of_getElem? (i := 14) rfl)) (by decide) (by decide)) (g := (mkF m 29 #[.val (.long q1), .second, .val (.int p2), .val (.int (v0_7 p2)), .val (.long (v0_13 q1 p2)), .second, .val (.long (v0_25 q1 p2)), .second] [(.long (v0_13 q1 p2))])) rfl (by rw [hml]; rfl) (argsL := [(.long (v0_13 q1 p2))]) (rest := []) (lenOf pd__J_J rfl) rfl (by show 2 * 0 + _ ≤ _; exact Nat.le_of_eq rfl) (hb hby at_29) (fun _ _ => ⟨rfl, eh4, (by decide : 0 + 0 ≤ _), (by decide : 0 + 0 ≤ _)⟩)
  dsimp only [Pt.U, Pt.locs, Pt.cells, Pt.slots] at X5 l5 y5 z5 st5 hQ5
  subst l5 y5 z5
  obtain ⟨rfl, Nq5, eh5⟩ := hQ5
  have N5 := Fr.app N4 Nq5
  obtain ⟨fs, hr, hrun, hended, hW, hsame⟩ := X5.leave (v := some (.int (1 : Int32))) (fun h => by rw [Bd.returns] at h; cases h)
  refine ⟨_, _, pre0 _ ?_, hrun, hended, _, _, rfl, ?_, ⟨_, rfl⟩, hW, hsame.mono (by decide) (by decide)⟩
  · show Steps p.tables e below (s₁.setTop (mkF m 0 #[.val (.long q1), .second, .val (.int p2), .unset, .unset, .unset, .unset, .unset] [])) _
    refine XS.iloadN X0.here hx rfl (hb hby at_0) rfl ?_
    show Steps p.tables e below (s₁.setTop (mkF m 1 #[.val (.long q1), .second, .val (.int p2), .unset, .unset, .unset, .unset, .unset] [(.int p2)])) _
    refine X0.ldcInt hx hown (mvT hZ (hw _ (List.mem_of_getElem? (i := 0) rfl))) (g := (mkF m 1 #[.val (.long q1), .second, .val (.int p2), .unset, .unset, .unset, .unset, .unset] [(.int p2)])) rfl (hb hby at_1) _ ?_
    show Steps p.tables e below (s₁.setTop (mkF m 3 #[.val (.long q1), .second, .val (.int p2), .unset, .unset, .unset, .unset, .unset] [(.int (2147483647 : Int32)), (.int p2)])) _
    refine XS.iand X0.here hx rfl (hb hby at_3) rfl ?_
    show Steps p.tables e below (s₁.setTop (mkF m 4 #[.val (.long q1), .second, .val (.int p2), .unset, .unset, .unset, .unset, .unset] [(.int (p2 &&& (2147483647 : Int32)))])) _
    refine X0.ldcInt hx hown (mvT hZ (hw _ (List.mem_of_getElem? (i := 0) rfl))) (g := (mkF m 4 #[.val (.long q1), .second, .val (.int p2), .unset, .unset, .unset, .unset, .unset] [(.int (p2 &&& (2147483647 : Int32)))])) rfl (hb hby at_4) _ ?_
    show Steps p.tables e below (s₁.setTop (mkF m 6 #[.val (.long q1), .second, .val (.int p2), .unset, .unset, .unset, .unset, .unset] [(.int (2147483647 : Int32)), (.int (p2 &&& (2147483647 : Int32)))])) _
    refine iremM X0 hx rfl (hb hby at_6) rfl (by decide) ?_
    show Steps p.tables e below (s₁.setTop (mkF m 7 #[.val (.long q1), .second, .val (.int p2), .unset, .unset, .unset, .unset, .unset] [(.int ((p2 &&& (2147483647 : Int32)) % (2147483647 : Int32)))])) _
    show Steps p.tables e below (s₁.setTop (mkF m 7 #[.val (.long q1), .second, .val (.int p2), .unset, .unset, .unset, .unset, .unset] [(.int (v0_7 p2))])) _
    refine XS.istoreN X0.here hx rfl (hb hby at_7) rfl (l' := #[.val (.long q1), .second, .val (.int p2), .val (.int (v0_7 p2)), .unset, .unset, .unset, .unset]) rfl ?_
    show Steps p.tables e below (s₁.setTop (mkF m 8 #[.val (.long q1), .second, .val (.int p2), .val (.int (v0_7 p2)), .unset, .unset, .unset, .unset] [])) _
    refine XS.lloadN X0.here hx rfl (hb hby at_8) rfl ?_
    show Steps p.tables e below (s₁.setTop (mkF m 9 #[.val (.long q1), .second, .val (.int p2), .val (.int (v0_7 p2)), .unset, .unset, .unset, .unset] [(.long q1)])) _
    refine XS.iloadN X0.here hx rfl (hb hby at_9) rfl ?_
    show Steps p.tables e below (s₁.setTop (mkF m 10 #[.val (.long q1), .second, .val (.int p2), .val (.int (v0_7 p2)), .unset, .unset, .unset, .unset] [(.int (v0_7 p2)), (.long q1)])) _
    refine st4 _ ?_
    show Steps p.tables e below (T4.setTop (mkF m 13 #[.val (.long q1), .second, .val (.int p2), .val (.int (v0_7 p2)), .unset, .unset, .unset, .unset] [(.long (f1 q1 (v0_7 p2)))])) _
    show Steps p.tables e below (T4.setTop (mkF m 13 #[.val (.long q1), .second, .val (.int p2), .val (.int (v0_7 p2)), .unset, .unset, .unset, .unset] [(.long (v0_13 q1 p2))])) _
    refine XS.lstore X4.here hx rfl (hb hby at_13) rfl (l' := #[.val (.long q1), .second, .val (.int p2), .val (.int (v0_7 p2)), .val (.long (v0_13 q1 p2)), .second, .unset, .unset]) rfl ?_
    show Steps p.tables e below (T4.setTop (mkF m 15 #[.val (.long q1), .second, .val (.int p2), .val (.int (v0_7 p2)), .val (.long (v0_13 q1 p2)), .second, .unset, .unset] [])) _
    refine XS.lloadN X4.here hx rfl (hb hby at_15) rfl ?_
    show Steps p.tables e below (T4.setTop (mkF m 16 #[.val (.long q1), .second, .val (.int p2), .val (.int (v0_7 p2)), .val (.long (v0_13 q1 p2)), .second, .unset, .unset] [(.long q1)])) _
    refine XS.iloadN X4.here hx rfl (hb hby at_16) rfl ?_
    show Steps p.tables e below (T4.setTop (mkF m 17 #[.val (.long q1), .second, .val (.int p2), .val (.int (v0_7 p2)), .val (.long (v0_13 q1 p2)), .second, .unset, .unset] [(.int (v0_7 p2)), (.long q1)])) _
    refine XS.i2l X4.here hx rfl (hb hby at_17) rfl ?_
    show Steps p.tables e below (T4.setTop (mkF m 18 #[.val (.long q1), .second, .val (.int p2), .val (.int (v0_7 p2)), .val (.long (v0_13 q1 p2)), .second, .unset, .unset] [(.long ((v0_7 p2).toInt64)), (.long q1)])) _
    refine XS.lconst X4.here hx rfl (hb hby at_18) ?_
    show Steps p.tables e below (T4.setTop (mkF m 19 #[.val (.long q1), .second, .val (.int p2), .val (.int (v0_7 p2)), .val (.long (v0_13 q1 p2)), .second, .unset, .unset] [(.long (1 : Int64)), (.long ((v0_7 p2).toInt64)), (.long q1)])) _
    refine XS.ladd X4.here hx rfl (hb hby at_19) rfl ?_
    show Steps p.tables e below (T4.setTop (mkF m 20 #[.val (.long q1), .second, .val (.int p2), .val (.int (v0_7 p2)), .val (.long (v0_13 q1 p2)), .second, .unset, .unset] [(.long (((v0_7 p2).toInt64) + (1 : Int64))), (.long q1)])) _
    refine X4.ldc2Long hx hown (mvT hZ (hw _ (List.mem_of_getElem? (i := 11) rfl))) (g := (mkF m 20 #[.val (.long q1), .second, .val (.int p2), .val (.int (v0_7 p2)), .val (.long (v0_13 q1 p2)), .second, .unset, .unset] [(.long (((v0_7 p2).toInt64) + (1 : Int64))), (.long q1)])) rfl (hb hby at_20) _ ?_
    show Steps p.tables e below (T4.setTop (mkF m 23 #[.val (.long q1), .second, .val (.int p2), .val (.int (v0_7 p2)), .val (.long (v0_13 q1 p2)), .second, .unset, .unset] [(.long (-7046029254386353131 : Int64)), (.long (((v0_7 p2).toInt64) + (1 : Int64))), (.long q1)])) _
    refine XS.lmul X4.here hx rfl (hb hby at_23) rfl ?_
    show Steps p.tables e below (T4.setTop (mkF m 24 #[.val (.long q1), .second, .val (.int p2), .val (.int (v0_7 p2)), .val (.long (v0_13 q1 p2)), .second, .unset, .unset] [(.long ((((v0_7 p2).toInt64) + (1 : Int64)) * (-7046029254386353131 : Int64))), (.long q1)])) _
    refine XS.ladd X4.here hx rfl (hb hby at_24) rfl ?_
    show Steps p.tables e below (T4.setTop (mkF m 25 #[.val (.long q1), .second, .val (.int p2), .val (.int (v0_7 p2)), .val (.long (v0_13 q1 p2)), .second, .unset, .unset] [(.long (q1 + ((((v0_7 p2).toInt64) + (1 : Int64)) * (-7046029254386353131 : Int64))))])) _
    show Steps p.tables e below (T4.setTop (mkF m 25 #[.val (.long q1), .second, .val (.int p2), .val (.int (v0_7 p2)), .val (.long (v0_13 q1 p2)), .second, .unset, .unset] [(.long (v0_25 q1 p2))])) _
    refine XS.lstore X4.here hx rfl (hb hby at_25) rfl (l' := #[.val (.long q1), .second, .val (.int p2), .val (.int (v0_7 p2)), .val (.long (v0_13 q1 p2)), .second, .val (.long (v0_25 q1 p2)), .second]) rfl ?_
    show Steps p.tables e below (T4.setTop (mkF m 27 #[.val (.long q1), .second, .val (.int p2), .val (.int (v0_7 p2)), .val (.long (v0_13 q1 p2)), .second, .val (.long (v0_25 q1 p2)), .second] [])) _
    refine XS.lload X4.here hx rfl (hb hby at_27) rfl ?_
    show Steps p.tables e below (T4.setTop (mkF m 29 #[.val (.long q1), .second, .val (.int p2), .val (.int (v0_7 p2)), .val (.long (v0_13 q1 p2)), .second, .val (.long (v0_25 q1 p2)), .second] [(.long (v0_13 q1 p2))])) _
    refine st5 _ ?_
    show Steps p.tables e below (T5.setTop (mkF m 32 #[.val (.long q1), .second, .val (.int p2), .val (.int (v0_7 p2)), .val (.long (v0_13 q1 p2)), .second, .val (.long (v0_25 q1 p2)), .second] [(.long (f3 (v0_13 q1 p2)))])) _
    refine XS.lload X5.here hx rfl (hb hby at_32) rfl ?_
    show Steps p.tables e below (T5.setTop (mkF m 34 #[.val (.long q1), .second, .val (.int p2), .val (.int (v0_7 p2)), .val (.long (v0_13 q1 p2)), .second, .val (.long (v0_25 q1 p2)), .second] [(.long (v0_25 q1 p2)), (.long (f3 (v0_13 q1 p2)))])) _
    refine XS.lcmp X5.here hx rfl (hb hby at_34) rfl ?_
    show Steps p.tables e below (T5.setTop (mkF m 35 #[.val (.long q1), .second, .val (.int p2), .val (.int (v0_7 p2)), .val (.long (v0_13 q1 p2)), .second, .val (.long (v0_25 q1 p2)), .second] [(.int (lcmpW (f3 (v0_13 q1 p2)) (v0_25 q1 p2)))])) _
    refine XS.ifNo X5.here hx rfl (hb hby at_35) rfl ((if0 _ _).trans (teq ((lw_eq (f3 (v0_13 q1 p2)) (v0_25 q1 p2)).mpr (own_eq q1 p2))).2) ?_
    show Steps p.tables e below (T5.setTop (mkF m 38 #[.val (.long q1), .second, .val (.int p2), .val (.int (v0_7 p2)), .val (.long (v0_13 q1 p2)), .second, .val (.long (v0_25 q1 p2)), .second] [])) _
    refine XS.iconst X5.here hx rfl (hb hby at_38) ?_
    show Steps p.tables e below (T5.setTop (mkF m 39 #[.val (.long q1), .second, .val (.int p2), .val (.int (v0_7 p2)), .val (.long (v0_13 q1 p2)), .second, .val (.long (v0_25 q1 p2)), .second] [(.int (1 : Int32))])) _
    refine XS.goto X5.here hx rfl (pc0 := 39) (pc' := 43) rfl (hb hby at_39) (by decide) (by decide) ?_
    show Steps p.tables e below (T5.setTop (mkF m 43 #[.val (.long q1), .second, .val (.int p2), .val (.int (v0_7 p2)), .val (.long (v0_13 q1 p2)), .second, .val (.long (v0_25 q1 p2)), .second] [(.int (1 : Int32))])) _
    exact retN X5 hx (t := .boolean) Bd.returns (by simp) (hb hby at_43) hr
  · show Q0 Z q1 p2 h0 n0 _ T5.heap _
    rw [eh5]
    exact ⟨rfl, N5⟩
set_option maxRecDepth 65536 in
set_option maxHeartbeats 40000000 in
theorem comes_1 {Post : Tables → Env → Array Value → State → Outcome → State → Prop} (hpost : ∀ tb e args s v u, (limb_1_1.after args s (.returned v) u = true ∧ limb_1_2.after args s (.returned v) u = true ∧ True) → FrameEnd s (.returned v) u (Jvm.fieldLocs frame_1_writes args s ++ Jvm.arrayLocs frame_1_arrays args s ++ Jvm.staticLocs frame_1_statics s) 0 0 → Post tb e args s (.returned v) u) :
    ArmFor flags0 classFile x code maxLocals ret World_1 tables_1 room_1 Calls_1 rest_1 Pre_1 Post := by
  intro l hfl _ _ p e ha hc hk s m args below hf hA hF happ hP
  obtain ⟨hcalls, hrest, hpre⟩ := hP
  obtain ⟨-, -, -, hnamed, -, -, -, hat⟩ := (Spec.applies_iff hf).mp happ
  obtain ⟨hg, hn⟩ := and_e (Cond.before_iff.mp (show (Jvm.Cond.and given_1 narrow_1).before args s = true from hpre))
  obtain ⟨gc, r0⟩ := and_e hg
  obtain ⟨t0, r1⟩ := and_e r0
  have t1 := r1
  obtain ⟨w0, w1, rfl⟩ : ∃ w0 w1 : Value, args = #[w0, w1] := by
    have hs : args.size = 2 := by simpa [Cond.value, given_1] using gc
    obtain ⟨L⟩ := args
    match L, hs with
    | [w0, w1], _ => exact ⟨w0, w1, rfl⟩
  have hw := fun d (hd : d ∈ tables_1) => atoms_spec (ws := Jvm.Cond.code x code maxLocals ret :: tables_1) hat d (List.mem_cons_of_mem _ hd)
  obtain ⟨i0, ei0⟩ := isL_v t0
  obtain rfl : w0 = (.long i0) := Option.some.inj ei0
  obtain ⟨i1, ei1⟩ := is_v t1
  obtain rfl : w1 = (.int i1) := Option.some.inj ei1
  obtain ⟨n, o, h1, h2, h3, _, L, rfl, ⟨rfl, N⟩, hq⟩ := rm0 l s _ hw tables_1 i0 i1 s.heap s.heap.size (Nat.le_refl _)  p e ha hc hk s m _ below hf ((Spec.applies_iff_loose hf).mp happ).1 ⟨rfl, State.Warmed39.refl s, rfl⟩ trivial
  refine ⟨n, _, h1, h2, h3, hpost _ _ _ _ _ _ ⟨Cond.after_iff.mpr rfl, Cond.after_iff.mpr (eq_i res_at (Term.int_eval (1)) rfl), trivial⟩ ⟨hq.1, hq.2.1, (hq.2.2.sift fun y hy => Or.inr (N y hy)).mono (by decide) (by decide)⟩⟩
theorem main_1_1 : Claimed_1_1 := comes_1 fun _ _ _ _ _ _ h hF => ⟨h.1, hF⟩
theorem main_1_2 : Claimed_1_2 := comes_1 fun _ _ _ _ _ _ h hF => ⟨h.2.1, hF⟩
end Jvm.Pilot.@@N@@
namespace Jvm.Pilot.@@N@@
open Jvm Jvm.ClassFile Sem Op Lib Jvm.Free Jvm.Stand Jvm.Pilot.@@N@@.Jvm.D
/-! MADE BY PROGRAM (witnessworld.py) out of the Statement's table words and the real class files: 9 classes; the members and pool entries that the words name. The judged class is class 1, her method 1. -/
namespace start1
open Jvm.ClassFile
def u (s : String) : CpInfo := .utf8 (stringToUtf16 s)
/-- a pool by its gaps: so many unusable entries, then the entry; so many at the end -/
def gap : Nat → List CpInfo → List CpInfo
  | 0, r => r
  | n + 1, r => .unusable :: gap n r
def poolList (es : List (Nat × CpInfo)) (last : Nat) : List CpInfo := es.foldr (fun e r => gap e.1 (e.2 :: r)) (gap last [])
def pool (es : List (Nat × CpInfo)) (last : Nat) : Array CpInfo := ⟨poolList es last⟩
def fileOf (pool : Array CpInfo) (this : Nat) (attrs : Array Attribute := #[]) (ms : Array MethodInfo := #[]) (fl : Nat := 33) (sup : Nat := 0) (ifs : Array Nat := #[]) (fds : Array FieldInfo := #[]) : ClassFile where
  minorVersion := 0
  majorVersion := 65
  constantPool := pool
  accessFlags := fl
  thisClass := this
  superClass := sup
  interfaces := ifs
  fields := fds
  methods := ms
  attributes := attrs
def plain (name : String) (sup : Option ClassId) : Class where
  name := name
  kind := .ordinary
  loader := none
  accessFlags := 33
  super := sup
  interfaces := #[]
  cf := none
  fields := #[]
  methods := #[]
  instanceTypes := #[]
  staticTypes := #[]
  resolved := #[]
  callSites := []
  init := .initialized
  statics := none
  mirror := none

def pool0 : Array CpInfo := pool [(5, u "<init>"), (0, u "()V"), (1, .class_ 10), (1, u "java/lang/Object")] 113

def k0m0 : Method := { name := "<init>", desc := "()V", sig := { parameters := [], returnType := none }, accessFlags := 1, code := none }
/-- java/lang/Object -/
def k0 : Class := { plain "java/lang/Object" none with
  accessFlags := 33
  interfaces := #[]
  cf := some (fileOf pool0 8 #[] #[{ accessFlags := 1, nameIndex := 5, descriptorIndex := 6, attributes := #[] }] 33 0 #[] #[])
  fields := #[]
  methods := #[k0m0]
  instanceTypes := #[]
  staticTypes := #[]
  resolved := Array.replicate 124 none
  statics := none }

def pool1 : Array CpInfo := pool [(2, .class_ 4), (1, u "java/lang/Object"), (0, u "<init>"), (0, u "()V"), (0, .integer 2147483647), (0, .methodref 9 10), (0, .class_ 11), (0, .nameAndType 12 13), (0, u "com/example/heapmark/heapmark/generate/Draws"), (0, u "draw"), (0, u "(JI)J"), (0, .long 11400714819323198485), (1, .methodref 17 18), (0, .class_ 19), (0, .nameAndType 20 21), (0, u "com/example/heapmark/heapmark/generate/DrawsDrawPinLaw"), (0, u "unmix"), (0, u "(J)J"), (0, .long 2), (1, .long 10723151780598845931), (1, .methodref 17 27), (0, .nameAndType 28 21), (0, u "inverse"), (0, .long 13787848793156543929), (3, u "law"), (0, u "(JI)Z")] 3

def k1m0 : Method := { name := "<init>", desc := "()V", sig := { parameters := [], returnType := none }, accessFlags := 1, code := none }
def k1c1 : Code := { maxStack := 6, maxLocals := 8, code := code, exceptionTable := #[], attributes := #[] }
def k1m1 : Method := { name := "law", desc := "(JI)Z", sig := { parameters := [.long, .int], returnType := some .boolean }, accessFlags := 9, code := some k1c1 }
def k1c2 : Code := { maxStack := 8, maxLocals := 4, code := method_3_code, exceptionTable := #[], attributes := #[] }
def k1m2 : Method := { name := "inverse", desc := "(J)J", sig := { parameters := [.long], returnType := some .long }, accessFlags := 10, code := some k1c2 }
def k1c3 : Code := { maxStack := 5, maxLocals := 4, code := method_4_code, exceptionTable := #[], attributes := #[] }
def k1m3 : Method := { name := "unmix", desc := "(J)J", sig := { parameters := [.long], returnType := some .long }, accessFlags := 10, code := some k1c3 }
/-- com/example/heapmark/heapmark/generate/DrawsDrawPinLaw -/
def k1 : Class := { plain "com/example/heapmark/heapmark/generate/DrawsDrawPinLaw" (some 0) with
  accessFlags := 49
  interfaces := #[]
  cf := some (fileOf pool1 17 #[] #[{ accessFlags := 1, nameIndex := 5, descriptorIndex := 6, attributes := #[] }, { accessFlags := 9, nameIndex := 33, descriptorIndex := 34, attributes := #[] }, { accessFlags := 10, nameIndex := 28, descriptorIndex := 21, attributes := #[] }, { accessFlags := 10, nameIndex := 20, descriptorIndex := 21, attributes := #[] }] 49 2 #[] #[])
  fields := #[]
  methods := #[k1m0, k1m1, k1m2, k1m3]
  instanceTypes := #[]
  staticTypes := #[]
  resolved := Array.replicate 38 none
  statics := none }

def pool2 : Array CpInfo := pool [(2, .class_ 4), (1, u "java/lang/Object"), (0, u "<init>"), (0, u "()V"), (0, .methodref 8 9), (0, .class_ 10), (0, .nameAndType 11 12), (0, u "com/example/heapmark/heapmark/generate/Draws"), (0, u "mix"), (0, u "(J)J"), (6, .long 11400714819323198485), (7, .long 13787848793156543929), (1, .long 10723151780598845931), (1, u "GOLDEN_GAMMA"), (0, u "J"), (6, u "draw"), (0, u "(JI)J")] 4

def k2m0 : Method := { name := "<init>", desc := "()V", sig := { parameters := [], returnType := none }, accessFlags := 2, code := none }
def k2c1 : Code := { maxStack := 6, maxLocals := 3, code := prog_42_method_4_code, exceptionTable := #[], attributes := #[] }
def k2m1 : Method := { name := "draw", desc := "(JI)J", sig := { parameters := [.long, .int], returnType := some .long }, accessFlags := 9, code := some k2c1 }
def k2c2 : Code := { maxStack := 5, maxLocals := 2, code := prog_42_method_7_code, exceptionTable := #[], attributes := #[] }
def k2m2 : Method := { name := "mix", desc := "(J)J", sig := { parameters := [.long], returnType := some .long }, accessFlags := 10, code := some k2c2 }
/-- com/example/heapmark/heapmark/generate/Draws -/
def k2 : Class := { plain "com/example/heapmark/heapmark/generate/Draws" (some 0) with
  accessFlags := 49
  interfaces := #[]
  cf := some (fileOf pool2 8 #[] #[{ accessFlags := 2, nameIndex := 5, descriptorIndex := 6, attributes := #[] }, { accessFlags := 9, nameIndex := 39, descriptorIndex := 40, attributes := #[] }, { accessFlags := 10, nameIndex := 11, descriptorIndex := 12, attributes := #[] }] 49 2 #[] #[{ accessFlags := 26, nameIndex := 31, descriptorIndex := 32, attributes := #[] }])
  fields := #[{ name := "GOLDEN_GAMMA", type := .long, accessFlags := 26, slot := 0, constantValue := 0 }]
  methods := #[k2m0, k2m1, k2m2]
  instanceTypes := #[]
  staticTypes := #[.long]
  resolved := Array.replicate 45 none
  statics := none }

def pool3 : Array CpInfo := pool [(1, u "java/lang/Cloneable"), (0, .class_ 1), (0, u "java/lang/Object"), (0, .class_ 3)] 3

/-- java/lang/Cloneable -/
def k3 : Class := { plain "java/lang/Cloneable" (some 0) with
  accessFlags := 1537
  interfaces := #[]
  cf := some (fileOf pool3 2 #[] #[] 1537 4 #[] #[])
  fields := #[]
  methods := #[]
  instanceTypes := #[]
  staticTypes := #[]
  resolved := Array.replicate 8 none
  statics := none }

def pool4 : Array CpInfo := pool [(1, u "java/io/Serializable"), (0, .class_ 1), (0, u "java/lang/Object"), (0, .class_ 3)] 3

/-- java/io/Serializable -/
def k4 : Class := { plain "java/io/Serializable" (some 0) with
  accessFlags := 1537
  interfaces := #[]
  cf := some (fileOf pool4 2 #[] #[] 1537 4 #[] #[])
  fields := #[]
  methods := #[]
  instanceTypes := #[]
  staticTypes := #[]
  resolved := Array.replicate 8 none
  statics := none }

/-- the primitive byte -/
def k5 : Class := { plain "byte" none with kind := .primitive 'B', accessFlags := 0x411 }
/-- [B -/
def k6 : Class := { plain "[B" (some 0) with kind := .array 5 .byte, interfaces := #[3, 4], accessFlags := 1041 }

/-- the primitive int -/
def k7 : Class := { plain "int" none with kind := .primitive 'I', accessFlags := 0x411 }
/-- [I -/
def k8 : Class := { plain "[I" (some 0) with kind := .array 7 .int, interfaces := #[3, 4], accessFlags := 1041 }

def heap : Heap := #[]
def classes : Array Class := #[k0, k1, k2, k3, k4, k5, k6, k7, k8]
def interned : List (Array UInt16 × Addr) := []
def slotsUsed : Nat := 0
def theMethod : MethodId := ⟨1, 1⟩
def args0 : Array Value := #[.long 5, .int 3]
def aboutOver (below : List Frame) : State where
  vm := { classes := classes, interned := interned.toArray }
  heap := heap
  slotsUsed := slotsUsed
  threads := #[{ frames := .invoking theMethod args0 :: below }]
def below0 : List Frame := [.native { method := ⟨0, 0⟩, args := #[] }]
def about1 : State := aboutOver below0
def p0 : Program := .bare "" "" ""
def e0 : Env := launch0.env 0 0 0
theorem w_frames : about1.frames = Frame.invoking theMethod args0 :: below0 := rfl
set_option maxRecDepth 65536 in
theorem w_args : argsFit about1.vm theMethod args0 = true := by decide +kernel
set_option maxRecDepth 65536 in
theorem w_heap : heapFits about1 = true := by decide +kernel
set_option maxRecDepth 65536 in
theorem w_runnable : about1.curStatus? = some .runnable := by decide +kernel
set_option maxRecDepth 65536 in
theorem w_alone : about1.alone = true := by decide +kernel
set_option maxRecDepth 65536 in
theorem w_named : about1.methodNamed? x = some theMethod := by decide +kernel
set_option maxRecDepth 65536 in
theorem w_hears : about1.hears theMethod below0 = true := by decide +kernel
set_option maxRecDepth 65536 in
theorem w_ripe : about1.ripe theMethod args0 below0 = true := by decide +kernel
theorem w_running : about1.status = .running := rfl
set_option maxRecDepth 65536 in
theorem w_room : about1.hasRoom e0.platform room_1 = true :=
  launch0.hasRoom_least _ room_1 (by decide +kernel) (by decide +kernel) (by decide +kernel) (by decide +kernel) (by decide +kernel) (by decide +kernel)
theorem allAtoms_all (ts : List Jvm.Cond) (a : Array Jvm.Value) (st : Jvm.State) : (allAtoms ts).before a st = ts.all (fun c => c.before a st) := by
  induction ts with
  | nil => rfl
  | cons c t ih =>
    show (Jvm.Cond.and c (allAtoms t)).before a st = _
    rw [Jvm.Cond.before_and, ih, List.all_cons]
def words1 : List Jvm.Cond := Jvm.Cond.code x code maxLocals ret :: tables_1
/-- a 'code' word, met by the world's own term for the bytes: nothing is compared byte by byte -/
theorem code_word {y : MethodName} {bytes : ByteArray} {mx : Nat} {rt : Option FieldType} {a : Array Value} {s : State} {m : MethodId} {meth : Method} {c : Code} (h1 : s.methodNamed? y = some m) (h2 : s.vm.method? m = some meth) (h3 : meth.code = some c) (h4 : c.code = bytes)
    (h5 : (c.maxLocals == mx && c.exceptionTable.isEmpty && decide (c.maxStack ≤ mostOperands) && decide (meth.sig.returnType = rt) && !meth.locks && decide (parseMethodDescriptor y.desc = some meth.sig)) = true) : (Jvm.Cond.code y bytes mx rt).before a s = true := by
  simp only [Bool.and_eq_true, beq_iff_eq, Bool.not_eq_true', decide_eq_true_eq] at h5
  obtain ⟨⟨⟨⟨⟨g1, g2⟩, g3⟩, g4⟩, g5⟩, g6⟩ := h5
  simp [Cond.before, Cond.holds, Cond.value, h1, h2, h3, h4, g1, g2, g3, g4, g5, g6]
def isCode : Jvm.Cond → Bool
  | .code _ _ _ _ => true
  | _ => false
theorem all_split {L : List Jvm.Cond} {P : Jvm.Cond → Bool} (h1 : L.all (fun c => isCode c || P c) = true) (h2 : ∀ c ∈ L.filter isCode, P c = true) : L.all P = true := by
  refine List.all_eq_true.mpr fun c hc => ?_
  have h := List.all_eq_true.mp h1 c hc
  rcases Bool.eq_false_or_eq_true (isCode c) with hi | hi
  · exact h2 c (List.mem_filter.mpr ⟨hc, hi⟩)
  · simpa [hi] using h
set_option maxRecDepth 65536 in
theorem w_c0 : (Jvm.Cond.code x code maxLocals ret).before args0 about1 = true := code_word (m := ⟨1, 1⟩) (meth := k1m1) (c := k1c1) (by decide +kernel) rfl rfl rfl (by decide +kernel)
set_option maxRecDepth 65536 in
theorem w_c1 : (Jvm.Cond.code ({ cls := "com/example/heapmark/heapmark/generate/Draws", name := "draw", desc := "(JI)J" } : Jvm.MethodName) prog_42_method_4_code (3 : Nat) (Option.some Jvm.ClassFile.FieldType.long)).before args0 about1 = true := code_word (m := ⟨2, 1⟩) (meth := k2m1) (c := k2c1) (by decide +kernel) rfl rfl rfl (by decide +kernel)
set_option maxRecDepth 65536 in
theorem w_c2 : (Jvm.Cond.code ({ cls := "com/example/heapmark/heapmark/generate/Draws", name := "mix", desc := "(J)J" } : Jvm.MethodName) prog_42_method_7_code (2 : Nat) (Option.some Jvm.ClassFile.FieldType.long)).before args0 about1 = true := code_word (m := ⟨2, 2⟩) (meth := k2m2) (c := k2c2) (by decide +kernel) rfl rfl rfl (by decide +kernel)
set_option maxRecDepth 65536 in
theorem w_c3 : (Jvm.Cond.code ({ cls := "com/example/heapmark/heapmark/generate/DrawsDrawPinLaw", name := "unmix", desc := "(J)J" } : Jvm.MethodName) method_4_code (4 : Nat) (Option.some Jvm.ClassFile.FieldType.long)).before args0 about1 = true := code_word (m := ⟨1, 3⟩) (meth := k1m3) (c := k1c3) (by decide +kernel) rfl rfl rfl (by decide +kernel)
set_option maxRecDepth 65536 in
theorem w_c4 : (Jvm.Cond.code ({ cls := "com/example/heapmark/heapmark/generate/DrawsDrawPinLaw", name := "inverse", desc := "(J)J" } : Jvm.MethodName) method_3_code (4 : Nat) (Option.some Jvm.ClassFile.FieldType.long)).before args0 about1 = true := code_word (m := ⟨1, 2⟩) (meth := k1m2) (c := k1c2) (by decide +kernel) rfl rfl rfl (by decide +kernel)
def codes1 : List Jvm.Cond := [Jvm.Cond.code x code maxLocals ret, Jvm.Cond.code ({ cls := "com/example/heapmark/heapmark/generate/Draws", name := "draw", desc := "(JI)J" } : Jvm.MethodName) prog_42_method_4_code (3 : Nat) (Option.some Jvm.ClassFile.FieldType.long), Jvm.Cond.code ({ cls := "com/example/heapmark/heapmark/generate/Draws", name := "mix", desc := "(J)J" } : Jvm.MethodName) prog_42_method_7_code (2 : Nat) (Option.some Jvm.ClassFile.FieldType.long), Jvm.Cond.code ({ cls := "com/example/heapmark/heapmark/generate/DrawsDrawPinLaw", name := "unmix", desc := "(J)J" } : Jvm.MethodName) method_4_code (4 : Nat) (Option.some Jvm.ClassFile.FieldType.long), Jvm.Cond.code ({ cls := "com/example/heapmark/heapmark/generate/DrawsDrawPinLaw", name := "inverse", desc := "(J)J" } : Jvm.MethodName) method_3_code (4 : Nat) (Option.some Jvm.ClassFile.FieldType.long)]
set_option maxRecDepth 65536 in
theorem codes_eq : words1.filter isCode = codes1 := rfl
theorem w_codes : ∀ c ∈ words1.filter isCode, c.before args0 about1 = true := by
  rw [codes_eq]
  intro c hc
  simp only [codes1, List.mem_cons, List.not_mem_nil, or_false] at hc
  rcases hc with rfl | rfl | rfl | rfl | rfl
  · exact w_c0
  · exact w_c1
  · exact w_c2
  · exact w_c3
  · exact w_c4
set_option maxRecDepth 65536 in
theorem w_t1 : words1.all (fun c => isCode c || c.before args0 about1) = true := by decide +kernel
theorem w_tables : (allAtoms (Jvm.Cond.code x code maxLocals ret :: tables_1)).before args0 about1 = true := by
  rw [allAtoms_all]
  show words1.all (fun c => c.before args0 about1) = true
  refine all_split ?_ w_codes
  rw [w_t1]
set_option maxRecDepth 65536 in
theorem w_case : (Jvm.Cond.and given_1 narrow_1).before args0 about1 = true := by decide +kernel
theorem w_applies : (headSpec (Jvm.Cond.code x code maxLocals ret :: tables_1) room_1).applies x e0.platform about1 = true :=
  (Spec.applies_iff w_frames).mpr ⟨w_running, w_runnable, w_alone, w_named, w_hears, w_ripe, w_room, w_tables⟩
theorem atStart : AtStart classFile x code maxLocals ret World_1 tables_1 room_1 Calls_1 rest_1 Pre_1 launch0 p0 e0 about1 theMethod args0 below0 :=
  ⟨lists_1, trivial, launch0.admits_env _ _ _, launch0.least_env, fairChoices_fair.cas, fairChoices_fair.clock, w_frames, w_args, w_heap, w_applies, trivial, trivial, w_case⟩
end start1
theorem witness_1 : WitnessClaimed_1 := ⟨start1.p0, start1.e0, start1.about1, start1.theMethod, start1.args0, start1.below0, start1.atStart⟩
end Jvm.Pilot.@@N@@
