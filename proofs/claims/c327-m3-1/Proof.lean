import JvmDerived
import JvmDerived.Pilot.@@N@@Statement
import JvmDerived.Pilot.@@N@@Code
set_option linter.unusedVariables false
set_option linter.unusedSimpArgs false
namespace Jvm.Pilot.@@N@@
open Jvm Jvm.ClassFile Sem Op Lib Jvm.Free Jvm.Stand Jvm.LawKit Jvm.RoadKit Bundle Jvm.Pilot.@@N@@.Jvm.D
theorem ef_1 (m : MethodId) (x0 : Int64) (x1 : Int32) : entryFrame m #[(.long x0), (.int x1)] 3 = mkF m 0 #[.val (.long x0), .second, .val (.int x1)] [] := by first | (simp [entryFrame, mkF, argsToLocals, Value.category]; done) | rfl
theorem pn_ScenarioBackendFailsAtPinLaw : plainName "com/example/backend_picker/backendpicker/simulator/ScenarioBackendFailsAtPinLaw" = true := by first | (simp [plainName, overriddenIn]; done) | decide +kernel
theorem d1_0 : decode method_2_code 0 = .ok (.iload_n 2, 1) := by decide +kernel
theorem d1_1 : decode method_2_code 1 = .ok (.iconst 1, 1) := by decide +kernel
theorem d1_2 : decode method_2_code 2 = .ok (.if_icmp .ne 7, 3) := by decide +kernel
theorem d1_5 : decode method_2_code 5 = .ok (.ldc2_w 9, 3) := by decide +kernel
theorem d1_8 : decode method_2_code 8 = .ok (.lreturn, 1) := by decide +kernel
theorem d1_9 : decode method_2_code 9 = .ok (.iload_n 2, 1) := by decide +kernel
theorem d1_10 : decode method_2_code 10 = .ok (.iconst 2, 1) := by decide +kernel
theorem d1_11 : decode method_2_code 11 = .ok (.if_icmp .ne 7, 3) := by decide +kernel
theorem d1_14 : decode method_2_code 14 = .ok (.ldc2_w 11, 3) := by decide +kernel
theorem d1_17 : decode method_2_code 17 = .ok (.lreturn, 1) := by decide +kernel
theorem d1_18 : decode method_2_code 18 = .ok (.iload_n 2, 1) := by decide +kernel
theorem d1_19 : decode method_2_code 19 = .ok (.iconst 3, 1) := by decide +kernel
theorem d1_20 : decode method_2_code 20 = .ok (.if_icmp .ne 5, 3) := by decide +kernel
theorem d1_23 : decode method_2_code 23 = .ok (.lconst 0, 1) := by decide +kernel
theorem d1_24 : decode method_2_code 24 = .ok (.lreturn, 1) := by decide +kernel
theorem d1_25 : decode method_2_code 25 = .ok (.lload_n 0, 1) := by decide +kernel
theorem d1_26 : decode method_2_code 26 = .ok (.lreturn, 1) := by decide +kernel
def Q_rmNow (Z : State) (q1 : Int64) (p2 : Int32) (h0 : Heap) (n0 : Nat) (v : Option Value) (h : Heap) (L : List Loc) : Prop := ∃ r : Int64, v = some (.long r) ∧ Fr n0 L ∧ h = h0
set_option maxRecDepth 65536 in
set_option maxHeartbeats 40000000 in
theorem rmNow (l : Launch) (Z : State) (a0 : Array Value) (hw : ∀ d ∈ tables_1, d.before a0 Z = true) (ws : List Jvm.Cond) (q1 : Int64) (p2 : Int32) (h0 : Heap) (n0 : Nat) (Z0 : n0 ≤ h0.size) :
    MetFree l (⟨"com/example/backend_picker/backendpicker/simulator/ScenarioBackendFailsAtPinLaw", "pickNow", "(JI)J"⟩ : MethodName) (head1 (Jvm.Cond.code (⟨"com/example/backend_picker/backendpicker/simulator/ScenarioBackendFailsAtPinLaw", "pickNow", "(JI)J"⟩ : MethodName) method_2_code 3 (some .long) :: ws) ({ frames := 0, cells := 0, slots := 0, locals := 0 } : Room)) (fun a U => a = #[(.long q1), (.int p2)] ∧ Z.Warmed39 U.vm ∧ U.heap = h0) (fun _ _ _ _ _ => True) (fun _ U o U' => ∃ v L, o = .returned v ∧ Q_rmNow Z q1 p2 h0 n0 v U'.heap L ∧ FrameEnd U o U' L ({ frames := 0, cells := 0, slots := 0, locals := 0 } : Room).cells ({ frames := 0, cells := 0, slots := 0, locals := 0 } : Room).slots) := by
  have hw_22 := hw _ (List.mem_of_getElem? (i := 22) rfl)
  have hw_53 := hw _ (List.mem_of_getElem? (i := 53) rfl)
  refine MetFree.of_bodySF (plainFor_of_name pn_ScenarioBackendFailsAtPinLaw) hisR ?_
  intro p e s m args below meth c s₁ Bd hml0 hP hK
  obtain ⟨rfl, hZ, hh⟩ := hP
  have hx := Bd.exec
  have hby := Bd.bytes
  have hml : c.maxLocals = 3 := hml0
  have hown : s.vm.findClass "com/example/backend_picker/backendpicker/simulator/ScenarioBackendFailsAtPinLaw" = some m.cls := findClass_of_methodNamed Bd.named
  have hnm := (name_of_methodNamed Bd.named Bd.method).1
  have X0 : Stand p l e ({ frames := 0, cells := 0, slots := 0, locals := 0 } : Room) s m #[(.long q1), (.int p2)] below meth c s₁ [] 0 0 := Stand.of_body Bd
  have e0 : s₁.heap = h0 := by rw [← hh, Bd.state]; rfl
  have N0 := Fr.nil n0
  have pre0 : ∀ t, Steps p.tables e below (s₁.setTop (mkF m 0 #[.val (.long q1), .second, .val (.int p2)] [])) t → Steps p.tables e below (s₁.setTop (entryFrame m #[(.long q1), (.int p2)] 3)) t := fun t k => castTop (ef_1 m q1 p2) k
  have go1 : ∀ t, Steps p.tables e below (s₁.setTop (mkF m 2 #[.val (.long q1), .second, .val (.int p2)] [(.int (1 : Int32)), (.int p2)])) t → Steps p.tables e below (s₁.setTop (entryFrame m #[(.long q1), (.int p2)] 3)) t := by
    intro t k
    refine pre0 t ?_
    show Steps p.tables e below (s₁.setTop (mkF m 0 #[.val (.long q1), .second, .val (.int p2)] [])) _
    refine XS.iloadN X0.here hx rfl (hb hby d1_0) rfl ?_
    show Steps p.tables e below (s₁.setTop (mkF m 1 #[.val (.long q1), .second, .val (.int p2)] [(.int p2)])) _
    refine XS.iconst X0.here hx rfl (hb hby d1_1) ?_
    exact k
  by_cases hc2 : p2 = (1 : Int32)
  · skip
    have go3 : ∀ t, Steps p.tables e below (s₁.setTop (mkF m 8 #[.val (.long q1), .second, .val (.int p2)] [(.long (9223372036854775807 : Int64))])) t → Steps p.tables e below (s₁.setTop (entryFrame m #[(.long q1), (.int p2)] 3)) t := by
      intro t k
      refine go1 t ?_
      show Steps p.tables e below (s₁.setTop (mkF m 2 #[.val (.long q1), .second, .val (.int p2)] [(.int (1 : Int32)), (.int p2)])) _
      refine XS.icmpNo X0.here hx rfl (hb hby d1_2) rfl (teq hc2).2 ?_
      show Steps p.tables e below (s₁.setTop (mkF m 5 #[.val (.long q1), .second, .val (.int p2)] [])) _
      refine X0.ldc2Long hx hown (mvT hZ hw_22) (g := (mkF m 5 #[.val (.long q1), .second, .val (.int p2)] [])) rfl (hb hby d1_5) _ ?_
      exact k
    obtain ⟨fs, hr, hrun, hended, hW, hsame⟩ := X0.leave (v := some (.long (9223372036854775807 : Int64))) (fun h => by rw [Bd.returns] at h; cases h)
    refine ⟨_, _, go3 _ ?_, hrun, hended, _, _, rfl, ?_, ⟨_, rfl⟩, hW, hsame.mono (by decide) (by decide)⟩
    · skip
      show Steps p.tables e below (s₁.setTop (mkF m 8 #[.val (.long q1), .second, .val (.int p2)] [(.long (9223372036854775807 : Int64))])) _
      jvm_step X0.here [X0.here.top, hx, (hb hby d1_8), X0.method', Bd.returns, narrow]
      first | (intro acts; rw [hr _ acts rfl rfl rfl]) | rw [hr _ _ rfl rfl rfl]
      exact Steps.refl _
    · show Q_rmNow Z q1 p2 h0 n0 _ s₁.heap _
      rw [e0]
      exact ⟨_, rfl, N0, rfl⟩
  · skip
    have go4 : ∀ t, Steps p.tables e below (s₁.setTop (mkF m 11 #[.val (.long q1), .second, .val (.int p2)] [(.int (2 : Int32)), (.int p2)])) t → Steps p.tables e below (s₁.setTop (entryFrame m #[(.long q1), (.int p2)] 3)) t := by
      intro t k
      refine go1 t ?_
      show Steps p.tables e below (s₁.setTop (mkF m 2 #[.val (.long q1), .second, .val (.int p2)] [(.int (1 : Int32)), (.int p2)])) _
      refine XS.icmpYes X0.here hx rfl (pc0 := 2) (pc' := 9) rfl (hb hby d1_2) rfl (feq hc2).2 (by decide) (by decide) ?_
      show Steps p.tables e below (s₁.setTop (mkF m 9 #[.val (.long q1), .second, .val (.int p2)] [])) _
      refine XS.iloadN X0.here hx rfl (hb hby d1_9) rfl ?_
      show Steps p.tables e below (s₁.setTop (mkF m 10 #[.val (.long q1), .second, .val (.int p2)] [(.int p2)])) _
      refine XS.iconst X0.here hx rfl (hb hby d1_10) ?_
      exact k
    by_cases hc5 : p2 = (2 : Int32)
    · skip
      have go6 : ∀ t, Steps p.tables e below (s₁.setTop (mkF m 17 #[.val (.long q1), .second, .val (.int p2)] [(.long (-9223372036854775808 : Int64))])) t → Steps p.tables e below (s₁.setTop (entryFrame m #[(.long q1), (.int p2)] 3)) t := by
        intro t k
        refine go4 t ?_
        show Steps p.tables e below (s₁.setTop (mkF m 11 #[.val (.long q1), .second, .val (.int p2)] [(.int (2 : Int32)), (.int p2)])) _
        refine XS.icmpNo X0.here hx rfl (hb hby d1_11) rfl (teq hc5).2 ?_
        show Steps p.tables e below (s₁.setTop (mkF m 14 #[.val (.long q1), .second, .val (.int p2)] [])) _
        refine X0.ldc2Long hx hown (mvT hZ hw_53) (g := (mkF m 14 #[.val (.long q1), .second, .val (.int p2)] [])) rfl (hb hby d1_14) _ ?_
        exact k
      obtain ⟨fs, hr, hrun, hended, hW, hsame⟩ := X0.leave (v := some (.long (-9223372036854775808 : Int64))) (fun h => by rw [Bd.returns] at h; cases h)
      refine ⟨_, _, go6 _ ?_, hrun, hended, _, _, rfl, ?_, ⟨_, rfl⟩, hW, hsame.mono (by decide) (by decide)⟩
      · skip
        show Steps p.tables e below (s₁.setTop (mkF m 17 #[.val (.long q1), .second, .val (.int p2)] [(.long (-9223372036854775808 : Int64))])) _
        jvm_step X0.here [X0.here.top, hx, (hb hby d1_17), X0.method', Bd.returns, narrow]
        first | (intro acts; rw [hr _ acts rfl rfl rfl]) | rw [hr _ _ rfl rfl rfl]
        exact Steps.refl _
      · show Q_rmNow Z q1 p2 h0 n0 _ s₁.heap _
        rw [e0]
        exact ⟨_, rfl, N0, rfl⟩
    · skip
      have go7 : ∀ t, Steps p.tables e below (s₁.setTop (mkF m 20 #[.val (.long q1), .second, .val (.int p2)] [(.int (3 : Int32)), (.int p2)])) t → Steps p.tables e below (s₁.setTop (entryFrame m #[(.long q1), (.int p2)] 3)) t := by
        intro t k
        refine go4 t ?_
        show Steps p.tables e below (s₁.setTop (mkF m 11 #[.val (.long q1), .second, .val (.int p2)] [(.int (2 : Int32)), (.int p2)])) _
        refine XS.icmpYes X0.here hx rfl (pc0 := 11) (pc' := 18) rfl (hb hby d1_11) rfl (feq hc5).2 (by decide) (by decide) ?_
        show Steps p.tables e below (s₁.setTop (mkF m 18 #[.val (.long q1), .second, .val (.int p2)] [])) _
        refine XS.iloadN X0.here hx rfl (hb hby d1_18) rfl ?_
        show Steps p.tables e below (s₁.setTop (mkF m 19 #[.val (.long q1), .second, .val (.int p2)] [(.int p2)])) _
        refine XS.iconst X0.here hx rfl (hb hby d1_19) ?_
        exact k
      by_cases hc8 : p2 = (3 : Int32)
      · skip
        have go9 : ∀ t, Steps p.tables e below (s₁.setTop (mkF m 24 #[.val (.long q1), .second, .val (.int p2)] [(.long (0 : Int64))])) t → Steps p.tables e below (s₁.setTop (entryFrame m #[(.long q1), (.int p2)] 3)) t := by
          intro t k
          refine go7 t ?_
          show Steps p.tables e below (s₁.setTop (mkF m 20 #[.val (.long q1), .second, .val (.int p2)] [(.int (3 : Int32)), (.int p2)])) _
          refine XS.icmpNo X0.here hx rfl (hb hby d1_20) rfl (teq hc8).2 ?_
          show Steps p.tables e below (s₁.setTop (mkF m 23 #[.val (.long q1), .second, .val (.int p2)] [])) _
          refine XS.lconst X0.here hx rfl (hb hby d1_23) ?_
          exact k
        obtain ⟨fs, hr, hrun, hended, hW, hsame⟩ := X0.leave (v := some (.long (0 : Int64))) (fun h => by rw [Bd.returns] at h; cases h)
        refine ⟨_, _, go9 _ ?_, hrun, hended, _, _, rfl, ?_, ⟨_, rfl⟩, hW, hsame.mono (by decide) (by decide)⟩
        · skip
          show Steps p.tables e below (s₁.setTop (mkF m 24 #[.val (.long q1), .second, .val (.int p2)] [(.long (0 : Int64))])) _
          jvm_step X0.here [X0.here.top, hx, (hb hby d1_24), X0.method', Bd.returns, narrow]
          first | (intro acts; rw [hr _ acts rfl rfl rfl]) | rw [hr _ _ rfl rfl rfl]
          exact Steps.refl _
        · show Q_rmNow Z q1 p2 h0 n0 _ s₁.heap _
          rw [e0]
          exact ⟨_, rfl, N0, rfl⟩
      · skip
        have go10 : ∀ t, Steps p.tables e below (s₁.setTop (mkF m 26 #[.val (.long q1), .second, .val (.int p2)] [(.long q1)])) t → Steps p.tables e below (s₁.setTop (entryFrame m #[(.long q1), (.int p2)] 3)) t := by
          intro t k
          refine go7 t ?_
          show Steps p.tables e below (s₁.setTop (mkF m 20 #[.val (.long q1), .second, .val (.int p2)] [(.int (3 : Int32)), (.int p2)])) _
          refine XS.icmpYes X0.here hx rfl (pc0 := 20) (pc' := 25) rfl (hb hby d1_20) rfl (feq hc8).2 (by decide) (by decide) ?_
          show Steps p.tables e below (s₁.setTop (mkF m 25 #[.val (.long q1), .second, .val (.int p2)] [])) _
          refine XS.lloadN X0.here hx rfl (hb hby d1_25) rfl ?_
          exact k
        obtain ⟨fs, hr, hrun, hended, hW, hsame⟩ := X0.leave (v := some (.long q1)) (fun h => by rw [Bd.returns] at h; cases h)
        refine ⟨_, _, go10 _ ?_, hrun, hended, _, _, rfl, ?_, ⟨_, rfl⟩, hW, hsame.mono (by decide) (by decide)⟩
        · skip
          show Steps p.tables e below (s₁.setTop (mkF m 26 #[.val (.long q1), .second, .val (.int p2)] [(.long q1)])) _
          jvm_step X0.here [X0.here.top, hx, (hb hby d1_26), X0.method', Bd.returns, narrow]
          first | (intro acts; rw [hr _ acts rfl rfl rfl]) | rw [hr _ _ rfl rfl rfl]
          exact Steps.refl _
        · show Q_rmNow Z q1 p2 h0 n0 _ s₁.heap _
          rw [e0]
          exact ⟨_, rfl, N0, rfl⟩
theorem ef_2 (m : MethodId) (x0 : Int64) (x1 : Int64) (x2 : Int32) : entryFrame m #[(.long x0), (.long x1), (.int x2)] 5 = mkF m 0 #[.val (.long x0), .second, .val (.long x1), .second, .val (.int x2)] [] := by first | (simp [entryFrame, mkF, argsToLocals, Value.category]; done) | rfl
theorem d2_0 : decode method_3_code 0 = .ok (.iload 4, 2) := by decide +kernel
theorem d2_2 : decode method_3_code 2 = .ok (.iconst 1, 1) := by decide +kernel
theorem d2_3 : decode method_3_code 3 = .ok (.if_icmp .ne 5, 3) := by decide +kernel
theorem d2_6 : decode method_3_code 6 = .ok (.lconst 0, 1) := by decide +kernel
theorem d2_7 : decode method_3_code 7 = .ok (.lreturn, 1) := by decide +kernel
theorem d2_8 : decode method_3_code 8 = .ok (.iload 4, 2) := by decide +kernel
theorem d2_10 : decode method_3_code 10 = .ok (.iconst 2, 1) := by decide +kernel
theorem d2_11 : decode method_3_code 11 = .ok (.if_icmp .ne 7, 3) := by decide +kernel
theorem d2_14 : decode method_3_code 14 = .ok (.ldc2_w 9, 3) := by decide +kernel
theorem d2_17 : decode method_3_code 17 = .ok (.lreturn, 1) := by decide +kernel
theorem d2_18 : decode method_3_code 18 = .ok (.iload 4, 2) := by decide +kernel
theorem d2_20 : decode method_3_code 20 = .ok (.iconst 3, 1) := by decide +kernel
theorem d2_21 : decode method_3_code 21 = .ok (.if_icmp .ne 7, 3) := by decide +kernel
theorem d2_24 : decode method_3_code 24 = .ok (.ldc2_w 11, 3) := by decide +kernel
theorem d2_27 : decode method_3_code 27 = .ok (.lreturn, 1) := by decide +kernel
theorem d2_28 : decode method_3_code 28 = .ok (.iload 4, 2) := by decide +kernel
theorem d2_30 : decode method_3_code 30 = .ok (.iconst 4, 1) := by decide +kernel
theorem d2_31 : decode method_3_code 31 = .ok (.if_icmp .ne 5, 3) := by decide +kernel
theorem d2_34 : decode method_3_code 34 = .ok (.lload_n 2, 1) := by decide +kernel
theorem d2_35 : decode method_3_code 35 = .ok (.lreturn, 1) := by decide +kernel
theorem d2_36 : decode method_3_code 36 = .ok (.iload 4, 2) := by decide +kernel
theorem d2_38 : decode method_3_code 38 = .ok (.iconst 5, 1) := by decide +kernel
theorem d2_39 : decode method_3_code 39 = .ok (.if_icmp .ne 7, 3) := by decide +kernel
theorem d2_42 : decode method_3_code 42 = .ok (.lload_n 2, 1) := by decide +kernel
theorem d2_43 : decode method_3_code 43 = .ok (.lconst 1, 1) := by decide +kernel
theorem d2_44 : decode method_3_code 44 = .ok (.ladd, 1) := by decide +kernel
theorem d2_45 : decode method_3_code 45 = .ok (.lreturn, 1) := by decide +kernel
theorem d2_46 : decode method_3_code 46 = .ok (.iload 4, 2) := by decide +kernel
theorem d2_48 : decode method_3_code 48 = .ok (.bipush 6, 2) := by decide +kernel
theorem d2_50 : decode method_3_code 50 = .ok (.if_icmp .ne 7, 3) := by decide +kernel
theorem d2_53 : decode method_3_code 53 = .ok (.lload_n 2, 1) := by decide +kernel
theorem d2_54 : decode method_3_code 54 = .ok (.lconst 1, 1) := by decide +kernel
theorem d2_55 : decode method_3_code 55 = .ok (.lsub, 1) := by decide +kernel
theorem d2_56 : decode method_3_code 56 = .ok (.lreturn, 1) := by decide +kernel
theorem d2_57 : decode method_3_code 57 = .ok (.lload_n 0, 1) := by decide +kernel
theorem d2_58 : decode method_3_code 58 = .ok (.lreturn, 1) := by decide +kernel
def Q_rmUnt (Z : State) (q1 : Int64) (q2 : Int64) (p3 : Int32) (h0 : Heap) (n0 : Nat) (v : Option Value) (h : Heap) (L : List Loc) : Prop := ∃ r : Int64, v = some (.long r) ∧ Fr n0 L ∧ h = h0
set_option maxRecDepth 65536 in
set_option maxHeartbeats 40000000 in
theorem rmUnt (l : Launch) (Z : State) (a0 : Array Value) (hw : ∀ d ∈ tables_1, d.before a0 Z = true) (ws : List Jvm.Cond) (q1 : Int64) (q2 : Int64) (p3 : Int32) (h0 : Heap) (n0 : Nat) (Z0 : n0 ≤ h0.size) :
    MetFree l (⟨"com/example/backend_picker/backendpicker/simulator/ScenarioBackendFailsAtPinLaw", "pickUntil", "(JJI)J"⟩ : MethodName) (head1 (Jvm.Cond.code (⟨"com/example/backend_picker/backendpicker/simulator/ScenarioBackendFailsAtPinLaw", "pickUntil", "(JJI)J"⟩ : MethodName) method_3_code 5 (some .long) :: ws) ({ frames := 0, cells := 0, slots := 0, locals := 0 } : Room)) (fun a U => a = #[(.long q1), (.long q2), (.int p3)] ∧ Z.Warmed39 U.vm ∧ U.heap = h0) (fun _ _ _ _ _ => True) (fun _ U o U' => ∃ v L, o = .returned v ∧ Q_rmUnt Z q1 q2 p3 h0 n0 v U'.heap L ∧ FrameEnd U o U' L ({ frames := 0, cells := 0, slots := 0, locals := 0 } : Room).cells ({ frames := 0, cells := 0, slots := 0, locals := 0 } : Room).slots) := by
  have hw_22 := hw _ (List.mem_of_getElem? (i := 22) rfl)
  have hw_53 := hw _ (List.mem_of_getElem? (i := 53) rfl)
  refine MetFree.of_bodySF (plainFor_of_name pn_ScenarioBackendFailsAtPinLaw) hisR ?_
  intro p e s m args below meth c s₁ Bd hml0 hP hK
  obtain ⟨rfl, hZ, hh⟩ := hP
  have hx := Bd.exec
  have hby := Bd.bytes
  have hml : c.maxLocals = 5 := hml0
  have hown : s.vm.findClass "com/example/backend_picker/backendpicker/simulator/ScenarioBackendFailsAtPinLaw" = some m.cls := findClass_of_methodNamed Bd.named
  have hnm := (name_of_methodNamed Bd.named Bd.method).1
  have X0 : Stand p l e ({ frames := 0, cells := 0, slots := 0, locals := 0 } : Room) s m #[(.long q1), (.long q2), (.int p3)] below meth c s₁ [] 0 0 := Stand.of_body Bd
  have e0 : s₁.heap = h0 := by rw [← hh, Bd.state]; rfl
  have N0 := Fr.nil n0
  have pre0 : ∀ t, Steps p.tables e below (s₁.setTop (mkF m 0 #[.val (.long q1), .second, .val (.long q2), .second, .val (.int p3)] [])) t → Steps p.tables e below (s₁.setTop (entryFrame m #[(.long q1), (.long q2), (.int p3)] 5)) t := fun t k => castTop (ef_2 m q1 q2 p3) k
  have go1 : ∀ t, Steps p.tables e below (s₁.setTop (mkF m 3 #[.val (.long q1), .second, .val (.long q2), .second, .val (.int p3)] [(.int (1 : Int32)), (.int p3)])) t → Steps p.tables e below (s₁.setTop (entryFrame m #[(.long q1), (.long q2), (.int p3)] 5)) t := by
    intro t k
    refine pre0 t ?_
    show Steps p.tables e below (s₁.setTop (mkF m 0 #[.val (.long q1), .second, .val (.long q2), .second, .val (.int p3)] [])) _
    refine XS.iload X0.here hx rfl (hb hby d2_0) rfl ?_
    show Steps p.tables e below (s₁.setTop (mkF m 2 #[.val (.long q1), .second, .val (.long q2), .second, .val (.int p3)] [(.int p3)])) _
    refine XS.iconst X0.here hx rfl (hb hby d2_2) ?_
    exact k
  by_cases hc2 : p3 = (1 : Int32)
  · skip
    have go3 : ∀ t, Steps p.tables e below (s₁.setTop (mkF m 7 #[.val (.long q1), .second, .val (.long q2), .second, .val (.int p3)] [(.long (0 : Int64))])) t → Steps p.tables e below (s₁.setTop (entryFrame m #[(.long q1), (.long q2), (.int p3)] 5)) t := by
      intro t k
      refine go1 t ?_
      show Steps p.tables e below (s₁.setTop (mkF m 3 #[.val (.long q1), .second, .val (.long q2), .second, .val (.int p3)] [(.int (1 : Int32)), (.int p3)])) _
      refine XS.icmpNo X0.here hx rfl (hb hby d2_3) rfl (teq hc2).2 ?_
      show Steps p.tables e below (s₁.setTop (mkF m 6 #[.val (.long q1), .second, .val (.long q2), .second, .val (.int p3)] [])) _
      refine XS.lconst X0.here hx rfl (hb hby d2_6) ?_
      exact k
    obtain ⟨fs, hr, hrun, hended, hW, hsame⟩ := X0.leave (v := some (.long (0 : Int64))) (fun h => by rw [Bd.returns] at h; cases h)
    refine ⟨_, _, go3 _ ?_, hrun, hended, _, _, rfl, ?_, ⟨_, rfl⟩, hW, hsame.mono (by decide) (by decide)⟩
    · skip
      show Steps p.tables e below (s₁.setTop (mkF m 7 #[.val (.long q1), .second, .val (.long q2), .second, .val (.int p3)] [(.long (0 : Int64))])) _
      jvm_step X0.here [X0.here.top, hx, (hb hby d2_7), X0.method', Bd.returns, narrow]
      first | (intro acts; rw [hr _ acts rfl rfl rfl]) | rw [hr _ _ rfl rfl rfl]
      exact Steps.refl _
    · show Q_rmUnt Z q1 q2 p3 h0 n0 _ s₁.heap _
      rw [e0]
      exact ⟨_, rfl, N0, rfl⟩
  · skip
    have go4 : ∀ t, Steps p.tables e below (s₁.setTop (mkF m 11 #[.val (.long q1), .second, .val (.long q2), .second, .val (.int p3)] [(.int (2 : Int32)), (.int p3)])) t → Steps p.tables e below (s₁.setTop (entryFrame m #[(.long q1), (.long q2), (.int p3)] 5)) t := by
      intro t k
      refine go1 t ?_
      show Steps p.tables e below (s₁.setTop (mkF m 3 #[.val (.long q1), .second, .val (.long q2), .second, .val (.int p3)] [(.int (1 : Int32)), (.int p3)])) _
      refine XS.icmpYes X0.here hx rfl (pc0 := 3) (pc' := 8) rfl (hb hby d2_3) rfl (feq hc2).2 (by decide) (by decide) ?_
      show Steps p.tables e below (s₁.setTop (mkF m 8 #[.val (.long q1), .second, .val (.long q2), .second, .val (.int p3)] [])) _
      refine XS.iload X0.here hx rfl (hb hby d2_8) rfl ?_
      show Steps p.tables e below (s₁.setTop (mkF m 10 #[.val (.long q1), .second, .val (.long q2), .second, .val (.int p3)] [(.int p3)])) _
      refine XS.iconst X0.here hx rfl (hb hby d2_10) ?_
      exact k
    by_cases hc5 : p3 = (2 : Int32)
    · skip
      have go6 : ∀ t, Steps p.tables e below (s₁.setTop (mkF m 17 #[.val (.long q1), .second, .val (.long q2), .second, .val (.int p3)] [(.long (9223372036854775807 : Int64))])) t → Steps p.tables e below (s₁.setTop (entryFrame m #[(.long q1), (.long q2), (.int p3)] 5)) t := by
        intro t k
        refine go4 t ?_
        show Steps p.tables e below (s₁.setTop (mkF m 11 #[.val (.long q1), .second, .val (.long q2), .second, .val (.int p3)] [(.int (2 : Int32)), (.int p3)])) _
        refine XS.icmpNo X0.here hx rfl (hb hby d2_11) rfl (teq hc5).2 ?_
        show Steps p.tables e below (s₁.setTop (mkF m 14 #[.val (.long q1), .second, .val (.long q2), .second, .val (.int p3)] [])) _
        refine X0.ldc2Long hx hown (mvT hZ hw_22) (g := (mkF m 14 #[.val (.long q1), .second, .val (.long q2), .second, .val (.int p3)] [])) rfl (hb hby d2_14) _ ?_
        exact k
      obtain ⟨fs, hr, hrun, hended, hW, hsame⟩ := X0.leave (v := some (.long (9223372036854775807 : Int64))) (fun h => by rw [Bd.returns] at h; cases h)
      refine ⟨_, _, go6 _ ?_, hrun, hended, _, _, rfl, ?_, ⟨_, rfl⟩, hW, hsame.mono (by decide) (by decide)⟩
      · skip
        show Steps p.tables e below (s₁.setTop (mkF m 17 #[.val (.long q1), .second, .val (.long q2), .second, .val (.int p3)] [(.long (9223372036854775807 : Int64))])) _
        jvm_step X0.here [X0.here.top, hx, (hb hby d2_17), X0.method', Bd.returns, narrow]
        first | (intro acts; rw [hr _ acts rfl rfl rfl]) | rw [hr _ _ rfl rfl rfl]
        exact Steps.refl _
      · show Q_rmUnt Z q1 q2 p3 h0 n0 _ s₁.heap _
        rw [e0]
        exact ⟨_, rfl, N0, rfl⟩
    · skip
      have go7 : ∀ t, Steps p.tables e below (s₁.setTop (mkF m 21 #[.val (.long q1), .second, .val (.long q2), .second, .val (.int p3)] [(.int (3 : Int32)), (.int p3)])) t → Steps p.tables e below (s₁.setTop (entryFrame m #[(.long q1), (.long q2), (.int p3)] 5)) t := by
        intro t k
        refine go4 t ?_
        show Steps p.tables e below (s₁.setTop (mkF m 11 #[.val (.long q1), .second, .val (.long q2), .second, .val (.int p3)] [(.int (2 : Int32)), (.int p3)])) _
        refine XS.icmpYes X0.here hx rfl (pc0 := 11) (pc' := 18) rfl (hb hby d2_11) rfl (feq hc5).2 (by decide) (by decide) ?_
        show Steps p.tables e below (s₁.setTop (mkF m 18 #[.val (.long q1), .second, .val (.long q2), .second, .val (.int p3)] [])) _
        refine XS.iload X0.here hx rfl (hb hby d2_18) rfl ?_
        show Steps p.tables e below (s₁.setTop (mkF m 20 #[.val (.long q1), .second, .val (.long q2), .second, .val (.int p3)] [(.int p3)])) _
        refine XS.iconst X0.here hx rfl (hb hby d2_20) ?_
        exact k
      by_cases hc8 : p3 = (3 : Int32)
      · skip
        have go9 : ∀ t, Steps p.tables e below (s₁.setTop (mkF m 27 #[.val (.long q1), .second, .val (.long q2), .second, .val (.int p3)] [(.long (-9223372036854775808 : Int64))])) t → Steps p.tables e below (s₁.setTop (entryFrame m #[(.long q1), (.long q2), (.int p3)] 5)) t := by
          intro t k
          refine go7 t ?_
          show Steps p.tables e below (s₁.setTop (mkF m 21 #[.val (.long q1), .second, .val (.long q2), .second, .val (.int p3)] [(.int (3 : Int32)), (.int p3)])) _
          refine XS.icmpNo X0.here hx rfl (hb hby d2_21) rfl (teq hc8).2 ?_
          show Steps p.tables e below (s₁.setTop (mkF m 24 #[.val (.long q1), .second, .val (.long q2), .second, .val (.int p3)] [])) _
          refine X0.ldc2Long hx hown (mvT hZ hw_53) (g := (mkF m 24 #[.val (.long q1), .second, .val (.long q2), .second, .val (.int p3)] [])) rfl (hb hby d2_24) _ ?_
          exact k
        obtain ⟨fs, hr, hrun, hended, hW, hsame⟩ := X0.leave (v := some (.long (-9223372036854775808 : Int64))) (fun h => by rw [Bd.returns] at h; cases h)
        refine ⟨_, _, go9 _ ?_, hrun, hended, _, _, rfl, ?_, ⟨_, rfl⟩, hW, hsame.mono (by decide) (by decide)⟩
        · skip
          show Steps p.tables e below (s₁.setTop (mkF m 27 #[.val (.long q1), .second, .val (.long q2), .second, .val (.int p3)] [(.long (-9223372036854775808 : Int64))])) _
          jvm_step X0.here [X0.here.top, hx, (hb hby d2_27), X0.method', Bd.returns, narrow]
          first | (intro acts; rw [hr _ acts rfl rfl rfl]) | rw [hr _ _ rfl rfl rfl]
          exact Steps.refl _
        · show Q_rmUnt Z q1 q2 p3 h0 n0 _ s₁.heap _
          rw [e0]
          exact ⟨_, rfl, N0, rfl⟩
      · skip
        have go10 : ∀ t, Steps p.tables e below (s₁.setTop (mkF m 31 #[.val (.long q1), .second, .val (.long q2), .second, .val (.int p3)] [(.int (4 : Int32)), (.int p3)])) t → Steps p.tables e below (s₁.setTop (entryFrame m #[(.long q1), (.long q2), (.int p3)] 5)) t := by
          intro t k
          refine go7 t ?_
          show Steps p.tables e below (s₁.setTop (mkF m 21 #[.val (.long q1), .second, .val (.long q2), .second, .val (.int p3)] [(.int (3 : Int32)), (.int p3)])) _
          refine XS.icmpYes X0.here hx rfl (pc0 := 21) (pc' := 28) rfl (hb hby d2_21) rfl (feq hc8).2 (by decide) (by decide) ?_
          show Steps p.tables e below (s₁.setTop (mkF m 28 #[.val (.long q1), .second, .val (.long q2), .second, .val (.int p3)] [])) _
          refine XS.iload X0.here hx rfl (hb hby d2_28) rfl ?_
          show Steps p.tables e below (s₁.setTop (mkF m 30 #[.val (.long q1), .second, .val (.long q2), .second, .val (.int p3)] [(.int p3)])) _
          refine XS.iconst X0.here hx rfl (hb hby d2_30) ?_
          exact k
        by_cases hc11 : p3 = (4 : Int32)
        · skip
          have go12 : ∀ t, Steps p.tables e below (s₁.setTop (mkF m 35 #[.val (.long q1), .second, .val (.long q2), .second, .val (.int p3)] [(.long q2)])) t → Steps p.tables e below (s₁.setTop (entryFrame m #[(.long q1), (.long q2), (.int p3)] 5)) t := by
            intro t k
            refine go10 t ?_
            show Steps p.tables e below (s₁.setTop (mkF m 31 #[.val (.long q1), .second, .val (.long q2), .second, .val (.int p3)] [(.int (4 : Int32)), (.int p3)])) _
            refine XS.icmpNo X0.here hx rfl (hb hby d2_31) rfl (teq hc11).2 ?_
            show Steps p.tables e below (s₁.setTop (mkF m 34 #[.val (.long q1), .second, .val (.long q2), .second, .val (.int p3)] [])) _
            refine XS.lloadN X0.here hx rfl (hb hby d2_34) rfl ?_
            exact k
          obtain ⟨fs, hr, hrun, hended, hW, hsame⟩ := X0.leave (v := some (.long q2)) (fun h => by rw [Bd.returns] at h; cases h)
          refine ⟨_, _, go12 _ ?_, hrun, hended, _, _, rfl, ?_, ⟨_, rfl⟩, hW, hsame.mono (by decide) (by decide)⟩
          · skip
            show Steps p.tables e below (s₁.setTop (mkF m 35 #[.val (.long q1), .second, .val (.long q2), .second, .val (.int p3)] [(.long q2)])) _
            jvm_step X0.here [X0.here.top, hx, (hb hby d2_35), X0.method', Bd.returns, narrow]
            first | (intro acts; rw [hr _ acts rfl rfl rfl]) | rw [hr _ _ rfl rfl rfl]
            exact Steps.refl _
          · show Q_rmUnt Z q1 q2 p3 h0 n0 _ s₁.heap _
            rw [e0]
            exact ⟨_, rfl, N0, rfl⟩
        · skip
          have go13 : ∀ t, Steps p.tables e below (s₁.setTop (mkF m 39 #[.val (.long q1), .second, .val (.long q2), .second, .val (.int p3)] [(.int (5 : Int32)), (.int p3)])) t → Steps p.tables e below (s₁.setTop (entryFrame m #[(.long q1), (.long q2), (.int p3)] 5)) t := by
            intro t k
            refine go10 t ?_
            show Steps p.tables e below (s₁.setTop (mkF m 31 #[.val (.long q1), .second, .val (.long q2), .second, .val (.int p3)] [(.int (4 : Int32)), (.int p3)])) _
            refine XS.icmpYes X0.here hx rfl (pc0 := 31) (pc' := 36) rfl (hb hby d2_31) rfl (feq hc11).2 (by decide) (by decide) ?_
            show Steps p.tables e below (s₁.setTop (mkF m 36 #[.val (.long q1), .second, .val (.long q2), .second, .val (.int p3)] [])) _
            refine XS.iload X0.here hx rfl (hb hby d2_36) rfl ?_
            show Steps p.tables e below (s₁.setTop (mkF m 38 #[.val (.long q1), .second, .val (.long q2), .second, .val (.int p3)] [(.int p3)])) _
            refine XS.iconst X0.here hx rfl (hb hby d2_38) ?_
            exact k
          by_cases hc14 : p3 = (5 : Int32)
          · skip
            have go15 : ∀ t, Steps p.tables e below (s₁.setTop (mkF m 45 #[.val (.long q1), .second, .val (.long q2), .second, .val (.int p3)] [(.long (q2 + (1 : Int64)))])) t → Steps p.tables e below (s₁.setTop (entryFrame m #[(.long q1), (.long q2), (.int p3)] 5)) t := by
              intro t k
              refine go13 t ?_
              show Steps p.tables e below (s₁.setTop (mkF m 39 #[.val (.long q1), .second, .val (.long q2), .second, .val (.int p3)] [(.int (5 : Int32)), (.int p3)])) _
              refine XS.icmpNo X0.here hx rfl (hb hby d2_39) rfl (teq hc14).2 ?_
              show Steps p.tables e below (s₁.setTop (mkF m 42 #[.val (.long q1), .second, .val (.long q2), .second, .val (.int p3)] [])) _
              refine XS.lloadN X0.here hx rfl (hb hby d2_42) rfl ?_
              show Steps p.tables e below (s₁.setTop (mkF m 43 #[.val (.long q1), .second, .val (.long q2), .second, .val (.int p3)] [(.long q2)])) _
              refine XS.lconst X0.here hx rfl (hb hby d2_43) ?_
              show Steps p.tables e below (s₁.setTop (mkF m 44 #[.val (.long q1), .second, .val (.long q2), .second, .val (.int p3)] [(.long (1 : Int64)), (.long q2)])) _
              refine XS.ladd X0.here hx rfl (hb hby d2_44) rfl ?_
              exact k
            obtain ⟨fs, hr, hrun, hended, hW, hsame⟩ := X0.leave (v := some (.long (q2 + (1 : Int64)))) (fun h => by rw [Bd.returns] at h; cases h)
            refine ⟨_, _, go15 _ ?_, hrun, hended, _, _, rfl, ?_, ⟨_, rfl⟩, hW, hsame.mono (by decide) (by decide)⟩
            · skip
              show Steps p.tables e below (s₁.setTop (mkF m 45 #[.val (.long q1), .second, .val (.long q2), .second, .val (.int p3)] [(.long (q2 + (1 : Int64)))])) _
              jvm_step X0.here [X0.here.top, hx, (hb hby d2_45), X0.method', Bd.returns, narrow]
              first | (intro acts; rw [hr _ acts rfl rfl rfl]) | rw [hr _ _ rfl rfl rfl]
              exact Steps.refl _
            · show Q_rmUnt Z q1 q2 p3 h0 n0 _ s₁.heap _
              rw [e0]
              exact ⟨_, rfl, N0, rfl⟩
          · skip
            have go16 : ∀ t, Steps p.tables e below (s₁.setTop (mkF m 50 #[.val (.long q1), .second, .val (.long q2), .second, .val (.int p3)] [(.int (6 : Int32)), (.int p3)])) t → Steps p.tables e below (s₁.setTop (entryFrame m #[(.long q1), (.long q2), (.int p3)] 5)) t := by
              intro t k
              refine go13 t ?_
              show Steps p.tables e below (s₁.setTop (mkF m 39 #[.val (.long q1), .second, .val (.long q2), .second, .val (.int p3)] [(.int (5 : Int32)), (.int p3)])) _
              refine XS.icmpYes X0.here hx rfl (pc0 := 39) (pc' := 46) rfl (hb hby d2_39) rfl (feq hc14).2 (by decide) (by decide) ?_
              show Steps p.tables e below (s₁.setTop (mkF m 46 #[.val (.long q1), .second, .val (.long q2), .second, .val (.int p3)] [])) _
              refine XS.iload X0.here hx rfl (hb hby d2_46) rfl ?_
              show Steps p.tables e below (s₁.setTop (mkF m 48 #[.val (.long q1), .second, .val (.long q2), .second, .val (.int p3)] [(.int p3)])) _
              refine XS.bipush X0.here hx rfl (hb hby d2_48) ?_
              exact k
            by_cases hc17 : p3 = (6 : Int32)
            · skip
              have go18 : ∀ t, Steps p.tables e below (s₁.setTop (mkF m 56 #[.val (.long q1), .second, .val (.long q2), .second, .val (.int p3)] [(.long (q2 - (1 : Int64)))])) t → Steps p.tables e below (s₁.setTop (entryFrame m #[(.long q1), (.long q2), (.int p3)] 5)) t := by
                intro t k
                refine go16 t ?_
                show Steps p.tables e below (s₁.setTop (mkF m 50 #[.val (.long q1), .second, .val (.long q2), .second, .val (.int p3)] [(.int (6 : Int32)), (.int p3)])) _
                refine XS.icmpNo X0.here hx rfl (hb hby d2_50) rfl (teq hc17).2 ?_
                show Steps p.tables e below (s₁.setTop (mkF m 53 #[.val (.long q1), .second, .val (.long q2), .second, .val (.int p3)] [])) _
                refine XS.lloadN X0.here hx rfl (hb hby d2_53) rfl ?_
                show Steps p.tables e below (s₁.setTop (mkF m 54 #[.val (.long q1), .second, .val (.long q2), .second, .val (.int p3)] [(.long q2)])) _
                refine XS.lconst X0.here hx rfl (hb hby d2_54) ?_
                show Steps p.tables e below (s₁.setTop (mkF m 55 #[.val (.long q1), .second, .val (.long q2), .second, .val (.int p3)] [(.long (1 : Int64)), (.long q2)])) _
                refine XS.lsub X0.here hx rfl (hb hby d2_55) rfl ?_
                exact k
              obtain ⟨fs, hr, hrun, hended, hW, hsame⟩ := X0.leave (v := some (.long (q2 - (1 : Int64)))) (fun h => by rw [Bd.returns] at h; cases h)
              refine ⟨_, _, go18 _ ?_, hrun, hended, _, _, rfl, ?_, ⟨_, rfl⟩, hW, hsame.mono (by decide) (by decide)⟩
              · skip
                show Steps p.tables e below (s₁.setTop (mkF m 56 #[.val (.long q1), .second, .val (.long q2), .second, .val (.int p3)] [(.long (q2 - (1 : Int64)))])) _
                jvm_step X0.here [X0.here.top, hx, (hb hby d2_56), X0.method', Bd.returns, narrow]
                first | (intro acts; rw [hr _ acts rfl rfl rfl]) | rw [hr _ _ rfl rfl rfl]
                exact Steps.refl _
              · show Q_rmUnt Z q1 q2 p3 h0 n0 _ s₁.heap _
                rw [e0]
                exact ⟨_, rfl, N0, rfl⟩
            · skip
              have go19 : ∀ t, Steps p.tables e below (s₁.setTop (mkF m 58 #[.val (.long q1), .second, .val (.long q2), .second, .val (.int p3)] [(.long q1)])) t → Steps p.tables e below (s₁.setTop (entryFrame m #[(.long q1), (.long q2), (.int p3)] 5)) t := by
                intro t k
                refine go16 t ?_
                show Steps p.tables e below (s₁.setTop (mkF m 50 #[.val (.long q1), .second, .val (.long q2), .second, .val (.int p3)] [(.int (6 : Int32)), (.int p3)])) _
                refine XS.icmpYes X0.here hx rfl (pc0 := 50) (pc' := 57) rfl (hb hby d2_50) rfl (feq hc17).2 (by decide) (by decide) ?_
                show Steps p.tables e below (s₁.setTop (mkF m 57 #[.val (.long q1), .second, .val (.long q2), .second, .val (.int p3)] [])) _
                refine XS.lloadN X0.here hx rfl (hb hby d2_57) rfl ?_
                exact k
              obtain ⟨fs, hr, hrun, hended, hW, hsame⟩ := X0.leave (v := some (.long q1)) (fun h => by rw [Bd.returns] at h; cases h)
              refine ⟨_, _, go19 _ ?_, hrun, hended, _, _, rfl, ?_, ⟨_, rfl⟩, hW, hsame.mono (by decide) (by decide)⟩
              · skip
                show Steps p.tables e below (s₁.setTop (mkF m 58 #[.val (.long q1), .second, .val (.long q2), .second, .val (.int p3)] [(.long q1)])) _
                jvm_step X0.here [X0.here.top, hx, (hb hby d2_58), X0.method', Bd.returns, narrow]
                first | (intro acts; rw [hr _ acts rfl rfl rfl]) | rw [hr _ _ rfl rfl rfl]
                exact Steps.refl _
              · show Q_rmUnt Z q1 q2 p3 h0 n0 _ s₁.heap _
                rw [e0]
                exact ⟨_, rfl, N0, rfl⟩
theorem ef_3 (m : MethodId) (x0 : Addr) (x1 : Addr) (x2 : Addr) (x3 : Int64) (x4 : Int64) (x5 : Int64) (x6 : Int64) (x7 : Int64) (x8 : Int64) (x9 : Int64) : entryFrame m #[(.ref x0), (.ref x1), (.ref x2), (.long x3), (.long x4), (.long x5), (.long x6), (.long x7), (.long x8), (.long x9)] 17 = mkF m 0 #[.val (.ref x0), .val (.ref x1), .val (.ref x2), .val (.long x3), .second, .val (.long x4), .second, .val (.long x5), .second, .val (.long x6), .second, .val (.long x7), .second, .val (.long x8), .second, .val (.long x9), .second] [] := by first | (simp [entryFrame, mkF, argsToLocals, Value.category]; done) | rfl
theorem pn_ScenarioBackend : plainName "com/example/backend_picker/backendpicker/simulator/ScenarioBackend" = true := by first | (simp [plainName, overriddenIn]; done) | decide +kernel
theorem d3_0 : decode prog_74_method_1_code 0 = .ok (.aload_n 0, 1) := by decide +kernel
theorem d3_1 : decode prog_74_method_1_code 1 = .ok (.invokespecial 3, 3) := by decide +kernel
theorem d3_4 : decode prog_74_method_1_code 4 = .ok (.aload_n 0, 1) := by decide +kernel
theorem d3_5 : decode prog_74_method_1_code 5 = .ok (.aload_n 1, 1) := by decide +kernel
theorem d3_6 : decode prog_74_method_1_code 6 = .ok (.putfield 9, 3) := by decide +kernel
theorem d3_9 : decode prog_74_method_1_code 9 = .ok (.aload_n 0, 1) := by decide +kernel
theorem d3_10 : decode prog_74_method_1_code 10 = .ok (.aload_n 2, 1) := by decide +kernel
theorem d3_11 : decode prog_74_method_1_code 11 = .ok (.putfield 15, 3) := by decide +kernel
theorem d3_14 : decode prog_74_method_1_code 14 = .ok (.aload_n 0, 1) := by decide +kernel
theorem d3_15 : decode prog_74_method_1_code 15 = .ok (.lload_n 3, 1) := by decide +kernel
theorem d3_16 : decode prog_74_method_1_code 16 = .ok (.putfield 19, 3) := by decide +kernel
theorem d3_19 : decode prog_74_method_1_code 19 = .ok (.aload_n 0, 1) := by decide +kernel
theorem d3_20 : decode prog_74_method_1_code 20 = .ok (.lload 5, 2) := by decide +kernel
theorem d3_22 : decode prog_74_method_1_code 22 = .ok (.putfield 23, 3) := by decide +kernel
theorem d3_25 : decode prog_74_method_1_code 25 = .ok (.aload_n 0, 1) := by decide +kernel
theorem d3_26 : decode prog_74_method_1_code 26 = .ok (.lload 7, 2) := by decide +kernel
theorem d3_28 : decode prog_74_method_1_code 28 = .ok (.putfield 26, 3) := by decide +kernel
theorem d3_31 : decode prog_74_method_1_code 31 = .ok (.aload_n 0, 1) := by decide +kernel
theorem d3_32 : decode prog_74_method_1_code 32 = .ok (.lload 9, 2) := by decide +kernel
theorem d3_34 : decode prog_74_method_1_code 34 = .ok (.putfield 29, 3) := by decide +kernel
theorem d3_37 : decode prog_74_method_1_code 37 = .ok (.aload_n 0, 1) := by decide +kernel
theorem d3_38 : decode prog_74_method_1_code 38 = .ok (.lload 11, 2) := by decide +kernel
theorem d3_40 : decode prog_74_method_1_code 40 = .ok (.putfield 32, 3) := by decide +kernel
theorem d3_43 : decode prog_74_method_1_code 43 = .ok (.aload_n 0, 1) := by decide +kernel
theorem d3_44 : decode prog_74_method_1_code 44 = .ok (.lload 13, 2) := by decide +kernel
theorem d3_46 : decode prog_74_method_1_code 46 = .ok (.putfield 35, 3) := by decide +kernel
theorem d3_49 : decode prog_74_method_1_code 49 = .ok (.aload_n 0, 1) := by decide +kernel
theorem d3_50 : decode prog_74_method_1_code 50 = .ok (.lload 15, 2) := by decide +kernel
theorem d3_52 : decode prog_74_method_1_code 52 = .ok (.putfield 38, 3) := by decide +kernel
theorem d3_55 : decode prog_74_method_1_code 55 = .ok (.return_, 1) := by decide +kernel
def Q_rmSB (Z : State) (a1 : Addr) (a2 : Addr) (a3 : Addr) (q1 : Int64) (q2 : Int64) (q3 : Int64) (q4 : Int64) (q5 : Int64) (q6 : Int64) (q7 : Int64) (h0 : Heap) (n0 : Nat) (v : Option Value) (h : Heap) (L : List Loc) : Prop := v = none ∧ Fr n0 L ∧ Keep h0 h [a1] ∧ Exa Z h a1 "com/example/backend_picker/backendpicker/simulator/ScenarioBackend" ∧ Fld Z h a1 "com/example/backend_picker/backendpicker/simulator/ScenarioBackend" "failsUntilNs" "J" (.long q4)
set_option maxRecDepth 65536 in
set_option maxHeartbeats 40000000 in
theorem rmSB (l : Launch) (Z : State) (a0 : Array Value) (hw : ∀ d ∈ tables_1, d.before a0 Z = true) (ws : List Jvm.Cond) (a1 : Addr) (a2 : Addr) (a3 : Addr) (q1 : Int64) (q2 : Int64) (q3 : Int64) (q4 : Int64) (q5 : Int64) (q6 : Int64) (q7 : Int64) (h0 : Heap) (n0 : Nat) (Z0 : n0 ≤ h0.size) (E1 : Exa Z h0 a1 "com/example/backend_picker/backendpicker/simulator/ScenarioBackend") (ga : n0 ≤ a1) (F_name : Fld Z h0 a1 "com/example/backend_picker/backendpicker/simulator/ScenarioBackend" "name" "Ljava/lang/String;" .null) (F_law : Fld Z h0 a1 "com/example/backend_picker/backendpicker/simulator/ScenarioBackend" "law" "Lcom/example/backend_picker/backendpicker/simulator/ServiceLaw;" .null) (F_serviceNs : Fld Z h0 a1 "com/example/backend_picker/backendpicker/simulator/ScenarioBackend" "serviceNs" "J" (.long (0 : Int64))) (F_slots : Fld Z h0 a1 "com/example/backend_picker/backendpicker/simulator/ScenarioBackend" "slots" "J" (.long (0 : Int64))) (F_queue : Fld Z h0 a1 "com/example/backend_picker/backendpicker/simulator/ScenarioBackend" "queue" "J" (.long (0 : Int64))) (F_failsUntilNs : Fld Z h0 a1 "com/example/backend_picker/backendpicker/simulator/ScenarioBackend" "failsUntilNs" "J" (.long (0 : Int64))) (F_failNs : Fld Z h0 a1 "com/example/backend_picker/backendpicker/simulator/ScenarioBackend" "failNs" "J" (.long (0 : Int64))) (F_joinsAtNs : Fld Z h0 a1 "com/example/backend_picker/backendpicker/simulator/ScenarioBackend" "joinsAtNs" "J" (.long (0 : Int64))) (F_leavesAtNs : Fld Z h0 a1 "com/example/backend_picker/backendpicker/simulator/ScenarioBackend" "leavesAtNs" "J" (.long (0 : Int64))) :
    MetFree l (⟨"com/example/backend_picker/backendpicker/simulator/ScenarioBackend", "<init>", "(Ljava/lang/String;Lcom/example/backend_picker/backendpicker/simulator/ServiceLaw;JJJJJJJ)V"⟩ : MethodName) (head1 (Jvm.Cond.code (⟨"com/example/backend_picker/backendpicker/simulator/ScenarioBackend", "<init>", "(Ljava/lang/String;Lcom/example/backend_picker/backendpicker/simulator/ServiceLaw;JJJJJJJ)V"⟩ : MethodName) prog_74_method_1_code 17 none :: ws) ({ frames := 1, cells := 0, slots := 0, locals := 12 } : Room)) (fun a U => a = #[(.ref a1), (.ref a2), (.ref a3), (.long q1), (.long q2), (.long q3), (.long q4), (.long q5), (.long q6), (.long q7)] ∧ Z.Warmed39 U.vm ∧ U.heap = h0) (fun _ _ _ _ _ => True) (fun _ U o U' => ∃ v L, o = .returned v ∧ Q_rmSB Z a1 a2 a3 q1 q2 q3 q4 q5 q6 q7 h0 n0 v U'.heap L ∧ FrameEnd U o U' L ({ frames := 1, cells := 0, slots := 0, locals := 12 } : Room).cells ({ frames := 1, cells := 0, slots := 0, locals := 12 } : Room).slots) := by
  have hw_8 := hw _ (List.mem_of_getElem? (i := 8) rfl)
  have hw_26 := hw _ (List.mem_of_getElem? (i := 26) rfl)
  have hw_27 := hw _ (List.mem_of_getElem? (i := 27) rfl)
  have hw_28 := hw _ (List.mem_of_getElem? (i := 28) rfl)
  have hw_29 := hw _ (List.mem_of_getElem? (i := 29) rfl)
  have hw_30 := hw _ (List.mem_of_getElem? (i := 30) rfl)
  have hw_31 := hw _ (List.mem_of_getElem? (i := 31) rfl)
  have hw_32 := hw _ (List.mem_of_getElem? (i := 32) rfl)
  have hw_33 := hw _ (List.mem_of_getElem? (i := 33) rfl)
  have hw_34 := hw _ (List.mem_of_getElem? (i := 34) rfl)
  have hw_35 := hw _ (List.mem_of_getElem? (i := 35) rfl)
  have hw_36 := hw _ (List.mem_of_getElem? (i := 36) rfl)
  have hw_37 := hw _ (List.mem_of_getElem? (i := 37) rfl)
  have hw_38 := hw _ (List.mem_of_getElem? (i := 38) rfl)
  have hw_39 := hw _ (List.mem_of_getElem? (i := 39) rfl)
  have hw_40 := hw _ (List.mem_of_getElem? (i := 40) rfl)
  have hw_41 := hw _ (List.mem_of_getElem? (i := 41) rfl)
  have hw_42 := hw _ (List.mem_of_getElem? (i := 42) rfl)
  have hw_43 := hw _ (List.mem_of_getElem? (i := 43) rfl)
  have hw_44 := hw _ (List.mem_of_getElem? (i := 44) rfl)
  have hw_45 := hw _ (List.mem_of_getElem? (i := 45) rfl)
  have hw_46 := hw _ (List.mem_of_getElem? (i := 46) rfl)
  refine MetFree.of_bodySF (plainFor_of_name pn_ScenarioBackend) hisR ?_
  intro p e s m args below meth c s₁ Bd hml0 hP hK
  obtain ⟨rfl, hZ, hh⟩ := hP
  have hx := Bd.exec
  have hby := Bd.bytes
  have hml : c.maxLocals = 17 := hml0
  have hown : s.vm.findClass "com/example/backend_picker/backendpicker/simulator/ScenarioBackend" = some m.cls := findClass_of_methodNamed Bd.named
  have hnm := (name_of_methodNamed Bd.named Bd.method).1
  have X0 : Stand p l e ({ frames := 1, cells := 0, slots := 0, locals := 12 } : Room) s m #[(.ref a1), (.ref a2), (.ref a3), (.long q1), (.long q2), (.long q3), (.long q4), (.long q5), (.long q6), (.long q7)] below meth c s₁ [] 0 0 := Stand.of_body Bd
  have e0 : s₁.heap = h0 := by rw [← hh, Bd.state]; rfl
  have N0 := Fr.nil n0
  have pre0 : ∀ t, Steps p.tables e below (s₁.setTop (mkF m 0 #[.val (.ref a1), .val (.ref a2), .val (.ref a3), .val (.long q1), .second, .val (.long q2), .second, .val (.long q3), .second, .val (.long q4), .second, .val (.long q5), .second, .val (.long q6), .second, .val (.long q7), .second] [])) t → Steps p.tables e below (s₁.setTop (entryFrame m #[(.ref a1), (.ref a2), (.ref a3), (.long q1), (.long q2), (.long q3), (.long q4), (.long q5), (.long q6), (.long q7)] 17)) t := fun t k => castTop (ef_3 m a1 a2 a3 q1 q2 q3 q4 q5 q6 q7) k
  have K0 : Keep h0 h0 [a1] := Keep.refl h0 _
  obtain ⟨T1, X1, e1, st1⟩ := initO X0 hx hZ hown hw_26 hw_27 hw_28 e0 (g := (mkF m 1 #[.val (.ref a1), .val (.ref a2), .val (.ref a3), .val (.long q1), .second, .val (.long q2), .second, .val (.long q3), .second, .val (.long q4), .second, .val (.long q5), .second, .val (.long q6), .second, .val (.long q7), .second] [(.ref a1)])) rfl (by rw [hml]; rfl) rfl (hb hby d3_1) (by decide) (W := 0) (by show 2 * 0 + _ ≤ _; exact Nat.le_of_eq rfl) (by decide)
  obtain ⟨T2, h2, X2, e2, W2, st2⟩ := putF X1 hx hZ hown (host := "") (Or.inl hw_29) Via.refl e1 F_name E1 (Or.inr ⟨hw_30, rfl, hnm⟩) hw_8 (ty := (.object "java/lang/String")) (by decide) rfl rfl (g := (mkF m 6 #[.val (.ref a1), .val (.ref a2), .val (.ref a3), .val (.long q1), .second, .val (.long q2), .second, .val (.long q3), .second, .val (.long q4), .second, .val (.long q5), .second, .val (.long q6), .second, .val (.long q7), .second] [(.ref a2), (.ref a1)])) rfl rfl (hb hby d3_6)
  have Fw2 := F_name.same W2
  have N2 := Fr.snoc X2 N0 (show n0 ≤ a1 by omega)
  have sz2 : h0.size ≤ h2.size := Nat.le_of_eq W2.size.symm
  have Z2 : n0 ≤ h2.size := Nat.le_trans Z0 sz2
  have K2 : Keep h0 h2 [a1] := K0.wr W2 (Or.inl (by simp))
  have f3 := (F_law.other W2 (Or.inr (slot_ne (Or.inr hw_32) (Or.inr hw_30) (by decide) (t := (.object "com/example/backend_picker/backendpicker/simulator/ServiceLaw")) (t' := (.object "java/lang/String")) (by decide) (by decide))))
  have f4 := (E1.wr W2)
  obtain ⟨T5, h5, X5, e5, W5, st5⟩ := putF X2 hx hZ hown (host := "") (Or.inl hw_31) Via.refl e2 f3 f4 (Or.inr ⟨hw_32, rfl, hnm⟩) hw_8 (ty := (.object "com/example/backend_picker/backendpicker/simulator/ServiceLaw")) (by decide) rfl rfl (g := (mkF m 11 #[.val (.ref a1), .val (.ref a2), .val (.ref a3), .val (.long q1), .second, .val (.long q2), .second, .val (.long q3), .second, .val (.long q4), .second, .val (.long q5), .second, .val (.long q6), .second, .val (.long q7), .second] [(.ref a3), (.ref a1)])) rfl rfl (hb hby d3_11)
  have Fw5 := f3.same W5
  have N5 := Fr.snoc X5 N2 (show n0 ≤ a1 by omega)
  have sz5 : h2.size ≤ h5.size := Nat.le_of_eq W5.size.symm
  have Z5 : n0 ≤ h5.size := Nat.le_trans Z2 sz5
  have K5 : Keep h0 h5 [a1] := K2.wr W5 (Or.inl (by simp))
  have f6 := (F_serviceNs.other W2 (Or.inr (slot_ne (Or.inr hw_34) (Or.inr hw_30) (by decide) (t := .long) (t' := (.object "java/lang/String")) (by decide) (by decide))))
  have f7 := (f6.other W5 (Or.inr (slot_ne (Or.inr hw_34) (Or.inr hw_32) (by decide) (t := .long) (t' := (.object "com/example/backend_picker/backendpicker/simulator/ServiceLaw")) (by decide) (by decide))))
  have f8 := (f4.wr W5)
  obtain ⟨T9, h9, X9, e9, W9, st9⟩ := putF X5 hx hZ hown (host := "") (Or.inl hw_33) Via.refl e5 f7 f8 (Or.inr ⟨hw_34, rfl, hnm⟩) hw_8 (ty := .long) (by decide) rfl rfl (g := (mkF m 16 #[.val (.ref a1), .val (.ref a2), .val (.ref a3), .val (.long q1), .second, .val (.long q2), .second, .val (.long q3), .second, .val (.long q4), .second, .val (.long q5), .second, .val (.long q6), .second, .val (.long q7), .second] [(.long q1), (.ref a1)])) rfl rfl (hb hby d3_16)
  have Fw9 := f7.same W9
  have N9 := Fr.snoc X9 N5 (show n0 ≤ a1 by omega)
  have sz9 : h5.size ≤ h9.size := Nat.le_of_eq W9.size.symm
  have Z9 : n0 ≤ h9.size := Nat.le_trans Z5 sz9
  have K9 : Keep h0 h9 [a1] := K5.wr W9 (Or.inl (by simp))
  have f10 := (F_slots.other W2 (Or.inr (slot_ne (Or.inr hw_36) (Or.inr hw_30) (by decide) (t := .long) (t' := (.object "java/lang/String")) (by decide) (by decide))))
  have f11 := (f10.other W5 (Or.inr (slot_ne (Or.inr hw_36) (Or.inr hw_32) (by decide) (t := .long) (t' := (.object "com/example/backend_picker/backendpicker/simulator/ServiceLaw")) (by decide) (by decide))))
  have f12 := (f11.other W9 (Or.inr (slot_ne (Or.inr hw_36) (Or.inr hw_34) (by decide) (t := .long) (t' := .long) (by decide) (by decide))))
  have f13 := (f8.wr W9)
  obtain ⟨T14, h14, X14, e14, W14, st14⟩ := putF X9 hx hZ hown (host := "") (Or.inl hw_35) Via.refl e9 f12 f13 (Or.inr ⟨hw_36, rfl, hnm⟩) hw_8 (ty := .long) (by decide) rfl rfl (g := (mkF m 22 #[.val (.ref a1), .val (.ref a2), .val (.ref a3), .val (.long q1), .second, .val (.long q2), .second, .val (.long q3), .second, .val (.long q4), .second, .val (.long q5), .second, .val (.long q6), .second, .val (.long q7), .second] [(.long q2), (.ref a1)])) rfl rfl (hb hby d3_22)
  have Fw14 := f12.same W14
  have N14 := Fr.snoc X14 N9 (show n0 ≤ a1 by omega)
  have sz14 : h9.size ≤ h14.size := Nat.le_of_eq W14.size.symm
  have Z14 : n0 ≤ h14.size := Nat.le_trans Z9 sz14
  have K14 : Keep h0 h14 [a1] := K9.wr W14 (Or.inl (by simp))
  have f15 := (F_queue.other W2 (Or.inr (slot_ne (Or.inr hw_38) (Or.inr hw_30) (by decide) (t := .long) (t' := (.object "java/lang/String")) (by decide) (by decide))))
  have f16 := (f15.other W5 (Or.inr (slot_ne (Or.inr hw_38) (Or.inr hw_32) (by decide) (t := .long) (t' := (.object "com/example/backend_picker/backendpicker/simulator/ServiceLaw")) (by decide) (by decide))))
  have f17 := (f16.other W9 (Or.inr (slot_ne (Or.inr hw_38) (Or.inr hw_34) (by decide) (t := .long) (t' := .long) (by decide) (by decide))))
  have f18 := (f17.other W14 (Or.inr (slot_ne (Or.inr hw_38) (Or.inr hw_36) (by decide) (t := .long) (t' := .long) (by decide) (by decide))))
  have f19 := (f13.wr W14)
  obtain ⟨T20, h20, X20, e20, W20, st20⟩ := putF X14 hx hZ hown (host := "") (Or.inl hw_37) Via.refl e14 f18 f19 (Or.inr ⟨hw_38, rfl, hnm⟩) hw_8 (ty := .long) (by decide) rfl rfl (g := (mkF m 28 #[.val (.ref a1), .val (.ref a2), .val (.ref a3), .val (.long q1), .second, .val (.long q2), .second, .val (.long q3), .second, .val (.long q4), .second, .val (.long q5), .second, .val (.long q6), .second, .val (.long q7), .second] [(.long q3), (.ref a1)])) rfl rfl (hb hby d3_28)
  have Fw20 := f18.same W20
  have N20 := Fr.snoc X20 N14 (show n0 ≤ a1 by omega)
  have sz20 : h14.size ≤ h20.size := Nat.le_of_eq W20.size.symm
  have Z20 : n0 ≤ h20.size := Nat.le_trans Z14 sz20
  have K20 : Keep h0 h20 [a1] := K14.wr W20 (Or.inl (by simp))
  have f21 := (F_failsUntilNs.other W2 (Or.inr (slot_ne (Or.inr hw_40) (Or.inr hw_30) (by decide) (t := .long) (t' := (.object "java/lang/String")) (by decide) (by decide))))
  have f22 := (f21.other W5 (Or.inr (slot_ne (Or.inr hw_40) (Or.inr hw_32) (by decide) (t := .long) (t' := (.object "com/example/backend_picker/backendpicker/simulator/ServiceLaw")) (by decide) (by decide))))
  have f23 := (f22.other W9 (Or.inr (slot_ne (Or.inr hw_40) (Or.inr hw_34) (by decide) (t := .long) (t' := .long) (by decide) (by decide))))
  have f24 := (f23.other W14 (Or.inr (slot_ne (Or.inr hw_40) (Or.inr hw_36) (by decide) (t := .long) (t' := .long) (by decide) (by decide))))
  have f25 := (f24.other W20 (Or.inr (slot_ne (Or.inr hw_40) (Or.inr hw_38) (by decide) (t := .long) (t' := .long) (by decide) (by decide))))
  have f26 := (f19.wr W20)
  obtain ⟨T27, h27, X27, e27, W27, st27⟩ := putF X20 hx hZ hown (host := "") (Or.inl hw_39) Via.refl e20 f25 f26 (Or.inr ⟨hw_40, rfl, hnm⟩) hw_8 (ty := .long) (by decide) rfl rfl (g := (mkF m 34 #[.val (.ref a1), .val (.ref a2), .val (.ref a3), .val (.long q1), .second, .val (.long q2), .second, .val (.long q3), .second, .val (.long q4), .second, .val (.long q5), .second, .val (.long q6), .second, .val (.long q7), .second] [(.long q4), (.ref a1)])) rfl rfl (hb hby d3_34)
  have Fw27 := f25.same W27
  have N27 := Fr.snoc X27 N20 (show n0 ≤ a1 by omega)
  have sz27 : h20.size ≤ h27.size := Nat.le_of_eq W27.size.symm
  have Z27 : n0 ≤ h27.size := Nat.le_trans Z20 sz27
  have K27 : Keep h0 h27 [a1] := K20.wr W27 (Or.inl (by simp))
  have f28 := (F_failNs.other W2 (Or.inr (slot_ne (Or.inr hw_42) (Or.inr hw_30) (by decide) (t := .long) (t' := (.object "java/lang/String")) (by decide) (by decide))))
  have f29 := (f28.other W5 (Or.inr (slot_ne (Or.inr hw_42) (Or.inr hw_32) (by decide) (t := .long) (t' := (.object "com/example/backend_picker/backendpicker/simulator/ServiceLaw")) (by decide) (by decide))))
  have f30 := (f29.other W9 (Or.inr (slot_ne (Or.inr hw_42) (Or.inr hw_34) (by decide) (t := .long) (t' := .long) (by decide) (by decide))))
  have f31 := (f30.other W14 (Or.inr (slot_ne (Or.inr hw_42) (Or.inr hw_36) (by decide) (t := .long) (t' := .long) (by decide) (by decide))))
  have f32 := (f31.other W20 (Or.inr (slot_ne (Or.inr hw_42) (Or.inr hw_38) (by decide) (t := .long) (t' := .long) (by decide) (by decide))))
  have f33 := (f32.other W27 (Or.inr (slot_ne (Or.inr hw_42) (Or.inr hw_40) (by decide) (t := .long) (t' := .long) (by decide) (by decide))))
  have f34 := (f26.wr W27)
  obtain ⟨T35, h35, X35, e35, W35, st35⟩ := putF X27 hx hZ hown (host := "") (Or.inl hw_41) Via.refl e27 f33 f34 (Or.inr ⟨hw_42, rfl, hnm⟩) hw_8 (ty := .long) (by decide) rfl rfl (g := (mkF m 40 #[.val (.ref a1), .val (.ref a2), .val (.ref a3), .val (.long q1), .second, .val (.long q2), .second, .val (.long q3), .second, .val (.long q4), .second, .val (.long q5), .second, .val (.long q6), .second, .val (.long q7), .second] [(.long q5), (.ref a1)])) rfl rfl (hb hby d3_40)
  have Fw35 := f33.same W35
  have N35 := Fr.snoc X35 N27 (show n0 ≤ a1 by omega)
  have sz35 : h27.size ≤ h35.size := Nat.le_of_eq W35.size.symm
  have Z35 : n0 ≤ h35.size := Nat.le_trans Z27 sz35
  have K35 : Keep h0 h35 [a1] := K27.wr W35 (Or.inl (by simp))
  have f36 := (F_joinsAtNs.other W2 (Or.inr (slot_ne (Or.inr hw_44) (Or.inr hw_30) (by decide) (t := .long) (t' := (.object "java/lang/String")) (by decide) (by decide))))
  have f37 := (f36.other W5 (Or.inr (slot_ne (Or.inr hw_44) (Or.inr hw_32) (by decide) (t := .long) (t' := (.object "com/example/backend_picker/backendpicker/simulator/ServiceLaw")) (by decide) (by decide))))
  have f38 := (f37.other W9 (Or.inr (slot_ne (Or.inr hw_44) (Or.inr hw_34) (by decide) (t := .long) (t' := .long) (by decide) (by decide))))
  have f39 := (f38.other W14 (Or.inr (slot_ne (Or.inr hw_44) (Or.inr hw_36) (by decide) (t := .long) (t' := .long) (by decide) (by decide))))
  have f40 := (f39.other W20 (Or.inr (slot_ne (Or.inr hw_44) (Or.inr hw_38) (by decide) (t := .long) (t' := .long) (by decide) (by decide))))
  have f41 := (f40.other W27 (Or.inr (slot_ne (Or.inr hw_44) (Or.inr hw_40) (by decide) (t := .long) (t' := .long) (by decide) (by decide))))
  have f42 := (f41.other W35 (Or.inr (slot_ne (Or.inr hw_44) (Or.inr hw_42) (by decide) (t := .long) (t' := .long) (by decide) (by decide))))
  have f43 := (f34.wr W35)
  obtain ⟨T44, h44, X44, e44, W44, st44⟩ := putF X35 hx hZ hown (host := "") (Or.inl hw_43) Via.refl e35 f42 f43 (Or.inr ⟨hw_44, rfl, hnm⟩) hw_8 (ty := .long) (by decide) rfl rfl (g := (mkF m 46 #[.val (.ref a1), .val (.ref a2), .val (.ref a3), .val (.long q1), .second, .val (.long q2), .second, .val (.long q3), .second, .val (.long q4), .second, .val (.long q5), .second, .val (.long q6), .second, .val (.long q7), .second] [(.long q6), (.ref a1)])) rfl rfl (hb hby d3_46)
  have Fw44 := f42.same W44
  have N44 := Fr.snoc X44 N35 (show n0 ≤ a1 by omega)
  have sz44 : h35.size ≤ h44.size := Nat.le_of_eq W44.size.symm
  have Z44 : n0 ≤ h44.size := Nat.le_trans Z35 sz44
  have K44 : Keep h0 h44 [a1] := K35.wr W44 (Or.inl (by simp))
  have f45 := (F_leavesAtNs.other W2 (Or.inr (slot_ne (Or.inr hw_46) (Or.inr hw_30) (by decide) (t := .long) (t' := (.object "java/lang/String")) (by decide) (by decide))))
  have f46 := (f45.other W5 (Or.inr (slot_ne (Or.inr hw_46) (Or.inr hw_32) (by decide) (t := .long) (t' := (.object "com/example/backend_picker/backendpicker/simulator/ServiceLaw")) (by decide) (by decide))))
  have f47 := (f46.other W9 (Or.inr (slot_ne (Or.inr hw_46) (Or.inr hw_34) (by decide) (t := .long) (t' := .long) (by decide) (by decide))))
  have f48 := (f47.other W14 (Or.inr (slot_ne (Or.inr hw_46) (Or.inr hw_36) (by decide) (t := .long) (t' := .long) (by decide) (by decide))))
  have f49 := (f48.other W20 (Or.inr (slot_ne (Or.inr hw_46) (Or.inr hw_38) (by decide) (t := .long) (t' := .long) (by decide) (by decide))))
  have f50 := (f49.other W27 (Or.inr (slot_ne (Or.inr hw_46) (Or.inr hw_40) (by decide) (t := .long) (t' := .long) (by decide) (by decide))))
  have f51 := (f50.other W35 (Or.inr (slot_ne (Or.inr hw_46) (Or.inr hw_42) (by decide) (t := .long) (t' := .long) (by decide) (by decide))))
  have f52 := (f51.other W44 (Or.inr (slot_ne (Or.inr hw_46) (Or.inr hw_44) (by decide) (t := .long) (t' := .long) (by decide) (by decide))))
  have f53 := (f43.wr W44)
  obtain ⟨T54, h54, X54, e54, W54, st54⟩ := putF X44 hx hZ hown (host := "") (Or.inl hw_45) Via.refl e44 f52 f53 (Or.inr ⟨hw_46, rfl, hnm⟩) hw_8 (ty := .long) (by decide) rfl rfl (g := (mkF m 52 #[.val (.ref a1), .val (.ref a2), .val (.ref a3), .val (.long q1), .second, .val (.long q2), .second, .val (.long q3), .second, .val (.long q4), .second, .val (.long q5), .second, .val (.long q6), .second, .val (.long q7), .second] [(.long q7), (.ref a1)])) rfl rfl (hb hby d3_52)
  have Fw54 := f52.same W54
  have N54 := Fr.snoc X54 N44 (show n0 ≤ a1 by omega)
  have sz54 : h44.size ≤ h54.size := Nat.le_of_eq W54.size.symm
  have Z54 : n0 ≤ h54.size := Nat.le_trans Z44 sz54
  have K54 : Keep h0 h54 [a1] := K44.wr W54 (Or.inl (by simp))
  have go55 : ∀ t, Steps p.tables e below (T54.setTop (mkF m 55 #[.val (.ref a1), .val (.ref a2), .val (.ref a3), .val (.long q1), .second, .val (.long q2), .second, .val (.long q3), .second, .val (.long q4), .second, .val (.long q5), .second, .val (.long q6), .second, .val (.long q7), .second] [])) t → Steps p.tables e below (s₁.setTop (entryFrame m #[(.ref a1), (.ref a2), (.ref a3), (.long q1), (.long q2), (.long q3), (.long q4), (.long q5), (.long q6), (.long q7)] 17)) t := by
    intro t k
    refine pre0 t ?_
    show Steps p.tables e below (s₁.setTop (mkF m 0 #[.val (.ref a1), .val (.ref a2), .val (.ref a3), .val (.long q1), .second, .val (.long q2), .second, .val (.long q3), .second, .val (.long q4), .second, .val (.long q5), .second, .val (.long q6), .second, .val (.long q7), .second] [])) _
    refine XS.aloadN X0.here hx rfl (hb hby d3_0) rfl rfl ?_
    show Steps p.tables e below (s₁.setTop (mkF m 1 #[.val (.ref a1), .val (.ref a2), .val (.ref a3), .val (.long q1), .second, .val (.long q2), .second, .val (.long q3), .second, .val (.long q4), .second, .val (.long q5), .second, .val (.long q6), .second, .val (.long q7), .second] [(.ref a1)])) _
    refine st1 _ ?_
    show Steps p.tables e below (T1.setTop (mkF m 4 #[.val (.ref a1), .val (.ref a2), .val (.ref a3), .val (.long q1), .second, .val (.long q2), .second, .val (.long q3), .second, .val (.long q4), .second, .val (.long q5), .second, .val (.long q6), .second, .val (.long q7), .second] [])) _
    refine XS.aloadN X1.here hx rfl (hb hby d3_4) rfl rfl ?_
    show Steps p.tables e below (T1.setTop (mkF m 5 #[.val (.ref a1), .val (.ref a2), .val (.ref a3), .val (.long q1), .second, .val (.long q2), .second, .val (.long q3), .second, .val (.long q4), .second, .val (.long q5), .second, .val (.long q6), .second, .val (.long q7), .second] [(.ref a1)])) _
    refine XS.aloadN X1.here hx rfl (hb hby d3_5) rfl rfl ?_
    show Steps p.tables e below (T1.setTop (mkF m 6 #[.val (.ref a1), .val (.ref a2), .val (.ref a3), .val (.long q1), .second, .val (.long q2), .second, .val (.long q3), .second, .val (.long q4), .second, .val (.long q5), .second, .val (.long q6), .second, .val (.long q7), .second] [(.ref a2), (.ref a1)])) _
    refine st2 _ ?_
    show Steps p.tables e below (T2.setTop (mkF m 9 #[.val (.ref a1), .val (.ref a2), .val (.ref a3), .val (.long q1), .second, .val (.long q2), .second, .val (.long q3), .second, .val (.long q4), .second, .val (.long q5), .second, .val (.long q6), .second, .val (.long q7), .second] [])) _
    refine XS.aloadN X2.here hx rfl (hb hby d3_9) rfl rfl ?_
    show Steps p.tables e below (T2.setTop (mkF m 10 #[.val (.ref a1), .val (.ref a2), .val (.ref a3), .val (.long q1), .second, .val (.long q2), .second, .val (.long q3), .second, .val (.long q4), .second, .val (.long q5), .second, .val (.long q6), .second, .val (.long q7), .second] [(.ref a1)])) _
    refine XS.aloadN X2.here hx rfl (hb hby d3_10) rfl rfl ?_
    show Steps p.tables e below (T2.setTop (mkF m 11 #[.val (.ref a1), .val (.ref a2), .val (.ref a3), .val (.long q1), .second, .val (.long q2), .second, .val (.long q3), .second, .val (.long q4), .second, .val (.long q5), .second, .val (.long q6), .second, .val (.long q7), .second] [(.ref a3), (.ref a1)])) _
    refine st5 _ ?_
    show Steps p.tables e below (T5.setTop (mkF m 14 #[.val (.ref a1), .val (.ref a2), .val (.ref a3), .val (.long q1), .second, .val (.long q2), .second, .val (.long q3), .second, .val (.long q4), .second, .val (.long q5), .second, .val (.long q6), .second, .val (.long q7), .second] [])) _
    refine XS.aloadN X5.here hx rfl (hb hby d3_14) rfl rfl ?_
    show Steps p.tables e below (T5.setTop (mkF m 15 #[.val (.ref a1), .val (.ref a2), .val (.ref a3), .val (.long q1), .second, .val (.long q2), .second, .val (.long q3), .second, .val (.long q4), .second, .val (.long q5), .second, .val (.long q6), .second, .val (.long q7), .second] [(.ref a1)])) _
    refine XS.lloadN X5.here hx rfl (hb hby d3_15) rfl ?_
    show Steps p.tables e below (T5.setTop (mkF m 16 #[.val (.ref a1), .val (.ref a2), .val (.ref a3), .val (.long q1), .second, .val (.long q2), .second, .val (.long q3), .second, .val (.long q4), .second, .val (.long q5), .second, .val (.long q6), .second, .val (.long q7), .second] [(.long q1), (.ref a1)])) _
    refine st9 _ ?_
    show Steps p.tables e below (T9.setTop (mkF m 19 #[.val (.ref a1), .val (.ref a2), .val (.ref a3), .val (.long q1), .second, .val (.long q2), .second, .val (.long q3), .second, .val (.long q4), .second, .val (.long q5), .second, .val (.long q6), .second, .val (.long q7), .second] [])) _
    refine XS.aloadN X9.here hx rfl (hb hby d3_19) rfl rfl ?_
    show Steps p.tables e below (T9.setTop (mkF m 20 #[.val (.ref a1), .val (.ref a2), .val (.ref a3), .val (.long q1), .second, .val (.long q2), .second, .val (.long q3), .second, .val (.long q4), .second, .val (.long q5), .second, .val (.long q6), .second, .val (.long q7), .second] [(.ref a1)])) _
    refine XS.lload X9.here hx rfl (hb hby d3_20) rfl ?_
    show Steps p.tables e below (T9.setTop (mkF m 22 #[.val (.ref a1), .val (.ref a2), .val (.ref a3), .val (.long q1), .second, .val (.long q2), .second, .val (.long q3), .second, .val (.long q4), .second, .val (.long q5), .second, .val (.long q6), .second, .val (.long q7), .second] [(.long q2), (.ref a1)])) _
    refine st14 _ ?_
    show Steps p.tables e below (T14.setTop (mkF m 25 #[.val (.ref a1), .val (.ref a2), .val (.ref a3), .val (.long q1), .second, .val (.long q2), .second, .val (.long q3), .second, .val (.long q4), .second, .val (.long q5), .second, .val (.long q6), .second, .val (.long q7), .second] [])) _
    refine XS.aloadN X14.here hx rfl (hb hby d3_25) rfl rfl ?_
    show Steps p.tables e below (T14.setTop (mkF m 26 #[.val (.ref a1), .val (.ref a2), .val (.ref a3), .val (.long q1), .second, .val (.long q2), .second, .val (.long q3), .second, .val (.long q4), .second, .val (.long q5), .second, .val (.long q6), .second, .val (.long q7), .second] [(.ref a1)])) _
    refine XS.lload X14.here hx rfl (hb hby d3_26) rfl ?_
    show Steps p.tables e below (T14.setTop (mkF m 28 #[.val (.ref a1), .val (.ref a2), .val (.ref a3), .val (.long q1), .second, .val (.long q2), .second, .val (.long q3), .second, .val (.long q4), .second, .val (.long q5), .second, .val (.long q6), .second, .val (.long q7), .second] [(.long q3), (.ref a1)])) _
    refine st20 _ ?_
    show Steps p.tables e below (T20.setTop (mkF m 31 #[.val (.ref a1), .val (.ref a2), .val (.ref a3), .val (.long q1), .second, .val (.long q2), .second, .val (.long q3), .second, .val (.long q4), .second, .val (.long q5), .second, .val (.long q6), .second, .val (.long q7), .second] [])) _
    refine XS.aloadN X20.here hx rfl (hb hby d3_31) rfl rfl ?_
    show Steps p.tables e below (T20.setTop (mkF m 32 #[.val (.ref a1), .val (.ref a2), .val (.ref a3), .val (.long q1), .second, .val (.long q2), .second, .val (.long q3), .second, .val (.long q4), .second, .val (.long q5), .second, .val (.long q6), .second, .val (.long q7), .second] [(.ref a1)])) _
    refine XS.lload X20.here hx rfl (hb hby d3_32) rfl ?_
    show Steps p.tables e below (T20.setTop (mkF m 34 #[.val (.ref a1), .val (.ref a2), .val (.ref a3), .val (.long q1), .second, .val (.long q2), .second, .val (.long q3), .second, .val (.long q4), .second, .val (.long q5), .second, .val (.long q6), .second, .val (.long q7), .second] [(.long q4), (.ref a1)])) _
    refine st27 _ ?_
    show Steps p.tables e below (T27.setTop (mkF m 37 #[.val (.ref a1), .val (.ref a2), .val (.ref a3), .val (.long q1), .second, .val (.long q2), .second, .val (.long q3), .second, .val (.long q4), .second, .val (.long q5), .second, .val (.long q6), .second, .val (.long q7), .second] [])) _
    refine XS.aloadN X27.here hx rfl (hb hby d3_37) rfl rfl ?_
    show Steps p.tables e below (T27.setTop (mkF m 38 #[.val (.ref a1), .val (.ref a2), .val (.ref a3), .val (.long q1), .second, .val (.long q2), .second, .val (.long q3), .second, .val (.long q4), .second, .val (.long q5), .second, .val (.long q6), .second, .val (.long q7), .second] [(.ref a1)])) _
    refine XS.lload X27.here hx rfl (hb hby d3_38) rfl ?_
    show Steps p.tables e below (T27.setTop (mkF m 40 #[.val (.ref a1), .val (.ref a2), .val (.ref a3), .val (.long q1), .second, .val (.long q2), .second, .val (.long q3), .second, .val (.long q4), .second, .val (.long q5), .second, .val (.long q6), .second, .val (.long q7), .second] [(.long q5), (.ref a1)])) _
    refine st35 _ ?_
    show Steps p.tables e below (T35.setTop (mkF m 43 #[.val (.ref a1), .val (.ref a2), .val (.ref a3), .val (.long q1), .second, .val (.long q2), .second, .val (.long q3), .second, .val (.long q4), .second, .val (.long q5), .second, .val (.long q6), .second, .val (.long q7), .second] [])) _
    refine XS.aloadN X35.here hx rfl (hb hby d3_43) rfl rfl ?_
    show Steps p.tables e below (T35.setTop (mkF m 44 #[.val (.ref a1), .val (.ref a2), .val (.ref a3), .val (.long q1), .second, .val (.long q2), .second, .val (.long q3), .second, .val (.long q4), .second, .val (.long q5), .second, .val (.long q6), .second, .val (.long q7), .second] [(.ref a1)])) _
    refine XS.lload X35.here hx rfl (hb hby d3_44) rfl ?_
    show Steps p.tables e below (T35.setTop (mkF m 46 #[.val (.ref a1), .val (.ref a2), .val (.ref a3), .val (.long q1), .second, .val (.long q2), .second, .val (.long q3), .second, .val (.long q4), .second, .val (.long q5), .second, .val (.long q6), .second, .val (.long q7), .second] [(.long q6), (.ref a1)])) _
    refine st44 _ ?_
    show Steps p.tables e below (T44.setTop (mkF m 49 #[.val (.ref a1), .val (.ref a2), .val (.ref a3), .val (.long q1), .second, .val (.long q2), .second, .val (.long q3), .second, .val (.long q4), .second, .val (.long q5), .second, .val (.long q6), .second, .val (.long q7), .second] [])) _
    refine XS.aloadN X44.here hx rfl (hb hby d3_49) rfl rfl ?_
    show Steps p.tables e below (T44.setTop (mkF m 50 #[.val (.ref a1), .val (.ref a2), .val (.ref a3), .val (.long q1), .second, .val (.long q2), .second, .val (.long q3), .second, .val (.long q4), .second, .val (.long q5), .second, .val (.long q6), .second, .val (.long q7), .second] [(.ref a1)])) _
    refine XS.lload X44.here hx rfl (hb hby d3_50) rfl ?_
    show Steps p.tables e below (T44.setTop (mkF m 52 #[.val (.ref a1), .val (.ref a2), .val (.ref a3), .val (.long q1), .second, .val (.long q2), .second, .val (.long q3), .second, .val (.long q4), .second, .val (.long q5), .second, .val (.long q6), .second, .val (.long q7), .second] [(.long q7), (.ref a1)])) _
    refine st54 _ ?_
    exact k
  obtain ⟨fs, hr, hrun, hended, hW, hsame⟩ := X54.leave (v := none) (fun _ => rfl)
  have f56 := (f53.wr W54)
  have f57 := (Fw27.other W35 (Or.inr (slot_ne (Or.inr hw_40) (Or.inr hw_42) (by decide) (t := .long) (t' := .long) (by decide) (by decide))))
  have f58 := (f57.other W44 (Or.inr (slot_ne (Or.inr hw_40) (Or.inr hw_44) (by decide) (t := .long) (t' := .long) (by decide) (by decide))))
  have f59 := (f58.other W54 (Or.inr (slot_ne (Or.inr hw_40) (Or.inr hw_46) (by decide) (t := .long) (t' := .long) (by decide) (by decide))))
  refine ⟨_, _, go55 _ ?_, hrun, hended, _, _, rfl, ?_, ⟨_, rfl⟩, hW, hsame.mono (by decide) (by decide)⟩
  · skip
    show Steps p.tables e below (T54.setTop (mkF m 55 #[.val (.ref a1), .val (.ref a2), .val (.ref a3), .val (.long q1), .second, .val (.long q2), .second, .val (.long q3), .second, .val (.long q4), .second, .val (.long q5), .second, .val (.long q6), .second, .val (.long q7), .second] [])) _
    exact X54.returnOut hx Bd.returns (hb hby d3_55) hr
  · show Q_rmSB Z a1 a2 a3 q1 q2 q3 q4 q5 q6 q7 h0 n0 _ T54.heap _
    rw [e54]
    exact ⟨rfl, N54, K54, f56, f59⟩
def own_fa (u q : Int64) : Int32 := if u = (9223372036854775807 : Int64) then 1 else if q < u then 1 else 0
theorem ef_5 (m : MethodId) (x0 : Addr) (x1 : Int64) : entryFrame m #[(.ref x0), (.long x1)] 3 = mkF m 0 #[.val (.ref x0), .val (.long x1), .second] [] := by first | (simp [entryFrame, mkF, argsToLocals, Value.category]; done) | rfl
theorem d5_0 : decode prog_74_method_7_code 0 = .ok (.aload_n 0, 1) := by decide +kernel
theorem d5_1 : decode prog_74_method_7_code 1 = .ok (.getfield 29, 3) := by decide +kernel
theorem d5_4 : decode prog_74_method_7_code 4 = .ok (.ldc2_w 41, 3) := by decide +kernel
theorem d5_7 : decode prog_74_method_7_code 7 = .ok (.lcmp, 1) := by decide +kernel
theorem d5_8 : decode prog_74_method_7_code 8 = .ok (.ifCond .eq 12, 3) := by decide +kernel
theorem d5_20 : decode prog_74_method_7_code 20 = .ok (.iconst 1, 1) := by decide +kernel
theorem d5_21 : decode prog_74_method_7_code 21 = .ok (.goto 4, 3) := by decide +kernel
theorem d5_25 : decode prog_74_method_7_code 25 = .ok (.ireturn, 1) := by decide +kernel
theorem d5_11 : decode prog_74_method_7_code 11 = .ok (.lload_n 1, 1) := by decide +kernel
theorem d5_12 : decode prog_74_method_7_code 12 = .ok (.aload_n 0, 1) := by decide +kernel
theorem d5_13 : decode prog_74_method_7_code 13 = .ok (.getfield 29, 3) := by decide +kernel
theorem d5_16 : decode prog_74_method_7_code 16 = .ok (.lcmp, 1) := by decide +kernel
theorem d5_17 : decode prog_74_method_7_code 17 = .ok (.ifCond .ge 7, 3) := by decide +kernel
theorem d5_24 : decode prog_74_method_7_code 24 = .ok (.iconst 0, 1) := by decide +kernel
def Q_rmFa (Z : State) (a1 : Addr) (q2 : Int64) (u : Int64) (h0 : Heap) (n0 : Nat) (v : Option Value) (h : Heap) (L : List Loc) : Prop := v = some (.int (own_fa u q2)) ∧ Fr n0 L ∧ h = h0
set_option maxRecDepth 65536 in
set_option maxHeartbeats 40000000 in
theorem rmFa (l : Launch) (Z : State) (a0 : Array Value) (hw : ∀ d ∈ tables_1, d.before a0 Z = true) (ws : List Jvm.Cond) (a1 : Addr) (q2 : Int64) (u : Int64) (h0 : Heap) (n0 : Nat) (Z0 : n0 ≤ h0.size) (Fu : Fld Z h0 a1 "com/example/backend_picker/backendpicker/simulator/ScenarioBackend" "failsUntilNs" "J" (.long u)) :
    MetFree l (⟨"com/example/backend_picker/backendpicker/simulator/ScenarioBackend", "failsAt", "(J)Z"⟩ : MethodName) (head1 (Jvm.Cond.code (⟨"com/example/backend_picker/backendpicker/simulator/ScenarioBackend", "failsAt", "(J)Z"⟩ : MethodName) prog_74_method_7_code 3 (some .boolean) :: ws) ({ frames := 0, cells := 0, slots := 0, locals := 0 } : Room)) (fun a U => a = #[(.ref a1), (.long q2)] ∧ Z.Warmed39 U.vm ∧ U.heap = h0) (fun _ _ _ _ _ => True) (fun _ U o U' => ∃ v L, o = .returned v ∧ Q_rmFa Z a1 q2 u h0 n0 v U'.heap L ∧ FrameEnd U o U' L ({ frames := 0, cells := 0, slots := 0, locals := 0 } : Room).cells ({ frames := 0, cells := 0, slots := 0, locals := 0 } : Room).slots) := by
  have hw_39 := hw _ (List.mem_of_getElem? (i := 39) rfl)
  have hw_52 := hw _ (List.mem_of_getElem? (i := 52) rfl)
  refine MetFree.of_bodySF (plainFor_of_name pn_ScenarioBackend) hisR ?_
  intro p e s m args below meth c s₁ Bd hml0 hP hK
  obtain ⟨rfl, hZ, hh⟩ := hP
  have hx := Bd.exec
  have hby := Bd.bytes
  have hml : c.maxLocals = 3 := hml0
  have hown : s.vm.findClass "com/example/backend_picker/backendpicker/simulator/ScenarioBackend" = some m.cls := findClass_of_methodNamed Bd.named
  have hnm := (name_of_methodNamed Bd.named Bd.method).1
  have X0 : Stand p l e ({ frames := 0, cells := 0, slots := 0, locals := 0 } : Room) s m #[(.ref a1), (.long q2)] below meth c s₁ [] 0 0 := Stand.of_body Bd
  have e0 : s₁.heap = h0 := by rw [← hh, Bd.state]; rfl
  have N0 := Fr.nil n0
  have pre0 : ∀ t, Steps p.tables e below (s₁.setTop (mkF m 0 #[.val (.ref a1), .val (.long q2), .second] [])) t → Steps p.tables e below (s₁.setTop (entryFrame m #[(.ref a1), (.long q2)] 3)) t := fun t k => castTop (ef_5 m a1 q2) k
  obtain ⟨T1, X1, e1, st1⟩ := getF X0 hx hZ hown (host := "") (Or.inl hw_39) Via.refl e0 Fu (g := (mkF m 1 #[.val (.ref a1), .val (.long q2), .second] [(.ref a1)])) rfl rfl (hb hby d5_1)
  have go2 : ∀ t, Steps p.tables e below (T1.setTop (mkF m 8 #[.val (.ref a1), .val (.long q2), .second] [(.int (lcmpW u (9223372036854775807 : Int64)))])) t → Steps p.tables e below (s₁.setTop (entryFrame m #[(.ref a1), (.long q2)] 3)) t := by
    intro t k
    refine pre0 t ?_
    show Steps p.tables e below (s₁.setTop (mkF m 0 #[.val (.ref a1), .val (.long q2), .second] [])) _
    refine XS.aloadN X0.here hx rfl (hb hby d5_0) rfl rfl ?_
    show Steps p.tables e below (s₁.setTop (mkF m 1 #[.val (.ref a1), .val (.long q2), .second] [(.ref a1)])) _
    refine st1 _ ?_
    show Steps p.tables e below (T1.setTop (mkF m 4 #[.val (.ref a1), .val (.long q2), .second] [(.long u)])) _
    refine X1.ldc2Long hx hown (mvT hZ hw_52) (g := (mkF m 4 #[.val (.ref a1), .val (.long q2), .second] [(.long u)])) rfl (hb hby d5_4) _ ?_
    show Steps p.tables e below (T1.setTop (mkF m 7 #[.val (.ref a1), .val (.long q2), .second] [(.long (9223372036854775807 : Int64)), (.long u)])) _
    refine XS.lcmp X1.here hx rfl (hb hby d5_7) rfl ?_
    exact k
  by_cases hc3 : u = (9223372036854775807 : Int64)
  · skip
    have go4 : ∀ t, Steps p.tables e below (T1.setTop (mkF m 25 #[.val (.ref a1), .val (.long q2), .second] [(.int (1 : Int32))])) t → Steps p.tables e below (s₁.setTop (entryFrame m #[(.ref a1), (.long q2)] 3)) t := by
      intro t k
      refine go2 t ?_
      show Steps p.tables e below (T1.setTop (mkF m 8 #[.val (.ref a1), .val (.long q2), .second] [(.int (lcmpW u (9223372036854775807 : Int64)))])) _
      refine XS.ifYes X1.here hx rfl (pc0 := 8) (pc' := 20) rfl (hb hby d5_8) rfl ((if0 _ _).trans (teq ((lw_eq _ _).mpr hc3)).1) (by decide) (by decide) ?_
      show Steps p.tables e below (T1.setTop (mkF m 20 #[.val (.ref a1), .val (.long q2), .second] [])) _
      refine XS.iconst X1.here hx rfl (hb hby d5_20) ?_
      show Steps p.tables e below (T1.setTop (mkF m 21 #[.val (.ref a1), .val (.long q2), .second] [(.int (1 : Int32))])) _
      refine XS.goto X1.here hx rfl (pc0 := 21) (pc' := 25) rfl (hb hby d5_21) (by decide) (by decide) ?_
      exact k
    obtain ⟨fs, hr, hrun, hended, hW, hsame⟩ := X1.leave (v := some (.int (1 : Int32))) (fun h => by rw [Bd.returns] at h; cases h)
    refine ⟨_, _, go4 _ ?_, hrun, hended, _, _, rfl, ?_, ⟨_, rfl⟩, hW, hsame.mono (by decide) (by decide)⟩
    · skip
      show Steps p.tables e below (T1.setTop (mkF m 25 #[.val (.ref a1), .val (.long q2), .second] [(.int (1 : Int32))])) _
      exact retN X1 hx (t := .boolean) Bd.returns (by simp) (hb hby d5_25) hr
    · show Q_rmFa Z a1 q2 u h0 n0 _ T1.heap _
      rw [e1]
      exact ⟨by simp [own_fa, hc3], N0, rfl⟩
  · skip
    obtain ⟨T5, X5, e5, st5⟩ := getF X1 hx hZ hown (host := "") (Or.inl hw_39) Via.refl e1 Fu (g := (mkF m 13 #[.val (.ref a1), .val (.long q2), .second] [(.ref a1), (.long q2)])) rfl rfl (hb hby d5_13)
    have go6 : ∀ t, Steps p.tables e below (T5.setTop (mkF m 17 #[.val (.ref a1), .val (.long q2), .second] [(.int (lcmpW q2 u))])) t → Steps p.tables e below (s₁.setTop (entryFrame m #[(.ref a1), (.long q2)] 3)) t := by
      intro t k
      refine go2 t ?_
      show Steps p.tables e below (T1.setTop (mkF m 8 #[.val (.ref a1), .val (.long q2), .second] [(.int (lcmpW u (9223372036854775807 : Int64)))])) _
      refine XS.ifNo X1.here hx rfl (hb hby d5_8) rfl ((if0 _ _).trans (feq (mt (lw_eq _ _).mp hc3)).1) ?_
      show Steps p.tables e below (T1.setTop (mkF m 11 #[.val (.ref a1), .val (.long q2), .second] [])) _
      refine XS.lloadN X1.here hx rfl (hb hby d5_11) rfl ?_
      show Steps p.tables e below (T1.setTop (mkF m 12 #[.val (.ref a1), .val (.long q2), .second] [(.long q2)])) _
      refine XS.aloadN X1.here hx rfl (hb hby d5_12) rfl rfl ?_
      show Steps p.tables e below (T1.setTop (mkF m 13 #[.val (.ref a1), .val (.long q2), .second] [(.ref a1), (.long q2)])) _
      refine st5 _ ?_
      show Steps p.tables e below (T5.setTop (mkF m 16 #[.val (.ref a1), .val (.long q2), .second] [(.long u), (.long q2)])) _
      refine XS.lcmp X5.here hx rfl (hb hby d5_16) rfl ?_
      exact k
    by_cases hc7 : q2 < u
    · skip
      have go8 : ∀ t, Steps p.tables e below (T5.setTop (mkF m 25 #[.val (.ref a1), .val (.long q2), .second] [(.int (1 : Int32))])) t → Steps p.tables e below (s₁.setTop (entryFrame m #[(.ref a1), (.long q2)] 3)) t := by
        intro t k
        refine go6 t ?_
        show Steps p.tables e below (T5.setTop (mkF m 17 #[.val (.ref a1), .val (.long q2), .second] [(.int (lcmpW q2 u))])) _
        refine XS.ifNo X5.here hx rfl (hb hby d5_17) rfl ((if0 _ _).trans (tlt ((lw_lt _ _).mpr hc7)).2.1) ?_
        show Steps p.tables e below (T5.setTop (mkF m 20 #[.val (.ref a1), .val (.long q2), .second] [])) _
        refine XS.iconst X5.here hx rfl (hb hby d5_20) ?_
        show Steps p.tables e below (T5.setTop (mkF m 21 #[.val (.ref a1), .val (.long q2), .second] [(.int (1 : Int32))])) _
        refine XS.goto X5.here hx rfl (pc0 := 21) (pc' := 25) rfl (hb hby d5_21) (by decide) (by decide) ?_
        exact k
      obtain ⟨fs, hr, hrun, hended, hW, hsame⟩ := X5.leave (v := some (.int (1 : Int32))) (fun h => by rw [Bd.returns] at h; cases h)
      refine ⟨_, _, go8 _ ?_, hrun, hended, _, _, rfl, ?_, ⟨_, rfl⟩, hW, hsame.mono (by decide) (by decide)⟩
      · skip
        show Steps p.tables e below (T5.setTop (mkF m 25 #[.val (.ref a1), .val (.long q2), .second] [(.int (1 : Int32))])) _
        exact retN X5 hx (t := .boolean) Bd.returns (by simp) (hb hby d5_25) hr
      · show Q_rmFa Z a1 q2 u h0 n0 _ T5.heap _
        rw [e5]
        exact ⟨by simp [own_fa, hc3, hc7], N0, rfl⟩
    · skip
      have go9 : ∀ t, Steps p.tables e below (T5.setTop (mkF m 25 #[.val (.ref a1), .val (.long q2), .second] [(.int (0 : Int32))])) t → Steps p.tables e below (s₁.setTop (entryFrame m #[(.ref a1), (.long q2)] 3)) t := by
        intro t k
        refine go6 t ?_
        show Steps p.tables e below (T5.setTop (mkF m 17 #[.val (.ref a1), .val (.long q2), .second] [(.int (lcmpW q2 u))])) _
        refine XS.ifYes X5.here hx rfl (pc0 := 17) (pc' := 24) rfl (hb hby d5_17) rfl ((if0 _ _).trans (flt (mt (lw_lt _ _).mp hc7)).2.1) (by decide) (by decide) ?_
        show Steps p.tables e below (T5.setTop (mkF m 24 #[.val (.ref a1), .val (.long q2), .second] [])) _
        refine XS.iconst X5.here hx rfl (hb hby d5_24) ?_
        exact k
      obtain ⟨fs, hr, hrun, hended, hW, hsame⟩ := X5.leave (v := some (.int (0 : Int32))) (fun h => by rw [Bd.returns] at h; cases h)
      refine ⟨_, _, go9 _ ?_, hrun, hended, _, _, rfl, ?_, ⟨_, rfl⟩, hW, hsame.mono (by decide) (by decide)⟩
      · skip
        show Steps p.tables e below (T5.setTop (mkF m 25 #[.val (.ref a1), .val (.long q2), .second] [(.int (0 : Int32))])) _
        exact retN X5 hx (t := .boolean) Bd.returns (by simp) (hb hby d5_25) hr
      · show Q_rmFa Z a1 q2 u h0 n0 _ T5.heap _
        rw [e5]
        exact ⟨by simp [own_fa, hc3, hc7], N0, rfl⟩
theorem own_pred {u : Int64} (h : ¬ u = (-9223372036854775808 : Int64)) : (u - (1 : Int64)) < u := by
  rw [Int64.lt_iff_toInt_lt]
  have a := rng64 u
  have b := rng64 (u - 1)
  have c := c_lsub u 1
  have e : (1 : Int64).toInt = 1 := by decide
  rw [e] at c
  have n : u.toInt ≠ -9223372036854775808 := fun q => h (Int64.toInt_inj.mp (q.trans (by decide)))
  omega
theorem own_irr (u : Int64) : ¬ u < u := by
  rw [Int64.lt_iff_toInt_lt]
  omega
theorem ef_0 (m : MethodId) (x0 : Int64) (x1 : Int64) (x2 : Int32) : entryFrame m #[(.long x0), (.long x1), (.int x2)] maxLocals = mkF m 0 #[.val (.long x0), .second, .val (.long x1), .second, .val (.int x2), .unset, .unset, .unset, .unset, .unset, .unset, .unset] [] := by first | (simp [entryFrame, mkF, argsToLocals, Value.category, maxLocals]; done) | rfl
theorem pd_0 : parseMethodDescriptor "(JI)J" = some ⟨[.long, .int], some .long⟩ := by decide +kernel
theorem pd_1 : parseMethodDescriptor "(JJI)J" = some ⟨[.long, .long, .int], some .long⟩ := by decide +kernel
theorem pd_2 : parseMethodDescriptor "(Ljava/lang/String;Lcom/example/backend_picker/backendpicker/simulator/ServiceLaw;JJJJJJJ)V" = some ⟨[(.object "java/lang/String"), (.object "com/example/backend_picker/backendpicker/simulator/ServiceLaw"), .long, .long, .long, .long, .long, .long, .long], none⟩ := by decide +kernel
theorem pd_3 : parseMethodDescriptor "(J)Z" = some ⟨[.long], some .boolean⟩ := by decide +kernel
def Q_rm0 (Z : State) (q1 : Int64) (q2 : Int64) (p3 : Int32) (wF : Addr) (h0 : Heap) (n0 : Nat) (v : Option Value) (h : Heap) (L : List Loc) : Prop := v = some (.int 1) ∧ Fr n0 L
set_option maxRecDepth 65536 in
set_option maxHeartbeats 40000000 in
theorem rm0 (l : Launch) (Z : State) (a0 : Array Value) (hw : ∀ d ∈ tables_1, d.before a0 Z = true) (ws : List Jvm.Cond) (q1 : Int64) (q2 : Int64) (p3 : Int32) (wF : Addr) (h0 : Heap) (n0 : Nat) (Z0 : n0 ≤ h0.size) (S_FIXED : Sta Z Z.heap "com/example/backend_picker/backendpicker/simulator/ServiceLaw" "FIXED" "Lcom/example/backend_picker/backendpicker/simulator/ServiceLaw;" (.ref wF)) (O0 : Old Z n0 h0) :
    MetFree l x (head1 (Jvm.Cond.code x code maxLocals ret :: ws) room_1) (fun a U => a = #[(.long q1), (.long q2), (.int p3)] ∧ Z.Warmed39 U.vm ∧ U.heap = h0) (fun _ _ _ _ _ => True) (fun _ U o U' => ∃ v L, o = .returned v ∧ Q_rm0 Z q1 q2 p3 wF h0 n0 v U'.heap L ∧ ReturnedEndW U o U' L room_1.cells room_1.slots) := by
  have hw_0 := hw _ (List.mem_of_getElem? (i := 0) rfl)
  have hw_1 := hw _ (List.mem_of_getElem? (i := 1) rfl)
  have hw_2 := hw _ (List.mem_of_getElem? (i := 2) rfl)
  have hw_3 := hw _ (List.mem_of_getElem? (i := 3) rfl)
  have hw_4 := hw _ (List.mem_of_getElem? (i := 4) rfl)
  have hw_5 := hw _ (List.mem_of_getElem? (i := 5) rfl)
  have hw_6 := hw _ (List.mem_of_getElem? (i := 6) rfl)
  have hw_7 := hw _ (List.mem_of_getElem? (i := 7) rfl)
  have hw_8 := hw _ (List.mem_of_getElem? (i := 8) rfl)
  have hw_9 := hw _ (List.mem_of_getElem? (i := 9) rfl)
  have hw_10 := hw _ (List.mem_of_getElem? (i := 10) rfl)
  have hw_11 := hw _ (List.mem_of_getElem? (i := 11) rfl)
  have hw_12 := hw _ (List.mem_of_getElem? (i := 12) rfl)
  have hw_13 := hw _ (List.mem_of_getElem? (i := 13) rfl)
  have hw_14 := hw _ (List.mem_of_getElem? (i := 14) rfl)
  have hw_15 := hw _ (List.mem_of_getElem? (i := 15) rfl)
  have hw_16 := hw _ (List.mem_of_getElem? (i := 16) rfl)
  have hw_17 := hw _ (List.mem_of_getElem? (i := 17) rfl)
  have hw_18 := hw _ (List.mem_of_getElem? (i := 18) rfl)
  have hw_21 := hw _ (List.mem_of_getElem? (i := 21) rfl)
  have hw_22 := hw _ (List.mem_of_getElem? (i := 22) rfl)
  have hw_23 := hw _ (List.mem_of_getElem? (i := 23) rfl)
  have hw_24 := hw _ (List.mem_of_getElem? (i := 24) rfl)
  have hw_25 := hw _ (List.mem_of_getElem? (i := 25) rfl)
  have hw_30 := hw _ (List.mem_of_getElem? (i := 30) rfl)
  have hw_32 := hw _ (List.mem_of_getElem? (i := 32) rfl)
  have hw_34 := hw _ (List.mem_of_getElem? (i := 34) rfl)
  have hw_36 := hw _ (List.mem_of_getElem? (i := 36) rfl)
  have hw_38 := hw _ (List.mem_of_getElem? (i := 38) rfl)
  have hw_40 := hw _ (List.mem_of_getElem? (i := 40) rfl)
  have hw_42 := hw _ (List.mem_of_getElem? (i := 42) rfl)
  have hw_44 := hw _ (List.mem_of_getElem? (i := 44) rfl)
  have hw_46 := hw _ (List.mem_of_getElem? (i := 46) rfl)
  have hw_47 := hw _ (List.mem_of_getElem? (i := 47) rfl)
  have hw_48 := hw _ (List.mem_of_getElem? (i := 48) rfl)
  have hw_49 := hw _ (List.mem_of_getElem? (i := 49) rfl)
  have hw_50 := hw _ (List.mem_of_getElem? (i := 50) rfl)
  have hw_51 := hw _ (List.mem_of_getElem? (i := 51) rfl)
  have hw_53 := hw _ (List.mem_of_getElem? (i := 53) rfl)
  refine MetFree.of_bodySF (plainFor_of_name pn_ScenarioBackendFailsAtPinLaw) hisR ?_
  intro p e s m args below meth c s₁ Bd hml0 hP hK
  obtain ⟨rfl, hZ, hh⟩ := hP
  have hx := Bd.exec
  have hby := Bd.bytes
  have hml : c.maxLocals = 12 := hml0
  have hown : s.vm.findClass "com/example/backend_picker/backendpicker/simulator/ScenarioBackendFailsAtPinLaw" = some m.cls := findClass_of_methodNamed Bd.named
  have hnm := (name_of_methodNamed Bd.named Bd.method).1
  have X0 : Stand p l e room_1 s m #[(.long q1), (.long q2), (.int p3)] below meth c s₁ [] 0 0 := Stand.of_body Bd
  have e0 : s₁.heap = h0 := by rw [← hh, Bd.state]; rfl
  have N0 := Fr.nil n0
  have pre0 : ∀ t, Steps p.tables e below (s₁.setTop (mkF m 0 #[.val (.long q1), .second, .val (.long q2), .second, .val (.int p3), .unset, .unset, .unset, .unset, .unset, .unset, .unset] [])) t → Steps p.tables e below (s₁.setTop (entryFrame m #[(.long q1), (.long q2), (.int p3)] maxLocals)) t := fun t k => castTop (ef_0 m q1 q2 p3) k
  obtain ⟨_, _, ⟨T1, L1, k1, n1⟩, -, X1, ⟨Lc1, hQ1, l1, y1, z1⟩, st1⟩ := Jvm.LawKit.callS X0 hx (y := (⟨"com/example/backend_picker/backendpicker/simulator/ScenarioBackendFailsAtPinLaw", "pickNow", "(JI)J"⟩ : MethodName)) hown (mvT hZ hw_0) (mvT hZ hw_1) (mvT hZ hw_2) (mvT hZ hw_3) (by decide) (backOf (W := 0) (rmNow l Z a0 hw [] q2 (((p3.toUInt32 >>> ((3 : Int32) &&& 31).toUInt32).toInt32) &&& (3 : Int32)) h0 n0 Z0) hZ hw_3 hw_2 (by decide) (by decide)) (g := (mkF m 7 #[.val (.long q1), .second, .val (.long q2), .second, .val (.int p3), .unset, .unset, .unset, .unset, .unset, .unset, .unset] [(.int (((p3.toUInt32 >>> ((3 : Int32) &&& 31).toUInt32).toInt32) &&& (3 : Int32))), (.long q2)])) rfl (by rw [hml]; rfl) (argsL := [(.long q2), (.int (((p3.toUInt32 >>> ((3 : Int32) &&& 31).toUInt32).toInt32) &&& (3 : Int32)))]) (rest := []) (lenOf pd_0 rfl) rfl (by show 2 * 0 + _ ≤ _; exact Nat.le_of_eq rfl) (hb hby at_7) (fun _ _ => ⟨rfl, e0, (by decide : 0 + 0 ≤ _), (by decide : 0 + 0 ≤ _)⟩)
  dsimp only [Pt.U, Pt.locs, Pt.cells, Pt.slots] at X1 l1 y1 z1 st1 hQ1
  subst l1 y1 z1
  obtain ⟨r1, rfl, N1q, e1⟩ := hQ1
  have N1 := Fr.app N0 N1q
  obtain ⟨_, _, ⟨T2, L2, k2, n2⟩, -, X2, ⟨Lc2, hQ2, l2, y2, z2⟩, st2⟩ := Jvm.LawKit.callS X1 hx (y := (⟨"com/example/backend_picker/backendpicker/simulator/ScenarioBackendFailsAtPinLaw", "pickUntil", "(JJI)J"⟩ : MethodName)) hown (mvT hZ hw_4) (mvT hZ hw_5) (mvT hZ hw_2) (mvT hZ hw_6) (by decide) (backOf (W := 0) (rmUnt l Z a0 hw [] q1 r1 (p3 &&& (7 : Int32)) h0 n0 Z0) hZ hw_6 hw_2 (by decide) (by decide)) (g := (mkF m 20 #[.val (.long q1), .second, .val (.long q2), .second, .val (.int p3), .val (.long r1), .second, .unset, .unset, .unset, .unset, .unset] [(.int (p3 &&& (7 : Int32))), (.long r1), (.long q1)])) rfl (by rw [hml]; rfl) (argsL := [(.long q1), (.long r1), (.int (p3 &&& (7 : Int32)))]) (rest := []) (lenOf pd_1 rfl) rfl (by show 2 * 0 + _ ≤ _; exact Nat.le_of_eq rfl) (hb hby at_20) (fun _ _ => ⟨rfl, e1, (by decide : 0 + 0 ≤ _), (by decide : 0 + 0 ≤ _)⟩)
  dsimp only [Pt.U, Pt.locs, Pt.cells, Pt.slots] at X2 l2 y2 z2 st2 hQ2
  subst l2 y2 z2
  obtain ⟨r2, rfl, N2q, e2⟩ := hQ2
  have N2 := Fr.app N1 N2q
  obtain ⟨T3, h3, X3, e3, E3, A3, D3, -, st3⟩ := newO X2 hx hZ hown hw_7 hw_8 hw_9 e2 (g := (mkF m 25 #[.val (.long q1), .second, .val (.long q2), .second, .val (.int p3), .val (.long r1), .second, .val (.long r2), .second, .unset, .unset, .unset] [])) rfl (hb hby at_25) (by decide) (by decide)
  obtain ⟨b3, g3⟩ : ∃ z, z = h0.size := ⟨_, rfl⟩
  rw [← g3] at A3 D3 st3
  have lt3 := A3.lt
  have sz3 : h0.size ≤ h3.size := E3.1
  have Z3 : n0 ≤ h3.size := Nat.le_trans Z0 sz3
  have O3 : Old Z n0 h3 := O0.ext E3
  have F4 : Fld Z h3 b3 "com/example/backend_picker/backendpicker/simulator/ScenarioBackend" "name" "Ljava/lang/String;" .null := D3 (Or.inr hw_30) (ty := (.object "java/lang/String")) (by decide)
  have F5 : Fld Z h3 b3 "com/example/backend_picker/backendpicker/simulator/ScenarioBackend" "law" "Lcom/example/backend_picker/backendpicker/simulator/ServiceLaw;" .null := D3 (Or.inr hw_32) (ty := (.object "com/example/backend_picker/backendpicker/simulator/ServiceLaw")) (by decide)
  have F6 : Fld Z h3 b3 "com/example/backend_picker/backendpicker/simulator/ScenarioBackend" "serviceNs" "J" (.long (0 : Int64)) := D3 (Or.inr hw_34) (ty := .long) (by decide)
  have F7 : Fld Z h3 b3 "com/example/backend_picker/backendpicker/simulator/ScenarioBackend" "slots" "J" (.long (0 : Int64)) := D3 (Or.inr hw_36) (ty := .long) (by decide)
  have F8 : Fld Z h3 b3 "com/example/backend_picker/backendpicker/simulator/ScenarioBackend" "queue" "J" (.long (0 : Int64)) := D3 (Or.inr hw_38) (ty := .long) (by decide)
  have F9 : Fld Z h3 b3 "com/example/backend_picker/backendpicker/simulator/ScenarioBackend" "failsUntilNs" "J" (.long (0 : Int64)) := D3 (Or.inr hw_40) (ty := .long) (by decide)
  have F10 : Fld Z h3 b3 "com/example/backend_picker/backendpicker/simulator/ScenarioBackend" "failNs" "J" (.long (0 : Int64)) := D3 (Or.inr hw_42) (ty := .long) (by decide)
  have F11 : Fld Z h3 b3 "com/example/backend_picker/backendpicker/simulator/ScenarioBackend" "joinsAtNs" "J" (.long (0 : Int64)) := D3 (Or.inr hw_44) (ty := .long) (by decide)
  have F12 : Fld Z h3 b3 "com/example/backend_picker/backendpicker/simulator/ScenarioBackend" "leavesAtNs" "J" (.long (0 : Int64)) := D3 (Or.inr hw_46) (ty := .long) (by decide)
  have wS : ∀ a ∈ Bundle.stringAtoms, a.before a0 Z = true := by
    intro a ha
    simp only [Bundle.stringAtoms, List.mem_cons, List.not_mem_nil, or_false] at ha
    rcases ha with rfl | rfl | rfl | rfl | rfl | rfl | rfl
    · exact hw_11
    · exact hw_12
    · exact hw_13
    · exact hw_14
    · exact hw_15
    · exact hw_16
    · exact hw_17
  have Xw : Stand p l e room_1 (s.setVm s.vm) m #[(.long q1), (.long q2), (.int p3)] below meth c T3 _ _ _ := X3
  obtain ⟨a13, T13, h13, k13, X13, e13, E13, hS13, hk13, hZ13, hown13, st13⟩ := ldcS (s := s) (vm0 := s.vm) Xw hx hZ hown hw_10 wS e3 ((State.WarmedH.refl s).since 0) (Nat.zero_le _) (g := (mkF m 29 #[.val (.long q1), .second, .val (.long q2), .second, .val (.int p3), .val (.long r1), .second, .val (.long r2), .second, .unset, .unset, .unset] [(.ref b3), (.ref b3)])) rfl (hb hby at_29) (n := 4) (by decide) (by decide) (by decide) (by decide)
  have sz13 : h3.size ≤ h13.size := E13.1
  have Z13 : n0 ≤ h13.size := Nat.le_trans Z3 sz13
  have O13 : Old Z n0 h13 := O3.ext E13
  obtain ⟨T14, X14, e14, st14⟩ := getS2 X13 hx hZ13 hown13 (host := "") (Or.inl hw_18) Via.refl e13 (S_FIXED.ext O13.2) (g := (mkF m 31 #[.val (.long q1), .second, .val (.long q2), .second, .val (.int p3), .val (.long r1), .second, .val (.long r2), .second, .unset, .unset, .unset] [(.ref a13), (.ref b3), (.ref b3)])) rfl (hb hby at_31)
  have f16 := (A3.ext E13)
  have f17 := (F4.ext E13)
  have f18 := (F5.ext E13)
  have f19 := (F6.ext E13)
  have f20 := (F7.ext E13)
  have f21 := (F8.ext E13)
  have f22 := (F9.ext E13)
  have f23 := (F10.ext E13)
  have f24 := (F11.ext E13)
  have f25 := (F12.ext E13)
  obtain ⟨_, _, ⟨T15, L15, k15, n15⟩, -, X15, ⟨Lc15, hQ15, l15, y15, z15⟩, st15⟩ := X14.specialBack hx (y := (⟨"com/example/backend_picker/backendpicker/simulator/ScenarioBackend", "<init>", "(Ljava/lang/String;Lcom/example/backend_picker/backendpicker/simulator/ServiceLaw;JJJJJJJ)V"⟩ : MethodName)) rfl hown13 (mvT hZ13 hw_23) (mvT hZ13 hw_24) (mvT hZ13 hw_25) (by decide) (backOf (W := 1) (rmSB l Z a0 hw [] b3 a13 wF (1 : Int64) (1 : Int64) (1 : Int64) r2 (1 : Int64) (-1 : Int64) (9223372036854775807 : Int64) h13 n0 Z13 f16 (by omega) f17 f18 f19 f20 f21 f22 f23 f24 f25) hZ13 hw_25 hw_9 (by decide) (by decide)) (g := (mkF m 46 #[.val (.long q1), .second, .val (.long q2), .second, .val (.int p3), .val (.long r1), .second, .val (.long r2), .second, .unset, .unset, .unset] [(.long (9223372036854775807 : Int64)), (.long (-1 : Int64)), (.long (1 : Int64)), (.long r2), (.long (1 : Int64)), (.long (1 : Int64)), (.long (1 : Int64)), (.ref wF), (.ref a13), (.ref b3), (.ref b3)])) rfl (by rw [hml]; rfl) (Steps.refl _) (a := b3) (argsL := [(.ref a13), (.ref wF), (.long (1 : Int64)), (.long (1 : Int64)), (.long (1 : Int64)), (.long r2), (.long (1 : Int64)), (.long (-1 : Int64)), (.long (9223372036854775807 : Int64))]) (rest := [(.ref b3)]) (lenOf pd_2 rfl) rfl (by show 2 * 0 + _ ≤ _; exact Nat.le_of_eq rfl) (hb hby at_46) (fun _ _ => ⟨rfl, e14, (by decide : 3 + 0 ≤ _), (by decide : 17 + 0 ≤ _)⟩)
  dsimp only [Pt.U, Pt.locs, Pt.cells, Pt.slots] at X15 l15 y15 z15 st15 hQ15
  subst l15 y15 z15
  obtain ⟨rfl, N15q, Kc15, Ec15, Fc15⟩ := hQ15
  have N15 := Fr.app N2 N15q
  have sz15 : h13.size ≤ T15.heap.size := Kc15.1
  have Z15 : n0 ≤ T15.heap.size := Nat.le_trans Z13 sz15
  have O15 : Old Z n0 T15.heap := O13.keep Kc15 (allS (show n0 ≤ b3 by omega) all0)
  have go26 : ∀ t, Steps p.tables e below (T15.setTop (mkF m 57 #[.val (.long q1), .second, .val (.long q2), .second, .val (.int p3), .val (.long r1), .second, .val (.long r2), .second, .val (.ref b3), .unset, .unset] [(.int (lcmpW r2 (9223372036854775807 : Int64)))])) t → Steps p.tables e below (s₁.setTop (entryFrame m #[(.long q1), (.long q2), (.int p3)] maxLocals)) t := by
    intro t k
    refine pre0 t ?_
    show Steps p.tables e below (s₁.setTop (mkF m 0 #[.val (.long q1), .second, .val (.long q2), .second, .val (.int p3), .unset, .unset, .unset, .unset, .unset, .unset, .unset] [])) _
    refine XS.lloadN X0.here hx rfl (hb hby at_0) rfl ?_
    show Steps p.tables e below (s₁.setTop (mkF m 1 #[.val (.long q1), .second, .val (.long q2), .second, .val (.int p3), .unset, .unset, .unset, .unset, .unset, .unset, .unset] [(.long q2)])) _
    refine XS.iload X0.here hx rfl (hb hby at_1) rfl ?_
    show Steps p.tables e below (s₁.setTop (mkF m 3 #[.val (.long q1), .second, .val (.long q2), .second, .val (.int p3), .unset, .unset, .unset, .unset, .unset, .unset, .unset] [(.int p3), (.long q2)])) _
    refine XS.iconst X0.here hx rfl (hb hby at_3) ?_
    show Steps p.tables e below (s₁.setTop (mkF m 4 #[.val (.long q1), .second, .val (.long q2), .second, .val (.int p3), .unset, .unset, .unset, .unset, .unset, .unset, .unset] [(.int (3 : Int32)), (.int p3), (.long q2)])) _
    refine XS.iushr X0.here hx rfl (hb hby at_4) rfl ?_
    show Steps p.tables e below (s₁.setTop (mkF m 5 #[.val (.long q1), .second, .val (.long q2), .second, .val (.int p3), .unset, .unset, .unset, .unset, .unset, .unset, .unset] [(.int ((p3.toUInt32 >>> ((3 : Int32) &&& 31).toUInt32).toInt32)), (.long q2)])) _
    refine XS.iconst X0.here hx rfl (hb hby at_5) ?_
    show Steps p.tables e below (s₁.setTop (mkF m 6 #[.val (.long q1), .second, .val (.long q2), .second, .val (.int p3), .unset, .unset, .unset, .unset, .unset, .unset, .unset] [(.int (3 : Int32)), (.int ((p3.toUInt32 >>> ((3 : Int32) &&& 31).toUInt32).toInt32)), (.long q2)])) _
    refine XS.iand X0.here hx rfl (hb hby at_6) rfl ?_
    show Steps p.tables e below (s₁.setTop (mkF m 7 #[.val (.long q1), .second, .val (.long q2), .second, .val (.int p3), .unset, .unset, .unset, .unset, .unset, .unset, .unset] [(.int (((p3.toUInt32 >>> ((3 : Int32) &&& 31).toUInt32).toInt32) &&& (3 : Int32))), (.long q2)])) _
    refine st1 _ ?_
    show Steps p.tables e below (T1.setTop (mkF m 10 #[.val (.long q1), .second, .val (.long q2), .second, .val (.int p3), .unset, .unset, .unset, .unset, .unset, .unset, .unset] [(.long r1)])) _
    refine XS.lstore X1.here hx rfl (hb hby at_10) rfl (l' := #[.val (.long q1), .second, .val (.long q2), .second, .val (.int p3), .val (.long r1), .second, .unset, .unset, .unset, .unset, .unset]) rfl ?_
    show Steps p.tables e below (T1.setTop (mkF m 12 #[.val (.long q1), .second, .val (.long q2), .second, .val (.int p3), .val (.long r1), .second, .unset, .unset, .unset, .unset, .unset] [])) _
    refine XS.lloadN X1.here hx rfl (hb hby at_12) rfl ?_
    show Steps p.tables e below (T1.setTop (mkF m 13 #[.val (.long q1), .second, .val (.long q2), .second, .val (.int p3), .val (.long r1), .second, .unset, .unset, .unset, .unset, .unset] [(.long q1)])) _
    refine XS.lload X1.here hx rfl (hb hby at_13) rfl ?_
    show Steps p.tables e below (T1.setTop (mkF m 15 #[.val (.long q1), .second, .val (.long q2), .second, .val (.int p3), .val (.long r1), .second, .unset, .unset, .unset, .unset, .unset] [(.long r1), (.long q1)])) _
    refine XS.iload X1.here hx rfl (hb hby at_15) rfl ?_
    show Steps p.tables e below (T1.setTop (mkF m 17 #[.val (.long q1), .second, .val (.long q2), .second, .val (.int p3), .val (.long r1), .second, .unset, .unset, .unset, .unset, .unset] [(.int p3), (.long r1), (.long q1)])) _
    refine XS.bipush X1.here hx rfl (hb hby at_17) ?_
    show Steps p.tables e below (T1.setTop (mkF m 19 #[.val (.long q1), .second, .val (.long q2), .second, .val (.int p3), .val (.long r1), .second, .unset, .unset, .unset, .unset, .unset] [(.int (7 : Int32)), (.int p3), (.long r1), (.long q1)])) _
    refine XS.iand X1.here hx rfl (hb hby at_19) rfl ?_
    show Steps p.tables e below (T1.setTop (mkF m 20 #[.val (.long q1), .second, .val (.long q2), .second, .val (.int p3), .val (.long r1), .second, .unset, .unset, .unset, .unset, .unset] [(.int (p3 &&& (7 : Int32))), (.long r1), (.long q1)])) _
    refine st2 _ ?_
    show Steps p.tables e below (T2.setTop (mkF m 23 #[.val (.long q1), .second, .val (.long q2), .second, .val (.int p3), .val (.long r1), .second, .unset, .unset, .unset, .unset, .unset] [(.long r2)])) _
    refine XS.lstore X2.here hx rfl (hb hby at_23) rfl (l' := #[.val (.long q1), .second, .val (.long q2), .second, .val (.int p3), .val (.long r1), .second, .val (.long r2), .second, .unset, .unset, .unset]) rfl ?_
    show Steps p.tables e below (T2.setTop (mkF m 25 #[.val (.long q1), .second, .val (.long q2), .second, .val (.int p3), .val (.long r1), .second, .val (.long r2), .second, .unset, .unset, .unset] [])) _
    refine st3 _ ?_
    show Steps p.tables e below (T3.setTop (mkF m 28 #[.val (.long q1), .second, .val (.long q2), .second, .val (.int p3), .val (.long r1), .second, .val (.long r2), .second, .unset, .unset, .unset] [(.ref b3)])) _
    refine XS.dup X3.here hx rfl (hb hby at_28) rfl rfl ?_
    show Steps p.tables e below (T3.setTop (mkF m 29 #[.val (.long q1), .second, .val (.long q2), .second, .val (.int p3), .val (.long r1), .second, .val (.long r2), .second, .unset, .unset, .unset] [(.ref b3), (.ref b3)])) _
    refine st13 _ ?_
    show Steps p.tables e below (T13.setTop (mkF m 31 #[.val (.long q1), .second, .val (.long q2), .second, .val (.int p3), .val (.long r1), .second, .val (.long r2), .second, .unset, .unset, .unset] [(.ref a13), (.ref b3), (.ref b3)])) _
    refine st14 _ ?_
    show Steps p.tables e below (T14.setTop (mkF m 34 #[.val (.long q1), .second, .val (.long q2), .second, .val (.int p3), .val (.long r1), .second, .val (.long r2), .second, .unset, .unset, .unset] [(.ref wF), (.ref a13), (.ref b3), (.ref b3)])) _
    refine XS.lconst X14.here hx rfl (hb hby at_34) ?_
    show Steps p.tables e below (T14.setTop (mkF m 35 #[.val (.long q1), .second, .val (.long q2), .second, .val (.int p3), .val (.long r1), .second, .val (.long r2), .second, .unset, .unset, .unset] [(.long (1 : Int64)), (.ref wF), (.ref a13), (.ref b3), (.ref b3)])) _
    refine XS.lconst X14.here hx rfl (hb hby at_35) ?_
    show Steps p.tables e below (T14.setTop (mkF m 36 #[.val (.long q1), .second, .val (.long q2), .second, .val (.int p3), .val (.long r1), .second, .val (.long r2), .second, .unset, .unset, .unset] [(.long (1 : Int64)), (.long (1 : Int64)), (.ref wF), (.ref a13), (.ref b3), (.ref b3)])) _
    refine XS.lconst X14.here hx rfl (hb hby at_36) ?_
    show Steps p.tables e below (T14.setTop (mkF m 37 #[.val (.long q1), .second, .val (.long q2), .second, .val (.int p3), .val (.long r1), .second, .val (.long r2), .second, .unset, .unset, .unset] [(.long (1 : Int64)), (.long (1 : Int64)), (.long (1 : Int64)), (.ref wF), (.ref a13), (.ref b3), (.ref b3)])) _
    refine XS.lload X14.here hx rfl (hb hby at_37) rfl ?_
    show Steps p.tables e below (T14.setTop (mkF m 39 #[.val (.long q1), .second, .val (.long q2), .second, .val (.int p3), .val (.long r1), .second, .val (.long r2), .second, .unset, .unset, .unset] [(.long r2), (.long (1 : Int64)), (.long (1 : Int64)), (.long (1 : Int64)), (.ref wF), (.ref a13), (.ref b3), (.ref b3)])) _
    refine XS.lconst X14.here hx rfl (hb hby at_39) ?_
    show Steps p.tables e below (T14.setTop (mkF m 40 #[.val (.long q1), .second, .val (.long q2), .second, .val (.int p3), .val (.long r1), .second, .val (.long r2), .second, .unset, .unset, .unset] [(.long (1 : Int64)), (.long r2), (.long (1 : Int64)), (.long (1 : Int64)), (.long (1 : Int64)), (.ref wF), (.ref a13), (.ref b3), (.ref b3)])) _
    refine X14.ldc2Long hx hown13 (mvT hZ13 hw_21) (g := (mkF m 40 #[.val (.long q1), .second, .val (.long q2), .second, .val (.int p3), .val (.long r1), .second, .val (.long r2), .second, .unset, .unset, .unset] [(.long (1 : Int64)), (.long r2), (.long (1 : Int64)), (.long (1 : Int64)), (.long (1 : Int64)), (.ref wF), (.ref a13), (.ref b3), (.ref b3)])) rfl (hb hby at_40) _ ?_
    show Steps p.tables e below (T14.setTop (mkF m 43 #[.val (.long q1), .second, .val (.long q2), .second, .val (.int p3), .val (.long r1), .second, .val (.long r2), .second, .unset, .unset, .unset] [(.long (-1 : Int64)), (.long (1 : Int64)), (.long r2), (.long (1 : Int64)), (.long (1 : Int64)), (.long (1 : Int64)), (.ref wF), (.ref a13), (.ref b3), (.ref b3)])) _
    refine X14.ldc2Long hx hown13 (mvT hZ13 hw_22) (g := (mkF m 43 #[.val (.long q1), .second, .val (.long q2), .second, .val (.int p3), .val (.long r1), .second, .val (.long r2), .second, .unset, .unset, .unset] [(.long (-1 : Int64)), (.long (1 : Int64)), (.long r2), (.long (1 : Int64)), (.long (1 : Int64)), (.long (1 : Int64)), (.ref wF), (.ref a13), (.ref b3), (.ref b3)])) rfl (hb hby at_43) _ ?_
    show Steps p.tables e below (T14.setTop (mkF m 46 #[.val (.long q1), .second, .val (.long q2), .second, .val (.int p3), .val (.long r1), .second, .val (.long r2), .second, .unset, .unset, .unset] [(.long (9223372036854775807 : Int64)), (.long (-1 : Int64)), (.long (1 : Int64)), (.long r2), (.long (1 : Int64)), (.long (1 : Int64)), (.long (1 : Int64)), (.ref wF), (.ref a13), (.ref b3), (.ref b3)])) _
    refine st15.trans ?_
    show Steps p.tables e below (T15.setTop (mkF m 49 #[.val (.long q1), .second, .val (.long q2), .second, .val (.int p3), .val (.long r1), .second, .val (.long r2), .second, .unset, .unset, .unset] [(.ref b3)])) _
    refine XS.astore X15.here hx rfl (hb hby at_49) rfl rfl (l' := #[.val (.long q1), .second, .val (.long q2), .second, .val (.int p3), .val (.long r1), .second, .val (.long r2), .second, .val (.ref b3), .unset, .unset]) rfl ?_
    show Steps p.tables e below (T15.setTop (mkF m 51 #[.val (.long q1), .second, .val (.long q2), .second, .val (.int p3), .val (.long r1), .second, .val (.long r2), .second, .val (.ref b3), .unset, .unset] [])) _
    refine XS.lload X15.here hx rfl (hb hby at_51) rfl ?_
    show Steps p.tables e below (T15.setTop (mkF m 53 #[.val (.long q1), .second, .val (.long q2), .second, .val (.int p3), .val (.long r1), .second, .val (.long r2), .second, .val (.ref b3), .unset, .unset] [(.long r2)])) _
    refine X15.ldc2Long hx hown13 (mvT hZ13 hw_22) (g := (mkF m 53 #[.val (.long q1), .second, .val (.long q2), .second, .val (.int p3), .val (.long r1), .second, .val (.long r2), .second, .val (.ref b3), .unset, .unset] [(.long r2)])) rfl (hb hby at_53) _ ?_
    show Steps p.tables e below (T15.setTop (mkF m 56 #[.val (.long q1), .second, .val (.long q2), .second, .val (.int p3), .val (.long r1), .second, .val (.long r2), .second, .val (.ref b3), .unset, .unset] [(.long (9223372036854775807 : Int64)), (.long r2)])) _
    refine XS.lcmp X15.here hx rfl (hb hby at_56) rfl ?_
    exact k
  by_cases hc27 : r2 = (9223372036854775807 : Int64)
  · skip
    obtain ⟨cq28, kq28, q28a, q28b, q28c⟩ := isOf hZ13 rfl Ec15
    obtain ⟨_, _, ⟨T28, L28, k28, n28⟩, -, X28, ⟨Lc28, hQ28, l28, y28, z28⟩, st28⟩ := X15.virtualBack hx (y := (⟨"com/example/backend_picker/backendpicker/simulator/ScenarioBackend", "failsAt", "(J)Z"⟩ : MethodName)) (z := (⟨"com/example/backend_picker/backendpicker/simulator/ScenarioBackend", "failsAt", "(J)Z"⟩ : MethodName)) hown13 (mvT hZ13 hw_47) (mvT hZ13 hw_48) (notFace_of_selects (args := #[]) (mvT hZ13 hw_50)) (mvT hZ13 hw_50) (mvT hZ13 hw_49) (by decide) (backOf (W := 0) (rmFa l Z a0 hw [] b3 r1 r2 T15.heap n0 Z15 Fc15) hZ13 hw_51 hw_9 (by decide) (by decide)) q28a q28c (g := (mkF m 87 #[.val (.long q1), .second, .val (.long q2), .second, .val (.int p3), .val (.long r1), .second, .val (.long r2), .second, .val (.ref b3), .val (.int (1 : Int32)), .unset] [(.long r1), (.ref b3)])) rfl (by rw [hml]; rfl) (Steps.refl _) (argsL := [(.long r1)]) (rest := []) (lenOf pd_3 rfl) rfl (by show 2 * 0 + _ ≤ _; exact Nat.le_of_eq rfl) (hb hby at_87) (fun _ _ => ⟨rfl, rfl, (by decide : 3 + 0 ≤ _), (by decide : 17 + 0 ≤ _)⟩)
    dsimp only [Pt.U, Pt.locs, Pt.cells, Pt.slots] at X28 l28 y28 z28 st28 hQ28
    subst l28 y28 z28
    obtain ⟨rfl, N28q, e28⟩ := hQ28
    have N28 := Fr.app N15 N28q
    have go29 : ∀ t, Steps p.tables e below (T28.setTop (mkF m 108 #[.val (.long q1), .second, .val (.long q2), .second, .val (.int p3), .val (.long r1), .second, .val (.long r2), .second, .val (.ref b3), .val (.int (1 : Int32)), .val (.int (1 : Int32))] [(.int (lcmpW r2 (-9223372036854775808 : Int64)))])) t → Steps p.tables e below (s₁.setTop (entryFrame m #[(.long q1), (.long q2), (.int p3)] maxLocals)) t := by
      intro t k
      refine go26 t ?_
      show Steps p.tables e below (T15.setTop (mkF m 57 #[.val (.long q1), .second, .val (.long q2), .second, .val (.int p3), .val (.long r1), .second, .val (.long r2), .second, .val (.ref b3), .unset, .unset] [(.int (lcmpW r2 (9223372036854775807 : Int64)))])) _
      refine XS.ifNo X15.here hx rfl (hb hby at_57) rfl ((if0 _ _).trans (teq ((lw_eq _ _).mpr hc27)).2) ?_
      show Steps p.tables e below (T15.setTop (mkF m 60 #[.val (.long q1), .second, .val (.long q2), .second, .val (.int p3), .val (.long r1), .second, .val (.long r2), .second, .val (.ref b3), .unset, .unset] [])) _
      refine XS.iconst X15.here hx rfl (hb hby at_60) ?_
      show Steps p.tables e below (T15.setTop (mkF m 61 #[.val (.long q1), .second, .val (.long q2), .second, .val (.int p3), .val (.long r1), .second, .val (.long r2), .second, .val (.ref b3), .unset, .unset] [(.int (1 : Int32))])) _
      refine XS.istore X15.here hx rfl (hb hby at_61) rfl (l' := #[.val (.long q1), .second, .val (.long q2), .second, .val (.int p3), .val (.long r1), .second, .val (.long r2), .second, .val (.ref b3), .val (.int (1 : Int32)), .unset]) rfl ?_
      show Steps p.tables e below (T15.setTop (mkF m 63 #[.val (.long q1), .second, .val (.long q2), .second, .val (.int p3), .val (.long r1), .second, .val (.long r2), .second, .val (.ref b3), .val (.int (1 : Int32)), .unset] [])) _
      refine XS.goto X15.here hx rfl (pc0 := 63) (pc' := 83) rfl (hb hby at_63) (by decide) (by decide) ?_
      show Steps p.tables e below (T15.setTop (mkF m 83 #[.val (.long q1), .second, .val (.long q2), .second, .val (.int p3), .val (.long r1), .second, .val (.long r2), .second, .val (.ref b3), .val (.int (1 : Int32)), .unset] [])) _
      refine XS.aload X15.here hx rfl (hb hby at_83) rfl rfl ?_
      show Steps p.tables e below (T15.setTop (mkF m 85 #[.val (.long q1), .second, .val (.long q2), .second, .val (.int p3), .val (.long r1), .second, .val (.long r2), .second, .val (.ref b3), .val (.int (1 : Int32)), .unset] [(.ref b3)])) _
      refine XS.lload X15.here hx rfl (hb hby at_85) rfl ?_
      show Steps p.tables e below (T15.setTop (mkF m 87 #[.val (.long q1), .second, .val (.long q2), .second, .val (.int p3), .val (.long r1), .second, .val (.long r2), .second, .val (.ref b3), .val (.int (1 : Int32)), .unset] [(.long r1), (.ref b3)])) _
      refine st28.trans ?_
      show Steps p.tables e below (T28.setTop (mkF m 90 #[.val (.long q1), .second, .val (.long q2), .second, .val (.int p3), .val (.long r1), .second, .val (.long r2), .second, .val (.ref b3), .val (.int (1 : Int32)), .unset] [(.int (own_fa r2 r1))])) _
      refine XS.iload X28.here hx rfl (hb hby at_90) rfl ?_
      show Steps p.tables e below (T28.setTop (mkF m 92 #[.val (.long q1), .second, .val (.long q2), .second, .val (.int p3), .val (.long r1), .second, .val (.long r2), .second, .val (.ref b3), .val (.int (1 : Int32)), .unset] [(.int (1 : Int32)), (.int (own_fa r2 r1))])) _
      refine XS.icmpNo X28.here hx rfl (hb hby at_92) rfl (teq (by simp [own_fa, hc27] : (own_fa r2 r1) = (1 : Int32))).2 ?_
      show Steps p.tables e below (T28.setTop (mkF m 95 #[.val (.long q1), .second, .val (.long q2), .second, .val (.int p3), .val (.long r1), .second, .val (.long r2), .second, .val (.ref b3), .val (.int (1 : Int32)), .unset] [])) _
      refine XS.iconst X28.here hx rfl (hb hby at_95) ?_
      show Steps p.tables e below (T28.setTop (mkF m 96 #[.val (.long q1), .second, .val (.long q2), .second, .val (.int p3), .val (.long r1), .second, .val (.long r2), .second, .val (.ref b3), .val (.int (1 : Int32)), .unset] [(.int (1 : Int32))])) _
      refine XS.goto X28.here hx rfl (pc0 := 96) (pc' := 100) rfl (hb hby at_96) (by decide) (by decide) ?_
      show Steps p.tables e below (T28.setTop (mkF m 100 #[.val (.long q1), .second, .val (.long q2), .second, .val (.int p3), .val (.long r1), .second, .val (.long r2), .second, .val (.ref b3), .val (.int (1 : Int32)), .unset] [(.int (1 : Int32))])) _
      refine XS.istore X28.here hx rfl (hb hby at_100) rfl (l' := #[.val (.long q1), .second, .val (.long q2), .second, .val (.int p3), .val (.long r1), .second, .val (.long r2), .second, .val (.ref b3), .val (.int (1 : Int32)), .val (.int (1 : Int32))]) rfl ?_
      show Steps p.tables e below (T28.setTop (mkF m 102 #[.val (.long q1), .second, .val (.long q2), .second, .val (.int p3), .val (.long r1), .second, .val (.long r2), .second, .val (.ref b3), .val (.int (1 : Int32)), .val (.int (1 : Int32))] [])) _
      refine XS.lload X28.here hx rfl (hb hby at_102) rfl ?_
      show Steps p.tables e below (T28.setTop (mkF m 104 #[.val (.long q1), .second, .val (.long q2), .second, .val (.int p3), .val (.long r1), .second, .val (.long r2), .second, .val (.ref b3), .val (.int (1 : Int32)), .val (.int (1 : Int32))] [(.long r2)])) _
      refine X28.ldc2Long hx hown13 (mvT hZ13 hw_53) (g := (mkF m 104 #[.val (.long q1), .second, .val (.long q2), .second, .val (.int p3), .val (.long r1), .second, .val (.long r2), .second, .val (.ref b3), .val (.int (1 : Int32)), .val (.int (1 : Int32))] [(.long r2)])) rfl (hb hby at_104) _ ?_
      show Steps p.tables e below (T28.setTop (mkF m 107 #[.val (.long q1), .second, .val (.long q2), .second, .val (.int p3), .val (.long r1), .second, .val (.long r2), .second, .val (.ref b3), .val (.int (1 : Int32)), .val (.int (1 : Int32))] [(.long (-9223372036854775808 : Int64)), (.long r2)])) _
      refine XS.lcmp X28.here hx rfl (hb hby at_107) rfl ?_
      exact k
    by_cases hc30 : r2 = (-9223372036854775808 : Int64)
    · skip
      obtain ⟨cq31, kq31, q31a, q31b, q31c⟩ := isOf hZ13 e28 Ec15
      obtain ⟨_, _, ⟨T31, L31, k31, n31⟩, -, X31, ⟨Lc31, hQ31, l31, y31, z31⟩, st31⟩ := X28.virtualBack hx (y := (⟨"com/example/backend_picker/backendpicker/simulator/ScenarioBackend", "failsAt", "(J)Z"⟩ : MethodName)) (z := (⟨"com/example/backend_picker/backendpicker/simulator/ScenarioBackend", "failsAt", "(J)Z"⟩ : MethodName)) hown13 (mvT hZ13 hw_47) (mvT hZ13 hw_48) (notFace_of_selects (args := #[]) (mvT hZ13 hw_50)) (mvT hZ13 hw_50) (mvT hZ13 hw_49) (by decide) (backOf (W := 0) (rmFa l Z a0 hw [] b3 r2 r2 T15.heap n0 Z15 Fc15) hZ13 hw_51 hw_9 (by decide) (by decide)) q31a q31c (g := (mkF m 144 #[.val (.long q1), .second, .val (.long q2), .second, .val (.int p3), .val (.long r1), .second, .val (.long r2), .second, .val (.ref b3), .val (.int (1 : Int32)), .val (.int (1 : Int32))] [(.long r2), (.ref b3)])) rfl (by rw [hml]; rfl) (Steps.refl _) (argsL := [(.long r2)]) (rest := []) (lenOf pd_3 rfl) rfl (by show 2 * 0 + _ ≤ _; exact Nat.le_of_eq rfl) (hb hby at_144) (fun _ _ => ⟨rfl, e28, (by decide : 3 + 0 ≤ _), (by decide : 17 + 0 ≤ _)⟩)
      dsimp only [Pt.U, Pt.locs, Pt.cells, Pt.slots] at X31 l31 y31 z31 st31 hQ31
      subst l31 y31 z31
      obtain ⟨rfl, N31q, e31⟩ := hQ31
      have N31 := Fr.app N28 N31q
      have go32 : ∀ t, Steps p.tables e below (T31.setTop (mkF m 173 #[.val (.long q1), .second, .val (.long q2), .second, .val (.int p3), .val (.long r1), .second, .val (.long r2), .second, .val (.ref b3), .val (.int (1 : Int32)), .val (.int (1 : Int32))] [(.int (1 : Int32))])) t → Steps p.tables e below (s₁.setTop (entryFrame m #[(.long q1), (.long q2), (.int p3)] maxLocals)) t := by
        intro t k
        refine go29 t ?_
        show Steps p.tables e below (T28.setTop (mkF m 108 #[.val (.long q1), .second, .val (.long q2), .second, .val (.int p3), .val (.long r1), .second, .val (.long r2), .second, .val (.ref b3), .val (.int (1 : Int32)), .val (.int (1 : Int32))] [(.int (lcmpW r2 (-9223372036854775808 : Int64)))])) _
        refine XS.ifYes X28.here hx rfl (pc0 := 108) (pc' := 135) rfl (hb hby at_108) rfl ((if0 _ _).trans (teq ((lw_eq _ _).mpr hc30)).1) (by decide) (by decide) ?_
        show Steps p.tables e below (T28.setTop (mkF m 135 #[.val (.long q1), .second, .val (.long q2), .second, .val (.int p3), .val (.long r1), .second, .val (.long r2), .second, .val (.ref b3), .val (.int (1 : Int32)), .val (.int (1 : Int32))] [])) _
        refine XS.iload X28.here hx rfl (hb hby at_135) rfl ?_
        show Steps p.tables e below (T28.setTop (mkF m 137 #[.val (.long q1), .second, .val (.long q2), .second, .val (.int p3), .val (.long r1), .second, .val (.long r2), .second, .val (.ref b3), .val (.int (1 : Int32)), .val (.int (1 : Int32))] [(.int (1 : Int32))])) _
        refine XS.ifNo X28.here hx rfl (hb hby at_137) rfl ((if0 _ _).trans (feq (by decide : ¬ ((1 : Int32) = (0 : Int32)))).1) ?_
        show Steps p.tables e below (T28.setTop (mkF m 140 #[.val (.long q1), .second, .val (.long q2), .second, .val (.int p3), .val (.long r1), .second, .val (.long r2), .second, .val (.ref b3), .val (.int (1 : Int32)), .val (.int (1 : Int32))] [])) _
        refine XS.aload X28.here hx rfl (hb hby at_140) rfl rfl ?_
        show Steps p.tables e below (T28.setTop (mkF m 142 #[.val (.long q1), .second, .val (.long q2), .second, .val (.int p3), .val (.long r1), .second, .val (.long r2), .second, .val (.ref b3), .val (.int (1 : Int32)), .val (.int (1 : Int32))] [(.ref b3)])) _
        refine XS.lload X28.here hx rfl (hb hby at_142) rfl ?_
        show Steps p.tables e below (T28.setTop (mkF m 144 #[.val (.long q1), .second, .val (.long q2), .second, .val (.int p3), .val (.long r1), .second, .val (.long r2), .second, .val (.ref b3), .val (.int (1 : Int32)), .val (.int (1 : Int32))] [(.long r2), (.ref b3)])) _
        refine st31.trans ?_
        show Steps p.tables e below (T31.setTop (mkF m 147 #[.val (.long q1), .second, .val (.long q2), .second, .val (.int p3), .val (.long r1), .second, .val (.long r2), .second, .val (.ref b3), .val (.int (1 : Int32)), .val (.int (1 : Int32))] [(.int (own_fa r2 r2))])) _
        refine XS.lload X31.here hx rfl (hb hby at_147) rfl ?_
        show Steps p.tables e below (T31.setTop (mkF m 149 #[.val (.long q1), .second, .val (.long q2), .second, .val (.int p3), .val (.long r1), .second, .val (.long r2), .second, .val (.ref b3), .val (.int (1 : Int32)), .val (.int (1 : Int32))] [(.long r2), (.int (own_fa r2 r2))])) _
        refine X31.ldc2Long hx hown13 (mvT hZ13 hw_22) (g := (mkF m 149 #[.val (.long q1), .second, .val (.long q2), .second, .val (.int p3), .val (.long r1), .second, .val (.long r2), .second, .val (.ref b3), .val (.int (1 : Int32)), .val (.int (1 : Int32))] [(.long r2), (.int (own_fa r2 r2))])) rfl (hb hby at_149) _ ?_
        show Steps p.tables e below (T31.setTop (mkF m 152 #[.val (.long q1), .second, .val (.long q2), .second, .val (.int p3), .val (.long r1), .second, .val (.long r2), .second, .val (.ref b3), .val (.int (1 : Int32)), .val (.int (1 : Int32))] [(.long (9223372036854775807 : Int64)), (.long r2), (.int (own_fa r2 r2))])) _
        refine XS.lcmp X31.here hx rfl (hb hby at_152) rfl ?_
        show Steps p.tables e below (T31.setTop (mkF m 153 #[.val (.long q1), .second, .val (.long q2), .second, .val (.int p3), .val (.long r1), .second, .val (.long r2), .second, .val (.ref b3), .val (.int (1 : Int32)), .val (.int (1 : Int32))] [(.int (lcmpW r2 (9223372036854775807 : Int64))), (.int (own_fa r2 r2))])) _
        refine XS.ifNo X31.here hx rfl (hb hby at_153) rfl ((if0 _ _).trans (teq ((lw_eq _ _).mpr hc27)).2) ?_
        show Steps p.tables e below (T31.setTop (mkF m 156 #[.val (.long q1), .second, .val (.long q2), .second, .val (.int p3), .val (.long r1), .second, .val (.long r2), .second, .val (.ref b3), .val (.int (1 : Int32)), .val (.int (1 : Int32))] [(.int (own_fa r2 r2))])) _
        refine XS.iconst X31.here hx rfl (hb hby at_156) ?_
        show Steps p.tables e below (T31.setTop (mkF m 157 #[.val (.long q1), .second, .val (.long q2), .second, .val (.int p3), .val (.long r1), .second, .val (.long r2), .second, .val (.ref b3), .val (.int (1 : Int32)), .val (.int (1 : Int32))] [(.int (1 : Int32)), (.int (own_fa r2 r2))])) _
        refine XS.goto X31.here hx rfl (pc0 := 157) (pc' := 161) rfl (hb hby at_157) (by decide) (by decide) ?_
        show Steps p.tables e below (T31.setTop (mkF m 161 #[.val (.long q1), .second, .val (.long q2), .second, .val (.int p3), .val (.long r1), .second, .val (.long r2), .second, .val (.ref b3), .val (.int (1 : Int32)), .val (.int (1 : Int32))] [(.int (1 : Int32)), (.int (own_fa r2 r2))])) _
        refine XS.icmpNo X31.here hx rfl (hb hby at_161) rfl (teq (by simp [own_fa, hc27] : (own_fa r2 r2) = (1 : Int32))).2 ?_
        show Steps p.tables e below (T31.setTop (mkF m 164 #[.val (.long q1), .second, .val (.long q2), .second, .val (.int p3), .val (.long r1), .second, .val (.long r2), .second, .val (.ref b3), .val (.int (1 : Int32)), .val (.int (1 : Int32))] [])) _
        refine XS.iconst X31.here hx rfl (hb hby at_164) ?_
        show Steps p.tables e below (T31.setTop (mkF m 165 #[.val (.long q1), .second, .val (.long q2), .second, .val (.int p3), .val (.long r1), .second, .val (.long r2), .second, .val (.ref b3), .val (.int (1 : Int32)), .val (.int (1 : Int32))] [(.int (1 : Int32))])) _
        refine XS.goto X31.here hx rfl (pc0 := 165) (pc' := 169) rfl (hb hby at_165) (by decide) (by decide) ?_
        show Steps p.tables e below (T31.setTop (mkF m 169 #[.val (.long q1), .second, .val (.long q2), .second, .val (.int p3), .val (.long r1), .second, .val (.long r2), .second, .val (.ref b3), .val (.int (1 : Int32)), .val (.int (1 : Int32))] [(.int (1 : Int32))])) _
        refine XS.istore X31.here hx rfl (hb hby at_169) rfl (l' := #[.val (.long q1), .second, .val (.long q2), .second, .val (.int p3), .val (.long r1), .second, .val (.long r2), .second, .val (.ref b3), .val (.int (1 : Int32)), .val (.int (1 : Int32))]) rfl ?_
        show Steps p.tables e below (T31.setTop (mkF m 171 #[.val (.long q1), .second, .val (.long q2), .second, .val (.int p3), .val (.long r1), .second, .val (.long r2), .second, .val (.ref b3), .val (.int (1 : Int32)), .val (.int (1 : Int32))] [])) _
        refine XS.iload X31.here hx rfl (hb hby at_171) rfl ?_
        exact k
      obtain ⟨fs, hr, hrun, hended, hEW⟩ := X31.leaveW (s := s) hS13 (show k13 ≤ _ by rw [e31]; omega) (v := some (.int (1 : Int32))) (fun h => by rw [Bd.returns] at h; cases h)
      refine ⟨_, _, go32 _ ?_, hrun, hended, _, _, rfl, ?_, hEW.1, hEW.2.1, hEW.2.2.1, hEW.2.2.2.mono (by decide) (by decide)⟩
      · skip
        show Steps p.tables e below (T31.setTop (mkF m 173 #[.val (.long q1), .second, .val (.long q2), .second, .val (.int p3), .val (.long r1), .second, .val (.long r2), .second, .val (.ref b3), .val (.int (1 : Int32)), .val (.int (1 : Int32))] [(.int (1 : Int32))])) _
        exact retN X31 hx (t := .boolean) Bd.returns (by simp) (hb hby at_173) hr
      · show Q_rm0 Z q1 q2 p3 wF h0 n0 _ T31.heap _
        rw [e31]
        exact ⟨rfl, N31⟩
    · skip
      obtain ⟨cq33, kq33, q33a, q33b, q33c⟩ := isOf hZ13 e28 Ec15
      obtain ⟨_, _, ⟨T33, L33, k33, n33⟩, -, X33, ⟨Lc33, hQ33, l33, y33, z33⟩, st33⟩ := X28.virtualBack hx (y := (⟨"com/example/backend_picker/backendpicker/simulator/ScenarioBackend", "failsAt", "(J)Z"⟩ : MethodName)) (z := (⟨"com/example/backend_picker/backendpicker/simulator/ScenarioBackend", "failsAt", "(J)Z"⟩ : MethodName)) hown13 (mvT hZ13 hw_47) (mvT hZ13 hw_48) (notFace_of_selects (args := #[]) (mvT hZ13 hw_50)) (mvT hZ13 hw_50) (mvT hZ13 hw_49) (by decide) (backOf (W := 0) (rmFa l Z a0 hw [] b3 (r2 - (1 : Int64)) r2 T15.heap n0 Z15 Fc15) hZ13 hw_51 hw_9 (by decide) (by decide)) q33a q33c (g := (mkF m 122 #[.val (.long q1), .second, .val (.long q2), .second, .val (.int p3), .val (.long r1), .second, .val (.long r2), .second, .val (.ref b3), .val (.int (1 : Int32)), .val (.int (1 : Int32))] [(.long (r2 - (1 : Int64))), (.ref b3)])) rfl (by rw [hml]; rfl) (Steps.refl _) (argsL := [(.long (r2 - (1 : Int64)))]) (rest := []) (lenOf pd_3 rfl) rfl (by show 2 * 0 + _ ≤ _; exact Nat.le_of_eq rfl) (hb hby at_122) (fun _ _ => ⟨rfl, e28, (by decide : 3 + 0 ≤ _), (by decide : 17 + 0 ≤ _)⟩)
      dsimp only [Pt.U, Pt.locs, Pt.cells, Pt.slots] at X33 l33 y33 z33 st33 hQ33
      subst l33 y33 z33
      obtain ⟨rfl, N33q, e33⟩ := hQ33
      have N33 := Fr.app N28 N33q
      obtain ⟨cq34, kq34, q34a, q34b, q34c⟩ := isOf hZ13 e33 Ec15
      obtain ⟨_, _, ⟨T34, L34, k34, n34⟩, -, X34, ⟨Lc34, hQ34, l34, y34, z34⟩, st34⟩ := X33.virtualBack hx (y := (⟨"com/example/backend_picker/backendpicker/simulator/ScenarioBackend", "failsAt", "(J)Z"⟩ : MethodName)) (z := (⟨"com/example/backend_picker/backendpicker/simulator/ScenarioBackend", "failsAt", "(J)Z"⟩ : MethodName)) hown13 (mvT hZ13 hw_47) (mvT hZ13 hw_48) (notFace_of_selects (args := #[]) (mvT hZ13 hw_50)) (mvT hZ13 hw_50) (mvT hZ13 hw_49) (by decide) (backOf (W := 0) (rmFa l Z a0 hw [] b3 r2 r2 T15.heap n0 Z15 Fc15) hZ13 hw_51 hw_9 (by decide) (by decide)) q34a q34c (g := (mkF m 144 #[.val (.long q1), .second, .val (.long q2), .second, .val (.int p3), .val (.long r1), .second, .val (.long r2), .second, .val (.ref b3), .val (.int (1 : Int32)), .val (.int (1 : Int32))] [(.long r2), (.ref b3)])) rfl (by rw [hml]; rfl) (Steps.refl _) (argsL := [(.long r2)]) (rest := []) (lenOf pd_3 rfl) rfl (by show 2 * 0 + _ ≤ _; exact Nat.le_of_eq rfl) (hb hby at_144) (fun _ _ => ⟨rfl, e33, (by decide : 3 + 0 ≤ _), (by decide : 17 + 0 ≤ _)⟩)
      dsimp only [Pt.U, Pt.locs, Pt.cells, Pt.slots] at X34 l34 y34 z34 st34 hQ34
      subst l34 y34 z34
      obtain ⟨rfl, N34q, e34⟩ := hQ34
      have N34 := Fr.app N33 N34q
      have go35 : ∀ t, Steps p.tables e below (T34.setTop (mkF m 173 #[.val (.long q1), .second, .val (.long q2), .second, .val (.int p3), .val (.long r1), .second, .val (.long r2), .second, .val (.ref b3), .val (.int (1 : Int32)), .val (.int (1 : Int32))] [(.int (1 : Int32))])) t → Steps p.tables e below (s₁.setTop (entryFrame m #[(.long q1), (.long q2), (.int p3)] maxLocals)) t := by
        intro t k
        refine go29 t ?_
        show Steps p.tables e below (T28.setTop (mkF m 108 #[.val (.long q1), .second, .val (.long q2), .second, .val (.int p3), .val (.long r1), .second, .val (.long r2), .second, .val (.ref b3), .val (.int (1 : Int32)), .val (.int (1 : Int32))] [(.int (lcmpW r2 (-9223372036854775808 : Int64)))])) _
        refine XS.ifNo X28.here hx rfl (hb hby at_108) rfl ((if0 _ _).trans (feq (mt (lw_eq _ _).mp hc30)).1) ?_
        show Steps p.tables e below (T28.setTop (mkF m 111 #[.val (.long q1), .second, .val (.long q2), .second, .val (.int p3), .val (.long r1), .second, .val (.long r2), .second, .val (.ref b3), .val (.int (1 : Int32)), .val (.int (1 : Int32))] [])) _
        refine XS.iload X28.here hx rfl (hb hby at_111) rfl ?_
        show Steps p.tables e below (T28.setTop (mkF m 113 #[.val (.long q1), .second, .val (.long q2), .second, .val (.int p3), .val (.long r1), .second, .val (.long r2), .second, .val (.ref b3), .val (.int (1 : Int32)), .val (.int (1 : Int32))] [(.int (1 : Int32))])) _
        refine XS.ifNo X28.here hx rfl (hb hby at_113) rfl ((if0 _ _).trans (feq (by decide : ¬ ((1 : Int32) = (0 : Int32)))).1) ?_
        show Steps p.tables e below (T28.setTop (mkF m 116 #[.val (.long q1), .second, .val (.long q2), .second, .val (.int p3), .val (.long r1), .second, .val (.long r2), .second, .val (.ref b3), .val (.int (1 : Int32)), .val (.int (1 : Int32))] [])) _
        refine XS.aload X28.here hx rfl (hb hby at_116) rfl rfl ?_
        show Steps p.tables e below (T28.setTop (mkF m 118 #[.val (.long q1), .second, .val (.long q2), .second, .val (.int p3), .val (.long r1), .second, .val (.long r2), .second, .val (.ref b3), .val (.int (1 : Int32)), .val (.int (1 : Int32))] [(.ref b3)])) _
        refine XS.lload X28.here hx rfl (hb hby at_118) rfl ?_
        show Steps p.tables e below (T28.setTop (mkF m 120 #[.val (.long q1), .second, .val (.long q2), .second, .val (.int p3), .val (.long r1), .second, .val (.long r2), .second, .val (.ref b3), .val (.int (1 : Int32)), .val (.int (1 : Int32))] [(.long r2), (.ref b3)])) _
        refine XS.lconst X28.here hx rfl (hb hby at_120) ?_
        show Steps p.tables e below (T28.setTop (mkF m 121 #[.val (.long q1), .second, .val (.long q2), .second, .val (.int p3), .val (.long r1), .second, .val (.long r2), .second, .val (.ref b3), .val (.int (1 : Int32)), .val (.int (1 : Int32))] [(.long (1 : Int64)), (.long r2), (.ref b3)])) _
        refine XS.lsub X28.here hx rfl (hb hby at_121) rfl ?_
        show Steps p.tables e below (T28.setTop (mkF m 122 #[.val (.long q1), .second, .val (.long q2), .second, .val (.int p3), .val (.long r1), .second, .val (.long r2), .second, .val (.ref b3), .val (.int (1 : Int32)), .val (.int (1 : Int32))] [(.long (r2 - (1 : Int64))), (.ref b3)])) _
        refine st33.trans ?_
        show Steps p.tables e below (T33.setTop (mkF m 125 #[.val (.long q1), .second, .val (.long q2), .second, .val (.int p3), .val (.long r1), .second, .val (.long r2), .second, .val (.ref b3), .val (.int (1 : Int32)), .val (.int (1 : Int32))] [(.int (own_fa r2 (r2 - (1 : Int64))))])) _
        refine XS.ifNo X33.here hx rfl (hb hby at_125) rfl ((if0 _ _).trans (feq (by simp [own_fa, hc27] : ¬ ((own_fa r2 (r2 - (1 : Int64))) = (0 : Int32)))).1) ?_
        show Steps p.tables e below (T33.setTop (mkF m 128 #[.val (.long q1), .second, .val (.long q2), .second, .val (.int p3), .val (.long r1), .second, .val (.long r2), .second, .val (.ref b3), .val (.int (1 : Int32)), .val (.int (1 : Int32))] [])) _
        refine XS.iconst X33.here hx rfl (hb hby at_128) ?_
        show Steps p.tables e below (T33.setTop (mkF m 129 #[.val (.long q1), .second, .val (.long q2), .second, .val (.int p3), .val (.long r1), .second, .val (.long r2), .second, .val (.ref b3), .val (.int (1 : Int32)), .val (.int (1 : Int32))] [(.int (1 : Int32))])) _
        refine XS.goto X33.here hx rfl (pc0 := 129) (pc' := 133) rfl (hb hby at_129) (by decide) (by decide) ?_
        show Steps p.tables e below (T33.setTop (mkF m 133 #[.val (.long q1), .second, .val (.long q2), .second, .val (.int p3), .val (.long r1), .second, .val (.long r2), .second, .val (.ref b3), .val (.int (1 : Int32)), .val (.int (1 : Int32))] [(.int (1 : Int32))])) _
        refine XS.istore X33.here hx rfl (hb hby at_133) rfl (l' := #[.val (.long q1), .second, .val (.long q2), .second, .val (.int p3), .val (.long r1), .second, .val (.long r2), .second, .val (.ref b3), .val (.int (1 : Int32)), .val (.int (1 : Int32))]) rfl ?_
        show Steps p.tables e below (T33.setTop (mkF m 135 #[.val (.long q1), .second, .val (.long q2), .second, .val (.int p3), .val (.long r1), .second, .val (.long r2), .second, .val (.ref b3), .val (.int (1 : Int32)), .val (.int (1 : Int32))] [])) _
        refine XS.iload X33.here hx rfl (hb hby at_135) rfl ?_
        show Steps p.tables e below (T33.setTop (mkF m 137 #[.val (.long q1), .second, .val (.long q2), .second, .val (.int p3), .val (.long r1), .second, .val (.long r2), .second, .val (.ref b3), .val (.int (1 : Int32)), .val (.int (1 : Int32))] [(.int (1 : Int32))])) _
        refine XS.ifNo X33.here hx rfl (hb hby at_137) rfl ((if0 _ _).trans (feq (by decide : ¬ ((1 : Int32) = (0 : Int32)))).1) ?_
        show Steps p.tables e below (T33.setTop (mkF m 140 #[.val (.long q1), .second, .val (.long q2), .second, .val (.int p3), .val (.long r1), .second, .val (.long r2), .second, .val (.ref b3), .val (.int (1 : Int32)), .val (.int (1 : Int32))] [])) _
        refine XS.aload X33.here hx rfl (hb hby at_140) rfl rfl ?_
        show Steps p.tables e below (T33.setTop (mkF m 142 #[.val (.long q1), .second, .val (.long q2), .second, .val (.int p3), .val (.long r1), .second, .val (.long r2), .second, .val (.ref b3), .val (.int (1 : Int32)), .val (.int (1 : Int32))] [(.ref b3)])) _
        refine XS.lload X33.here hx rfl (hb hby at_142) rfl ?_
        show Steps p.tables e below (T33.setTop (mkF m 144 #[.val (.long q1), .second, .val (.long q2), .second, .val (.int p3), .val (.long r1), .second, .val (.long r2), .second, .val (.ref b3), .val (.int (1 : Int32)), .val (.int (1 : Int32))] [(.long r2), (.ref b3)])) _
        refine st34.trans ?_
        show Steps p.tables e below (T34.setTop (mkF m 147 #[.val (.long q1), .second, .val (.long q2), .second, .val (.int p3), .val (.long r1), .second, .val (.long r2), .second, .val (.ref b3), .val (.int (1 : Int32)), .val (.int (1 : Int32))] [(.int (own_fa r2 r2))])) _
        refine XS.lload X34.here hx rfl (hb hby at_147) rfl ?_
        show Steps p.tables e below (T34.setTop (mkF m 149 #[.val (.long q1), .second, .val (.long q2), .second, .val (.int p3), .val (.long r1), .second, .val (.long r2), .second, .val (.ref b3), .val (.int (1 : Int32)), .val (.int (1 : Int32))] [(.long r2), (.int (own_fa r2 r2))])) _
        refine X34.ldc2Long hx hown13 (mvT hZ13 hw_22) (g := (mkF m 149 #[.val (.long q1), .second, .val (.long q2), .second, .val (.int p3), .val (.long r1), .second, .val (.long r2), .second, .val (.ref b3), .val (.int (1 : Int32)), .val (.int (1 : Int32))] [(.long r2), (.int (own_fa r2 r2))])) rfl (hb hby at_149) _ ?_
        show Steps p.tables e below (T34.setTop (mkF m 152 #[.val (.long q1), .second, .val (.long q2), .second, .val (.int p3), .val (.long r1), .second, .val (.long r2), .second, .val (.ref b3), .val (.int (1 : Int32)), .val (.int (1 : Int32))] [(.long (9223372036854775807 : Int64)), (.long r2), (.int (own_fa r2 r2))])) _
        refine XS.lcmp X34.here hx rfl (hb hby at_152) rfl ?_
        show Steps p.tables e below (T34.setTop (mkF m 153 #[.val (.long q1), .second, .val (.long q2), .second, .val (.int p3), .val (.long r1), .second, .val (.long r2), .second, .val (.ref b3), .val (.int (1 : Int32)), .val (.int (1 : Int32))] [(.int (lcmpW r2 (9223372036854775807 : Int64))), (.int (own_fa r2 r2))])) _
        refine XS.ifNo X34.here hx rfl (hb hby at_153) rfl ((if0 _ _).trans (teq ((lw_eq _ _).mpr hc27)).2) ?_
        show Steps p.tables e below (T34.setTop (mkF m 156 #[.val (.long q1), .second, .val (.long q2), .second, .val (.int p3), .val (.long r1), .second, .val (.long r2), .second, .val (.ref b3), .val (.int (1 : Int32)), .val (.int (1 : Int32))] [(.int (own_fa r2 r2))])) _
        refine XS.iconst X34.here hx rfl (hb hby at_156) ?_
        show Steps p.tables e below (T34.setTop (mkF m 157 #[.val (.long q1), .second, .val (.long q2), .second, .val (.int p3), .val (.long r1), .second, .val (.long r2), .second, .val (.ref b3), .val (.int (1 : Int32)), .val (.int (1 : Int32))] [(.int (1 : Int32)), (.int (own_fa r2 r2))])) _
        refine XS.goto X34.here hx rfl (pc0 := 157) (pc' := 161) rfl (hb hby at_157) (by decide) (by decide) ?_
        show Steps p.tables e below (T34.setTop (mkF m 161 #[.val (.long q1), .second, .val (.long q2), .second, .val (.int p3), .val (.long r1), .second, .val (.long r2), .second, .val (.ref b3), .val (.int (1 : Int32)), .val (.int (1 : Int32))] [(.int (1 : Int32)), (.int (own_fa r2 r2))])) _
        refine XS.icmpNo X34.here hx rfl (hb hby at_161) rfl (teq (by simp [own_fa, hc27] : (own_fa r2 r2) = (1 : Int32))).2 ?_
        show Steps p.tables e below (T34.setTop (mkF m 164 #[.val (.long q1), .second, .val (.long q2), .second, .val (.int p3), .val (.long r1), .second, .val (.long r2), .second, .val (.ref b3), .val (.int (1 : Int32)), .val (.int (1 : Int32))] [])) _
        refine XS.iconst X34.here hx rfl (hb hby at_164) ?_
        show Steps p.tables e below (T34.setTop (mkF m 165 #[.val (.long q1), .second, .val (.long q2), .second, .val (.int p3), .val (.long r1), .second, .val (.long r2), .second, .val (.ref b3), .val (.int (1 : Int32)), .val (.int (1 : Int32))] [(.int (1 : Int32))])) _
        refine XS.goto X34.here hx rfl (pc0 := 165) (pc' := 169) rfl (hb hby at_165) (by decide) (by decide) ?_
        show Steps p.tables e below (T34.setTop (mkF m 169 #[.val (.long q1), .second, .val (.long q2), .second, .val (.int p3), .val (.long r1), .second, .val (.long r2), .second, .val (.ref b3), .val (.int (1 : Int32)), .val (.int (1 : Int32))] [(.int (1 : Int32))])) _
        refine XS.istore X34.here hx rfl (hb hby at_169) rfl (l' := #[.val (.long q1), .second, .val (.long q2), .second, .val (.int p3), .val (.long r1), .second, .val (.long r2), .second, .val (.ref b3), .val (.int (1 : Int32)), .val (.int (1 : Int32))]) rfl ?_
        show Steps p.tables e below (T34.setTop (mkF m 171 #[.val (.long q1), .second, .val (.long q2), .second, .val (.int p3), .val (.long r1), .second, .val (.long r2), .second, .val (.ref b3), .val (.int (1 : Int32)), .val (.int (1 : Int32))] [])) _
        refine XS.iload X34.here hx rfl (hb hby at_171) rfl ?_
        exact k
      obtain ⟨fs, hr, hrun, hended, hEW⟩ := X34.leaveW (s := s) hS13 (show k13 ≤ _ by rw [e34]; omega) (v := some (.int (1 : Int32))) (fun h => by rw [Bd.returns] at h; cases h)
      refine ⟨_, _, go35 _ ?_, hrun, hended, _, _, rfl, ?_, hEW.1, hEW.2.1, hEW.2.2.1, hEW.2.2.2.mono (by decide) (by decide)⟩
      · skip
        show Steps p.tables e below (T34.setTop (mkF m 173 #[.val (.long q1), .second, .val (.long q2), .second, .val (.int p3), .val (.long r1), .second, .val (.long r2), .second, .val (.ref b3), .val (.int (1 : Int32)), .val (.int (1 : Int32))] [(.int (1 : Int32))])) _
        exact retN X34 hx (t := .boolean) Bd.returns (by simp) (hb hby at_173) hr
      · show Q_rm0 Z q1 q2 p3 wF h0 n0 _ T34.heap _
        rw [e34]
        exact ⟨rfl, N34⟩
  · skip
    have go36 : ∀ t, Steps p.tables e below (T15.setTop (mkF m 71 #[.val (.long q1), .second, .val (.long q2), .second, .val (.int p3), .val (.long r1), .second, .val (.long r2), .second, .val (.ref b3), .unset, .unset] [(.int (lcmpW r1 r2))])) t → Steps p.tables e below (s₁.setTop (entryFrame m #[(.long q1), (.long q2), (.int p3)] maxLocals)) t := by
      intro t k
      refine go26 t ?_
      show Steps p.tables e below (T15.setTop (mkF m 57 #[.val (.long q1), .second, .val (.long q2), .second, .val (.int p3), .val (.long r1), .second, .val (.long r2), .second, .val (.ref b3), .unset, .unset] [(.int (lcmpW r2 (9223372036854775807 : Int64)))])) _
      refine XS.ifYes X15.here hx rfl (pc0 := 57) (pc' := 66) rfl (hb hby at_57) rfl ((if0 _ _).trans (feq (mt (lw_eq _ _).mp hc27)).2) (by decide) (by decide) ?_
      show Steps p.tables e below (T15.setTop (mkF m 66 #[.val (.long q1), .second, .val (.long q2), .second, .val (.int p3), .val (.long r1), .second, .val (.long r2), .second, .val (.ref b3), .unset, .unset] [])) _
      refine XS.lload X15.here hx rfl (hb hby at_66) rfl ?_
      show Steps p.tables e below (T15.setTop (mkF m 68 #[.val (.long q1), .second, .val (.long q2), .second, .val (.int p3), .val (.long r1), .second, .val (.long r2), .second, .val (.ref b3), .unset, .unset] [(.long r1)])) _
      refine XS.lload X15.here hx rfl (hb hby at_68) rfl ?_
      show Steps p.tables e below (T15.setTop (mkF m 70 #[.val (.long q1), .second, .val (.long q2), .second, .val (.int p3), .val (.long r1), .second, .val (.long r2), .second, .val (.ref b3), .unset, .unset] [(.long r2), (.long r1)])) _
      refine XS.lcmp X15.here hx rfl (hb hby at_70) rfl ?_
      exact k
    by_cases hc37 : r1 < r2
    · skip
      obtain ⟨cq38, kq38, q38a, q38b, q38c⟩ := isOf hZ13 rfl Ec15
      obtain ⟨_, _, ⟨T38, L38, k38, n38⟩, -, X38, ⟨Lc38, hQ38, l38, y38, z38⟩, st38⟩ := X15.virtualBack hx (y := (⟨"com/example/backend_picker/backendpicker/simulator/ScenarioBackend", "failsAt", "(J)Z"⟩ : MethodName)) (z := (⟨"com/example/backend_picker/backendpicker/simulator/ScenarioBackend", "failsAt", "(J)Z"⟩ : MethodName)) hown13 (mvT hZ13 hw_47) (mvT hZ13 hw_48) (notFace_of_selects (args := #[]) (mvT hZ13 hw_50)) (mvT hZ13 hw_50) (mvT hZ13 hw_49) (by decide) (backOf (W := 0) (rmFa l Z a0 hw [] b3 r1 r2 T15.heap n0 Z15 Fc15) hZ13 hw_51 hw_9 (by decide) (by decide)) q38a q38c (g := (mkF m 87 #[.val (.long q1), .second, .val (.long q2), .second, .val (.int p3), .val (.long r1), .second, .val (.long r2), .second, .val (.ref b3), .val (.int (1 : Int32)), .unset] [(.long r1), (.ref b3)])) rfl (by rw [hml]; rfl) (Steps.refl _) (argsL := [(.long r1)]) (rest := []) (lenOf pd_3 rfl) rfl (by show 2 * 0 + _ ≤ _; exact Nat.le_of_eq rfl) (hb hby at_87) (fun _ _ => ⟨rfl, rfl, (by decide : 3 + 0 ≤ _), (by decide : 17 + 0 ≤ _)⟩)
      dsimp only [Pt.U, Pt.locs, Pt.cells, Pt.slots] at X38 l38 y38 z38 st38 hQ38
      subst l38 y38 z38
      obtain ⟨rfl, N38q, e38⟩ := hQ38
      have N38 := Fr.app N15 N38q
      have go39 : ∀ t, Steps p.tables e below (T38.setTop (mkF m 108 #[.val (.long q1), .second, .val (.long q2), .second, .val (.int p3), .val (.long r1), .second, .val (.long r2), .second, .val (.ref b3), .val (.int (1 : Int32)), .val (.int (1 : Int32))] [(.int (lcmpW r2 (-9223372036854775808 : Int64)))])) t → Steps p.tables e below (s₁.setTop (entryFrame m #[(.long q1), (.long q2), (.int p3)] maxLocals)) t := by
        intro t k
        refine go36 t ?_
        show Steps p.tables e below (T15.setTop (mkF m 71 #[.val (.long q1), .second, .val (.long q2), .second, .val (.int p3), .val (.long r1), .second, .val (.long r2), .second, .val (.ref b3), .unset, .unset] [(.int (lcmpW r1 r2))])) _
        refine XS.ifNo X15.here hx rfl (hb hby at_71) rfl ((if0 _ _).trans (tlt ((lw_lt _ _).mpr hc37)).2.1) ?_
        show Steps p.tables e below (T15.setTop (mkF m 74 #[.val (.long q1), .second, .val (.long q2), .second, .val (.int p3), .val (.long r1), .second, .val (.long r2), .second, .val (.ref b3), .unset, .unset] [])) _
        refine XS.iconst X15.here hx rfl (hb hby at_74) ?_
        show Steps p.tables e below (T15.setTop (mkF m 75 #[.val (.long q1), .second, .val (.long q2), .second, .val (.int p3), .val (.long r1), .second, .val (.long r2), .second, .val (.ref b3), .unset, .unset] [(.int (1 : Int32))])) _
        refine XS.istore X15.here hx rfl (hb hby at_75) rfl (l' := #[.val (.long q1), .second, .val (.long q2), .second, .val (.int p3), .val (.long r1), .second, .val (.long r2), .second, .val (.ref b3), .val (.int (1 : Int32)), .unset]) rfl ?_
        show Steps p.tables e below (T15.setTop (mkF m 77 #[.val (.long q1), .second, .val (.long q2), .second, .val (.int p3), .val (.long r1), .second, .val (.long r2), .second, .val (.ref b3), .val (.int (1 : Int32)), .unset] [])) _
        refine XS.goto X15.here hx rfl (pc0 := 77) (pc' := 83) rfl (hb hby at_77) (by decide) (by decide) ?_
        show Steps p.tables e below (T15.setTop (mkF m 83 #[.val (.long q1), .second, .val (.long q2), .second, .val (.int p3), .val (.long r1), .second, .val (.long r2), .second, .val (.ref b3), .val (.int (1 : Int32)), .unset] [])) _
        refine XS.aload X15.here hx rfl (hb hby at_83) rfl rfl ?_
        show Steps p.tables e below (T15.setTop (mkF m 85 #[.val (.long q1), .second, .val (.long q2), .second, .val (.int p3), .val (.long r1), .second, .val (.long r2), .second, .val (.ref b3), .val (.int (1 : Int32)), .unset] [(.ref b3)])) _
        refine XS.lload X15.here hx rfl (hb hby at_85) rfl ?_
        show Steps p.tables e below (T15.setTop (mkF m 87 #[.val (.long q1), .second, .val (.long q2), .second, .val (.int p3), .val (.long r1), .second, .val (.long r2), .second, .val (.ref b3), .val (.int (1 : Int32)), .unset] [(.long r1), (.ref b3)])) _
        refine st38.trans ?_
        show Steps p.tables e below (T38.setTop (mkF m 90 #[.val (.long q1), .second, .val (.long q2), .second, .val (.int p3), .val (.long r1), .second, .val (.long r2), .second, .val (.ref b3), .val (.int (1 : Int32)), .unset] [(.int (own_fa r2 r1))])) _
        refine XS.iload X38.here hx rfl (hb hby at_90) rfl ?_
        show Steps p.tables e below (T38.setTop (mkF m 92 #[.val (.long q1), .second, .val (.long q2), .second, .val (.int p3), .val (.long r1), .second, .val (.long r2), .second, .val (.ref b3), .val (.int (1 : Int32)), .unset] [(.int (1 : Int32)), (.int (own_fa r2 r1))])) _
        refine XS.icmpNo X38.here hx rfl (hb hby at_92) rfl (teq (by simp [own_fa, hc27, hc37] : (own_fa r2 r1) = (1 : Int32))).2 ?_
        show Steps p.tables e below (T38.setTop (mkF m 95 #[.val (.long q1), .second, .val (.long q2), .second, .val (.int p3), .val (.long r1), .second, .val (.long r2), .second, .val (.ref b3), .val (.int (1 : Int32)), .unset] [])) _
        refine XS.iconst X38.here hx rfl (hb hby at_95) ?_
        show Steps p.tables e below (T38.setTop (mkF m 96 #[.val (.long q1), .second, .val (.long q2), .second, .val (.int p3), .val (.long r1), .second, .val (.long r2), .second, .val (.ref b3), .val (.int (1 : Int32)), .unset] [(.int (1 : Int32))])) _
        refine XS.goto X38.here hx rfl (pc0 := 96) (pc' := 100) rfl (hb hby at_96) (by decide) (by decide) ?_
        show Steps p.tables e below (T38.setTop (mkF m 100 #[.val (.long q1), .second, .val (.long q2), .second, .val (.int p3), .val (.long r1), .second, .val (.long r2), .second, .val (.ref b3), .val (.int (1 : Int32)), .unset] [(.int (1 : Int32))])) _
        refine XS.istore X38.here hx rfl (hb hby at_100) rfl (l' := #[.val (.long q1), .second, .val (.long q2), .second, .val (.int p3), .val (.long r1), .second, .val (.long r2), .second, .val (.ref b3), .val (.int (1 : Int32)), .val (.int (1 : Int32))]) rfl ?_
        show Steps p.tables e below (T38.setTop (mkF m 102 #[.val (.long q1), .second, .val (.long q2), .second, .val (.int p3), .val (.long r1), .second, .val (.long r2), .second, .val (.ref b3), .val (.int (1 : Int32)), .val (.int (1 : Int32))] [])) _
        refine XS.lload X38.here hx rfl (hb hby at_102) rfl ?_
        show Steps p.tables e below (T38.setTop (mkF m 104 #[.val (.long q1), .second, .val (.long q2), .second, .val (.int p3), .val (.long r1), .second, .val (.long r2), .second, .val (.ref b3), .val (.int (1 : Int32)), .val (.int (1 : Int32))] [(.long r2)])) _
        refine X38.ldc2Long hx hown13 (mvT hZ13 hw_53) (g := (mkF m 104 #[.val (.long q1), .second, .val (.long q2), .second, .val (.int p3), .val (.long r1), .second, .val (.long r2), .second, .val (.ref b3), .val (.int (1 : Int32)), .val (.int (1 : Int32))] [(.long r2)])) rfl (hb hby at_104) _ ?_
        show Steps p.tables e below (T38.setTop (mkF m 107 #[.val (.long q1), .second, .val (.long q2), .second, .val (.int p3), .val (.long r1), .second, .val (.long r2), .second, .val (.ref b3), .val (.int (1 : Int32)), .val (.int (1 : Int32))] [(.long (-9223372036854775808 : Int64)), (.long r2)])) _
        refine XS.lcmp X38.here hx rfl (hb hby at_107) rfl ?_
        exact k
      by_cases hc40 : r2 = (-9223372036854775808 : Int64)
      · skip
        obtain ⟨cq41, kq41, q41a, q41b, q41c⟩ := isOf hZ13 e38 Ec15
        obtain ⟨_, _, ⟨T41, L41, k41, n41⟩, -, X41, ⟨Lc41, hQ41, l41, y41, z41⟩, st41⟩ := X38.virtualBack hx (y := (⟨"com/example/backend_picker/backendpicker/simulator/ScenarioBackend", "failsAt", "(J)Z"⟩ : MethodName)) (z := (⟨"com/example/backend_picker/backendpicker/simulator/ScenarioBackend", "failsAt", "(J)Z"⟩ : MethodName)) hown13 (mvT hZ13 hw_47) (mvT hZ13 hw_48) (notFace_of_selects (args := #[]) (mvT hZ13 hw_50)) (mvT hZ13 hw_50) (mvT hZ13 hw_49) (by decide) (backOf (W := 0) (rmFa l Z a0 hw [] b3 r2 r2 T15.heap n0 Z15 Fc15) hZ13 hw_51 hw_9 (by decide) (by decide)) q41a q41c (g := (mkF m 144 #[.val (.long q1), .second, .val (.long q2), .second, .val (.int p3), .val (.long r1), .second, .val (.long r2), .second, .val (.ref b3), .val (.int (1 : Int32)), .val (.int (1 : Int32))] [(.long r2), (.ref b3)])) rfl (by rw [hml]; rfl) (Steps.refl _) (argsL := [(.long r2)]) (rest := []) (lenOf pd_3 rfl) rfl (by show 2 * 0 + _ ≤ _; exact Nat.le_of_eq rfl) (hb hby at_144) (fun _ _ => ⟨rfl, e38, (by decide : 3 + 0 ≤ _), (by decide : 17 + 0 ≤ _)⟩)
        dsimp only [Pt.U, Pt.locs, Pt.cells, Pt.slots] at X41 l41 y41 z41 st41 hQ41
        subst l41 y41 z41
        obtain ⟨rfl, N41q, e41⟩ := hQ41
        have N41 := Fr.app N38 N41q
        have go42 : ∀ t, Steps p.tables e below (T41.setTop (mkF m 173 #[.val (.long q1), .second, .val (.long q2), .second, .val (.int p3), .val (.long r1), .second, .val (.long r2), .second, .val (.ref b3), .val (.int (1 : Int32)), .val (.int (1 : Int32))] [(.int (1 : Int32))])) t → Steps p.tables e below (s₁.setTop (entryFrame m #[(.long q1), (.long q2), (.int p3)] maxLocals)) t := by
          intro t k
          refine go39 t ?_
          show Steps p.tables e below (T38.setTop (mkF m 108 #[.val (.long q1), .second, .val (.long q2), .second, .val (.int p3), .val (.long r1), .second, .val (.long r2), .second, .val (.ref b3), .val (.int (1 : Int32)), .val (.int (1 : Int32))] [(.int (lcmpW r2 (-9223372036854775808 : Int64)))])) _
          refine XS.ifYes X38.here hx rfl (pc0 := 108) (pc' := 135) rfl (hb hby at_108) rfl ((if0 _ _).trans (teq ((lw_eq _ _).mpr hc40)).1) (by decide) (by decide) ?_
          show Steps p.tables e below (T38.setTop (mkF m 135 #[.val (.long q1), .second, .val (.long q2), .second, .val (.int p3), .val (.long r1), .second, .val (.long r2), .second, .val (.ref b3), .val (.int (1 : Int32)), .val (.int (1 : Int32))] [])) _
          refine XS.iload X38.here hx rfl (hb hby at_135) rfl ?_
          show Steps p.tables e below (T38.setTop (mkF m 137 #[.val (.long q1), .second, .val (.long q2), .second, .val (.int p3), .val (.long r1), .second, .val (.long r2), .second, .val (.ref b3), .val (.int (1 : Int32)), .val (.int (1 : Int32))] [(.int (1 : Int32))])) _
          refine XS.ifNo X38.here hx rfl (hb hby at_137) rfl ((if0 _ _).trans (feq (by decide : ¬ ((1 : Int32) = (0 : Int32)))).1) ?_
          show Steps p.tables e below (T38.setTop (mkF m 140 #[.val (.long q1), .second, .val (.long q2), .second, .val (.int p3), .val (.long r1), .second, .val (.long r2), .second, .val (.ref b3), .val (.int (1 : Int32)), .val (.int (1 : Int32))] [])) _
          refine XS.aload X38.here hx rfl (hb hby at_140) rfl rfl ?_
          show Steps p.tables e below (T38.setTop (mkF m 142 #[.val (.long q1), .second, .val (.long q2), .second, .val (.int p3), .val (.long r1), .second, .val (.long r2), .second, .val (.ref b3), .val (.int (1 : Int32)), .val (.int (1 : Int32))] [(.ref b3)])) _
          refine XS.lload X38.here hx rfl (hb hby at_142) rfl ?_
          show Steps p.tables e below (T38.setTop (mkF m 144 #[.val (.long q1), .second, .val (.long q2), .second, .val (.int p3), .val (.long r1), .second, .val (.long r2), .second, .val (.ref b3), .val (.int (1 : Int32)), .val (.int (1 : Int32))] [(.long r2), (.ref b3)])) _
          refine st41.trans ?_
          show Steps p.tables e below (T41.setTop (mkF m 147 #[.val (.long q1), .second, .val (.long q2), .second, .val (.int p3), .val (.long r1), .second, .val (.long r2), .second, .val (.ref b3), .val (.int (1 : Int32)), .val (.int (1 : Int32))] [(.int (own_fa r2 r2))])) _
          refine XS.lload X41.here hx rfl (hb hby at_147) rfl ?_
          show Steps p.tables e below (T41.setTop (mkF m 149 #[.val (.long q1), .second, .val (.long q2), .second, .val (.int p3), .val (.long r1), .second, .val (.long r2), .second, .val (.ref b3), .val (.int (1 : Int32)), .val (.int (1 : Int32))] [(.long r2), (.int (own_fa r2 r2))])) _
          refine X41.ldc2Long hx hown13 (mvT hZ13 hw_22) (g := (mkF m 149 #[.val (.long q1), .second, .val (.long q2), .second, .val (.int p3), .val (.long r1), .second, .val (.long r2), .second, .val (.ref b3), .val (.int (1 : Int32)), .val (.int (1 : Int32))] [(.long r2), (.int (own_fa r2 r2))])) rfl (hb hby at_149) _ ?_
          show Steps p.tables e below (T41.setTop (mkF m 152 #[.val (.long q1), .second, .val (.long q2), .second, .val (.int p3), .val (.long r1), .second, .val (.long r2), .second, .val (.ref b3), .val (.int (1 : Int32)), .val (.int (1 : Int32))] [(.long (9223372036854775807 : Int64)), (.long r2), (.int (own_fa r2 r2))])) _
          refine XS.lcmp X41.here hx rfl (hb hby at_152) rfl ?_
          show Steps p.tables e below (T41.setTop (mkF m 153 #[.val (.long q1), .second, .val (.long q2), .second, .val (.int p3), .val (.long r1), .second, .val (.long r2), .second, .val (.ref b3), .val (.int (1 : Int32)), .val (.int (1 : Int32))] [(.int (lcmpW r2 (9223372036854775807 : Int64))), (.int (own_fa r2 r2))])) _
          refine XS.ifYes X41.here hx rfl (pc0 := 153) (pc' := 160) rfl (hb hby at_153) rfl ((if0 _ _).trans (feq (mt (lw_eq _ _).mp hc27)).2) (by decide) (by decide) ?_
          show Steps p.tables e below (T41.setTop (mkF m 160 #[.val (.long q1), .second, .val (.long q2), .second, .val (.int p3), .val (.long r1), .second, .val (.long r2), .second, .val (.ref b3), .val (.int (1 : Int32)), .val (.int (1 : Int32))] [(.int (own_fa r2 r2))])) _
          refine XS.iconst X41.here hx rfl (hb hby at_160) ?_
          show Steps p.tables e below (T41.setTop (mkF m 161 #[.val (.long q1), .second, .val (.long q2), .second, .val (.int p3), .val (.long r1), .second, .val (.long r2), .second, .val (.ref b3), .val (.int (1 : Int32)), .val (.int (1 : Int32))] [(.int (0 : Int32)), (.int (own_fa r2 r2))])) _
          refine XS.icmpNo X41.here hx rfl (hb hby at_161) rfl (teq (by simp [own_fa, hc27, own_irr] : (own_fa r2 r2) = (0 : Int32))).2 ?_
          show Steps p.tables e below (T41.setTop (mkF m 164 #[.val (.long q1), .second, .val (.long q2), .second, .val (.int p3), .val (.long r1), .second, .val (.long r2), .second, .val (.ref b3), .val (.int (1 : Int32)), .val (.int (1 : Int32))] [])) _
          refine XS.iconst X41.here hx rfl (hb hby at_164) ?_
          show Steps p.tables e below (T41.setTop (mkF m 165 #[.val (.long q1), .second, .val (.long q2), .second, .val (.int p3), .val (.long r1), .second, .val (.long r2), .second, .val (.ref b3), .val (.int (1 : Int32)), .val (.int (1 : Int32))] [(.int (1 : Int32))])) _
          refine XS.goto X41.here hx rfl (pc0 := 165) (pc' := 169) rfl (hb hby at_165) (by decide) (by decide) ?_
          show Steps p.tables e below (T41.setTop (mkF m 169 #[.val (.long q1), .second, .val (.long q2), .second, .val (.int p3), .val (.long r1), .second, .val (.long r2), .second, .val (.ref b3), .val (.int (1 : Int32)), .val (.int (1 : Int32))] [(.int (1 : Int32))])) _
          refine XS.istore X41.here hx rfl (hb hby at_169) rfl (l' := #[.val (.long q1), .second, .val (.long q2), .second, .val (.int p3), .val (.long r1), .second, .val (.long r2), .second, .val (.ref b3), .val (.int (1 : Int32)), .val (.int (1 : Int32))]) rfl ?_
          show Steps p.tables e below (T41.setTop (mkF m 171 #[.val (.long q1), .second, .val (.long q2), .second, .val (.int p3), .val (.long r1), .second, .val (.long r2), .second, .val (.ref b3), .val (.int (1 : Int32)), .val (.int (1 : Int32))] [])) _
          refine XS.iload X41.here hx rfl (hb hby at_171) rfl ?_
          exact k
        obtain ⟨fs, hr, hrun, hended, hEW⟩ := X41.leaveW (s := s) hS13 (show k13 ≤ _ by rw [e41]; omega) (v := some (.int (1 : Int32))) (fun h => by rw [Bd.returns] at h; cases h)
        refine ⟨_, _, go42 _ ?_, hrun, hended, _, _, rfl, ?_, hEW.1, hEW.2.1, hEW.2.2.1, hEW.2.2.2.mono (by decide) (by decide)⟩
        · skip
          show Steps p.tables e below (T41.setTop (mkF m 173 #[.val (.long q1), .second, .val (.long q2), .second, .val (.int p3), .val (.long r1), .second, .val (.long r2), .second, .val (.ref b3), .val (.int (1 : Int32)), .val (.int (1 : Int32))] [(.int (1 : Int32))])) _
          exact retN X41 hx (t := .boolean) Bd.returns (by simp) (hb hby at_173) hr
        · show Q_rm0 Z q1 q2 p3 wF h0 n0 _ T41.heap _
          rw [e41]
          exact ⟨rfl, N41⟩
      · skip
        obtain ⟨cq43, kq43, q43a, q43b, q43c⟩ := isOf hZ13 e38 Ec15
        obtain ⟨_, _, ⟨T43, L43, k43, n43⟩, -, X43, ⟨Lc43, hQ43, l43, y43, z43⟩, st43⟩ := X38.virtualBack hx (y := (⟨"com/example/backend_picker/backendpicker/simulator/ScenarioBackend", "failsAt", "(J)Z"⟩ : MethodName)) (z := (⟨"com/example/backend_picker/backendpicker/simulator/ScenarioBackend", "failsAt", "(J)Z"⟩ : MethodName)) hown13 (mvT hZ13 hw_47) (mvT hZ13 hw_48) (notFace_of_selects (args := #[]) (mvT hZ13 hw_50)) (mvT hZ13 hw_50) (mvT hZ13 hw_49) (by decide) (backOf (W := 0) (rmFa l Z a0 hw [] b3 (r2 - (1 : Int64)) r2 T15.heap n0 Z15 Fc15) hZ13 hw_51 hw_9 (by decide) (by decide)) q43a q43c (g := (mkF m 122 #[.val (.long q1), .second, .val (.long q2), .second, .val (.int p3), .val (.long r1), .second, .val (.long r2), .second, .val (.ref b3), .val (.int (1 : Int32)), .val (.int (1 : Int32))] [(.long (r2 - (1 : Int64))), (.ref b3)])) rfl (by rw [hml]; rfl) (Steps.refl _) (argsL := [(.long (r2 - (1 : Int64)))]) (rest := []) (lenOf pd_3 rfl) rfl (by show 2 * 0 + _ ≤ _; exact Nat.le_of_eq rfl) (hb hby at_122) (fun _ _ => ⟨rfl, e38, (by decide : 3 + 0 ≤ _), (by decide : 17 + 0 ≤ _)⟩)
        dsimp only [Pt.U, Pt.locs, Pt.cells, Pt.slots] at X43 l43 y43 z43 st43 hQ43
        subst l43 y43 z43
        obtain ⟨rfl, N43q, e43⟩ := hQ43
        have N43 := Fr.app N38 N43q
        obtain ⟨cq44, kq44, q44a, q44b, q44c⟩ := isOf hZ13 e43 Ec15
        obtain ⟨_, _, ⟨T44, L44, k44, n44⟩, -, X44, ⟨Lc44, hQ44, l44, y44, z44⟩, st44⟩ := X43.virtualBack hx (y := (⟨"com/example/backend_picker/backendpicker/simulator/ScenarioBackend", "failsAt", "(J)Z"⟩ : MethodName)) (z := (⟨"com/example/backend_picker/backendpicker/simulator/ScenarioBackend", "failsAt", "(J)Z"⟩ : MethodName)) hown13 (mvT hZ13 hw_47) (mvT hZ13 hw_48) (notFace_of_selects (args := #[]) (mvT hZ13 hw_50)) (mvT hZ13 hw_50) (mvT hZ13 hw_49) (by decide) (backOf (W := 0) (rmFa l Z a0 hw [] b3 r2 r2 T15.heap n0 Z15 Fc15) hZ13 hw_51 hw_9 (by decide) (by decide)) q44a q44c (g := (mkF m 144 #[.val (.long q1), .second, .val (.long q2), .second, .val (.int p3), .val (.long r1), .second, .val (.long r2), .second, .val (.ref b3), .val (.int (1 : Int32)), .val (.int (1 : Int32))] [(.long r2), (.ref b3)])) rfl (by rw [hml]; rfl) (Steps.refl _) (argsL := [(.long r2)]) (rest := []) (lenOf pd_3 rfl) rfl (by show 2 * 0 + _ ≤ _; exact Nat.le_of_eq rfl) (hb hby at_144) (fun _ _ => ⟨rfl, e43, (by decide : 3 + 0 ≤ _), (by decide : 17 + 0 ≤ _)⟩)
        dsimp only [Pt.U, Pt.locs, Pt.cells, Pt.slots] at X44 l44 y44 z44 st44 hQ44
        subst l44 y44 z44
        obtain ⟨rfl, N44q, e44⟩ := hQ44
        have N44 := Fr.app N43 N44q
        have go45 : ∀ t, Steps p.tables e below (T44.setTop (mkF m 173 #[.val (.long q1), .second, .val (.long q2), .second, .val (.int p3), .val (.long r1), .second, .val (.long r2), .second, .val (.ref b3), .val (.int (1 : Int32)), .val (.int (1 : Int32))] [(.int (1 : Int32))])) t → Steps p.tables e below (s₁.setTop (entryFrame m #[(.long q1), (.long q2), (.int p3)] maxLocals)) t := by
          intro t k
          refine go39 t ?_
          show Steps p.tables e below (T38.setTop (mkF m 108 #[.val (.long q1), .second, .val (.long q2), .second, .val (.int p3), .val (.long r1), .second, .val (.long r2), .second, .val (.ref b3), .val (.int (1 : Int32)), .val (.int (1 : Int32))] [(.int (lcmpW r2 (-9223372036854775808 : Int64)))])) _
          refine XS.ifNo X38.here hx rfl (hb hby at_108) rfl ((if0 _ _).trans (feq (mt (lw_eq _ _).mp hc40)).1) ?_
          show Steps p.tables e below (T38.setTop (mkF m 111 #[.val (.long q1), .second, .val (.long q2), .second, .val (.int p3), .val (.long r1), .second, .val (.long r2), .second, .val (.ref b3), .val (.int (1 : Int32)), .val (.int (1 : Int32))] [])) _
          refine XS.iload X38.here hx rfl (hb hby at_111) rfl ?_
          show Steps p.tables e below (T38.setTop (mkF m 113 #[.val (.long q1), .second, .val (.long q2), .second, .val (.int p3), .val (.long r1), .second, .val (.long r2), .second, .val (.ref b3), .val (.int (1 : Int32)), .val (.int (1 : Int32))] [(.int (1 : Int32))])) _
          refine XS.ifNo X38.here hx rfl (hb hby at_113) rfl ((if0 _ _).trans (feq (by decide : ¬ ((1 : Int32) = (0 : Int32)))).1) ?_
          show Steps p.tables e below (T38.setTop (mkF m 116 #[.val (.long q1), .second, .val (.long q2), .second, .val (.int p3), .val (.long r1), .second, .val (.long r2), .second, .val (.ref b3), .val (.int (1 : Int32)), .val (.int (1 : Int32))] [])) _
          refine XS.aload X38.here hx rfl (hb hby at_116) rfl rfl ?_
          show Steps p.tables e below (T38.setTop (mkF m 118 #[.val (.long q1), .second, .val (.long q2), .second, .val (.int p3), .val (.long r1), .second, .val (.long r2), .second, .val (.ref b3), .val (.int (1 : Int32)), .val (.int (1 : Int32))] [(.ref b3)])) _
          refine XS.lload X38.here hx rfl (hb hby at_118) rfl ?_
          show Steps p.tables e below (T38.setTop (mkF m 120 #[.val (.long q1), .second, .val (.long q2), .second, .val (.int p3), .val (.long r1), .second, .val (.long r2), .second, .val (.ref b3), .val (.int (1 : Int32)), .val (.int (1 : Int32))] [(.long r2), (.ref b3)])) _
          refine XS.lconst X38.here hx rfl (hb hby at_120) ?_
          show Steps p.tables e below (T38.setTop (mkF m 121 #[.val (.long q1), .second, .val (.long q2), .second, .val (.int p3), .val (.long r1), .second, .val (.long r2), .second, .val (.ref b3), .val (.int (1 : Int32)), .val (.int (1 : Int32))] [(.long (1 : Int64)), (.long r2), (.ref b3)])) _
          refine XS.lsub X38.here hx rfl (hb hby at_121) rfl ?_
          show Steps p.tables e below (T38.setTop (mkF m 122 #[.val (.long q1), .second, .val (.long q2), .second, .val (.int p3), .val (.long r1), .second, .val (.long r2), .second, .val (.ref b3), .val (.int (1 : Int32)), .val (.int (1 : Int32))] [(.long (r2 - (1 : Int64))), (.ref b3)])) _
          refine st43.trans ?_
          show Steps p.tables e below (T43.setTop (mkF m 125 #[.val (.long q1), .second, .val (.long q2), .second, .val (.int p3), .val (.long r1), .second, .val (.long r2), .second, .val (.ref b3), .val (.int (1 : Int32)), .val (.int (1 : Int32))] [(.int (own_fa r2 (r2 - (1 : Int64))))])) _
          refine XS.ifNo X43.here hx rfl (hb hby at_125) rfl ((if0 _ _).trans (feq (by simp [own_fa, hc27, own_pred hc40] : ¬ ((own_fa r2 (r2 - (1 : Int64))) = (0 : Int32)))).1) ?_
          show Steps p.tables e below (T43.setTop (mkF m 128 #[.val (.long q1), .second, .val (.long q2), .second, .val (.int p3), .val (.long r1), .second, .val (.long r2), .second, .val (.ref b3), .val (.int (1 : Int32)), .val (.int (1 : Int32))] [])) _
          refine XS.iconst X43.here hx rfl (hb hby at_128) ?_
          show Steps p.tables e below (T43.setTop (mkF m 129 #[.val (.long q1), .second, .val (.long q2), .second, .val (.int p3), .val (.long r1), .second, .val (.long r2), .second, .val (.ref b3), .val (.int (1 : Int32)), .val (.int (1 : Int32))] [(.int (1 : Int32))])) _
          refine XS.goto X43.here hx rfl (pc0 := 129) (pc' := 133) rfl (hb hby at_129) (by decide) (by decide) ?_
          show Steps p.tables e below (T43.setTop (mkF m 133 #[.val (.long q1), .second, .val (.long q2), .second, .val (.int p3), .val (.long r1), .second, .val (.long r2), .second, .val (.ref b3), .val (.int (1 : Int32)), .val (.int (1 : Int32))] [(.int (1 : Int32))])) _
          refine XS.istore X43.here hx rfl (hb hby at_133) rfl (l' := #[.val (.long q1), .second, .val (.long q2), .second, .val (.int p3), .val (.long r1), .second, .val (.long r2), .second, .val (.ref b3), .val (.int (1 : Int32)), .val (.int (1 : Int32))]) rfl ?_
          show Steps p.tables e below (T43.setTop (mkF m 135 #[.val (.long q1), .second, .val (.long q2), .second, .val (.int p3), .val (.long r1), .second, .val (.long r2), .second, .val (.ref b3), .val (.int (1 : Int32)), .val (.int (1 : Int32))] [])) _
          refine XS.iload X43.here hx rfl (hb hby at_135) rfl ?_
          show Steps p.tables e below (T43.setTop (mkF m 137 #[.val (.long q1), .second, .val (.long q2), .second, .val (.int p3), .val (.long r1), .second, .val (.long r2), .second, .val (.ref b3), .val (.int (1 : Int32)), .val (.int (1 : Int32))] [(.int (1 : Int32))])) _
          refine XS.ifNo X43.here hx rfl (hb hby at_137) rfl ((if0 _ _).trans (feq (by decide : ¬ ((1 : Int32) = (0 : Int32)))).1) ?_
          show Steps p.tables e below (T43.setTop (mkF m 140 #[.val (.long q1), .second, .val (.long q2), .second, .val (.int p3), .val (.long r1), .second, .val (.long r2), .second, .val (.ref b3), .val (.int (1 : Int32)), .val (.int (1 : Int32))] [])) _
          refine XS.aload X43.here hx rfl (hb hby at_140) rfl rfl ?_
          show Steps p.tables e below (T43.setTop (mkF m 142 #[.val (.long q1), .second, .val (.long q2), .second, .val (.int p3), .val (.long r1), .second, .val (.long r2), .second, .val (.ref b3), .val (.int (1 : Int32)), .val (.int (1 : Int32))] [(.ref b3)])) _
          refine XS.lload X43.here hx rfl (hb hby at_142) rfl ?_
          show Steps p.tables e below (T43.setTop (mkF m 144 #[.val (.long q1), .second, .val (.long q2), .second, .val (.int p3), .val (.long r1), .second, .val (.long r2), .second, .val (.ref b3), .val (.int (1 : Int32)), .val (.int (1 : Int32))] [(.long r2), (.ref b3)])) _
          refine st44.trans ?_
          show Steps p.tables e below (T44.setTop (mkF m 147 #[.val (.long q1), .second, .val (.long q2), .second, .val (.int p3), .val (.long r1), .second, .val (.long r2), .second, .val (.ref b3), .val (.int (1 : Int32)), .val (.int (1 : Int32))] [(.int (own_fa r2 r2))])) _
          refine XS.lload X44.here hx rfl (hb hby at_147) rfl ?_
          show Steps p.tables e below (T44.setTop (mkF m 149 #[.val (.long q1), .second, .val (.long q2), .second, .val (.int p3), .val (.long r1), .second, .val (.long r2), .second, .val (.ref b3), .val (.int (1 : Int32)), .val (.int (1 : Int32))] [(.long r2), (.int (own_fa r2 r2))])) _
          refine X44.ldc2Long hx hown13 (mvT hZ13 hw_22) (g := (mkF m 149 #[.val (.long q1), .second, .val (.long q2), .second, .val (.int p3), .val (.long r1), .second, .val (.long r2), .second, .val (.ref b3), .val (.int (1 : Int32)), .val (.int (1 : Int32))] [(.long r2), (.int (own_fa r2 r2))])) rfl (hb hby at_149) _ ?_
          show Steps p.tables e below (T44.setTop (mkF m 152 #[.val (.long q1), .second, .val (.long q2), .second, .val (.int p3), .val (.long r1), .second, .val (.long r2), .second, .val (.ref b3), .val (.int (1 : Int32)), .val (.int (1 : Int32))] [(.long (9223372036854775807 : Int64)), (.long r2), (.int (own_fa r2 r2))])) _
          refine XS.lcmp X44.here hx rfl (hb hby at_152) rfl ?_
          show Steps p.tables e below (T44.setTop (mkF m 153 #[.val (.long q1), .second, .val (.long q2), .second, .val (.int p3), .val (.long r1), .second, .val (.long r2), .second, .val (.ref b3), .val (.int (1 : Int32)), .val (.int (1 : Int32))] [(.int (lcmpW r2 (9223372036854775807 : Int64))), (.int (own_fa r2 r2))])) _
          refine XS.ifYes X44.here hx rfl (pc0 := 153) (pc' := 160) rfl (hb hby at_153) rfl ((if0 _ _).trans (feq (mt (lw_eq _ _).mp hc27)).2) (by decide) (by decide) ?_
          show Steps p.tables e below (T44.setTop (mkF m 160 #[.val (.long q1), .second, .val (.long q2), .second, .val (.int p3), .val (.long r1), .second, .val (.long r2), .second, .val (.ref b3), .val (.int (1 : Int32)), .val (.int (1 : Int32))] [(.int (own_fa r2 r2))])) _
          refine XS.iconst X44.here hx rfl (hb hby at_160) ?_
          show Steps p.tables e below (T44.setTop (mkF m 161 #[.val (.long q1), .second, .val (.long q2), .second, .val (.int p3), .val (.long r1), .second, .val (.long r2), .second, .val (.ref b3), .val (.int (1 : Int32)), .val (.int (1 : Int32))] [(.int (0 : Int32)), (.int (own_fa r2 r2))])) _
          refine XS.icmpNo X44.here hx rfl (hb hby at_161) rfl (teq (by simp [own_fa, hc27, own_irr] : (own_fa r2 r2) = (0 : Int32))).2 ?_
          show Steps p.tables e below (T44.setTop (mkF m 164 #[.val (.long q1), .second, .val (.long q2), .second, .val (.int p3), .val (.long r1), .second, .val (.long r2), .second, .val (.ref b3), .val (.int (1 : Int32)), .val (.int (1 : Int32))] [])) _
          refine XS.iconst X44.here hx rfl (hb hby at_164) ?_
          show Steps p.tables e below (T44.setTop (mkF m 165 #[.val (.long q1), .second, .val (.long q2), .second, .val (.int p3), .val (.long r1), .second, .val (.long r2), .second, .val (.ref b3), .val (.int (1 : Int32)), .val (.int (1 : Int32))] [(.int (1 : Int32))])) _
          refine XS.goto X44.here hx rfl (pc0 := 165) (pc' := 169) rfl (hb hby at_165) (by decide) (by decide) ?_
          show Steps p.tables e below (T44.setTop (mkF m 169 #[.val (.long q1), .second, .val (.long q2), .second, .val (.int p3), .val (.long r1), .second, .val (.long r2), .second, .val (.ref b3), .val (.int (1 : Int32)), .val (.int (1 : Int32))] [(.int (1 : Int32))])) _
          refine XS.istore X44.here hx rfl (hb hby at_169) rfl (l' := #[.val (.long q1), .second, .val (.long q2), .second, .val (.int p3), .val (.long r1), .second, .val (.long r2), .second, .val (.ref b3), .val (.int (1 : Int32)), .val (.int (1 : Int32))]) rfl ?_
          show Steps p.tables e below (T44.setTop (mkF m 171 #[.val (.long q1), .second, .val (.long q2), .second, .val (.int p3), .val (.long r1), .second, .val (.long r2), .second, .val (.ref b3), .val (.int (1 : Int32)), .val (.int (1 : Int32))] [])) _
          refine XS.iload X44.here hx rfl (hb hby at_171) rfl ?_
          exact k
        obtain ⟨fs, hr, hrun, hended, hEW⟩ := X44.leaveW (s := s) hS13 (show k13 ≤ _ by rw [e44]; omega) (v := some (.int (1 : Int32))) (fun h => by rw [Bd.returns] at h; cases h)
        refine ⟨_, _, go45 _ ?_, hrun, hended, _, _, rfl, ?_, hEW.1, hEW.2.1, hEW.2.2.1, hEW.2.2.2.mono (by decide) (by decide)⟩
        · skip
          show Steps p.tables e below (T44.setTop (mkF m 173 #[.val (.long q1), .second, .val (.long q2), .second, .val (.int p3), .val (.long r1), .second, .val (.long r2), .second, .val (.ref b3), .val (.int (1 : Int32)), .val (.int (1 : Int32))] [(.int (1 : Int32))])) _
          exact retN X44 hx (t := .boolean) Bd.returns (by simp) (hb hby at_173) hr
        · show Q_rm0 Z q1 q2 p3 wF h0 n0 _ T44.heap _
          rw [e44]
          exact ⟨rfl, N44⟩
    · skip
      obtain ⟨cq46, kq46, q46a, q46b, q46c⟩ := isOf hZ13 rfl Ec15
      obtain ⟨_, _, ⟨T46, L46, k46, n46⟩, -, X46, ⟨Lc46, hQ46, l46, y46, z46⟩, st46⟩ := X15.virtualBack hx (y := (⟨"com/example/backend_picker/backendpicker/simulator/ScenarioBackend", "failsAt", "(J)Z"⟩ : MethodName)) (z := (⟨"com/example/backend_picker/backendpicker/simulator/ScenarioBackend", "failsAt", "(J)Z"⟩ : MethodName)) hown13 (mvT hZ13 hw_47) (mvT hZ13 hw_48) (notFace_of_selects (args := #[]) (mvT hZ13 hw_50)) (mvT hZ13 hw_50) (mvT hZ13 hw_49) (by decide) (backOf (W := 0) (rmFa l Z a0 hw [] b3 r1 r2 T15.heap n0 Z15 Fc15) hZ13 hw_51 hw_9 (by decide) (by decide)) q46a q46c (g := (mkF m 87 #[.val (.long q1), .second, .val (.long q2), .second, .val (.int p3), .val (.long r1), .second, .val (.long r2), .second, .val (.ref b3), .val (.int (0 : Int32)), .unset] [(.long r1), (.ref b3)])) rfl (by rw [hml]; rfl) (Steps.refl _) (argsL := [(.long r1)]) (rest := []) (lenOf pd_3 rfl) rfl (by show 2 * 0 + _ ≤ _; exact Nat.le_of_eq rfl) (hb hby at_87) (fun _ _ => ⟨rfl, rfl, (by decide : 3 + 0 ≤ _), (by decide : 17 + 0 ≤ _)⟩)
      dsimp only [Pt.U, Pt.locs, Pt.cells, Pt.slots] at X46 l46 y46 z46 st46 hQ46
      subst l46 y46 z46
      obtain ⟨rfl, N46q, e46⟩ := hQ46
      have N46 := Fr.app N15 N46q
      have go47 : ∀ t, Steps p.tables e below (T46.setTop (mkF m 108 #[.val (.long q1), .second, .val (.long q2), .second, .val (.int p3), .val (.long r1), .second, .val (.long r2), .second, .val (.ref b3), .val (.int (0 : Int32)), .val (.int (1 : Int32))] [(.int (lcmpW r2 (-9223372036854775808 : Int64)))])) t → Steps p.tables e below (s₁.setTop (entryFrame m #[(.long q1), (.long q2), (.int p3)] maxLocals)) t := by
        intro t k
        refine go36 t ?_
        show Steps p.tables e below (T15.setTop (mkF m 71 #[.val (.long q1), .second, .val (.long q2), .second, .val (.int p3), .val (.long r1), .second, .val (.long r2), .second, .val (.ref b3), .unset, .unset] [(.int (lcmpW r1 r2))])) _
        refine XS.ifYes X15.here hx rfl (pc0 := 71) (pc' := 80) rfl (hb hby at_71) rfl ((if0 _ _).trans (flt (mt (lw_lt _ _).mp hc37)).2.1) (by decide) (by decide) ?_
        show Steps p.tables e below (T15.setTop (mkF m 80 #[.val (.long q1), .second, .val (.long q2), .second, .val (.int p3), .val (.long r1), .second, .val (.long r2), .second, .val (.ref b3), .unset, .unset] [])) _
        refine XS.iconst X15.here hx rfl (hb hby at_80) ?_
        show Steps p.tables e below (T15.setTop (mkF m 81 #[.val (.long q1), .second, .val (.long q2), .second, .val (.int p3), .val (.long r1), .second, .val (.long r2), .second, .val (.ref b3), .unset, .unset] [(.int (0 : Int32))])) _
        refine XS.istore X15.here hx rfl (hb hby at_81) rfl (l' := #[.val (.long q1), .second, .val (.long q2), .second, .val (.int p3), .val (.long r1), .second, .val (.long r2), .second, .val (.ref b3), .val (.int (0 : Int32)), .unset]) rfl ?_
        show Steps p.tables e below (T15.setTop (mkF m 83 #[.val (.long q1), .second, .val (.long q2), .second, .val (.int p3), .val (.long r1), .second, .val (.long r2), .second, .val (.ref b3), .val (.int (0 : Int32)), .unset] [])) _
        refine XS.aload X15.here hx rfl (hb hby at_83) rfl rfl ?_
        show Steps p.tables e below (T15.setTop (mkF m 85 #[.val (.long q1), .second, .val (.long q2), .second, .val (.int p3), .val (.long r1), .second, .val (.long r2), .second, .val (.ref b3), .val (.int (0 : Int32)), .unset] [(.ref b3)])) _
        refine XS.lload X15.here hx rfl (hb hby at_85) rfl ?_
        show Steps p.tables e below (T15.setTop (mkF m 87 #[.val (.long q1), .second, .val (.long q2), .second, .val (.int p3), .val (.long r1), .second, .val (.long r2), .second, .val (.ref b3), .val (.int (0 : Int32)), .unset] [(.long r1), (.ref b3)])) _
        refine st46.trans ?_
        show Steps p.tables e below (T46.setTop (mkF m 90 #[.val (.long q1), .second, .val (.long q2), .second, .val (.int p3), .val (.long r1), .second, .val (.long r2), .second, .val (.ref b3), .val (.int (0 : Int32)), .unset] [(.int (own_fa r2 r1))])) _
        refine XS.iload X46.here hx rfl (hb hby at_90) rfl ?_
        show Steps p.tables e below (T46.setTop (mkF m 92 #[.val (.long q1), .second, .val (.long q2), .second, .val (.int p3), .val (.long r1), .second, .val (.long r2), .second, .val (.ref b3), .val (.int (0 : Int32)), .unset] [(.int (0 : Int32)), (.int (own_fa r2 r1))])) _
        refine XS.icmpNo X46.here hx rfl (hb hby at_92) rfl (teq (by simp [own_fa, hc27, hc37] : (own_fa r2 r1) = (0 : Int32))).2 ?_
        show Steps p.tables e below (T46.setTop (mkF m 95 #[.val (.long q1), .second, .val (.long q2), .second, .val (.int p3), .val (.long r1), .second, .val (.long r2), .second, .val (.ref b3), .val (.int (0 : Int32)), .unset] [])) _
        refine XS.iconst X46.here hx rfl (hb hby at_95) ?_
        show Steps p.tables e below (T46.setTop (mkF m 96 #[.val (.long q1), .second, .val (.long q2), .second, .val (.int p3), .val (.long r1), .second, .val (.long r2), .second, .val (.ref b3), .val (.int (0 : Int32)), .unset] [(.int (1 : Int32))])) _
        refine XS.goto X46.here hx rfl (pc0 := 96) (pc' := 100) rfl (hb hby at_96) (by decide) (by decide) ?_
        show Steps p.tables e below (T46.setTop (mkF m 100 #[.val (.long q1), .second, .val (.long q2), .second, .val (.int p3), .val (.long r1), .second, .val (.long r2), .second, .val (.ref b3), .val (.int (0 : Int32)), .unset] [(.int (1 : Int32))])) _
        refine XS.istore X46.here hx rfl (hb hby at_100) rfl (l' := #[.val (.long q1), .second, .val (.long q2), .second, .val (.int p3), .val (.long r1), .second, .val (.long r2), .second, .val (.ref b3), .val (.int (0 : Int32)), .val (.int (1 : Int32))]) rfl ?_
        show Steps p.tables e below (T46.setTop (mkF m 102 #[.val (.long q1), .second, .val (.long q2), .second, .val (.int p3), .val (.long r1), .second, .val (.long r2), .second, .val (.ref b3), .val (.int (0 : Int32)), .val (.int (1 : Int32))] [])) _
        refine XS.lload X46.here hx rfl (hb hby at_102) rfl ?_
        show Steps p.tables e below (T46.setTop (mkF m 104 #[.val (.long q1), .second, .val (.long q2), .second, .val (.int p3), .val (.long r1), .second, .val (.long r2), .second, .val (.ref b3), .val (.int (0 : Int32)), .val (.int (1 : Int32))] [(.long r2)])) _
        refine X46.ldc2Long hx hown13 (mvT hZ13 hw_53) (g := (mkF m 104 #[.val (.long q1), .second, .val (.long q2), .second, .val (.int p3), .val (.long r1), .second, .val (.long r2), .second, .val (.ref b3), .val (.int (0 : Int32)), .val (.int (1 : Int32))] [(.long r2)])) rfl (hb hby at_104) _ ?_
        show Steps p.tables e below (T46.setTop (mkF m 107 #[.val (.long q1), .second, .val (.long q2), .second, .val (.int p3), .val (.long r1), .second, .val (.long r2), .second, .val (.ref b3), .val (.int (0 : Int32)), .val (.int (1 : Int32))] [(.long (-9223372036854775808 : Int64)), (.long r2)])) _
        refine XS.lcmp X46.here hx rfl (hb hby at_107) rfl ?_
        exact k
      by_cases hc48 : r2 = (-9223372036854775808 : Int64)
      · skip
        obtain ⟨cq49, kq49, q49a, q49b, q49c⟩ := isOf hZ13 e46 Ec15
        obtain ⟨_, _, ⟨T49, L49, k49, n49⟩, -, X49, ⟨Lc49, hQ49, l49, y49, z49⟩, st49⟩ := X46.virtualBack hx (y := (⟨"com/example/backend_picker/backendpicker/simulator/ScenarioBackend", "failsAt", "(J)Z"⟩ : MethodName)) (z := (⟨"com/example/backend_picker/backendpicker/simulator/ScenarioBackend", "failsAt", "(J)Z"⟩ : MethodName)) hown13 (mvT hZ13 hw_47) (mvT hZ13 hw_48) (notFace_of_selects (args := #[]) (mvT hZ13 hw_50)) (mvT hZ13 hw_50) (mvT hZ13 hw_49) (by decide) (backOf (W := 0) (rmFa l Z a0 hw [] b3 r2 r2 T15.heap n0 Z15 Fc15) hZ13 hw_51 hw_9 (by decide) (by decide)) q49a q49c (g := (mkF m 144 #[.val (.long q1), .second, .val (.long q2), .second, .val (.int p3), .val (.long r1), .second, .val (.long r2), .second, .val (.ref b3), .val (.int (0 : Int32)), .val (.int (1 : Int32))] [(.long r2), (.ref b3)])) rfl (by rw [hml]; rfl) (Steps.refl _) (argsL := [(.long r2)]) (rest := []) (lenOf pd_3 rfl) rfl (by show 2 * 0 + _ ≤ _; exact Nat.le_of_eq rfl) (hb hby at_144) (fun _ _ => ⟨rfl, e46, (by decide : 3 + 0 ≤ _), (by decide : 17 + 0 ≤ _)⟩)
        dsimp only [Pt.U, Pt.locs, Pt.cells, Pt.slots] at X49 l49 y49 z49 st49 hQ49
        subst l49 y49 z49
        obtain ⟨rfl, N49q, e49⟩ := hQ49
        have N49 := Fr.app N46 N49q
        have go50 : ∀ t, Steps p.tables e below (T49.setTop (mkF m 173 #[.val (.long q1), .second, .val (.long q2), .second, .val (.int p3), .val (.long r1), .second, .val (.long r2), .second, .val (.ref b3), .val (.int (0 : Int32)), .val (.int (1 : Int32))] [(.int (1 : Int32))])) t → Steps p.tables e below (s₁.setTop (entryFrame m #[(.long q1), (.long q2), (.int p3)] maxLocals)) t := by
          intro t k
          refine go47 t ?_
          show Steps p.tables e below (T46.setTop (mkF m 108 #[.val (.long q1), .second, .val (.long q2), .second, .val (.int p3), .val (.long r1), .second, .val (.long r2), .second, .val (.ref b3), .val (.int (0 : Int32)), .val (.int (1 : Int32))] [(.int (lcmpW r2 (-9223372036854775808 : Int64)))])) _
          refine XS.ifYes X46.here hx rfl (pc0 := 108) (pc' := 135) rfl (hb hby at_108) rfl ((if0 _ _).trans (teq ((lw_eq _ _).mpr hc48)).1) (by decide) (by decide) ?_
          show Steps p.tables e below (T46.setTop (mkF m 135 #[.val (.long q1), .second, .val (.long q2), .second, .val (.int p3), .val (.long r1), .second, .val (.long r2), .second, .val (.ref b3), .val (.int (0 : Int32)), .val (.int (1 : Int32))] [])) _
          refine XS.iload X46.here hx rfl (hb hby at_135) rfl ?_
          show Steps p.tables e below (T46.setTop (mkF m 137 #[.val (.long q1), .second, .val (.long q2), .second, .val (.int p3), .val (.long r1), .second, .val (.long r2), .second, .val (.ref b3), .val (.int (0 : Int32)), .val (.int (1 : Int32))] [(.int (1 : Int32))])) _
          refine XS.ifNo X46.here hx rfl (hb hby at_137) rfl ((if0 _ _).trans (feq (by decide : ¬ ((1 : Int32) = (0 : Int32)))).1) ?_
          show Steps p.tables e below (T46.setTop (mkF m 140 #[.val (.long q1), .second, .val (.long q2), .second, .val (.int p3), .val (.long r1), .second, .val (.long r2), .second, .val (.ref b3), .val (.int (0 : Int32)), .val (.int (1 : Int32))] [])) _
          refine XS.aload X46.here hx rfl (hb hby at_140) rfl rfl ?_
          show Steps p.tables e below (T46.setTop (mkF m 142 #[.val (.long q1), .second, .val (.long q2), .second, .val (.int p3), .val (.long r1), .second, .val (.long r2), .second, .val (.ref b3), .val (.int (0 : Int32)), .val (.int (1 : Int32))] [(.ref b3)])) _
          refine XS.lload X46.here hx rfl (hb hby at_142) rfl ?_
          show Steps p.tables e below (T46.setTop (mkF m 144 #[.val (.long q1), .second, .val (.long q2), .second, .val (.int p3), .val (.long r1), .second, .val (.long r2), .second, .val (.ref b3), .val (.int (0 : Int32)), .val (.int (1 : Int32))] [(.long r2), (.ref b3)])) _
          refine st49.trans ?_
          show Steps p.tables e below (T49.setTop (mkF m 147 #[.val (.long q1), .second, .val (.long q2), .second, .val (.int p3), .val (.long r1), .second, .val (.long r2), .second, .val (.ref b3), .val (.int (0 : Int32)), .val (.int (1 : Int32))] [(.int (own_fa r2 r2))])) _
          refine XS.lload X49.here hx rfl (hb hby at_147) rfl ?_
          show Steps p.tables e below (T49.setTop (mkF m 149 #[.val (.long q1), .second, .val (.long q2), .second, .val (.int p3), .val (.long r1), .second, .val (.long r2), .second, .val (.ref b3), .val (.int (0 : Int32)), .val (.int (1 : Int32))] [(.long r2), (.int (own_fa r2 r2))])) _
          refine X49.ldc2Long hx hown13 (mvT hZ13 hw_22) (g := (mkF m 149 #[.val (.long q1), .second, .val (.long q2), .second, .val (.int p3), .val (.long r1), .second, .val (.long r2), .second, .val (.ref b3), .val (.int (0 : Int32)), .val (.int (1 : Int32))] [(.long r2), (.int (own_fa r2 r2))])) rfl (hb hby at_149) _ ?_
          show Steps p.tables e below (T49.setTop (mkF m 152 #[.val (.long q1), .second, .val (.long q2), .second, .val (.int p3), .val (.long r1), .second, .val (.long r2), .second, .val (.ref b3), .val (.int (0 : Int32)), .val (.int (1 : Int32))] [(.long (9223372036854775807 : Int64)), (.long r2), (.int (own_fa r2 r2))])) _
          refine XS.lcmp X49.here hx rfl (hb hby at_152) rfl ?_
          show Steps p.tables e below (T49.setTop (mkF m 153 #[.val (.long q1), .second, .val (.long q2), .second, .val (.int p3), .val (.long r1), .second, .val (.long r2), .second, .val (.ref b3), .val (.int (0 : Int32)), .val (.int (1 : Int32))] [(.int (lcmpW r2 (9223372036854775807 : Int64))), (.int (own_fa r2 r2))])) _
          refine XS.ifYes X49.here hx rfl (pc0 := 153) (pc' := 160) rfl (hb hby at_153) rfl ((if0 _ _).trans (feq (mt (lw_eq _ _).mp hc27)).2) (by decide) (by decide) ?_
          show Steps p.tables e below (T49.setTop (mkF m 160 #[.val (.long q1), .second, .val (.long q2), .second, .val (.int p3), .val (.long r1), .second, .val (.long r2), .second, .val (.ref b3), .val (.int (0 : Int32)), .val (.int (1 : Int32))] [(.int (own_fa r2 r2))])) _
          refine XS.iconst X49.here hx rfl (hb hby at_160) ?_
          show Steps p.tables e below (T49.setTop (mkF m 161 #[.val (.long q1), .second, .val (.long q2), .second, .val (.int p3), .val (.long r1), .second, .val (.long r2), .second, .val (.ref b3), .val (.int (0 : Int32)), .val (.int (1 : Int32))] [(.int (0 : Int32)), (.int (own_fa r2 r2))])) _
          refine XS.icmpNo X49.here hx rfl (hb hby at_161) rfl (teq (by simp [own_fa, hc27, own_irr] : (own_fa r2 r2) = (0 : Int32))).2 ?_
          show Steps p.tables e below (T49.setTop (mkF m 164 #[.val (.long q1), .second, .val (.long q2), .second, .val (.int p3), .val (.long r1), .second, .val (.long r2), .second, .val (.ref b3), .val (.int (0 : Int32)), .val (.int (1 : Int32))] [])) _
          refine XS.iconst X49.here hx rfl (hb hby at_164) ?_
          show Steps p.tables e below (T49.setTop (mkF m 165 #[.val (.long q1), .second, .val (.long q2), .second, .val (.int p3), .val (.long r1), .second, .val (.long r2), .second, .val (.ref b3), .val (.int (0 : Int32)), .val (.int (1 : Int32))] [(.int (1 : Int32))])) _
          refine XS.goto X49.here hx rfl (pc0 := 165) (pc' := 169) rfl (hb hby at_165) (by decide) (by decide) ?_
          show Steps p.tables e below (T49.setTop (mkF m 169 #[.val (.long q1), .second, .val (.long q2), .second, .val (.int p3), .val (.long r1), .second, .val (.long r2), .second, .val (.ref b3), .val (.int (0 : Int32)), .val (.int (1 : Int32))] [(.int (1 : Int32))])) _
          refine XS.istore X49.here hx rfl (hb hby at_169) rfl (l' := #[.val (.long q1), .second, .val (.long q2), .second, .val (.int p3), .val (.long r1), .second, .val (.long r2), .second, .val (.ref b3), .val (.int (0 : Int32)), .val (.int (1 : Int32))]) rfl ?_
          show Steps p.tables e below (T49.setTop (mkF m 171 #[.val (.long q1), .second, .val (.long q2), .second, .val (.int p3), .val (.long r1), .second, .val (.long r2), .second, .val (.ref b3), .val (.int (0 : Int32)), .val (.int (1 : Int32))] [])) _
          refine XS.iload X49.here hx rfl (hb hby at_171) rfl ?_
          exact k
        obtain ⟨fs, hr, hrun, hended, hEW⟩ := X49.leaveW (s := s) hS13 (show k13 ≤ _ by rw [e49]; omega) (v := some (.int (1 : Int32))) (fun h => by rw [Bd.returns] at h; cases h)
        refine ⟨_, _, go50 _ ?_, hrun, hended, _, _, rfl, ?_, hEW.1, hEW.2.1, hEW.2.2.1, hEW.2.2.2.mono (by decide) (by decide)⟩
        · skip
          show Steps p.tables e below (T49.setTop (mkF m 173 #[.val (.long q1), .second, .val (.long q2), .second, .val (.int p3), .val (.long r1), .second, .val (.long r2), .second, .val (.ref b3), .val (.int (0 : Int32)), .val (.int (1 : Int32))] [(.int (1 : Int32))])) _
          exact retN X49 hx (t := .boolean) Bd.returns (by simp) (hb hby at_173) hr
        · show Q_rm0 Z q1 q2 p3 wF h0 n0 _ T49.heap _
          rw [e49]
          exact ⟨rfl, N49⟩
      · skip
        obtain ⟨cq51, kq51, q51a, q51b, q51c⟩ := isOf hZ13 e46 Ec15
        obtain ⟨_, _, ⟨T51, L51, k51, n51⟩, -, X51, ⟨Lc51, hQ51, l51, y51, z51⟩, st51⟩ := X46.virtualBack hx (y := (⟨"com/example/backend_picker/backendpicker/simulator/ScenarioBackend", "failsAt", "(J)Z"⟩ : MethodName)) (z := (⟨"com/example/backend_picker/backendpicker/simulator/ScenarioBackend", "failsAt", "(J)Z"⟩ : MethodName)) hown13 (mvT hZ13 hw_47) (mvT hZ13 hw_48) (notFace_of_selects (args := #[]) (mvT hZ13 hw_50)) (mvT hZ13 hw_50) (mvT hZ13 hw_49) (by decide) (backOf (W := 0) (rmFa l Z a0 hw [] b3 (r2 - (1 : Int64)) r2 T15.heap n0 Z15 Fc15) hZ13 hw_51 hw_9 (by decide) (by decide)) q51a q51c (g := (mkF m 122 #[.val (.long q1), .second, .val (.long q2), .second, .val (.int p3), .val (.long r1), .second, .val (.long r2), .second, .val (.ref b3), .val (.int (0 : Int32)), .val (.int (1 : Int32))] [(.long (r2 - (1 : Int64))), (.ref b3)])) rfl (by rw [hml]; rfl) (Steps.refl _) (argsL := [(.long (r2 - (1 : Int64)))]) (rest := []) (lenOf pd_3 rfl) rfl (by show 2 * 0 + _ ≤ _; exact Nat.le_of_eq rfl) (hb hby at_122) (fun _ _ => ⟨rfl, e46, (by decide : 3 + 0 ≤ _), (by decide : 17 + 0 ≤ _)⟩)
        dsimp only [Pt.U, Pt.locs, Pt.cells, Pt.slots] at X51 l51 y51 z51 st51 hQ51
        subst l51 y51 z51
        obtain ⟨rfl, N51q, e51⟩ := hQ51
        have N51 := Fr.app N46 N51q
        obtain ⟨cq52, kq52, q52a, q52b, q52c⟩ := isOf hZ13 e51 Ec15
        obtain ⟨_, _, ⟨T52, L52, k52, n52⟩, -, X52, ⟨Lc52, hQ52, l52, y52, z52⟩, st52⟩ := X51.virtualBack hx (y := (⟨"com/example/backend_picker/backendpicker/simulator/ScenarioBackend", "failsAt", "(J)Z"⟩ : MethodName)) (z := (⟨"com/example/backend_picker/backendpicker/simulator/ScenarioBackend", "failsAt", "(J)Z"⟩ : MethodName)) hown13 (mvT hZ13 hw_47) (mvT hZ13 hw_48) (notFace_of_selects (args := #[]) (mvT hZ13 hw_50)) (mvT hZ13 hw_50) (mvT hZ13 hw_49) (by decide) (backOf (W := 0) (rmFa l Z a0 hw [] b3 r2 r2 T15.heap n0 Z15 Fc15) hZ13 hw_51 hw_9 (by decide) (by decide)) q52a q52c (g := (mkF m 144 #[.val (.long q1), .second, .val (.long q2), .second, .val (.int p3), .val (.long r1), .second, .val (.long r2), .second, .val (.ref b3), .val (.int (0 : Int32)), .val (.int (1 : Int32))] [(.long r2), (.ref b3)])) rfl (by rw [hml]; rfl) (Steps.refl _) (argsL := [(.long r2)]) (rest := []) (lenOf pd_3 rfl) rfl (by show 2 * 0 + _ ≤ _; exact Nat.le_of_eq rfl) (hb hby at_144) (fun _ _ => ⟨rfl, e51, (by decide : 3 + 0 ≤ _), (by decide : 17 + 0 ≤ _)⟩)
        dsimp only [Pt.U, Pt.locs, Pt.cells, Pt.slots] at X52 l52 y52 z52 st52 hQ52
        subst l52 y52 z52
        obtain ⟨rfl, N52q, e52⟩ := hQ52
        have N52 := Fr.app N51 N52q
        have go53 : ∀ t, Steps p.tables e below (T52.setTop (mkF m 173 #[.val (.long q1), .second, .val (.long q2), .second, .val (.int p3), .val (.long r1), .second, .val (.long r2), .second, .val (.ref b3), .val (.int (0 : Int32)), .val (.int (1 : Int32))] [(.int (1 : Int32))])) t → Steps p.tables e below (s₁.setTop (entryFrame m #[(.long q1), (.long q2), (.int p3)] maxLocals)) t := by
          intro t k
          refine go47 t ?_
          show Steps p.tables e below (T46.setTop (mkF m 108 #[.val (.long q1), .second, .val (.long q2), .second, .val (.int p3), .val (.long r1), .second, .val (.long r2), .second, .val (.ref b3), .val (.int (0 : Int32)), .val (.int (1 : Int32))] [(.int (lcmpW r2 (-9223372036854775808 : Int64)))])) _
          refine XS.ifNo X46.here hx rfl (hb hby at_108) rfl ((if0 _ _).trans (feq (mt (lw_eq _ _).mp hc48)).1) ?_
          show Steps p.tables e below (T46.setTop (mkF m 111 #[.val (.long q1), .second, .val (.long q2), .second, .val (.int p3), .val (.long r1), .second, .val (.long r2), .second, .val (.ref b3), .val (.int (0 : Int32)), .val (.int (1 : Int32))] [])) _
          refine XS.iload X46.here hx rfl (hb hby at_111) rfl ?_
          show Steps p.tables e below (T46.setTop (mkF m 113 #[.val (.long q1), .second, .val (.long q2), .second, .val (.int p3), .val (.long r1), .second, .val (.long r2), .second, .val (.ref b3), .val (.int (0 : Int32)), .val (.int (1 : Int32))] [(.int (1 : Int32))])) _
          refine XS.ifNo X46.here hx rfl (hb hby at_113) rfl ((if0 _ _).trans (feq (by decide : ¬ ((1 : Int32) = (0 : Int32)))).1) ?_
          show Steps p.tables e below (T46.setTop (mkF m 116 #[.val (.long q1), .second, .val (.long q2), .second, .val (.int p3), .val (.long r1), .second, .val (.long r2), .second, .val (.ref b3), .val (.int (0 : Int32)), .val (.int (1 : Int32))] [])) _
          refine XS.aload X46.here hx rfl (hb hby at_116) rfl rfl ?_
          show Steps p.tables e below (T46.setTop (mkF m 118 #[.val (.long q1), .second, .val (.long q2), .second, .val (.int p3), .val (.long r1), .second, .val (.long r2), .second, .val (.ref b3), .val (.int (0 : Int32)), .val (.int (1 : Int32))] [(.ref b3)])) _
          refine XS.lload X46.here hx rfl (hb hby at_118) rfl ?_
          show Steps p.tables e below (T46.setTop (mkF m 120 #[.val (.long q1), .second, .val (.long q2), .second, .val (.int p3), .val (.long r1), .second, .val (.long r2), .second, .val (.ref b3), .val (.int (0 : Int32)), .val (.int (1 : Int32))] [(.long r2), (.ref b3)])) _
          refine XS.lconst X46.here hx rfl (hb hby at_120) ?_
          show Steps p.tables e below (T46.setTop (mkF m 121 #[.val (.long q1), .second, .val (.long q2), .second, .val (.int p3), .val (.long r1), .second, .val (.long r2), .second, .val (.ref b3), .val (.int (0 : Int32)), .val (.int (1 : Int32))] [(.long (1 : Int64)), (.long r2), (.ref b3)])) _
          refine XS.lsub X46.here hx rfl (hb hby at_121) rfl ?_
          show Steps p.tables e below (T46.setTop (mkF m 122 #[.val (.long q1), .second, .val (.long q2), .second, .val (.int p3), .val (.long r1), .second, .val (.long r2), .second, .val (.ref b3), .val (.int (0 : Int32)), .val (.int (1 : Int32))] [(.long (r2 - (1 : Int64))), (.ref b3)])) _
          refine st51.trans ?_
          show Steps p.tables e below (T51.setTop (mkF m 125 #[.val (.long q1), .second, .val (.long q2), .second, .val (.int p3), .val (.long r1), .second, .val (.long r2), .second, .val (.ref b3), .val (.int (0 : Int32)), .val (.int (1 : Int32))] [(.int (own_fa r2 (r2 - (1 : Int64))))])) _
          refine XS.ifNo X51.here hx rfl (hb hby at_125) rfl ((if0 _ _).trans (feq (by simp [own_fa, hc27, own_pred hc48] : ¬ ((own_fa r2 (r2 - (1 : Int64))) = (0 : Int32)))).1) ?_
          show Steps p.tables e below (T51.setTop (mkF m 128 #[.val (.long q1), .second, .val (.long q2), .second, .val (.int p3), .val (.long r1), .second, .val (.long r2), .second, .val (.ref b3), .val (.int (0 : Int32)), .val (.int (1 : Int32))] [])) _
          refine XS.iconst X51.here hx rfl (hb hby at_128) ?_
          show Steps p.tables e below (T51.setTop (mkF m 129 #[.val (.long q1), .second, .val (.long q2), .second, .val (.int p3), .val (.long r1), .second, .val (.long r2), .second, .val (.ref b3), .val (.int (0 : Int32)), .val (.int (1 : Int32))] [(.int (1 : Int32))])) _
          refine XS.goto X51.here hx rfl (pc0 := 129) (pc' := 133) rfl (hb hby at_129) (by decide) (by decide) ?_
          show Steps p.tables e below (T51.setTop (mkF m 133 #[.val (.long q1), .second, .val (.long q2), .second, .val (.int p3), .val (.long r1), .second, .val (.long r2), .second, .val (.ref b3), .val (.int (0 : Int32)), .val (.int (1 : Int32))] [(.int (1 : Int32))])) _
          refine XS.istore X51.here hx rfl (hb hby at_133) rfl (l' := #[.val (.long q1), .second, .val (.long q2), .second, .val (.int p3), .val (.long r1), .second, .val (.long r2), .second, .val (.ref b3), .val (.int (0 : Int32)), .val (.int (1 : Int32))]) rfl ?_
          show Steps p.tables e below (T51.setTop (mkF m 135 #[.val (.long q1), .second, .val (.long q2), .second, .val (.int p3), .val (.long r1), .second, .val (.long r2), .second, .val (.ref b3), .val (.int (0 : Int32)), .val (.int (1 : Int32))] [])) _
          refine XS.iload X51.here hx rfl (hb hby at_135) rfl ?_
          show Steps p.tables e below (T51.setTop (mkF m 137 #[.val (.long q1), .second, .val (.long q2), .second, .val (.int p3), .val (.long r1), .second, .val (.long r2), .second, .val (.ref b3), .val (.int (0 : Int32)), .val (.int (1 : Int32))] [(.int (1 : Int32))])) _
          refine XS.ifNo X51.here hx rfl (hb hby at_137) rfl ((if0 _ _).trans (feq (by decide : ¬ ((1 : Int32) = (0 : Int32)))).1) ?_
          show Steps p.tables e below (T51.setTop (mkF m 140 #[.val (.long q1), .second, .val (.long q2), .second, .val (.int p3), .val (.long r1), .second, .val (.long r2), .second, .val (.ref b3), .val (.int (0 : Int32)), .val (.int (1 : Int32))] [])) _
          refine XS.aload X51.here hx rfl (hb hby at_140) rfl rfl ?_
          show Steps p.tables e below (T51.setTop (mkF m 142 #[.val (.long q1), .second, .val (.long q2), .second, .val (.int p3), .val (.long r1), .second, .val (.long r2), .second, .val (.ref b3), .val (.int (0 : Int32)), .val (.int (1 : Int32))] [(.ref b3)])) _
          refine XS.lload X51.here hx rfl (hb hby at_142) rfl ?_
          show Steps p.tables e below (T51.setTop (mkF m 144 #[.val (.long q1), .second, .val (.long q2), .second, .val (.int p3), .val (.long r1), .second, .val (.long r2), .second, .val (.ref b3), .val (.int (0 : Int32)), .val (.int (1 : Int32))] [(.long r2), (.ref b3)])) _
          refine st52.trans ?_
          show Steps p.tables e below (T52.setTop (mkF m 147 #[.val (.long q1), .second, .val (.long q2), .second, .val (.int p3), .val (.long r1), .second, .val (.long r2), .second, .val (.ref b3), .val (.int (0 : Int32)), .val (.int (1 : Int32))] [(.int (own_fa r2 r2))])) _
          refine XS.lload X52.here hx rfl (hb hby at_147) rfl ?_
          show Steps p.tables e below (T52.setTop (mkF m 149 #[.val (.long q1), .second, .val (.long q2), .second, .val (.int p3), .val (.long r1), .second, .val (.long r2), .second, .val (.ref b3), .val (.int (0 : Int32)), .val (.int (1 : Int32))] [(.long r2), (.int (own_fa r2 r2))])) _
          refine X52.ldc2Long hx hown13 (mvT hZ13 hw_22) (g := (mkF m 149 #[.val (.long q1), .second, .val (.long q2), .second, .val (.int p3), .val (.long r1), .second, .val (.long r2), .second, .val (.ref b3), .val (.int (0 : Int32)), .val (.int (1 : Int32))] [(.long r2), (.int (own_fa r2 r2))])) rfl (hb hby at_149) _ ?_
          show Steps p.tables e below (T52.setTop (mkF m 152 #[.val (.long q1), .second, .val (.long q2), .second, .val (.int p3), .val (.long r1), .second, .val (.long r2), .second, .val (.ref b3), .val (.int (0 : Int32)), .val (.int (1 : Int32))] [(.long (9223372036854775807 : Int64)), (.long r2), (.int (own_fa r2 r2))])) _
          refine XS.lcmp X52.here hx rfl (hb hby at_152) rfl ?_
          show Steps p.tables e below (T52.setTop (mkF m 153 #[.val (.long q1), .second, .val (.long q2), .second, .val (.int p3), .val (.long r1), .second, .val (.long r2), .second, .val (.ref b3), .val (.int (0 : Int32)), .val (.int (1 : Int32))] [(.int (lcmpW r2 (9223372036854775807 : Int64))), (.int (own_fa r2 r2))])) _
          refine XS.ifYes X52.here hx rfl (pc0 := 153) (pc' := 160) rfl (hb hby at_153) rfl ((if0 _ _).trans (feq (mt (lw_eq _ _).mp hc27)).2) (by decide) (by decide) ?_
          show Steps p.tables e below (T52.setTop (mkF m 160 #[.val (.long q1), .second, .val (.long q2), .second, .val (.int p3), .val (.long r1), .second, .val (.long r2), .second, .val (.ref b3), .val (.int (0 : Int32)), .val (.int (1 : Int32))] [(.int (own_fa r2 r2))])) _
          refine XS.iconst X52.here hx rfl (hb hby at_160) ?_
          show Steps p.tables e below (T52.setTop (mkF m 161 #[.val (.long q1), .second, .val (.long q2), .second, .val (.int p3), .val (.long r1), .second, .val (.long r2), .second, .val (.ref b3), .val (.int (0 : Int32)), .val (.int (1 : Int32))] [(.int (0 : Int32)), (.int (own_fa r2 r2))])) _
          refine XS.icmpNo X52.here hx rfl (hb hby at_161) rfl (teq (by simp [own_fa, hc27, own_irr] : (own_fa r2 r2) = (0 : Int32))).2 ?_
          show Steps p.tables e below (T52.setTop (mkF m 164 #[.val (.long q1), .second, .val (.long q2), .second, .val (.int p3), .val (.long r1), .second, .val (.long r2), .second, .val (.ref b3), .val (.int (0 : Int32)), .val (.int (1 : Int32))] [])) _
          refine XS.iconst X52.here hx rfl (hb hby at_164) ?_
          show Steps p.tables e below (T52.setTop (mkF m 165 #[.val (.long q1), .second, .val (.long q2), .second, .val (.int p3), .val (.long r1), .second, .val (.long r2), .second, .val (.ref b3), .val (.int (0 : Int32)), .val (.int (1 : Int32))] [(.int (1 : Int32))])) _
          refine XS.goto X52.here hx rfl (pc0 := 165) (pc' := 169) rfl (hb hby at_165) (by decide) (by decide) ?_
          show Steps p.tables e below (T52.setTop (mkF m 169 #[.val (.long q1), .second, .val (.long q2), .second, .val (.int p3), .val (.long r1), .second, .val (.long r2), .second, .val (.ref b3), .val (.int (0 : Int32)), .val (.int (1 : Int32))] [(.int (1 : Int32))])) _
          refine XS.istore X52.here hx rfl (hb hby at_169) rfl (l' := #[.val (.long q1), .second, .val (.long q2), .second, .val (.int p3), .val (.long r1), .second, .val (.long r2), .second, .val (.ref b3), .val (.int (0 : Int32)), .val (.int (1 : Int32))]) rfl ?_
          show Steps p.tables e below (T52.setTop (mkF m 171 #[.val (.long q1), .second, .val (.long q2), .second, .val (.int p3), .val (.long r1), .second, .val (.long r2), .second, .val (.ref b3), .val (.int (0 : Int32)), .val (.int (1 : Int32))] [])) _
          refine XS.iload X52.here hx rfl (hb hby at_171) rfl ?_
          exact k
        obtain ⟨fs, hr, hrun, hended, hEW⟩ := X52.leaveW (s := s) hS13 (show k13 ≤ _ by rw [e52]; omega) (v := some (.int (1 : Int32))) (fun h => by rw [Bd.returns] at h; cases h)
        refine ⟨_, _, go53 _ ?_, hrun, hended, _, _, rfl, ?_, hEW.1, hEW.2.1, hEW.2.2.1, hEW.2.2.2.mono (by decide) (by decide)⟩
        · skip
          show Steps p.tables e below (T52.setTop (mkF m 173 #[.val (.long q1), .second, .val (.long q2), .second, .val (.int p3), .val (.long r1), .second, .val (.long r2), .second, .val (.ref b3), .val (.int (0 : Int32)), .val (.int (1 : Int32))] [(.int (1 : Int32))])) _
          exact retN X52 hx (t := .boolean) Bd.returns (by simp) (hb hby at_173) hr
        · show Q_rm0 Z q1 q2 p3 wF h0 n0 _ T52.heap _
          rw [e52]
          exact ⟨rfl, N52⟩
set_option maxRecDepth 65536 in
set_option maxHeartbeats 40000000 in
theorem comes_1 {Post : Tables → Env → Array Value → State → Outcome → State → Prop} (hpost : ∀ tb e args s v u, (limb_1_1.after args s (.returned v) u = true ∧ limb_1_2.after args s (.returned v) u = true ∧ True) → FramedW s (.returned v) u (Jvm.fieldLocs frame_1_writes args s ++ Jvm.arrayLocs frame_1_arrays args s ++ Jvm.staticLocs frame_1_statics s) 16 1152 → Post tb e args s (.returned v) u) :
    ArmFor flags0 classFile x code maxLocals ret World_1 tables_1 room_1 Calls_1 rest_1 Pre_1 Post := by
  intro l hfl _ _ p e ha hc hk s m args below hf hA hF happ hP
  obtain ⟨hcalls, hrest, hpre⟩ := hP
  obtain ⟨-, -, -, hnamed, -, -, -, hat⟩ := (Spec.applies_iff hf).mp happ
  obtain ⟨hg, hn⟩ := and_e (Cond.before_iff.mp (show (Jvm.Cond.and given_1 narrow_1).before args s = true from hpre))
  obtain ⟨gc, hg⟩ := and_e hg
  obtain ⟨gk0, hg⟩ := and_e hg
  obtain ⟨gk1, hg⟩ := and_e hg
  have gk2 := hg
  obtain ⟨w0, w1, w2, rfl⟩ : ∃ w0 w1 w2 : Value, args = #[w0, w1, w2] := by
    have hs : args.size = 3 := by simpa [Cond.value, given_1] using gc
    obtain ⟨L⟩ := args
    match L, hs with
    | [w0, w1, w2], _ => exact ⟨w0, w1, w2, rfl⟩
  have hw := fun d (hd : d ∈ tables_1) => atoms_spec (ws := Jvm.Cond.code x code maxLocals ret :: tables_1) hat d (List.mem_cons_of_mem _ hd)
  have hfit : Fit s := fun {y c} hc i hi => by
    obtain ⟨ha, rfl⟩ := Array.getElem?_eq_some_iff.mp hc
    have q := List.all_eq_true.mp ((Array.all_eq_true_iff_forall_mem.mp hF) _ (Array.getElem_mem ha)) i (List.mem_range.mpr hi)
    simpa [Array.getElem?_eq_getElem hi] using q
  obtain ⟨i0, ei0⟩ := isL_v gk0
  obtain rfl : w0 = (.long i0) := Option.some.inj ei0
  obtain ⟨i1, ei1⟩ := isL_v gk1
  obtain rfl : w1 = (.long i1) := Option.some.inj ei1
  obtain ⟨i2, ei2⟩ := is_v gk2
  obtain rfl : w2 = (.int i2) := Option.some.inj ei2
  have x0 := hn
  obtain ⟨w_FIXED, ev_FIXED⟩ := exa_v x0
  have E_FIXED := Exa.start ev_FIXED x0
  have S_FIXED := Sta.start ev_FIXED (Or.inr ⟨(hw _ (List.mem_of_getElem? (i := 19) rfl)), (hw _ (List.mem_of_getElem? (i := 20) rfl))⟩)
  obtain ⟨n, o, h1, h2, h3, _, L, rfl, ⟨rfl, N⟩, hq⟩ := rm0 l s _ hw tables_1 i0 i1 i2 w_FIXED s.heap s.heap.size (Nat.le_refl _) S_FIXED (Old.start s) p e ha hc hk s m _ below hf ((Spec.applies_iff_loose hf).mp happ).1 ⟨rfl, State.Warmed39.refl s, rfl⟩ trivial
  refine ⟨n, _, h1, h2, h3, hpost _ _ _ _ _ _ ⟨Cond.after_iff.mpr rfl, Cond.after_iff.mpr (eq_i res_at (Term.int_eval (1)) rfl), trivial⟩ ⟨hq.1, hq.2.1, hq.2.2.1, (hq.2.2.2.sift fun y hy => Or.inr (N y hy)).mono (by decide) (by decide)⟩⟩
theorem main_1_1 : Claimed_1_1 := comes_1 fun _ _ _ _ _ _ h hF => ⟨h.1, hF⟩
theorem main_1_2 : Claimed_1_2 := comes_1 fun _ _ _ _ _ _ h hF => ⟨h.2.1, hF⟩
end Jvm.Pilot.@@N@@
namespace Jvm.Pilot.@@N@@
open Jvm Jvm.ClassFile Sem Op Lib Jvm.Free Jvm.Stand Jvm.Pilot.@@N@@.Jvm.D
/-! MADE BY PROGRAM (witnessworld.py) out of the Statement's table words and the real class files: 15 classes; the members and pool entries that the words name. The judged class is class 1, her method 3. -/
namespace start1
open Jvm.ClassFile
def u (s : String) : CpInfo := .utf8 (stringToUtf16 s)
/-- a pool by its gaps: so many unusable entries, then the entry; so many at the end -/
def gap : Nat → List CpInfo → List CpInfo
  | 0, r => r
  | n + 1, r => .unusable :: gap n r
def poolList (es : List (Nat × CpInfo)) (last : Nat) : List CpInfo := es.foldr (fun e r => gap e.1 (e.2 :: r)) (gap last [])
def pool (es : List (Nat × CpInfo)) (last : Nat) : Array CpInfo := ⟨poolList es last⟩
def fileOf (pool : Array CpInfo) (this : Nat) (attrs : Array Attribute := #[]) (ms : Array MethodInfo := #[]) (fl : Nat := 33) (sup : Nat := 0) (ifs : Array Nat := #[]) (fds : Array FieldInfo := #[]) : ClassFile where
  minorVersion := 0
  majorVersion := 65
  constantPool := pool
  accessFlags := fl
  thisClass := this
  superClass := sup
  interfaces := ifs
  fields := fds
  methods := ms
  attributes := attrs
def plain (name : String) (sup : Option ClassId) : Class where
  name := name
  kind := .ordinary
  loader := none
  accessFlags := 33
  super := sup
  interfaces := #[]
  cf := none
  fields := #[]
  methods := #[]
  instanceTypes := #[]
  staticTypes := #[]
  resolved := #[]
  callSites := []
  init := .initialized
  statics := none
  mirror := none

def pool0 : Array CpInfo := pool [(5, u "<init>"), (0, u "()V"), (1, .class_ 10), (1, u "java/lang/Object")] 113

def k0c0 : Code := { maxStack := 0, maxLocals := 1, code := object_method_1_code, exceptionTable := #[], attributes := #[] }
def k0m0 : Method := { name := "<init>", desc := "()V", sig := { parameters := [], returnType := none }, accessFlags := 1, code := some k0c0 }
/-- java/lang/Object -/
def k0 : Class := { plain "java/lang/Object" none with
  accessFlags := 33
  interfaces := #[]
  cf := some (fileOf pool0 8 #[] #[{ accessFlags := 1, nameIndex := 5, descriptorIndex := 6, attributes := #[] }] 33 0 #[] #[])
  fields := #[]
  methods := #[k0m0]
  instanceTypes := #[]
  staticTypes := #[]
  resolved := Array.replicate 124 none
  statics := none }

def pool1 : Array CpInfo := pool [(2, .class_ 4), (1, u "java/lang/Object"), (0, u "<init>"), (0, u "()V"), (2, .long 9223372036854775807), (1, .long 9223372036854775808), (1, .methodref 14 15), (0, .class_ 16), (0, .nameAndType 17 18), (0, u "com/example/backend_picker/backendpicker/simulator/ScenarioBackendFailsAtPinLaw"), (0, u "pickNow"), (0, u "(JI)J"), (0, .methodref 14 20), (0, .nameAndType 21 22), (0, u "pickUntil"), (0, u "(JJI)J"), (0, .class_ 24), (0, u "com/example/backend_picker/backendpicker/simulator/ScenarioBackend"), (0, .string 26), (0, u "b"), (0, .fieldref 28 29), (0, .class_ 30), (0, .nameAndType 31 32), (0, u "com/example/backend_picker/backendpicker/simulator/ServiceLaw"), (0, u "FIXED"), (0, u "Lcom/example/backend_picker/backendpicker/simulator/ServiceLaw;"), (0, .long 18446744073709551615), (1, .methodref 23 36), (0, .nameAndType 5 37), (0, u "(Ljava/lang/String;Lcom/example/backend_picker/backendpicker/simulator/ServiceLaw;JJJJJJJ)V"), (0, .methodref 23 39), (0, .nameAndType 40 41), (0, u "failsAt"), (0, u "(J)Z"), (3, u "law"), (0, u "(JJI)Z")] 2

def k1m0 : Method := { name := "<init>", desc := "()V", sig := { parameters := [], returnType := none }, accessFlags := 2, code := none }
def k1c1 : Code := { maxStack := 2, maxLocals := 3, code := method_2_code, exceptionTable := #[], attributes := #[] }
def k1m1 : Method := { name := "pickNow", desc := "(JI)J", sig := { parameters := [.long, .int], returnType := some .long }, accessFlags := 10, code := some k1c1 }
def k1c2 : Code := { maxStack := 4, maxLocals := 5, code := method_3_code, exceptionTable := #[], attributes := #[] }
def k1m2 : Method := { name := "pickUntil", desc := "(JJI)J", sig := { parameters := [.long, .long, .int], returnType := some .long }, accessFlags := 10, code := some k1c2 }
def k1c3 : Code := { maxStack := 18, maxLocals := 12, code := code, exceptionTable := #[], attributes := #[] }
def k1m3 : Method := { name := "law", desc := "(JJI)Z", sig := { parameters := [.long, .long, .int], returnType := some .boolean }, accessFlags := 9, code := some k1c3 }
/-- com/example/backend_picker/backendpicker/simulator/ScenarioBackendFailsAtPinLaw -/
def k1 : Class := { plain "com/example/backend_picker/backendpicker/simulator/ScenarioBackendFailsAtPinLaw" (some 0) with
  accessFlags := 49
  interfaces := #[]
  cf := some (fileOf pool1 14 #[] #[{ accessFlags := 2, nameIndex := 5, descriptorIndex := 6, attributes := #[] }, { accessFlags := 10, nameIndex := 17, descriptorIndex := 18, attributes := #[] }, { accessFlags := 10, nameIndex := 21, descriptorIndex := 22, attributes := #[] }, { accessFlags := 9, nameIndex := 45, descriptorIndex := 46, attributes := #[] }] 49 2 #[] #[])
  fields := #[]
  methods := #[k1m0, k1m1, k1m2, k1m3]
  instanceTypes := #[]
  staticTypes := #[]
  resolved := Array.replicate 49 none
  statics := none }

def pool2 : Array CpInfo := pool [(3, .methodref 4 5), (0, .class_ 6), (0, .nameAndType 7 8), (0, u "java/lang/Object"), (0, u "<init>"), (0, u "()V"), (0, .fieldref 10 11), (0, .class_ 12), (0, .nameAndType 13 14), (0, u "com/example/backend_picker/backendpicker/simulator/ScenarioBackend"), (0, u "name"), (0, u "Ljava/lang/String;"), (0, .fieldref 10 16), (0, .nameAndType 17 18), (0, u "law"), (0, u "Lcom/example/backend_picker/backendpicker/simulator/ServiceLaw;"), (0, .fieldref 10 20), (0, .nameAndType 21 22), (0, u "serviceNs"), (0, u "J"), (0, .fieldref 10 24), (0, .nameAndType 25 22), (0, u "slots"), (0, .fieldref 10 27), (0, .nameAndType 28 22), (0, u "queue"), (0, .fieldref 10 30), (0, .nameAndType 31 22), (0, u "failsUntilNs"), (0, .fieldref 10 33), (0, .nameAndType 34 22), (0, u "failNs"), (0, .fieldref 10 36), (0, .nameAndType 37 22), (0, u "joinsAtNs"), (0, .fieldref 10 39), (0, .nameAndType 40 22), (0, u "leavesAtNs"), (0, .long 9223372036854775807), (1, u "UNLIMITED"), (1, u "NEVER"), (2, u "ALWAYS"), (0, u "FROM_THE_START"), (2, u "STAYS"), (0, u "(Ljava/lang/String;Lcom/example/backend_picker/backendpicker/simulator/ServiceLaw;JJJJJJJ)V"), (5, u "failsAt"), (0, u "(J)Z")] 4

def k2c0 : Code := { maxStack := 3, maxLocals := 17, code := prog_74_method_1_code, exceptionTable := #[], attributes := #[] }
def k2m0 : Method := { name := "<init>", desc := "(Ljava/lang/String;Lcom/example/backend_picker/backendpicker/simulator/ServiceLaw;JJJJJJJ)V", sig := { parameters := [(.object "java/lang/String"), (.object "com/example/backend_picker/backendpicker/simulator/ServiceLaw"), .long, .long, .long, .long, .long, .long, .long], returnType := none }, accessFlags := 0, code := some k2c0 }
def k2c1 : Code := { maxStack := 4, maxLocals := 3, code := prog_74_method_7_code, exceptionTable := #[], attributes := #[] }
def k2m1 : Method := { name := "failsAt", desc := "(J)Z", sig := { parameters := [.long], returnType := some .boolean }, accessFlags := 0, code := some k2c1 }
/-- com/example/backend_picker/backendpicker/simulator/ScenarioBackend -/
def k2 : Class := { plain "com/example/backend_picker/backendpicker/simulator/ScenarioBackend" (some 0) with
  accessFlags := 48
  interfaces := #[]
  cf := some (fileOf pool2 10 #[] #[{ accessFlags := 0, nameIndex := 7, descriptorIndex := 53, attributes := #[] }, { accessFlags := 0, nameIndex := 59, descriptorIndex := 60, attributes := #[] }] 48 4 #[] #[{ accessFlags := 24, nameIndex := 43, descriptorIndex := 22, attributes := #[] }, { accessFlags := 24, nameIndex := 45, descriptorIndex := 22, attributes := #[] }, { accessFlags := 24, nameIndex := 48, descriptorIndex := 22, attributes := #[] }, { accessFlags := 24, nameIndex := 49, descriptorIndex := 22, attributes := #[] }, { accessFlags := 24, nameIndex := 52, descriptorIndex := 22, attributes := #[] }, { accessFlags := 18, nameIndex := 13, descriptorIndex := 14, attributes := #[] }, { accessFlags := 18, nameIndex := 17, descriptorIndex := 18, attributes := #[] }, { accessFlags := 18, nameIndex := 21, descriptorIndex := 22, attributes := #[] }, { accessFlags := 18, nameIndex := 25, descriptorIndex := 22, attributes := #[] }, { accessFlags := 18, nameIndex := 28, descriptorIndex := 22, attributes := #[] }, { accessFlags := 18, nameIndex := 31, descriptorIndex := 22, attributes := #[] }, { accessFlags := 18, nameIndex := 34, descriptorIndex := 22, attributes := #[] }, { accessFlags := 18, nameIndex := 37, descriptorIndex := 22, attributes := #[] }, { accessFlags := 18, nameIndex := 40, descriptorIndex := 22, attributes := #[] }])
  fields := #[{ name := "UNLIMITED", type := .long, accessFlags := 24, slot := 0, constantValue := 0 }, { name := "NEVER", type := .long, accessFlags := 24, slot := 1, constantValue := 0 }, { name := "ALWAYS", type := .long, accessFlags := 24, slot := 2, constantValue := 0 }, { name := "FROM_THE_START", type := .long, accessFlags := 24, slot := 3, constantValue := 0 }, { name := "STAYS", type := .long, accessFlags := 24, slot := 4, constantValue := 0 }, { name := "name", type := (.object "java/lang/String"), accessFlags := 18, slot := 0, constantValue := 0 }, { name := "law", type := (.object "com/example/backend_picker/backendpicker/simulator/ServiceLaw"), accessFlags := 18, slot := 1, constantValue := 0 }, { name := "serviceNs", type := .long, accessFlags := 18, slot := 2, constantValue := 0 }, { name := "slots", type := .long, accessFlags := 18, slot := 3, constantValue := 0 }, { name := "queue", type := .long, accessFlags := 18, slot := 4, constantValue := 0 }, { name := "failsUntilNs", type := .long, accessFlags := 18, slot := 5, constantValue := 0 }, { name := "failNs", type := .long, accessFlags := 18, slot := 6, constantValue := 0 }, { name := "joinsAtNs", type := .long, accessFlags := 18, slot := 7, constantValue := 0 }, { name := "leavesAtNs", type := .long, accessFlags := 18, slot := 8, constantValue := 0 }]
  methods := #[k2m0, k2m1]
  instanceTypes := #[(.object "java/lang/String"), (.object "com/example/backend_picker/backendpicker/simulator/ServiceLaw"), .long, .long, .long, .long, .long, .long, .long]
  staticTypes := #[.long, .long, .long, .long, .long]
  resolved := Array.replicate 65 none
  statics := none }

def pool3 : Array CpInfo := pool [(1, .class_ 2), (0, u "java/io/Serializable"), (0, .class_ 4), (0, u "java/lang/Object")] 2

/-- java/io/Serializable -/
def k3 : Class := { plain "java/io/Serializable" (some 0) with
  accessFlags := 1537
  interfaces := #[]
  cf := some (fileOf pool3 1 #[] #[] 1537 3 #[] #[])
  fields := #[]
  methods := #[]
  instanceTypes := #[]
  staticTypes := #[]
  resolved := Array.replicate 7 none
  statics := none }

def pool4 : Array CpInfo := pool [(1, .class_ 2), (0, u "java/lang/Comparable"), (0, .class_ 4), (0, u "java/lang/Object")] 7

/-- java/lang/Comparable -/
def k4 : Class := { plain "java/lang/Comparable" (some 0) with
  accessFlags := 1537
  interfaces := #[]
  cf := some (fileOf pool4 1 #[] #[] 1537 3 #[] #[])
  fields := #[]
  methods := #[]
  instanceTypes := #[]
  staticTypes := #[]
  resolved := Array.replicate 12 none
  statics := none }

def pool5 : Array CpInfo := pool [(2, .class_ 4), (1, u "java/lang/CharSequence"), (42, .class_ 48), (0, u "java/lang/CharSequence$1CodePointIterator"), (10, .class_ 60), (0, u "java/lang/CharSequence$1CharIterator"), (5, .class_ 67), (0, u "java/lang/Object")] 63

/-- java/lang/CharSequence -/
def k5 : Class := { plain "java/lang/CharSequence" (some 0) with
  accessFlags := 1537
  interfaces := #[]
  cf := some (fileOf pool5 2 #[.nestMembers #[47, 59]] #[] 1537 66 #[] #[])
  fields := #[]
  methods := #[]
  instanceTypes := #[]
  staticTypes := #[]
  resolved := Array.replicate 131 none
  statics := none }

def pool6 : Array CpInfo := pool [(1, .class_ 2), (0, u "java/lang/constant/Constable"), (0, .class_ 4), (0, u "java/lang/Object")] 6

/-- java/lang/constant/Constable -/
def k6 : Class := { plain "java/lang/constant/Constable" (some 0) with
  accessFlags := 1537
  interfaces := #[]
  cf := some (fileOf pool6 1 #[] #[] 1537 3 #[] #[])
  fields := #[]
  methods := #[]
  instanceTypes := #[]
  staticTypes := #[]
  resolved := Array.replicate 11 none
  statics := none }

def pool7 : Array CpInfo := pool [(1, .class_ 2), (0, u "java/lang/constant/ConstantDesc"), (0, .class_ 4), (0, u "java/lang/Object")] 32

/-- java/lang/constant/ConstantDesc -/
def k7 : Class := { plain "java/lang/constant/ConstantDesc" (some 0) with
  accessFlags := 1537
  interfaces := #[]
  cf := some (fileOf pool7 1 #[] #[] 1537 3 #[] #[])
  fields := #[]
  methods := #[]
  instanceTypes := #[]
  staticTypes := #[]
  resolved := Array.replicate 37 none
  statics := none }

def pool8 : Array CpInfo := pool [(2, .class_ 4), (1, u "java/lang/Object"), (0, u "<init>"), (0, u "()V"), (3, .class_ 12), (1, u "java/lang/String"), (0, u "value"), (0, u "[B"), (2, u "coder"), (0, u "B"), (2, u "hash"), (0, u "I"), (2, u "hashIsZero"), (0, u "Z"), (13, u "COMPACT_STRINGS"), (534, .class_ 576), (0, u "java/lang/CharSequence"), (22, u "CASE_INSENSITIVE_ORDER"), (0, u "Ljava/util/Comparator;"), (500, u "serialPersistentFields"), (0, u "[Ljava/io/ObjectStreamField;"), (0, .class_ 1104), (0, u "java/lang/String$CaseInsensitiveComparator"), (1, .class_ 1107), (0, u "java/io/Serializable"), (0, .class_ 1109), (0, u "java/lang/Comparable"), (0, .class_ 1111), (0, u "java/lang/constant/Constable"), (0, .class_ 1113), (0, u "java/lang/constant/ConstantDesc"), (2, u "serialVersionUID"), (0, u "J"), (3, u "REPL"), (0, u "C"), (2, u "LATIN1"), (1, u "UTF16")] 323

def k8m0 : Method := { name := "<init>", desc := "()V", sig := { parameters := [], returnType := none }, accessFlags := 1, code := none }
/-- java/lang/String -/
def k8 : Class := { plain "java/lang/String" (some 0) with
  accessFlags := 49
  interfaces := #[3, 4, 5, 6, 7]
  cf := some (fileOf pool8 10 #[.nestMembers #[1103]] #[{ accessFlags := 1, nameIndex := 5, descriptorIndex := 6, attributes := #[] }] 49 2 #[1106, 1108, 575, 1110, 1112] #[{ accessFlags := 18, nameIndex := 13, descriptorIndex := 14, attributes := #[] }, { accessFlags := 18, nameIndex := 17, descriptorIndex := 18, attributes := #[] }, { accessFlags := 2, nameIndex := 21, descriptorIndex := 22, attributes := #[] }, { accessFlags := 2, nameIndex := 25, descriptorIndex := 26, attributes := #[] }, { accessFlags := 26, nameIndex := 1116, descriptorIndex := 1117, attributes := #[] }, { accessFlags := 24, nameIndex := 40, descriptorIndex := 26, attributes := #[] }, { accessFlags := 26, nameIndex := 1101, descriptorIndex := 1102, attributes := #[] }, { accessFlags := 26, nameIndex := 1121, descriptorIndex := 1122, attributes := #[] }, { accessFlags := 25, nameIndex := 599, descriptorIndex := 600, attributes := #[] }, { accessFlags := 24, nameIndex := 1125, descriptorIndex := 18, attributes := #[] }, { accessFlags := 24, nameIndex := 1127, descriptorIndex := 18, attributes := #[] }])
  fields := #[{ name := "value", type := (.array .byte), accessFlags := 18, slot := 0, constantValue := 0 }, { name := "coder", type := .byte, accessFlags := 18, slot := 1, constantValue := 0 }, { name := "hash", type := .int, accessFlags := 2, slot := 2, constantValue := 0 }, { name := "hashIsZero", type := .boolean, accessFlags := 2, slot := 3, constantValue := 0 }, { name := "serialVersionUID", type := .long, accessFlags := 26, slot := 0, constantValue := 0 }, { name := "COMPACT_STRINGS", type := .boolean, accessFlags := 24, slot := 1, constantValue := 0 }, { name := "serialPersistentFields", type := (.array (.object "java/io/ObjectStreamField")), accessFlags := 26, slot := 2, constantValue := 0 }, { name := "REPL", type := .char, accessFlags := 26, slot := 3, constantValue := 0 }, { name := "CASE_INSENSITIVE_ORDER", type := (.object "java/util/Comparator"), accessFlags := 25, slot := 4, constantValue := 0 }, { name := "LATIN1", type := .byte, accessFlags := 24, slot := 5, constantValue := 0 }, { name := "UTF16", type := .byte, accessFlags := 24, slot := 6, constantValue := 0 }]
  methods := #[k8m0]
  instanceTypes := #[(.array .byte), .byte, .int, .boolean]
  staticTypes := #[.long, .boolean, (.array (.object "java/io/ObjectStreamField")), .char, (.object "java/util/Comparator"), .byte, .byte]
  resolved := Array.replicate 1451 none
  statics := none }

def pool9 : Array CpInfo := pool [(2, .class_ 4), (1, u "java/lang/Enum"), (0, u "name"), (0, u "Ljava/lang/String;"), (2, u "ordinal"), (0, u "I"), (1, .class_ 14), (1, u "java/lang/Object"), (4, u "hash"), (86, .class_ 108), (1, u "java/lang/Enum$EnumDesc"), (2, .class_ 112), (0, u "java/lang/constant/Constable"), (0, .class_ 114), (0, u "java/lang/Comparable"), (0, .class_ 116), (0, u "java/io/Serializable")] 87

/-- java/lang/Enum -/
def k9 : Class := { plain "java/lang/Enum" (some 0) with
  accessFlags := 1057
  interfaces := #[6, 4, 3]
  cf := some (fileOf pool9 2 #[.nestMembers #[106]] #[] 1057 12 #[111, 113, 115] #[{ accessFlags := 18, nameIndex := 5, descriptorIndex := 6, attributes := #[] }, { accessFlags := 18, nameIndex := 9, descriptorIndex := 10, attributes := #[] }, { accessFlags := 2, nameIndex := 19, descriptorIndex := 10, attributes := #[] }])
  fields := #[{ name := "name", type := (.object "java/lang/String"), accessFlags := 18, slot := 0, constantValue := 0 }, { name := "ordinal", type := .int, accessFlags := 18, slot := 1, constantValue := 0 }, { name := "hash", type := .int, accessFlags := 2, slot := 2, constantValue := 0 }]
  methods := #[]
  instanceTypes := #[(.object "java/lang/String"), .int, .int]
  staticTypes := #[]
  resolved := Array.replicate 204 none
  statics := none }

def pool10 : Array CpInfo := pool [(1, .class_ 2), (0, u "com/example/backend_picker/backendpicker/simulator/ServiceLaw"), (2, u "FIXED"), (0, u "Lcom/example/backend_picker/backendpicker/simulator/ServiceLaw;"), (2, u "EXPONENTIAL"), (2, u "$VALUES"), (0, u "[Lcom/example/backend_picker/backendpicker/simulator/ServiceLaw;"), (6, .class_ 22), (1, u "java/lang/Enum"), (8, u "spelling"), (0, u "Ljava/lang/String;"), (37, .class_ 71), (0, u "com/example/backend_picker/backendpicker/simulator/ServiceLaw$1"), (6, .class_ 79), (0, u "com/example/backend_picker/backendpicker/simulator/ServiceLaw$2")] 28

/-- com/example/backend_picker/backendpicker/simulator/ServiceLaw -/
def k10 : Class := { plain "com/example/backend_picker/backendpicker/simulator/ServiceLaw" (some 9) with
  accessFlags := 17440
  interfaces := #[]
  cf := some (fileOf pool10 1 #[.nestMembers #[78, 70]] #[] 17440 20 #[] #[{ accessFlags := 16409, nameIndex := 5, descriptorIndex := 6, attributes := #[] }, { accessFlags := 16409, nameIndex := 9, descriptorIndex := 6, attributes := #[] }, { accessFlags := 18, nameIndex := 31, descriptorIndex := 32, attributes := #[] }, { accessFlags := 4122, nameIndex := 12, descriptorIndex := 13, attributes := #[] }])
  fields := #[{ name := "FIXED", type := (.object "com/example/backend_picker/backendpicker/simulator/ServiceLaw"), accessFlags := 16409, slot := 0, constantValue := 0 }, { name := "EXPONENTIAL", type := (.object "com/example/backend_picker/backendpicker/simulator/ServiceLaw"), accessFlags := 16409, slot := 1, constantValue := 0 }, { name := "spelling", type := (.object "java/lang/String"), accessFlags := 18, slot := 3, constantValue := 0 }, { name := "$VALUES", type := (.array (.object "com/example/backend_picker/backendpicker/simulator/ServiceLaw")), accessFlags := 4122, slot := 2, constantValue := 0 }]
  methods := #[]
  instanceTypes := #[(.object "java/lang/String"), .int, .int, (.object "java/lang/String")]
  staticTypes := #[(.object "com/example/backend_picker/backendpicker/simulator/ServiceLaw"), (.object "com/example/backend_picker/backendpicker/simulator/ServiceLaw"), (.array (.object "com/example/backend_picker/backendpicker/simulator/ServiceLaw"))]
  resolved := Array.replicate 108 none
  statics := some 0 }

def pool11 : Array CpInfo := pool [(2, .class_ 4), (1, u "com/example/backend_picker/backendpicker/simulator/ServiceLaw"), (2, .class_ 8), (0, u "com/example/backend_picker/backendpicker/simulator/ServiceLaw$1")] 10

/-- com/example/backend_picker/backendpicker/simulator/ServiceLaw$1 -/
def k11 : Class := { plain "com/example/backend_picker/backendpicker/simulator/ServiceLaw$1" (some 10) with
  accessFlags := 16432
  interfaces := #[]
  cf := some (fileOf pool11 7 #[.nestHost 2] #[] 16432 2 #[] #[])
  fields := #[]
  methods := #[]
  instanceTypes := #[(.object "java/lang/String"), .int, .int, (.object "java/lang/String")]
  staticTypes := #[]
  resolved := Array.replicate 19 none
  statics := none }

def pool12 : Array CpInfo := pool [(1, u "java/lang/Cloneable"), (0, .class_ 1), (0, u "java/lang/Object"), (0, .class_ 3)] 3

/-- java/lang/Cloneable -/
def k12 : Class := { plain "java/lang/Cloneable" (some 0) with
  accessFlags := 1537
  interfaces := #[]
  cf := some (fileOf pool12 2 #[] #[] 1537 4 #[] #[])
  fields := #[]
  methods := #[]
  instanceTypes := #[]
  staticTypes := #[]
  resolved := Array.replicate 8 none
  statics := none }

/-- the primitive byte -/
def k13 : Class := { plain "byte" none with kind := .primitive 'B', accessFlags := 0x411 }
/-- [B -/
def k14 : Class := { plain "[B" (some 0) with kind := .array 13 .byte, interfaces := #[12, 3], accessFlags := 1041 }

def heap : Heap := #[{ cls := 10, slots := #[.ref 1, .null, .null], vm := .statics 10 },
  { cls := 11, slots := #[.null, .int 0, .int 0, .null], vm := .none }]
def classes : Array Class := #[k0, k1, k2, k3, k4, k5, k6, k7, k8, k9, k10, k11, k12, k13, k14]
def interned : List (Array UInt16 × Addr) := []
def slotsUsed : Nat := 7
def theMethod : MethodId := ⟨1, 3⟩
def args0 : Array Value := #[.long 5, .long 6, .int 0]
def aboutOver (below : List Frame) : State where
  vm := { classes := classes, interned := interned.toArray }
  heap := heap
  slotsUsed := slotsUsed
  threads := #[{ frames := .invoking theMethod args0 :: below }]
def below0 : List Frame := [.native { method := ⟨0, 0⟩, args := #[] }]
def about1 : State := aboutOver below0
def p0 : Program := .bare "" "" ""
def e0 : Env := launch0.env 0 0 0
theorem w_frames : about1.frames = Frame.invoking theMethod args0 :: below0 := rfl
set_option maxRecDepth 65536 in
theorem w_args : argsFit about1.vm theMethod args0 = true := by decide +kernel
set_option maxRecDepth 65536 in
theorem w_heap : heapFits about1 = true := by decide +kernel
set_option maxRecDepth 65536 in
theorem w_runnable : about1.curStatus? = some .runnable := by decide +kernel
set_option maxRecDepth 65536 in
theorem w_alone : about1.alone = true := by decide +kernel
set_option maxRecDepth 65536 in
theorem w_named : about1.methodNamed? x = some theMethod := by decide +kernel
set_option maxRecDepth 65536 in
theorem w_hears : about1.hears theMethod below0 = true := by decide +kernel
set_option maxRecDepth 65536 in
theorem w_ripe : about1.ripe theMethod args0 below0 = true := by decide +kernel
theorem w_running : about1.status = .running := rfl
set_option maxRecDepth 65536 in
theorem w_room : about1.hasRoom e0.platform room_1 = true :=
  launch0.hasRoom_least _ room_1 (by decide +kernel) (by decide +kernel) (by decide +kernel) (by decide +kernel) (by decide +kernel) (by decide +kernel)
theorem allAtoms_all (ts : List Jvm.Cond) (a : Array Jvm.Value) (st : Jvm.State) : (allAtoms ts).before a st = ts.all (fun c => c.before a st) := by
  induction ts with
  | nil => rfl
  | cons c t ih =>
    show (Jvm.Cond.and c (allAtoms t)).before a st = _
    rw [Jvm.Cond.before_and, ih, List.all_cons]
def words1 : List Jvm.Cond := Jvm.Cond.code x code maxLocals ret :: tables_1
/-- a 'code' word, met by the world's own term for the bytes: nothing is compared byte by byte -/
theorem code_word {y : MethodName} {bytes : ByteArray} {mx : Nat} {rt : Option FieldType} {a : Array Value} {s : State} {m : MethodId} {meth : Method} {c : Code} (h1 : s.methodNamed? y = some m) (h2 : s.vm.method? m = some meth) (h3 : meth.code = some c) (h4 : c.code = bytes)
    (h5 : (c.maxLocals == mx && c.exceptionTable.isEmpty && decide (c.maxStack ≤ mostOperands) && decide (meth.sig.returnType = rt) && !meth.locks && decide (parseMethodDescriptor y.desc = some meth.sig)) = true) : (Jvm.Cond.code y bytes mx rt).before a s = true := by
  simp only [Bool.and_eq_true, beq_iff_eq, Bool.not_eq_true', decide_eq_true_eq] at h5
  obtain ⟨⟨⟨⟨⟨g1, g2⟩, g3⟩, g4⟩, g5⟩, g6⟩ := h5
  simp [Cond.before, Cond.holds, Cond.value, h1, h2, h3, h4, g1, g2, g3, g4, g5, g6]
def isCode : Jvm.Cond → Bool
  | .code _ _ _ _ => true
  | _ => false
theorem all_split {L : List Jvm.Cond} {P : Jvm.Cond → Bool} (h1 : L.all (fun c => isCode c || P c) = true) (h2 : ∀ c ∈ L.filter isCode, P c = true) : L.all P = true := by
  refine List.all_eq_true.mpr fun c hc => ?_
  have h := List.all_eq_true.mp h1 c hc
  rcases Bool.eq_false_or_eq_true (isCode c) with hi | hi
  · exact h2 c (List.mem_filter.mpr ⟨hc, hi⟩)
  · simpa [hi] using h
set_option maxRecDepth 65536 in
theorem w_c0 : (Jvm.Cond.code x code maxLocals ret).before args0 about1 = true := code_word (m := ⟨1, 3⟩) (meth := k1m3) (c := k1c3) (by decide +kernel) rfl rfl rfl (by decide +kernel)
set_option maxRecDepth 65536 in
theorem w_c1 : (Jvm.Cond.code ({ cls := "com/example/backend_picker/backendpicker/simulator/ScenarioBackendFailsAtPinLaw", name := "pickNow", desc := "(JI)J" } : Jvm.MethodName) method_2_code (3 : Nat) (Option.some Jvm.ClassFile.FieldType.long)).before args0 about1 = true := code_word (m := ⟨1, 1⟩) (meth := k1m1) (c := k1c1) (by decide +kernel) rfl rfl rfl (by decide +kernel)
set_option maxRecDepth 65536 in
theorem w_c2 : (Jvm.Cond.code ({ cls := "com/example/backend_picker/backendpicker/simulator/ScenarioBackendFailsAtPinLaw", name := "pickUntil", desc := "(JJI)J" } : Jvm.MethodName) method_3_code (5 : Nat) (Option.some Jvm.ClassFile.FieldType.long)).before args0 about1 = true := code_word (m := ⟨1, 2⟩) (meth := k1m2) (c := k1c2) (by decide +kernel) rfl rfl rfl (by decide +kernel)
set_option maxRecDepth 65536 in
theorem w_c3 : (Jvm.Cond.code ({ cls := "com/example/backend_picker/backendpicker/simulator/ScenarioBackend", name := "<init>", desc := "(Ljava/lang/String;Lcom/example/backend_picker/backendpicker/simulator/ServiceLaw;JJJJJJJ)V" } : Jvm.MethodName) prog_74_method_1_code (17 : Nat) (Option.none : Option Jvm.ClassFile.FieldType)).before args0 about1 = true := code_word (m := ⟨2, 0⟩) (meth := k2m0) (c := k2c0) (by decide +kernel) rfl rfl rfl (by decide +kernel)
set_option maxRecDepth 65536 in
theorem w_c4 : (Jvm.Cond.code ({ cls := "java/lang/Object", name := "<init>", desc := "()V" } : Jvm.MethodName) object_method_1_code (1 : Nat) (Option.none : Option Jvm.ClassFile.FieldType)).before args0 about1 = true := code_word (m := ⟨0, 0⟩) (meth := k0m0) (c := k0c0) (by decide +kernel) rfl rfl rfl (by decide +kernel)
set_option maxRecDepth 65536 in
theorem w_c5 : (Jvm.Cond.code ({ cls := "com/example/backend_picker/backendpicker/simulator/ScenarioBackend", name := "failsAt", desc := "(J)Z" } : Jvm.MethodName) prog_74_method_7_code (3 : Nat) (Option.some Jvm.ClassFile.FieldType.boolean)).before args0 about1 = true := code_word (m := ⟨2, 1⟩) (meth := k2m1) (c := k2c1) (by decide +kernel) rfl rfl rfl (by decide +kernel)
def codes1 : List Jvm.Cond := [Jvm.Cond.code x code maxLocals ret, Jvm.Cond.code ({ cls := "com/example/backend_picker/backendpicker/simulator/ScenarioBackendFailsAtPinLaw", name := "pickNow", desc := "(JI)J" } : Jvm.MethodName) method_2_code (3 : Nat) (Option.some Jvm.ClassFile.FieldType.long), Jvm.Cond.code ({ cls := "com/example/backend_picker/backendpicker/simulator/ScenarioBackendFailsAtPinLaw", name := "pickUntil", desc := "(JJI)J" } : Jvm.MethodName) method_3_code (5 : Nat) (Option.some Jvm.ClassFile.FieldType.long), Jvm.Cond.code ({ cls := "com/example/backend_picker/backendpicker/simulator/ScenarioBackend", name := "<init>", desc := "(Ljava/lang/String;Lcom/example/backend_picker/backendpicker/simulator/ServiceLaw;JJJJJJJ)V" } : Jvm.MethodName) prog_74_method_1_code (17 : Nat) (Option.none : Option Jvm.ClassFile.FieldType), Jvm.Cond.code ({ cls := "java/lang/Object", name := "<init>", desc := "()V" } : Jvm.MethodName) object_method_1_code (1 : Nat) (Option.none : Option Jvm.ClassFile.FieldType), Jvm.Cond.code ({ cls := "com/example/backend_picker/backendpicker/simulator/ScenarioBackend", name := "failsAt", desc := "(J)Z" } : Jvm.MethodName) prog_74_method_7_code (3 : Nat) (Option.some Jvm.ClassFile.FieldType.boolean)]
set_option maxRecDepth 65536 in
theorem codes_eq : words1.filter isCode = codes1 := rfl
theorem w_codes : ∀ c ∈ words1.filter isCode, c.before args0 about1 = true := by
  rw [codes_eq]
  intro c hc
  simp only [codes1, List.mem_cons, List.not_mem_nil, or_false] at hc
  rcases hc with rfl | rfl | rfl | rfl | rfl | rfl
  · exact w_c0
  · exact w_c1
  · exact w_c2
  · exact w_c3
  · exact w_c4
  · exact w_c5
set_option maxRecDepth 65536 in
theorem w_t1 : (words1.take 24).all (fun c => isCode c || c.before args0 about1) = true := by decide +kernel
set_option maxRecDepth 65536 in
theorem w_t2 : ((words1.drop 24).take 24).all (fun c => isCode c || c.before args0 about1) = true := by decide +kernel
set_option maxRecDepth 65536 in
theorem w_t3 : ((words1.drop 24).drop 24).all (fun c => isCode c || c.before args0 about1) = true := by decide +kernel
theorem w_tables : (allAtoms (Jvm.Cond.code x code maxLocals ret :: tables_1)).before args0 about1 = true := by
  rw [allAtoms_all]
  show words1.all (fun c => c.before args0 about1) = true
  refine all_split ?_ w_codes
  rw [← List.take_append_drop 24 words1, List.all_append, w_t1, ← List.take_append_drop 24 (words1.drop 24), List.all_append, w_t2, w_t3]
  rfl
set_option maxRecDepth 65536 in
theorem w_case : (Jvm.Cond.and given_1 narrow_1).before args0 about1 = true := by decide +kernel
theorem w_applies : (headSpec (Jvm.Cond.code x code maxLocals ret :: tables_1) room_1).applies x e0.platform about1 = true :=
  (Spec.applies_iff w_frames).mpr ⟨w_running, w_runnable, w_alone, w_named, w_hears, w_ripe, w_room, w_tables⟩
theorem atStart : AtStart classFile x code maxLocals ret World_1 tables_1 room_1 Calls_1 rest_1 Pre_1 launch0 p0 e0 about1 theMethod args0 below0 :=
  ⟨lists_1, trivial, launch0.admits_env _ _ _, launch0.least_env, fairChoices_fair.cas, fairChoices_fair.clock, w_frames, w_args, w_heap, w_applies, trivial, trivial, w_case⟩
end start1
theorem witness_1 : WitnessClaimed_1 := ⟨start1.p0, start1.e0, start1.about1, start1.theMethod, start1.args0, start1.below0, start1.atStart⟩
end Jvm.Pilot.@@N@@
