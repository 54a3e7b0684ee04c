import JvmDerived
import JvmDerived.Pilot.@@N@@Statement
import JvmDerived.Pilot.@@N@@Code
set_option linter.unusedVariables false
set_option linter.unusedSimpArgs false
namespace Jvm.Pilot.@@N@@
open Jvm Jvm.ClassFile Sem Op Lib Jvm.Free Jvm.Stand Jvm.LawKit Jvm.RoadKit Bundle Jvm.Pilot.@@N@@.Jvm.D
theorem own_ord {args : Array Value} {s : State} {t1 : Term} {C n d : String} {k1 : Int32} {a : Addr} (e1 : t1.eval args s none [] s = some (.ref a)) (h1 : (Jvm.Cond.eq (.field t1 C n d) (.int k1)).value args s none s [] = some true) : s.fieldOf? a C n d = some (.int k1) := (fld_at e1).symm.trans (eqv_i (Term.int_eval k1) h1)
theorem own_ne {s : State} {C n d : String} {k1 k2 : Int32} {a b : Addr} (h1 : s.fieldOf? a C n d = some (.int k1)) (h2 : s.fieldOf? b C n d = some (.int k2)) (hk : k1 ≠ k2) : a ≠ b := by
  intro e
  subst e
  exact hk (Value.int.inj (Option.some.inj (h1.symm.trans h2)))
theorem ef_2 (m : MethodId) (x0 : Addr) : entryFrame m #[(.ref x0)] 1 = mkF m 0 #[.val (.ref x0)] [] := by first | (simp [entryFrame, mkF, argsToLocals, Value.category]; done) | rfl
theorem pn_MajorType : plainName "com/example/clayms/clayms/cbor/MajorType" = true := by first | (simp [plainName, overriddenIn]; done) | decide +kernel
theorem d2_0 : decode prog_20_method_6_code 0 = .ok (.aload_n 0, 1) := by decide +kernel
theorem d2_1 : decode prog_20_method_6_code 1 = .ok (.getstatic 10, 3) := by decide +kernel
theorem d2_4 : decode prog_20_method_6_code 4 = .ok (.if_acmp .eq 24, 3) := by decide +kernel
theorem d2_28 : decode prog_20_method_6_code 28 = .ok (.iconst 1, 1) := by decide +kernel
theorem d2_29 : decode prog_20_method_6_code 29 = .ok (.goto 4, 3) := by decide +kernel
theorem d2_33 : decode prog_20_method_6_code 33 = .ok (.ireturn, 1) := by decide +kernel
theorem d2_7 : decode prog_20_method_6_code 7 = .ok (.aload_n 0, 1) := by decide +kernel
theorem d2_8 : decode prog_20_method_6_code 8 = .ok (.getstatic 13, 3) := by decide +kernel
theorem d2_11 : decode prog_20_method_6_code 11 = .ok (.if_acmp .eq 17, 3) := by decide +kernel
theorem d2_14 : decode prog_20_method_6_code 14 = .ok (.aload_n 0, 1) := by decide +kernel
theorem d2_15 : decode prog_20_method_6_code 15 = .ok (.getstatic 16, 3) := by decide +kernel
theorem d2_18 : decode prog_20_method_6_code 18 = .ok (.if_acmp .eq 10, 3) := by decide +kernel
theorem d2_21 : decode prog_20_method_6_code 21 = .ok (.aload_n 0, 1) := by decide +kernel
theorem d2_22 : decode prog_20_method_6_code 22 = .ok (.getstatic 19, 3) := by decide +kernel
theorem d2_25 : decode prog_20_method_6_code 25 = .ok (.if_acmp .ne 7, 3) := by decide +kernel
theorem d2_32 : decode prog_20_method_6_code 32 = .ok (.iconst 0, 1) := by decide +kernel
def Q_rm2 (Z : State) (a1 : Addr) (w2 : Addr) (w3 : Addr) (w4 : Addr) (w5 : Addr) (h0 : Heap) (n0 : Nat) (v : Option Value) (h : Heap) (L : List Loc) : Prop := v = some (.int (if a1 = w2 then (1 : Int32) else if a1 = w3 then 1 else if a1 = w4 then 1 else if a1 = w5 then 1 else 0)) ∧ Fr n0 L ∧ h = h0
set_option maxRecDepth 65536 in
set_option maxHeartbeats 40000000 in
theorem rm2 (l : Launch) (Z : State) (a0 : Array Value) (hw : ∀ d ∈ tables_1, d.before a0 Z = true) (ws : List Jvm.Cond) (a1 : Addr) (w2 : Addr) (w3 : Addr) (w4 : Addr) (w5 : Addr) (h0 : Heap) (n0 : Nat) (Z0 : n0 ≤ h0.size) (S_BYTE_STRING : Sta Z h0 "com/example/clayms/clayms/cbor/MajorType" "BYTE_STRING" "Lcom/example/clayms/clayms/cbor/MajorType;" (.ref w2)) (S_TEXT_STRING : Sta Z h0 "com/example/clayms/clayms/cbor/MajorType" "TEXT_STRING" "Lcom/example/clayms/clayms/cbor/MajorType;" (.ref w3)) (S_ARRAY : Sta Z h0 "com/example/clayms/clayms/cbor/MajorType" "ARRAY" "Lcom/example/clayms/clayms/cbor/MajorType;" (.ref w4)) (S_MAP : Sta Z h0 "com/example/clayms/clayms/cbor/MajorType" "MAP" "Lcom/example/clayms/clayms/cbor/MajorType;" (.ref w5)) :
    MetFree l (⟨"com/example/clayms/clayms/cbor/MajorType", "allowsIndefiniteLength", "()Z"⟩ : MethodName) (head1 (Jvm.Cond.code (⟨"com/example/clayms/clayms/cbor/MajorType", "allowsIndefiniteLength", "()Z"⟩ : MethodName) prog_20_method_6_code 1 (some .boolean) :: ws) ({ frames := 0, cells := 0, slots := 0, locals := 0 } : Room)) (fun a U => a = #[(.ref a1)] ∧ Z.Warmed39 U.vm ∧ U.heap = h0) (fun _ _ _ _ _ => True) (fun _ U o U' => ∃ v L, o = .returned v ∧ Q_rm2 Z a1 w2 w3 w4 w5 h0 n0 v U'.heap L ∧ FrameEnd U o U' L ({ frames := 0, cells := 0, slots := 0, locals := 0 } : Room).cells ({ frames := 0, cells := 0, slots := 0, locals := 0 } : Room).slots) := by
  have hw_12 := hw _ (List.mem_of_getElem? (i := 12) rfl)
  have hw_14 := hw _ (List.mem_of_getElem? (i := 14) rfl)
  have hw_16 := hw _ (List.mem_of_getElem? (i := 16) rfl)
  have hw_18 := hw _ (List.mem_of_getElem? (i := 18) rfl)
  refine MetFree.of_bodySF (plainFor_of_name pn_MajorType) hisR ?_
  intro p e s m args below meth c s₁ Bd hml0 hP hK
  obtain ⟨rfl, hZ, hh⟩ := hP
  have hx := Bd.exec
  have hby := Bd.bytes
  have hml : c.maxLocals = 1 := hml0
  have hown : s.vm.findClass "com/example/clayms/clayms/cbor/MajorType" = some m.cls := findClass_of_methodNamed Bd.named
  have hnm := (name_of_methodNamed Bd.named Bd.method).1
  have X0 : Stand p l e ({ frames := 0, cells := 0, slots := 0, locals := 0 } : Room) s m #[(.ref a1)] below meth c s₁ [] 0 0 := Stand.of_body Bd
  have e0 : s₁.heap = h0 := by rw [← hh, Bd.state]; rfl
  have N0 := Fr.nil n0
  have pre0 : ∀ t, Steps p.tables e below (s₁.setTop (mkF m 0 #[.val (.ref a1)] [])) t → Steps p.tables e below (s₁.setTop (entryFrame m #[(.ref a1)] 1)) t := fun t k => castTop (ef_2 m a1) k
  obtain ⟨T1, X1, e1, st1⟩ := getS2 X0 hx hZ hown (host := "") (Or.inl hw_12) Via.refl e0 S_BYTE_STRING (g := (mkF m 1 #[.val (.ref a1)] [(.ref a1)])) rfl (hb hby d2_1)
  have go2 : ∀ t, Steps p.tables e below (T1.setTop (mkF m 4 #[.val (.ref a1)] [(.ref w2), (.ref a1)])) t → Steps p.tables e below (s₁.setTop (entryFrame m #[(.ref a1)] 1)) t := by
    intro t k
    refine pre0 t ?_
    show Steps p.tables e below (s₁.setTop (mkF m 0 #[.val (.ref a1)] [])) _
    refine XS.aloadN X0.here hx rfl (hb hby d2_0) rfl rfl ?_
    show Steps p.tables e below (s₁.setTop (mkF m 1 #[.val (.ref a1)] [(.ref a1)])) _
    refine st1 _ ?_
    exact k
  by_cases hc3 : a1 = w2
  · skip
    have go4 : ∀ t, Steps p.tables e below (T1.setTop (mkF m 33 #[.val (.ref a1)] [(.int (1 : Int32))])) t → Steps p.tables e below (s₁.setTop (entryFrame m #[(.ref a1)] 1)) t := by
      intro t k
      refine go2 t ?_
      show Steps p.tables e below (T1.setTop (mkF m 4 #[.val (.ref a1)] [(.ref w2), (.ref a1)])) _
      refine Jvm.RoadKit.acmp (g := (mkF m 4 #[.val (.ref a1)] [(.ref w2), (.ref a1)])) X1 hx rfl rfl rfl (pc0 := 4) (pc' := 28) (same := true) rfl (hb hby d2_4) rfl (decide_eq_true (congrArg Value.ref hc3)) (by decide) (by decide) ?_
      show Steps p.tables e below (T1.setTop (mkF m 28 #[.val (.ref a1)] [])) _
      refine XS.iconst X1.here hx rfl (hb hby d2_28) ?_
      show Steps p.tables e below (T1.setTop (mkF m 29 #[.val (.ref a1)] [(.int (1 : Int32))])) _
      refine XS.goto X1.here hx rfl (pc0 := 29) (pc' := 33) rfl (hb hby d2_29) (by decide) (by decide) ?_
      exact k
    obtain ⟨fs, hr, hrun, hended, hW, hsame⟩ := X1.leave (v := some (.int (1 : Int32))) (fun h => by rw [Bd.returns] at h; cases h)
    refine ⟨_, _, go4 _ ?_, hrun, hended, _, _, rfl, ?_, ⟨_, rfl⟩, hW, hsame.mono (by decide) (by decide)⟩
    · skip
      show Steps p.tables e below (T1.setTop (mkF m 33 #[.val (.ref a1)] [(.int (1 : Int32))])) _
      exact retN X1 hx (t := .boolean) Bd.returns (by simp) (hb hby d2_33) hr
    · show Q_rm2 Z a1 w2 w3 w4 w5 h0 n0 _ T1.heap _
      rw [e1]
      exact ⟨by simp [hc3], N0, rfl⟩
  · skip
    obtain ⟨T5, X5, e5, st5⟩ := getS2 X1 hx hZ hown (host := "") (Or.inl hw_14) Via.refl e1 S_TEXT_STRING (g := (mkF m 8 #[.val (.ref a1)] [(.ref a1)])) rfl (hb hby d2_8)
    have go6 : ∀ t, Steps p.tables e below (T5.setTop (mkF m 11 #[.val (.ref a1)] [(.ref w3), (.ref a1)])) t → Steps p.tables e below (s₁.setTop (entryFrame m #[(.ref a1)] 1)) t := by
      intro t k
      refine go2 t ?_
      show Steps p.tables e below (T1.setTop (mkF m 4 #[.val (.ref a1)] [(.ref w2), (.ref a1)])) _
      refine Jvm.RoadKit.acmp (g := (mkF m 4 #[.val (.ref a1)] [(.ref w2), (.ref a1)])) X1 hx rfl rfl rfl (pc0 := 4) (pc' := 7) (same := false) rfl (hb hby d2_4) rfl (decide_eq_false fun q => hc3 (Value.ref.inj q)) (by decide) (by decide) ?_
      show Steps p.tables e below (T1.setTop (mkF m 7 #[.val (.ref a1)] [])) _
      refine XS.aloadN X1.here hx rfl (hb hby d2_7) rfl rfl ?_
      show Steps p.tables e below (T1.setTop (mkF m 8 #[.val (.ref a1)] [(.ref a1)])) _
      refine st5 _ ?_
      exact k
    by_cases hc7 : a1 = w3
    · skip
      have go8 : ∀ t, Steps p.tables e below (T5.setTop (mkF m 33 #[.val (.ref a1)] [(.int (1 : Int32))])) t → Steps p.tables e below (s₁.setTop (entryFrame m #[(.ref a1)] 1)) t := by
        intro t k
        refine go6 t ?_
        show Steps p.tables e below (T5.setTop (mkF m 11 #[.val (.ref a1)] [(.ref w3), (.ref a1)])) _
        refine Jvm.RoadKit.acmp (g := (mkF m 11 #[.val (.ref a1)] [(.ref w3), (.ref a1)])) X5 hx rfl rfl rfl (pc0 := 11) (pc' := 28) (same := true) rfl (hb hby d2_11) rfl (decide_eq_true (congrArg Value.ref hc7)) (by decide) (by decide) ?_
        show Steps p.tables e below (T5.setTop (mkF m 28 #[.val (.ref a1)] [])) _
        refine XS.iconst X5.here hx rfl (hb hby d2_28) ?_
        show Steps p.tables e below (T5.setTop (mkF m 29 #[.val (.ref a1)] [(.int (1 : Int32))])) _
        refine XS.goto X5.here hx rfl (pc0 := 29) (pc' := 33) rfl (hb hby d2_29) (by decide) (by decide) ?_
        exact k
      obtain ⟨fs, hr, hrun, hended, hW, hsame⟩ := X5.leave (v := some (.int (1 : Int32))) (fun h => by rw [Bd.returns] at h; cases h)
      refine ⟨_, _, go8 _ ?_, hrun, hended, _, _, rfl, ?_, ⟨_, rfl⟩, hW, hsame.mono (by decide) (by decide)⟩
      · skip
        show Steps p.tables e below (T5.setTop (mkF m 33 #[.val (.ref a1)] [(.int (1 : Int32))])) _
        exact retN X5 hx (t := .boolean) Bd.returns (by simp) (hb hby d2_33) hr
      · show Q_rm2 Z a1 w2 w3 w4 w5 h0 n0 _ T5.heap _
        rw [e5]
        exact ⟨by simp [hc3, hc7], N0, rfl⟩
    · skip
      obtain ⟨T9, X9, e9, st9⟩ := getS2 X5 hx hZ hown (host := "") (Or.inl hw_16) Via.refl e5 S_ARRAY (g := (mkF m 15 #[.val (.ref a1)] [(.ref a1)])) rfl (hb hby d2_15)
      have go10 : ∀ t, Steps p.tables e below (T9.setTop (mkF m 18 #[.val (.ref a1)] [(.ref w4), (.ref a1)])) t → Steps p.tables e below (s₁.setTop (entryFrame m #[(.ref a1)] 1)) t := by
        intro t k
        refine go6 t ?_
        show Steps p.tables e below (T5.setTop (mkF m 11 #[.val (.ref a1)] [(.ref w3), (.ref a1)])) _
        refine Jvm.RoadKit.acmp (g := (mkF m 11 #[.val (.ref a1)] [(.ref w3), (.ref a1)])) X5 hx rfl rfl rfl (pc0 := 11) (pc' := 14) (same := false) rfl (hb hby d2_11) rfl (decide_eq_false fun q => hc7 (Value.ref.inj q)) (by decide) (by decide) ?_
        show Steps p.tables e below (T5.setTop (mkF m 14 #[.val (.ref a1)] [])) _
        refine XS.aloadN X5.here hx rfl (hb hby d2_14) rfl rfl ?_
        show Steps p.tables e below (T5.setTop (mkF m 15 #[.val (.ref a1)] [(.ref a1)])) _
        refine st9 _ ?_
        exact k
      by_cases hc11 : a1 = w4
      · skip
        have go12 : ∀ t, Steps p.tables e below (T9.setTop (mkF m 33 #[.val (.ref a1)] [(.int (1 : Int32))])) t → Steps p.tables e below (s₁.setTop (entryFrame m #[(.ref a1)] 1)) t := by
          intro t k
          refine go10 t ?_
          show Steps p.tables e below (T9.setTop (mkF m 18 #[.val (.ref a1)] [(.ref w4), (.ref a1)])) _
          refine Jvm.RoadKit.acmp (g := (mkF m 18 #[.val (.ref a1)] [(.ref w4), (.ref a1)])) X9 hx rfl rfl rfl (pc0 := 18) (pc' := 28) (same := true) rfl (hb hby d2_18) rfl (decide_eq_true (congrArg Value.ref hc11)) (by decide) (by decide) ?_
          show Steps p.tables e below (T9.setTop (mkF m 28 #[.val (.ref a1)] [])) _
          refine XS.iconst X9.here hx rfl (hb hby d2_28) ?_
          show Steps p.tables e below (T9.setTop (mkF m 29 #[.val (.ref a1)] [(.int (1 : Int32))])) _
          refine XS.goto X9.here hx rfl (pc0 := 29) (pc' := 33) rfl (hb hby d2_29) (by decide) (by decide) ?_
          exact k
        obtain ⟨fs, hr, hrun, hended, hW, hsame⟩ := X9.leave (v := some (.int (1 : Int32))) (fun h => by rw [Bd.returns] at h; cases h)
        refine ⟨_, _, go12 _ ?_, hrun, hended, _, _, rfl, ?_, ⟨_, rfl⟩, hW, hsame.mono (by decide) (by decide)⟩
        · skip
          show Steps p.tables e below (T9.setTop (mkF m 33 #[.val (.ref a1)] [(.int (1 : Int32))])) _
          exact retN X9 hx (t := .boolean) Bd.returns (by simp) (hb hby d2_33) hr
        · show Q_rm2 Z a1 w2 w3 w4 w5 h0 n0 _ T9.heap _
          rw [e9]
          exact ⟨by simp [hc3, hc7, hc11], N0, rfl⟩
      · skip
        obtain ⟨T13, X13, e13, st13⟩ := getS2 X9 hx hZ hown (host := "") (Or.inl hw_18) Via.refl e9 S_MAP (g := (mkF m 22 #[.val (.ref a1)] [(.ref a1)])) rfl (hb hby d2_22)
        have go14 : ∀ t, Steps p.tables e below (T13.setTop (mkF m 25 #[.val (.ref a1)] [(.ref w5), (.ref a1)])) t → Steps p.tables e below (s₁.setTop (entryFrame m #[(.ref a1)] 1)) t := by
          intro t k
          refine go10 t ?_
          show Steps p.tables e below (T9.setTop (mkF m 18 #[.val (.ref a1)] [(.ref w4), (.ref a1)])) _
          refine Jvm.RoadKit.acmp (g := (mkF m 18 #[.val (.ref a1)] [(.ref w4), (.ref a1)])) X9 hx rfl rfl rfl (pc0 := 18) (pc' := 21) (same := false) rfl (hb hby d2_18) rfl (decide_eq_false fun q => hc11 (Value.ref.inj q)) (by decide) (by decide) ?_
          show Steps p.tables e below (T9.setTop (mkF m 21 #[.val (.ref a1)] [])) _
          refine XS.aloadN X9.here hx rfl (hb hby d2_21) rfl rfl ?_
          show Steps p.tables e below (T9.setTop (mkF m 22 #[.val (.ref a1)] [(.ref a1)])) _
          refine st13 _ ?_
          exact k
        by_cases hc15 : a1 = w5
        · skip
          have go16 : ∀ t, Steps p.tables e below (T13.setTop (mkF m 33 #[.val (.ref a1)] [(.int (1 : Int32))])) t → Steps p.tables e below (s₁.setTop (entryFrame m #[(.ref a1)] 1)) t := by
            intro t k
            refine go14 t ?_
            show Steps p.tables e below (T13.setTop (mkF m 25 #[.val (.ref a1)] [(.ref w5), (.ref a1)])) _
            refine Jvm.RoadKit.acmp (g := (mkF m 25 #[.val (.ref a1)] [(.ref w5), (.ref a1)])) X13 hx rfl rfl rfl (pc0 := 25) (pc' := 28) (same := true) rfl (hb hby d2_25) rfl (decide_eq_true (congrArg Value.ref hc15)) (by decide) (by decide) ?_
            show Steps p.tables e below (T13.setTop (mkF m 28 #[.val (.ref a1)] [])) _
            refine XS.iconst X13.here hx rfl (hb hby d2_28) ?_
            show Steps p.tables e below (T13.setTop (mkF m 29 #[.val (.ref a1)] [(.int (1 : Int32))])) _
            refine XS.goto X13.here hx rfl (pc0 := 29) (pc' := 33) rfl (hb hby d2_29) (by decide) (by decide) ?_
            exact k
          obtain ⟨fs, hr, hrun, hended, hW, hsame⟩ := X13.leave (v := some (.int (1 : Int32))) (fun h => by rw [Bd.returns] at h; cases h)
          refine ⟨_, _, go16 _ ?_, hrun, hended, _, _, rfl, ?_, ⟨_, rfl⟩, hW, hsame.mono (by decide) (by decide)⟩
          · skip
            show Steps p.tables e below (T13.setTop (mkF m 33 #[.val (.ref a1)] [(.int (1 : Int32))])) _
            exact retN X13 hx (t := .boolean) Bd.returns (by simp) (hb hby d2_33) hr
          · show Q_rm2 Z a1 w2 w3 w4 w5 h0 n0 _ T13.heap _
            rw [e13]
            exact ⟨by simp [hc3, hc7, hc11, hc15], N0, rfl⟩
        · skip
          have go17 : ∀ t, Steps p.tables e below (T13.setTop (mkF m 33 #[.val (.ref a1)] [(.int (0 : Int32))])) t → Steps p.tables e below (s₁.setTop (entryFrame m #[(.ref a1)] 1)) t := by
            intro t k
            refine go14 t ?_
            show Steps p.tables e below (T13.setTop (mkF m 25 #[.val (.ref a1)] [(.ref w5), (.ref a1)])) _
            refine Jvm.RoadKit.acmp (g := (mkF m 25 #[.val (.ref a1)] [(.ref w5), (.ref a1)])) X13 hx rfl rfl rfl (pc0 := 25) (pc' := 32) (same := false) rfl (hb hby d2_25) rfl (decide_eq_false fun q => hc15 (Value.ref.inj q)) (by decide) (by decide) ?_
            show Steps p.tables e below (T13.setTop (mkF m 32 #[.val (.ref a1)] [])) _
            refine XS.iconst X13.here hx rfl (hb hby d2_32) ?_
            exact k
          obtain ⟨fs, hr, hrun, hended, hW, hsame⟩ := X13.leave (v := some (.int (0 : Int32))) (fun h => by rw [Bd.returns] at h; cases h)
          refine ⟨_, _, go17 _ ?_, hrun, hended, _, _, rfl, ?_, ⟨_, rfl⟩, hW, hsame.mono (by decide) (by decide)⟩
          · skip
            show Steps p.tables e below (T13.setTop (mkF m 33 #[.val (.ref a1)] [(.int (0 : Int32))])) _
            exact retN X13 hx (t := .boolean) Bd.returns (by simp) (hb hby d2_33) hr
          · show Q_rm2 Z a1 w2 w3 w4 w5 h0 n0 _ T13.heap _
            rw [e13]
            exact ⟨by simp [hc3, hc7, hc11, hc15], N0, rfl⟩
theorem ef_1 (m : MethodId) (x0 : Int32) : entryFrame m #[(.int x0)] 1 = mkF m 0 #[.val (.int x0)] [] := by first | (simp [entryFrame, mkF, argsToLocals, Value.category]; done) | rfl
theorem pn_MajorTypeAllowsIndefiniteLengthPinLaw : plainName "com/example/clayms/clayms/cbor/MajorTypeAllowsIndefiniteLengthPinLaw" = true := by first | (simp [plainName, overriddenIn]; done) | decide +kernel
theorem d1_0 : decode method_2_code 0 = .ok (.iload_n 0, 1) := by decide +kernel
theorem d1_1 : decode method_2_code 1 = .ok (.ifCond .ne 7, 3) := by decide +kernel
theorem d1_4 : decode method_2_code 4 = .ok (.getstatic 7, 3) := by decide +kernel
theorem d1_7 : decode method_2_code 7 = .ok (.areturn, 1) := by decide +kernel
theorem d1_8 : decode method_2_code 8 = .ok (.iload_n 0, 1) := by decide +kernel
theorem d1_9 : decode method_2_code 9 = .ok (.iconst 1, 1) := by decide +kernel
theorem d1_10 : decode method_2_code 10 = .ok (.if_icmp .ne 7, 3) := by decide +kernel
theorem d1_13 : decode method_2_code 13 = .ok (.getstatic 13, 3) := by decide +kernel
theorem d1_16 : decode method_2_code 16 = .ok (.areturn, 1) := by decide +kernel
theorem d1_17 : decode method_2_code 17 = .ok (.iload_n 0, 1) := by decide +kernel
theorem d1_18 : decode method_2_code 18 = .ok (.iconst 2, 1) := by decide +kernel
theorem d1_19 : decode method_2_code 19 = .ok (.if_icmp .ne 7, 3) := by decide +kernel
theorem d1_22 : decode method_2_code 22 = .ok (.getstatic 16, 3) := by decide +kernel
theorem d1_25 : decode method_2_code 25 = .ok (.areturn, 1) := by decide +kernel
theorem d1_26 : decode method_2_code 26 = .ok (.iload_n 0, 1) := by decide +kernel
theorem d1_27 : decode method_2_code 27 = .ok (.iconst 3, 1) := by decide +kernel
theorem d1_28 : decode method_2_code 28 = .ok (.if_icmp .ne 7, 3) := by decide +kernel
theorem d1_31 : decode method_2_code 31 = .ok (.getstatic 19, 3) := by decide +kernel
theorem d1_34 : decode method_2_code 34 = .ok (.areturn, 1) := by decide +kernel
theorem d1_35 : decode method_2_code 35 = .ok (.iload_n 0, 1) := by decide +kernel
theorem d1_36 : decode method_2_code 36 = .ok (.iconst 4, 1) := by decide +kernel
theorem d1_37 : decode method_2_code 37 = .ok (.if_icmp .ne 7, 3) := by decide +kernel
theorem d1_40 : decode method_2_code 40 = .ok (.getstatic 22, 3) := by decide +kernel
theorem d1_43 : decode method_2_code 43 = .ok (.areturn, 1) := by decide +kernel
theorem d1_44 : decode method_2_code 44 = .ok (.iload_n 0, 1) := by decide +kernel
theorem d1_45 : decode method_2_code 45 = .ok (.iconst 5, 1) := by decide +kernel
theorem d1_46 : decode method_2_code 46 = .ok (.if_icmp .ne 7, 3) := by decide +kernel
theorem d1_49 : decode method_2_code 49 = .ok (.getstatic 25, 3) := by decide +kernel
theorem d1_52 : decode method_2_code 52 = .ok (.areturn, 1) := by decide +kernel
theorem d1_53 : decode method_2_code 53 = .ok (.iload_n 0, 1) := by decide +kernel
theorem d1_54 : decode method_2_code 54 = .ok (.bipush 6, 2) := by decide +kernel
theorem d1_56 : decode method_2_code 56 = .ok (.if_icmp .ne 7, 3) := by decide +kernel
theorem d1_59 : decode method_2_code 59 = .ok (.getstatic 28, 3) := by decide +kernel
theorem d1_62 : decode method_2_code 62 = .ok (.areturn, 1) := by decide +kernel
theorem d1_63 : decode method_2_code 63 = .ok (.getstatic 31, 3) := by decide +kernel
theorem d1_66 : decode method_2_code 66 = .ok (.areturn, 1) := by decide +kernel
def Q_rm1 (Z : State) (p1 : Int32) (w0 : Addr) (w1 : Addr) (w2 : Addr) (w3 : Addr) (w4 : Addr) (w5 : Addr) (w6 : Addr) (w7 : Addr) (h0 : Heap) (n0 : Nat) (v : Option Value) (h : Heap) (L : List Loc) : Prop := v = some (.ref (if p1 = 0 then w0 else if p1 = 1 then w1 else if p1 = 2 then w2 else if p1 = 3 then w3 else if p1 = 4 then w4 else if p1 = 5 then w5 else if p1 = 6 then w6 else w7)) ∧ Fr n0 L ∧ h = h0
set_option maxRecDepth 65536 in
set_option maxHeartbeats 40000000 in
theorem rm1 (l : Launch) (Z : State) (a0 : Array Value) (hw : ∀ d ∈ tables_1, d.before a0 Z = true) (ws : List Jvm.Cond) (p1 : Int32) (w0 : Addr) (w1 : Addr) (w2 : Addr) (w3 : Addr) (w4 : Addr) (w5 : Addr) (w6 : Addr) (w7 : Addr) (h0 : Heap) (n0 : Nat) (Z0 : n0 ≤ h0.size) (S_UNSIGNED_INTEGER : Sta Z h0 "com/example/clayms/clayms/cbor/MajorType" "UNSIGNED_INTEGER" "Lcom/example/clayms/clayms/cbor/MajorType;" (.ref w0)) (S_NEGATIVE_INTEGER : Sta Z h0 "com/example/clayms/clayms/cbor/MajorType" "NEGATIVE_INTEGER" "Lcom/example/clayms/clayms/cbor/MajorType;" (.ref w1)) (S_BYTE_STRING : Sta Z h0 "com/example/clayms/clayms/cbor/MajorType" "BYTE_STRING" "Lcom/example/clayms/clayms/cbor/MajorType;" (.ref w2)) (S_TEXT_STRING : Sta Z h0 "com/example/clayms/clayms/cbor/MajorType" "TEXT_STRING" "Lcom/example/clayms/clayms/cbor/MajorType;" (.ref w3)) (S_ARRAY : Sta Z h0 "com/example/clayms/clayms/cbor/MajorType" "ARRAY" "Lcom/example/clayms/clayms/cbor/MajorType;" (.ref w4)) (S_MAP : Sta Z h0 "com/example/clayms/clayms/cbor/MajorType" "MAP" "Lcom/example/clayms/clayms/cbor/MajorType;" (.ref w5)) (S_TAG : Sta Z h0 "com/example/clayms/clayms/cbor/MajorType" "TAG" "Lcom/example/clayms/clayms/cbor/MajorType;" (.ref w6)) (S_SIMPLE_OR_FLOAT : Sta Z h0 "com/example/clayms/clayms/cbor/MajorType" "SIMPLE_OR_FLOAT" "Lcom/example/clayms/clayms/cbor/MajorType;" (.ref w7)) :
    MetFree l (⟨"com/example/clayms/clayms/cbor/MajorTypeAllowsIndefiniteLengthPinLaw", "pick", "(I)Lcom/example/clayms/clayms/cbor/MajorType;"⟩ : MethodName) (head1 (Jvm.Cond.code (⟨"com/example/clayms/clayms/cbor/MajorTypeAllowsIndefiniteLengthPinLaw", "pick", "(I)Lcom/example/clayms/clayms/cbor/MajorType;"⟩ : MethodName) method_2_code 1 (some (.object "com/example/clayms/clayms/cbor/MajorType")) :: ws) ({ frames := 0, cells := 0, slots := 0, locals := 0 } : Room)) (fun a U => a = #[(.int p1)] ∧ Z.Warmed39 U.vm ∧ U.heap = h0) (fun _ _ _ _ _ => True) (fun _ U o U' => ∃ v L, o = .returned v ∧ Q_rm1 Z p1 w0 w1 w2 w3 w4 w5 w6 w7 h0 n0 v U'.heap L ∧ FrameEnd U o U' L ({ frames := 0, cells := 0, slots := 0, locals := 0 } : Room).cells ({ frames := 0, cells := 0, slots := 0, locals := 0 } : Room).slots) := by
  have hw_4 := hw _ (List.mem_of_getElem? (i := 4) rfl)
  have hw_20 := hw _ (List.mem_of_getElem? (i := 20) rfl)
  have hw_21 := hw _ (List.mem_of_getElem? (i := 21) rfl)
  have hw_23 := hw _ (List.mem_of_getElem? (i := 23) rfl)
  have hw_25 := hw _ (List.mem_of_getElem? (i := 25) rfl)
  have hw_26 := hw _ (List.mem_of_getElem? (i := 26) rfl)
  have hw_28 := hw _ (List.mem_of_getElem? (i := 28) rfl)
  have hw_29 := hw _ (List.mem_of_getElem? (i := 29) rfl)
  refine MetFree.of_bodySF (plainFor_of_name pn_MajorTypeAllowsIndefiniteLengthPinLaw) hisR ?_
  intro p e s m args below meth c s₁ Bd hml0 hP hK
  obtain ⟨rfl, hZ, hh⟩ := hP
  have hx := Bd.exec
  have hby := Bd.bytes
  have hml : c.maxLocals = 1 := hml0
  have hown : s.vm.findClass "com/example/clayms/clayms/cbor/MajorTypeAllowsIndefiniteLengthPinLaw" = some m.cls := findClass_of_methodNamed Bd.named
  have hnm := (name_of_methodNamed Bd.named Bd.method).1
  have X0 : Stand p l e ({ frames := 0, cells := 0, slots := 0, locals := 0 } : Room) s m #[(.int p1)] below meth c s₁ [] 0 0 := Stand.of_body Bd
  have e0 : s₁.heap = h0 := by rw [← hh, Bd.state]; rfl
  have N0 := Fr.nil n0
  have pre0 : ∀ t, Steps p.tables e below (s₁.setTop (mkF m 0 #[.val (.int p1)] [])) t → Steps p.tables e below (s₁.setTop (entryFrame m #[(.int p1)] 1)) t := fun t k => castTop (ef_1 m p1) k
  have go1 : ∀ t, Steps p.tables e below (s₁.setTop (mkF m 1 #[.val (.int p1)] [(.int p1)])) t → Steps p.tables e below (s₁.setTop (entryFrame m #[(.int p1)] 1)) t := by
    intro t k
    refine pre0 t ?_
    show Steps p.tables e below (s₁.setTop (mkF m 0 #[.val (.int p1)] [])) _
    refine XS.iloadN X0.here hx rfl (hb hby d1_0) rfl ?_
    exact k
  by_cases hc2 : p1 = (0 : Int32)
  · skip
    obtain ⟨T3, X3, e3, st3⟩ := getS2 X0 hx hZ hown (host := "") (Or.inl hw_4) Via.refl e0 S_UNSIGNED_INTEGER (g := (mkF m 4 #[.val (.int p1)] [])) rfl (hb hby d1_4)
    have go4 : ∀ t, Steps p.tables e below (T3.setTop (mkF m 7 #[.val (.int p1)] [(.ref w0)])) t → Steps p.tables e below (s₁.setTop (entryFrame m #[(.int p1)] 1)) t := by
      intro t k
      refine go1 t ?_
      show Steps p.tables e below (s₁.setTop (mkF m 1 #[.val (.int p1)] [(.int p1)])) _
      refine XS.ifNo X0.here hx rfl (hb hby d1_1) rfl ((if0 _ _).trans (teq hc2).2) ?_
      show Steps p.tables e below (s₁.setTop (mkF m 4 #[.val (.int p1)] [])) _
      refine st3 _ ?_
      exact k
    obtain ⟨fs, hr, hrun, hended, hW, hsame⟩ := X3.leave (v := some (.ref w0)) (fun h => by rw [Bd.returns] at h; cases h)
    refine ⟨_, _, go4 _ ?_, hrun, hended, _, _, rfl, ?_, ⟨_, rfl⟩, hW, hsame.mono (by decide) (by decide)⟩
    · skip
      show Steps p.tables e below (T3.setTop (mkF m 7 #[.val (.int p1)] [(.ref w0)])) _
      jvm_step X3.here [X3.here.top, hx, (hb hby d1_7), X3.method', Bd.returns, Value.isRef, FieldType.isReference]
      first | (intro acts; rw [hr _ acts rfl rfl rfl]) | rw [hr _ _ rfl rfl rfl]
      exact Steps.refl _
    · show Q_rm1 Z p1 w0 w1 w2 w3 w4 w5 w6 w7 h0 n0 _ T3.heap _
      rw [e3]
      exact ⟨by simp [hc2], N0, rfl⟩
  · skip
    have go5 : ∀ t, Steps p.tables e below (s₁.setTop (mkF m 10 #[.val (.int p1)] [(.int (1 : Int32)), (.int p1)])) t → Steps p.tables e below (s₁.setTop (entryFrame m #[(.int p1)] 1)) t := by
      intro t k
      refine go1 t ?_
      show Steps p.tables e below (s₁.setTop (mkF m 1 #[.val (.int p1)] [(.int p1)])) _
      refine XS.ifYes X0.here hx rfl (pc0 := 1) (pc' := 8) rfl (hb hby d1_1) rfl ((if0 _ _).trans (feq hc2).2) (by decide) (by decide) ?_
      show Steps p.tables e below (s₁.setTop (mkF m 8 #[.val (.int p1)] [])) _
      refine XS.iloadN X0.here hx rfl (hb hby d1_8) rfl ?_
      show Steps p.tables e below (s₁.setTop (mkF m 9 #[.val (.int p1)] [(.int p1)])) _
      refine XS.iconst X0.here hx rfl (hb hby d1_9) ?_
      exact k
    by_cases hc6 : p1 = (1 : Int32)
    · skip
      obtain ⟨T7, X7, e7, st7⟩ := getS2 X0 hx hZ hown (host := "") (Or.inl hw_26) Via.refl e0 S_NEGATIVE_INTEGER (g := (mkF m 13 #[.val (.int p1)] [])) rfl (hb hby d1_13)
      have go8 : ∀ t, Steps p.tables e below (T7.setTop (mkF m 16 #[.val (.int p1)] [(.ref w1)])) t → Steps p.tables e below (s₁.setTop (entryFrame m #[(.int p1)] 1)) t := by
        intro t k
        refine go5 t ?_
        show Steps p.tables e below (s₁.setTop (mkF m 10 #[.val (.int p1)] [(.int (1 : Int32)), (.int p1)])) _
        refine XS.icmpNo X0.here hx rfl (hb hby d1_10) rfl (teq hc6).2 ?_
        show Steps p.tables e below (s₁.setTop (mkF m 13 #[.val (.int p1)] [])) _
        refine st7 _ ?_
        exact k
      obtain ⟨fs, hr, hrun, hended, hW, hsame⟩ := X7.leave (v := some (.ref w1)) (fun h => by rw [Bd.returns] at h; cases h)
      refine ⟨_, _, go8 _ ?_, hrun, hended, _, _, rfl, ?_, ⟨_, rfl⟩, hW, hsame.mono (by decide) (by decide)⟩
      · skip
        show Steps p.tables e below (T7.setTop (mkF m 16 #[.val (.int p1)] [(.ref w1)])) _
        jvm_step X7.here [X7.here.top, hx, (hb hby d1_16), X7.method', Bd.returns, Value.isRef, FieldType.isReference]
        first | (intro acts; rw [hr _ acts rfl rfl rfl]) | rw [hr _ _ rfl rfl rfl]
        exact Steps.refl _
      · show Q_rm1 Z p1 w0 w1 w2 w3 w4 w5 w6 w7 h0 n0 _ T7.heap _
        rw [e7]
        exact ⟨by simp [hc2, hc6], N0, rfl⟩
    · skip
      have go9 : ∀ t, Steps p.tables e below (s₁.setTop (mkF m 19 #[.val (.int p1)] [(.int (2 : Int32)), (.int p1)])) t → Steps p.tables e below (s₁.setTop (entryFrame m #[(.int p1)] 1)) t := by
        intro t k
        refine go5 t ?_
        show Steps p.tables e below (s₁.setTop (mkF m 10 #[.val (.int p1)] [(.int (1 : Int32)), (.int p1)])) _
        refine XS.icmpYes X0.here hx rfl (pc0 := 10) (pc' := 17) rfl (hb hby d1_10) rfl (feq hc6).2 (by decide) (by decide) ?_
        show Steps p.tables e below (s₁.setTop (mkF m 17 #[.val (.int p1)] [])) _
        refine XS.iloadN X0.here hx rfl (hb hby d1_17) rfl ?_
        show Steps p.tables e below (s₁.setTop (mkF m 18 #[.val (.int p1)] [(.int p1)])) _
        refine XS.iconst X0.here hx rfl (hb hby d1_18) ?_
        exact k
      by_cases hc10 : p1 = (2 : Int32)
      · skip
        obtain ⟨T11, X11, e11, st11⟩ := getS2 X0 hx hZ hown (host := "") (Or.inl hw_25) Via.refl e0 S_BYTE_STRING (g := (mkF m 22 #[.val (.int p1)] [])) rfl (hb hby d1_22)
        have go12 : ∀ t, Steps p.tables e below (T11.setTop (mkF m 25 #[.val (.int p1)] [(.ref w2)])) t → Steps p.tables e below (s₁.setTop (entryFrame m #[(.int p1)] 1)) t := by
          intro t k
          refine go9 t ?_
          show Steps p.tables e below (s₁.setTop (mkF m 19 #[.val (.int p1)] [(.int (2 : Int32)), (.int p1)])) _
          refine XS.icmpNo X0.here hx rfl (hb hby d1_19) rfl (teq hc10).2 ?_
          show Steps p.tables e below (s₁.setTop (mkF m 22 #[.val (.int p1)] [])) _
          refine st11 _ ?_
          exact k
        obtain ⟨fs, hr, hrun, hended, hW, hsame⟩ := X11.leave (v := some (.ref w2)) (fun h => by rw [Bd.returns] at h; cases h)
        refine ⟨_, _, go12 _ ?_, hrun, hended, _, _, rfl, ?_, ⟨_, rfl⟩, hW, hsame.mono (by decide) (by decide)⟩
        · skip
          show Steps p.tables e below (T11.setTop (mkF m 25 #[.val (.int p1)] [(.ref w2)])) _
          jvm_step X11.here [X11.here.top, hx, (hb hby d1_25), X11.method', Bd.returns, Value.isRef, FieldType.isReference]
          first | (intro acts; rw [hr _ acts rfl rfl rfl]) | rw [hr _ _ rfl rfl rfl]
          exact Steps.refl _
        · show Q_rm1 Z p1 w0 w1 w2 w3 w4 w5 w6 w7 h0 n0 _ T11.heap _
          rw [e11]
          exact ⟨by simp [hc2, hc6, hc10], N0, rfl⟩
      · skip
        have go13 : ∀ t, Steps p.tables e below (s₁.setTop (mkF m 28 #[.val (.int p1)] [(.int (3 : Int32)), (.int p1)])) t → Steps p.tables e below (s₁.setTop (entryFrame m #[(.int p1)] 1)) t := by
          intro t k
          refine go9 t ?_
          show Steps p.tables e below (s₁.setTop (mkF m 19 #[.val (.int p1)] [(.int (2 : Int32)), (.int p1)])) _
          refine XS.icmpYes X0.here hx rfl (pc0 := 19) (pc' := 26) rfl (hb hby d1_19) rfl (feq hc10).2 (by decide) (by decide) ?_
          show Steps p.tables e below (s₁.setTop (mkF m 26 #[.val (.int p1)] [])) _
          refine XS.iloadN X0.here hx rfl (hb hby d1_26) rfl ?_
          show Steps p.tables e below (s₁.setTop (mkF m 27 #[.val (.int p1)] [(.int p1)])) _
          refine XS.iconst X0.here hx rfl (hb hby d1_27) ?_
          exact k
        by_cases hc14 : p1 = (3 : Int32)
        · skip
          obtain ⟨T15, X15, e15, st15⟩ := getS2 X0 hx hZ hown (host := "") (Or.inl hw_20) Via.refl e0 S_TEXT_STRING (g := (mkF m 31 #[.val (.int p1)] [])) rfl (hb hby d1_31)
          have go16 : ∀ t, Steps p.tables e below (T15.setTop (mkF m 34 #[.val (.int p1)] [(.ref w3)])) t → Steps p.tables e below (s₁.setTop (entryFrame m #[(.int p1)] 1)) t := by
            intro t k
            refine go13 t ?_
            show Steps p.tables e below (s₁.setTop (mkF m 28 #[.val (.int p1)] [(.int (3 : Int32)), (.int p1)])) _
            refine XS.icmpNo X0.here hx rfl (hb hby d1_28) rfl (teq hc14).2 ?_
            show Steps p.tables e below (s₁.setTop (mkF m 31 #[.val (.int p1)] [])) _
            refine st15 _ ?_
            exact k
          obtain ⟨fs, hr, hrun, hended, hW, hsame⟩ := X15.leave (v := some (.ref w3)) (fun h => by rw [Bd.returns] at h; cases h)
          refine ⟨_, _, go16 _ ?_, hrun, hended, _, _, rfl, ?_, ⟨_, rfl⟩, hW, hsame.mono (by decide) (by decide)⟩
          · skip
            show Steps p.tables e below (T15.setTop (mkF m 34 #[.val (.int p1)] [(.ref w3)])) _
            jvm_step X15.here [X15.here.top, hx, (hb hby d1_34), X15.method', Bd.returns, Value.isRef, FieldType.isReference]
            first | (intro acts; rw [hr _ acts rfl rfl rfl]) | rw [hr _ _ rfl rfl rfl]
            exact Steps.refl _
          · show Q_rm1 Z p1 w0 w1 w2 w3 w4 w5 w6 w7 h0 n0 _ T15.heap _
            rw [e15]
            exact ⟨by simp [hc2, hc6, hc10, hc14], N0, rfl⟩
        · skip
          have go17 : ∀ t, Steps p.tables e below (s₁.setTop (mkF m 37 #[.val (.int p1)] [(.int (4 : Int32)), (.int p1)])) t → Steps p.tables e below (s₁.setTop (entryFrame m #[(.int p1)] 1)) t := by
            intro t k
            refine go13 t ?_
            show Steps p.tables e below (s₁.setTop (mkF m 28 #[.val (.int p1)] [(.int (3 : Int32)), (.int p1)])) _
            refine XS.icmpYes X0.here hx rfl (pc0 := 28) (pc' := 35) rfl (hb hby d1_28) rfl (feq hc14).2 (by decide) (by decide) ?_
            show Steps p.tables e below (s₁.setTop (mkF m 35 #[.val (.int p1)] [])) _
            refine XS.iloadN X0.here hx rfl (hb hby d1_35) rfl ?_
            show Steps p.tables e below (s₁.setTop (mkF m 36 #[.val (.int p1)] [(.int p1)])) _
            refine XS.iconst X0.here hx rfl (hb hby d1_36) ?_
            exact k
          by_cases hc18 : p1 = (4 : Int32)
          · skip
            obtain ⟨T19, X19, e19, st19⟩ := getS2 X0 hx hZ hown (host := "") (Or.inl hw_28) Via.refl e0 S_ARRAY (g := (mkF m 40 #[.val (.int p1)] [])) rfl (hb hby d1_40)
            have go20 : ∀ t, Steps p.tables e below (T19.setTop (mkF m 43 #[.val (.int p1)] [(.ref w4)])) t → Steps p.tables e below (s₁.setTop (entryFrame m #[(.int p1)] 1)) t := by
              intro t k
              refine go17 t ?_
              show Steps p.tables e below (s₁.setTop (mkF m 37 #[.val (.int p1)] [(.int (4 : Int32)), (.int p1)])) _
              refine XS.icmpNo X0.here hx rfl (hb hby d1_37) rfl (teq hc18).2 ?_
              show Steps p.tables e below (s₁.setTop (mkF m 40 #[.val (.int p1)] [])) _
              refine st19 _ ?_
              exact k
            obtain ⟨fs, hr, hrun, hended, hW, hsame⟩ := X19.leave (v := some (.ref w4)) (fun h => by rw [Bd.returns] at h; cases h)
            refine ⟨_, _, go20 _ ?_, hrun, hended, _, _, rfl, ?_, ⟨_, rfl⟩, hW, hsame.mono (by decide) (by decide)⟩
            · skip
              show Steps p.tables e below (T19.setTop (mkF m 43 #[.val (.int p1)] [(.ref w4)])) _
              jvm_step X19.here [X19.here.top, hx, (hb hby d1_43), X19.method', Bd.returns, Value.isRef, FieldType.isReference]
              first | (intro acts; rw [hr _ acts rfl rfl rfl]) | rw [hr _ _ rfl rfl rfl]
              exact Steps.refl _
            · show Q_rm1 Z p1 w0 w1 w2 w3 w4 w5 w6 w7 h0 n0 _ T19.heap _
              rw [e19]
              exact ⟨by simp [hc2, hc6, hc10, hc14, hc18], N0, rfl⟩
          · skip
            have go21 : ∀ t, Steps p.tables e below (s₁.setTop (mkF m 46 #[.val (.int p1)] [(.int (5 : Int32)), (.int p1)])) t → Steps p.tables e below (s₁.setTop (entryFrame m #[(.int p1)] 1)) t := by
              intro t k
              refine go17 t ?_
              show Steps p.tables e below (s₁.setTop (mkF m 37 #[.val (.int p1)] [(.int (4 : Int32)), (.int p1)])) _
              refine XS.icmpYes X0.here hx rfl (pc0 := 37) (pc' := 44) rfl (hb hby d1_37) rfl (feq hc18).2 (by decide) (by decide) ?_
              show Steps p.tables e below (s₁.setTop (mkF m 44 #[.val (.int p1)] [])) _
              refine XS.iloadN X0.here hx rfl (hb hby d1_44) rfl ?_
              show Steps p.tables e below (s₁.setTop (mkF m 45 #[.val (.int p1)] [(.int p1)])) _
              refine XS.iconst X0.here hx rfl (hb hby d1_45) ?_
              exact k
            by_cases hc22 : p1 = (5 : Int32)
            · skip
              obtain ⟨T23, X23, e23, st23⟩ := getS2 X0 hx hZ hown (host := "") (Or.inl hw_29) Via.refl e0 S_MAP (g := (mkF m 49 #[.val (.int p1)] [])) rfl (hb hby d1_49)
              have go24 : ∀ t, Steps p.tables e below (T23.setTop (mkF m 52 #[.val (.int p1)] [(.ref w5)])) t → Steps p.tables e below (s₁.setTop (entryFrame m #[(.int p1)] 1)) t := by
                intro t k
                refine go21 t ?_
                show Steps p.tables e below (s₁.setTop (mkF m 46 #[.val (.int p1)] [(.int (5 : Int32)), (.int p1)])) _
                refine XS.icmpNo X0.here hx rfl (hb hby d1_46) rfl (teq hc22).2 ?_
                show Steps p.tables e below (s₁.setTop (mkF m 49 #[.val (.int p1)] [])) _
                refine st23 _ ?_
                exact k
              obtain ⟨fs, hr, hrun, hended, hW, hsame⟩ := X23.leave (v := some (.ref w5)) (fun h => by rw [Bd.returns] at h; cases h)
              refine ⟨_, _, go24 _ ?_, hrun, hended, _, _, rfl, ?_, ⟨_, rfl⟩, hW, hsame.mono (by decide) (by decide)⟩
              · skip
                show Steps p.tables e below (T23.setTop (mkF m 52 #[.val (.int p1)] [(.ref w5)])) _
                jvm_step X23.here [X23.here.top, hx, (hb hby d1_52), X23.method', Bd.returns, Value.isRef, FieldType.isReference]
                first | (intro acts; rw [hr _ acts rfl rfl rfl]) | rw [hr _ _ rfl rfl rfl]
                exact Steps.refl _
              · show Q_rm1 Z p1 w0 w1 w2 w3 w4 w5 w6 w7 h0 n0 _ T23.heap _
                rw [e23]
                exact ⟨by simp [hc2, hc6, hc10, hc14, hc18, hc22], N0, rfl⟩
            · skip
              have go25 : ∀ t, Steps p.tables e below (s₁.setTop (mkF m 56 #[.val (.int p1)] [(.int (6 : Int32)), (.int p1)])) t → Steps p.tables e below (s₁.setTop (entryFrame m #[(.int p1)] 1)) t := by
                intro t k
                refine go21 t ?_
                show Steps p.tables e below (s₁.setTop (mkF m 46 #[.val (.int p1)] [(.int (5 : Int32)), (.int p1)])) _
                refine XS.icmpYes X0.here hx rfl (pc0 := 46) (pc' := 53) rfl (hb hby d1_46) rfl (feq hc22).2 (by decide) (by decide) ?_
                show Steps p.tables e below (s₁.setTop (mkF m 53 #[.val (.int p1)] [])) _
                refine XS.iloadN X0.here hx rfl (hb hby d1_53) rfl ?_
                show Steps p.tables e below (s₁.setTop (mkF m 54 #[.val (.int p1)] [(.int p1)])) _
                refine XS.bipush X0.here hx rfl (hb hby d1_54) ?_
                exact k
              by_cases hc26 : p1 = (6 : Int32)
              · skip
                obtain ⟨T27, X27, e27, st27⟩ := getS2 X0 hx hZ hown (host := "") (Or.inl hw_21) Via.refl e0 S_TAG (g := (mkF m 59 #[.val (.int p1)] [])) rfl (hb hby d1_59)
                have go28 : ∀ t, Steps p.tables e below (T27.setTop (mkF m 62 #[.val (.int p1)] [(.ref w6)])) t → Steps p.tables e below (s₁.setTop (entryFrame m #[(.int p1)] 1)) t := by
                  intro t k
                  refine go25 t ?_
                  show Steps p.tables e below (s₁.setTop (mkF m 56 #[.val (.int p1)] [(.int (6 : Int32)), (.int p1)])) _
                  refine XS.icmpNo X0.here hx rfl (hb hby d1_56) rfl (teq hc26).2 ?_
                  show Steps p.tables e below (s₁.setTop (mkF m 59 #[.val (.int p1)] [])) _
                  refine st27 _ ?_
                  exact k
                obtain ⟨fs, hr, hrun, hended, hW, hsame⟩ := X27.leave (v := some (.ref w6)) (fun h => by rw [Bd.returns] at h; cases h)
                refine ⟨_, _, go28 _ ?_, hrun, hended, _, _, rfl, ?_, ⟨_, rfl⟩, hW, hsame.mono (by decide) (by decide)⟩
                · skip
                  show Steps p.tables e below (T27.setTop (mkF m 62 #[.val (.int p1)] [(.ref w6)])) _
                  jvm_step X27.here [X27.here.top, hx, (hb hby d1_62), X27.method', Bd.returns, Value.isRef, FieldType.isReference]
                  first | (intro acts; rw [hr _ acts rfl rfl rfl]) | rw [hr _ _ rfl rfl rfl]
                  exact Steps.refl _
                · show Q_rm1 Z p1 w0 w1 w2 w3 w4 w5 w6 w7 h0 n0 _ T27.heap _
                  rw [e27]
                  exact ⟨by simp [hc2, hc6, hc10, hc14, hc18, hc22, hc26], N0, rfl⟩
              · skip
                obtain ⟨T29, X29, e29, st29⟩ := getS2 X0 hx hZ hown (host := "") (Or.inl hw_23) Via.refl e0 S_SIMPLE_OR_FLOAT (g := (mkF m 63 #[.val (.int p1)] [])) rfl (hb hby d1_63)
                have go30 : ∀ t, Steps p.tables e below (T29.setTop (mkF m 66 #[.val (.int p1)] [(.ref w7)])) t → Steps p.tables e below (s₁.setTop (entryFrame m #[(.int p1)] 1)) t := by
                  intro t k
                  refine go25 t ?_
                  show Steps p.tables e below (s₁.setTop (mkF m 56 #[.val (.int p1)] [(.int (6 : Int32)), (.int p1)])) _
                  refine XS.icmpYes X0.here hx rfl (pc0 := 56) (pc' := 63) rfl (hb hby d1_56) rfl (feq hc26).2 (by decide) (by decide) ?_
                  show Steps p.tables e below (s₁.setTop (mkF m 63 #[.val (.int p1)] [])) _
                  refine st29 _ ?_
                  exact k
                obtain ⟨fs, hr, hrun, hended, hW, hsame⟩ := X29.leave (v := some (.ref w7)) (fun h => by rw [Bd.returns] at h; cases h)
                refine ⟨_, _, go30 _ ?_, hrun, hended, _, _, rfl, ?_, ⟨_, rfl⟩, hW, hsame.mono (by decide) (by decide)⟩
                · skip
                  show Steps p.tables e below (T29.setTop (mkF m 66 #[.val (.int p1)] [(.ref w7)])) _
                  jvm_step X29.here [X29.here.top, hx, (hb hby d1_66), X29.method', Bd.returns, Value.isRef, FieldType.isReference]
                  first | (intro acts; rw [hr _ acts rfl rfl rfl]) | rw [hr _ _ rfl rfl rfl]
                  exact Steps.refl _
                · show Q_rm1 Z p1 w0 w1 w2 w3 w4 w5 w6 w7 h0 n0 _ T29.heap _
                  rw [e29]
                  exact ⟨by simp [hc2, hc6, hc10, hc14, hc18, hc22, hc26], N0, rfl⟩
def own_pk (p1 : Int32) (w0 w1 w2 w3 w4 w5 w6 w7 : Addr) : Addr := (if p1 = 0 then w0 else if p1 = 1 then w1 else if p1 = 2 then w2 else if p1 = 3 then w3 else if p1 = 4 then w4 else if p1 = 5 then w5 else if p1 = 6 then w6 else w7)
def own_al (w2 w3 w4 w5 a : Addr) : Int32 := (if a = w2 then (1 : Int32) else if a = w3 then 1 else if a = w4 then 1 else if a = w5 then 1 else 0)
theorem own_rng (p1 : Int32) : (p1 &&& 7) = 0 ∨ (p1 &&& 7) = 1 ∨ (p1 &&& 7) = 2 ∨ (p1 &&& 7) = 3 ∨ (p1 &&& 7) = 4 ∨ (p1 &&& 7) = 5 ∨ (p1 &&& 7) = 6 ∨ (p1 &&& 7) = 7 := by
  have h := c_and p1 7 (by decide)
  generalize p1 &&& 7 = z at h
  have e : ∀ k : Int32, z.toInt = k.toInt → z = k := fun k q => Int32.toInt_inj.mp q
  obtain ⟨h1, h2⟩ := h
  have h3 : (7 : Int32).toInt = 7 := by decide
  rw [h3] at h2
  have : z.toInt = 0 ∨ z.toInt = 1 ∨ z.toInt = 2 ∨ z.toInt = 3 ∨ z.toInt = 4 ∨ z.toInt = 5 ∨ z.toInt = 6 ∨ z.toInt = 7 := by omega
  rcases this with q | q | q | q | q | q | q | q
  · exact Or.inl (e 0 q)
  · exact Or.inr (Or.inl (e 1 q))
  · exact Or.inr (Or.inr (Or.inl (e 2 q)))
  · exact Or.inr (Or.inr (Or.inr (Or.inl (e 3 q))))
  · exact Or.inr (Or.inr (Or.inr (Or.inr (Or.inl (e 4 q)))))
  · exact Or.inr (Or.inr (Or.inr (Or.inr (Or.inr (Or.inl (e 5 q))))))
  · exact Or.inr (Or.inr (Or.inr (Or.inr (Or.inr (Or.inr (Or.inl (e 6 q)))))))
  · exact Or.inr (Or.inr (Or.inr (Or.inr (Or.inr (Or.inr (Or.inr (e 7 q)))))))
theorem own_law {n : Int32} {w0 w1 w2 w3 w4 w5 w6 w7 : Addr} (hr : n = 0 ∨ n = 1 ∨ n = 2 ∨ n = 3 ∨ n = 4 ∨ n = 5 ∨ n = 6 ∨ n = 7) (hd : w0 ∉ [w2, w3, w4, w5] ∧ w1 ∉ [w2, w3, w4, w5] ∧ w6 ∉ [w2, w3, w4, w5] ∧ w7 ∉ [w2, w3, w4, w5]) : own_al w2 w3 w4 w5 (own_pk n w0 w1 w2 w3 w4 w5 w6 w7) = if n < 2 then 0 else if 5 < n then 0 else 1 := by
  simp only [List.mem_cons, List.not_mem_nil, or_false, not_or] at hd
  obtain ⟨⟨a1, a2, a3, a4⟩, ⟨b1, b2, b3, b4⟩, ⟨c1, c2, c3, c4⟩, d1, d2, d3, d4⟩ := hd
  rcases hr with rfl | rfl | rfl | rfl | rfl | rfl | rfl | rfl <;> simp [own_al, own_pk, *]
theorem ef_0 (m : MethodId) (x0 : Int32) : entryFrame m #[(.int x0)] maxLocals = mkF m 0 #[.val (.int x0), .unset, .unset, .unset] [] := by first | (simp [entryFrame, mkF, argsToLocals, Value.category, maxLocals]; done) | rfl
theorem pd_0 : parseMethodDescriptor "(I)Lcom/example/clayms/clayms/cbor/MajorType;" = some ⟨[.int], some (.object "com/example/clayms/clayms/cbor/MajorType")⟩ := by decide +kernel
theorem pd_1 : parseMethodDescriptor "()Z" = some ⟨[], some .boolean⟩ := by decide +kernel
def Q_rm0 (Z : State) (p1 : Int32) (w0 : Addr) (w1 : Addr) (w2 : Addr) (w3 : Addr) (w4 : Addr) (w5 : Addr) (w6 : Addr) (w7 : Addr) (h0 : Heap) (n0 : Nat) (v : Option Value) (h : Heap) (L : List Loc) : Prop := v = some (.int 1) ∧ Fr n0 L
set_option maxRecDepth 65536 in
set_option maxHeartbeats 40000000 in
theorem rm0 (l : Launch) (Z : State) (a0 : Array Value) (hw : ∀ d ∈ tables_1, d.before a0 Z = true) (ws : List Jvm.Cond) (p1 : Int32) (w0 : Addr) (w1 : Addr) (w2 : Addr) (w3 : Addr) (w4 : Addr) (w5 : Addr) (w6 : Addr) (w7 : Addr) (h0 : Heap) (n0 : Nat) (Z0 : n0 ≤ h0.size) (S_UNSIGNED_INTEGER : Sta Z h0 "com/example/clayms/clayms/cbor/MajorType" "UNSIGNED_INTEGER" "Lcom/example/clayms/clayms/cbor/MajorType;" (.ref w0)) (S_NEGATIVE_INTEGER : Sta Z h0 "com/example/clayms/clayms/cbor/MajorType" "NEGATIVE_INTEGER" "Lcom/example/clayms/clayms/cbor/MajorType;" (.ref w1)) (S_BYTE_STRING : Sta Z h0 "com/example/clayms/clayms/cbor/MajorType" "BYTE_STRING" "Lcom/example/clayms/clayms/cbor/MajorType;" (.ref w2)) (S_TEXT_STRING : Sta Z h0 "com/example/clayms/clayms/cbor/MajorType" "TEXT_STRING" "Lcom/example/clayms/clayms/cbor/MajorType;" (.ref w3)) (S_ARRAY : Sta Z h0 "com/example/clayms/clayms/cbor/MajorType" "ARRAY" "Lcom/example/clayms/clayms/cbor/MajorType;" (.ref w4)) (S_MAP : Sta Z h0 "com/example/clayms/clayms/cbor/MajorType" "MAP" "Lcom/example/clayms/clayms/cbor/MajorType;" (.ref w5)) (S_TAG : Sta Z h0 "com/example/clayms/clayms/cbor/MajorType" "TAG" "Lcom/example/clayms/clayms/cbor/MajorType;" (.ref w6)) (S_SIMPLE_OR_FLOAT : Sta Z h0 "com/example/clayms/clayms/cbor/MajorType" "SIMPLE_OR_FLOAT" "Lcom/example/clayms/clayms/cbor/MajorType;" (.ref w7)) (E_pk : Exa Z h0 (own_pk (p1 &&& (7 : Int32)) w0 w1 w2 w3 w4 w5 w6 w7) "com/example/clayms/clayms/cbor/MajorType") (hd : w0 ∉ [w2, w3, w4, w5] ∧ w1 ∉ [w2, w3, w4, w5] ∧ w6 ∉ [w2, w3, w4, w5] ∧ w7 ∉ [w2, w3, w4, w5]) :
    MetFree l x (head1 (Jvm.Cond.code x code maxLocals ret :: ws) room_1) (fun a U => a = #[(.int p1)] ∧ Z.Warmed39 U.vm ∧ U.heap = h0) (fun _ _ _ _ _ => True) (fun _ U o U' => ∃ v L, o = .returned v ∧ Q_rm0 Z p1 w0 w1 w2 w3 w4 w5 w6 w7 h0 n0 v U'.heap L ∧ FrameEnd U o U' L room_1.cells room_1.slots) := by
  have hw_0 := hw _ (List.mem_of_getElem? (i := 0) rfl)
  have hw_1 := hw _ (List.mem_of_getElem? (i := 1) rfl)
  have hw_2 := hw _ (List.mem_of_getElem? (i := 2) rfl)
  have hw_3 := hw _ (List.mem_of_getElem? (i := 3) rfl)
  have hw_5 := hw _ (List.mem_of_getElem? (i := 5) rfl)
  have hw_7 := hw _ (List.mem_of_getElem? (i := 7) rfl)
  have hw_8 := hw _ (List.mem_of_getElem? (i := 8) rfl)
  have hw_9 := hw _ (List.mem_of_getElem? (i := 9) rfl)
  have hw_10 := hw _ (List.mem_of_getElem? (i := 10) rfl)
  have hw_11 := hw _ (List.mem_of_getElem? (i := 11) rfl)
  refine MetFree.of_bodySF (plainFor_of_name pn_MajorTypeAllowsIndefiniteLengthPinLaw) hisR ?_
  intro p e s m args below meth c s₁ Bd hml0 hP hK
  obtain ⟨rfl, hZ, hh⟩ := hP
  have hx := Bd.exec
  have hby := Bd.bytes
  have hml : c.maxLocals = 4 := hml0
  have hown : s.vm.findClass "com/example/clayms/clayms/cbor/MajorTypeAllowsIndefiniteLengthPinLaw" = some m.cls := findClass_of_methodNamed Bd.named
  have hnm := (name_of_methodNamed Bd.named Bd.method).1
  have X0 : Stand p l e room_1 s m #[(.int p1)] below meth c s₁ [] 0 0 := Stand.of_body Bd
  have e0 : s₁.heap = h0 := by rw [← hh, Bd.state]; rfl
  have N0 := Fr.nil n0
  have pre0 : ∀ t, Steps p.tables e below (s₁.setTop (mkF m 0 #[.val (.int p1), .unset, .unset, .unset] [])) t → Steps p.tables e below (s₁.setTop (entryFrame m #[(.int p1)] maxLocals)) t := fun t k => castTop (ef_0 m p1) k
  obtain ⟨_, _, ⟨T1, L1, k1, n1⟩, -, X1, ⟨Lc1, hQ1, l1, y1, z1⟩, st1⟩ := Jvm.LawKit.callS X0 hx (y := (⟨"com/example/clayms/clayms/cbor/MajorTypeAllowsIndefiniteLengthPinLaw", "pick", "(I)Lcom/example/clayms/clayms/cbor/MajorType;"⟩ : MethodName)) hown (mvT hZ hw_0) (mvT hZ hw_1) (mvT hZ hw_2) (mvT hZ hw_3) (by decide) (backOf (W := 0) (rm1 l Z a0 hw [] (p1 &&& (7 : Int32)) w0 w1 w2 w3 w4 w5 w6 w7 h0 n0 Z0 S_UNSIGNED_INTEGER S_NEGATIVE_INTEGER S_BYTE_STRING S_TEXT_STRING S_ARRAY S_MAP S_TAG S_SIMPLE_OR_FLOAT) hZ hw_3 hw_2 (by decide) (by decide)) (g := (mkF m 6 #[.val (.int p1), .val (.int (p1 &&& (7 : Int32))), .unset, .unset] [(.int (p1 &&& (7 : Int32)))])) rfl (by rw [hml]; rfl) (argsL := [(.int (p1 &&& (7 : Int32)))]) (rest := []) (lenOf pd_0 rfl) rfl (by show 2 * 0 + _ ≤ _; exact Nat.le_of_eq rfl) (hb hby at_6) (fun _ _ => ⟨rfl, e0, (by decide : 0 + 0 ≤ _), (by decide : 0 + 0 ≤ _)⟩)
  dsimp only [Pt.U, Pt.locs, Pt.cells, Pt.slots] at X1 l1 y1 z1 st1 hQ1
  subst l1 y1 z1
  obtain ⟨rfl, N1q, e1⟩ := hQ1
  have N1 := Fr.app N0 N1q
  have go2 : ∀ t, Steps p.tables e below (T1.setTop (mkF m 12 #[.val (.int p1), .val (.int (p1 &&& (7 : Int32))), .val (.ref (own_pk (p1 &&& (7 : Int32)) w0 w1 w2 w3 w4 w5 w6 w7)), .unset] [(.int (2 : Int32)), (.int (p1 &&& (7 : Int32)))])) t → Steps p.tables e below (s₁.setTop (entryFrame m #[(.int p1)] maxLocals)) t := by
    intro t k
    refine pre0 t ?_
    show Steps p.tables e below (s₁.setTop (mkF m 0 #[.val (.int p1), .unset, .unset, .unset] [])) _
    refine XS.iloadN X0.here hx rfl (hb hby at_0) rfl ?_
    show Steps p.tables e below (s₁.setTop (mkF m 1 #[.val (.int p1), .unset, .unset, .unset] [(.int p1)])) _
    refine XS.bipush X0.here hx rfl (hb hby at_1) ?_
    show Steps p.tables e below (s₁.setTop (mkF m 3 #[.val (.int p1), .unset, .unset, .unset] [(.int (7 : Int32)), (.int p1)])) _
    refine XS.iand X0.here hx rfl (hb hby at_3) rfl ?_
    show Steps p.tables e below (s₁.setTop (mkF m 4 #[.val (.int p1), .unset, .unset, .unset] [(.int (p1 &&& (7 : Int32)))])) _
    refine XS.istoreN X0.here hx rfl (hb hby at_4) rfl (l' := #[.val (.int p1), .val (.int (p1 &&& (7 : Int32))), .unset, .unset]) rfl ?_
    show Steps p.tables e below (s₁.setTop (mkF m 5 #[.val (.int p1), .val (.int (p1 &&& (7 : Int32))), .unset, .unset] [])) _
    refine XS.iloadN X0.here hx rfl (hb hby at_5) rfl ?_
    show Steps p.tables e below (s₁.setTop (mkF m 6 #[.val (.int p1), .val (.int (p1 &&& (7 : Int32))), .unset, .unset] [(.int (p1 &&& (7 : Int32)))])) _
    refine st1 _ ?_
    show Steps p.tables e below (T1.setTop (mkF m 9 #[.val (.int p1), .val (.int (p1 &&& (7 : Int32))), .unset, .unset] [(.ref (own_pk (p1 &&& (7 : Int32)) w0 w1 w2 w3 w4 w5 w6 w7))])) _
    refine XS.astoreN X1.here hx rfl (hb hby at_9) rfl rfl (l' := #[.val (.int p1), .val (.int (p1 &&& (7 : Int32))), .val (.ref (own_pk (p1 &&& (7 : Int32)) w0 w1 w2 w3 w4 w5 w6 w7)), .unset]) rfl ?_
    show Steps p.tables e below (T1.setTop (mkF m 10 #[.val (.int p1), .val (.int (p1 &&& (7 : Int32))), .val (.ref (own_pk (p1 &&& (7 : Int32)) w0 w1 w2 w3 w4 w5 w6 w7)), .unset] [])) _
    refine XS.iloadN X1.here hx rfl (hb hby at_10) rfl ?_
    show Steps p.tables e below (T1.setTop (mkF m 11 #[.val (.int p1), .val (.int (p1 &&& (7 : Int32))), .val (.ref (own_pk (p1 &&& (7 : Int32)) w0 w1 w2 w3 w4 w5 w6 w7)), .unset] [(.int (p1 &&& (7 : Int32)))])) _
    refine XS.iconst X1.here hx rfl (hb hby at_11) ?_
    exact k
  by_cases hc3 : (p1 &&& (7 : Int32)) < (2 : Int32)
  · skip
    obtain ⟨cq4, kq4, q4a, q4b, q4c⟩ := isOf hZ e1 E_pk
    obtain ⟨_, _, ⟨T4, L4, k4, n4⟩, -, X4, ⟨Lc4, hQ4, l4, y4, z4⟩, st4⟩ := X1.virtualBack hx (y := (⟨"com/example/clayms/clayms/cbor/MajorType", "allowsIndefiniteLength", "()Z"⟩ : MethodName)) (z := (⟨"com/example/clayms/clayms/cbor/MajorType", "allowsIndefiniteLength", "()Z"⟩ : MethodName)) hown (mvT hZ hw_7) (mvT hZ hw_8) (notFace_of_selects (args := #[]) (mvT hZ hw_10)) (mvT hZ hw_10) (mvT hZ hw_9) (by decide) (backOf (W := 0) (rm2 l Z a0 hw [] (own_pk (p1 &&& (7 : Int32)) w0 w1 w2 w3 w4 w5 w6 w7) w2 w3 w4 w5 h0 n0 Z0 S_BYTE_STRING S_TEXT_STRING S_ARRAY S_MAP) hZ hw_11 hw_5 (by decide) (by decide)) q4a q4c (g := (mkF m 27 #[.val (.int p1), .val (.int (p1 &&& (7 : Int32))), .val (.ref (own_pk (p1 &&& (7 : Int32)) w0 w1 w2 w3 w4 w5 w6 w7)), .val (.int (0 : Int32))] [(.ref (own_pk (p1 &&& (7 : Int32)) w0 w1 w2 w3 w4 w5 w6 w7))])) rfl (by rw [hml]; rfl) (Steps.refl _) (argsL := []) (rest := []) (lenOf pd_1 rfl) rfl (by show 2 * 0 + _ ≤ _; exact Nat.le_of_eq rfl) (hb hby at_27) (fun _ _ => ⟨rfl, e1, (by decide : 0 + 0 ≤ _), (by decide : 0 + 0 ≤ _)⟩)
    dsimp only [Pt.U, Pt.locs, Pt.cells, Pt.slots] at X4 l4 y4 z4 st4 hQ4
    subst l4 y4 z4
    obtain ⟨rfl, N4q, e4⟩ := hQ4
    have N4 := Fr.app N1 N4q
    have go5 : ∀ t, Steps p.tables e below (T4.setTop (mkF m 39 #[.val (.int p1), .val (.int (p1 &&& (7 : Int32))), .val (.ref (own_pk (p1 &&& (7 : Int32)) w0 w1 w2 w3 w4 w5 w6 w7)), .val (.int (0 : Int32))] [(.int (1 : Int32))])) t → Steps p.tables e below (s₁.setTop (entryFrame m #[(.int p1)] maxLocals)) t := by
      intro t k
      refine go2 t ?_
      show Steps p.tables e below (T1.setTop (mkF m 12 #[.val (.int p1), .val (.int (p1 &&& (7 : Int32))), .val (.ref (own_pk (p1 &&& (7 : Int32)) w0 w1 w2 w3 w4 w5 w6 w7)), .unset] [(.int (2 : Int32)), (.int (p1 &&& (7 : Int32)))])) _
      refine XS.icmpYes X1.here hx rfl (pc0 := 12) (pc' := 24) rfl (hb hby at_12) rfl (tlt hc3).1 (by decide) (by decide) ?_
      show Steps p.tables e below (T1.setTop (mkF m 24 #[.val (.int p1), .val (.int (p1 &&& (7 : Int32))), .val (.ref (own_pk (p1 &&& (7 : Int32)) w0 w1 w2 w3 w4 w5 w6 w7)), .unset] [])) _
      refine XS.iconst X1.here hx rfl (hb hby at_24) ?_
      show Steps p.tables e below (T1.setTop (mkF m 25 #[.val (.int p1), .val (.int (p1 &&& (7 : Int32))), .val (.ref (own_pk (p1 &&& (7 : Int32)) w0 w1 w2 w3 w4 w5 w6 w7)), .unset] [(.int (0 : Int32))])) _
      refine XS.istoreN X1.here hx rfl (hb hby at_25) rfl (l' := #[.val (.int p1), .val (.int (p1 &&& (7 : Int32))), .val (.ref (own_pk (p1 &&& (7 : Int32)) w0 w1 w2 w3 w4 w5 w6 w7)), .val (.int (0 : Int32))]) rfl ?_
      show Steps p.tables e below (T1.setTop (mkF m 26 #[.val (.int p1), .val (.int (p1 &&& (7 : Int32))), .val (.ref (own_pk (p1 &&& (7 : Int32)) w0 w1 w2 w3 w4 w5 w6 w7)), .val (.int (0 : Int32))] [])) _
      refine XS.aloadN X1.here hx rfl (hb hby at_26) rfl rfl ?_
      show Steps p.tables e below (T1.setTop (mkF m 27 #[.val (.int p1), .val (.int (p1 &&& (7 : Int32))), .val (.ref (own_pk (p1 &&& (7 : Int32)) w0 w1 w2 w3 w4 w5 w6 w7)), .val (.int (0 : Int32))] [(.ref (own_pk (p1 &&& (7 : Int32)) w0 w1 w2 w3 w4 w5 w6 w7))])) _
      refine st4.trans ?_
      show Steps p.tables e below (T4.setTop (mkF m 30 #[.val (.int p1), .val (.int (p1 &&& (7 : Int32))), .val (.ref (own_pk (p1 &&& (7 : Int32)) w0 w1 w2 w3 w4 w5 w6 w7)), .val (.int (0 : Int32))] [(.int (own_al w2 w3 w4 w5 (own_pk (p1 &&& (7 : Int32)) w0 w1 w2 w3 w4 w5 w6 w7)))])) _
      refine XS.iloadN X4.here hx rfl (hb hby at_30) rfl ?_
      show Steps p.tables e below (T4.setTop (mkF m 31 #[.val (.int p1), .val (.int (p1 &&& (7 : Int32))), .val (.ref (own_pk (p1 &&& (7 : Int32)) w0 w1 w2 w3 w4 w5 w6 w7)), .val (.int (0 : Int32))] [(.int (0 : Int32)), (.int (own_al w2 w3 w4 w5 (own_pk (p1 &&& (7 : Int32)) w0 w1 w2 w3 w4 w5 w6 w7)))])) _
      refine XS.icmpNo X4.here hx rfl (hb hby at_31) rfl (teq ((own_law (own_rng p1) hd).trans (by simp [hc3]) : (own_al w2 w3 w4 w5 (own_pk (p1 &&& (7 : Int32)) w0 w1 w2 w3 w4 w5 w6 w7)) = (0 : Int32))).2 ?_
      show Steps p.tables e below (T4.setTop (mkF m 34 #[.val (.int p1), .val (.int (p1 &&& (7 : Int32))), .val (.ref (own_pk (p1 &&& (7 : Int32)) w0 w1 w2 w3 w4 w5 w6 w7)), .val (.int (0 : Int32))] [])) _
      refine XS.iconst X4.here hx rfl (hb hby at_34) ?_
      show Steps p.tables e below (T4.setTop (mkF m 35 #[.val (.int p1), .val (.int (p1 &&& (7 : Int32))), .val (.ref (own_pk (p1 &&& (7 : Int32)) w0 w1 w2 w3 w4 w5 w6 w7)), .val (.int (0 : Int32))] [(.int (1 : Int32))])) _
      refine XS.goto X4.here hx rfl (pc0 := 35) (pc' := 39) rfl (hb hby at_35) (by decide) (by decide) ?_
      exact k
    obtain ⟨fs, hr, hrun, hended, hW, hsame⟩ := X4.leave (v := some (.int (1 : Int32))) (fun h => by rw [Bd.returns] at h; cases h)
    refine ⟨_, _, go5 _ ?_, hrun, hended, _, _, rfl, ?_, ⟨_, rfl⟩, hW, hsame.mono (by decide) (by decide)⟩
    · skip
      show Steps p.tables e below (T4.setTop (mkF m 39 #[.val (.int p1), .val (.int (p1 &&& (7 : Int32))), .val (.ref (own_pk (p1 &&& (7 : Int32)) w0 w1 w2 w3 w4 w5 w6 w7)), .val (.int (0 : Int32))] [(.int (1 : Int32))])) _
      exact retN X4 hx (t := .boolean) Bd.returns (by simp) (hb hby at_39) hr
    · show Q_rm0 Z p1 w0 w1 w2 w3 w4 w5 w6 w7 h0 n0 _ T4.heap _
      rw [e4]
      exact ⟨rfl, N4⟩
  · skip
    have go6 : ∀ t, Steps p.tables e below (T1.setTop (mkF m 17 #[.val (.int p1), .val (.int (p1 &&& (7 : Int32))), .val (.ref (own_pk (p1 &&& (7 : Int32)) w0 w1 w2 w3 w4 w5 w6 w7)), .unset] [(.int (5 : Int32)), (.int (p1 &&& (7 : Int32)))])) t → Steps p.tables e below (s₁.setTop (entryFrame m #[(.int p1)] maxLocals)) t := by
      intro t k
      refine go2 t ?_
      show Steps p.tables e below (T1.setTop (mkF m 12 #[.val (.int p1), .val (.int (p1 &&& (7 : Int32))), .val (.ref (own_pk (p1 &&& (7 : Int32)) w0 w1 w2 w3 w4 w5 w6 w7)), .unset] [(.int (2 : Int32)), (.int (p1 &&& (7 : Int32)))])) _
      refine XS.icmpNo X1.here hx rfl (hb hby at_12) rfl (flt hc3).1 ?_
      show Steps p.tables e below (T1.setTop (mkF m 15 #[.val (.int p1), .val (.int (p1 &&& (7 : Int32))), .val (.ref (own_pk (p1 &&& (7 : Int32)) w0 w1 w2 w3 w4 w5 w6 w7)), .unset] [])) _
      refine XS.iloadN X1.here hx rfl (hb hby at_15) rfl ?_
      show Steps p.tables e below (T1.setTop (mkF m 16 #[.val (.int p1), .val (.int (p1 &&& (7 : Int32))), .val (.ref (own_pk (p1 &&& (7 : Int32)) w0 w1 w2 w3 w4 w5 w6 w7)), .unset] [(.int (p1 &&& (7 : Int32)))])) _
      refine XS.iconst X1.here hx rfl (hb hby at_16) ?_
      exact k
    by_cases hc7 : (5 : Int32) < (p1 &&& (7 : Int32))
    · skip
      obtain ⟨cq8, kq8, q8a, q8b, q8c⟩ := isOf hZ e1 E_pk
      obtain ⟨_, _, ⟨T8, L8, k8, n8⟩, -, X8, ⟨Lc8, hQ8, l8, y8, z8⟩, st8⟩ := X1.virtualBack hx (y := (⟨"com/example/clayms/clayms/cbor/MajorType", "allowsIndefiniteLength", "()Z"⟩ : MethodName)) (z := (⟨"com/example/clayms/clayms/cbor/MajorType", "allowsIndefiniteLength", "()Z"⟩ : MethodName)) hown (mvT hZ hw_7) (mvT hZ hw_8) (notFace_of_selects (args := #[]) (mvT hZ hw_10)) (mvT hZ hw_10) (mvT hZ hw_9) (by decide) (backOf (W := 0) (rm2 l Z a0 hw [] (own_pk (p1 &&& (7 : Int32)) w0 w1 w2 w3 w4 w5 w6 w7) w2 w3 w4 w5 h0 n0 Z0 S_BYTE_STRING S_TEXT_STRING S_ARRAY S_MAP) hZ hw_11 hw_5 (by decide) (by decide)) q8a q8c (g := (mkF m 27 #[.val (.int p1), .val (.int (p1 &&& (7 : Int32))), .val (.ref (own_pk (p1 &&& (7 : Int32)) w0 w1 w2 w3 w4 w5 w6 w7)), .val (.int (0 : Int32))] [(.ref (own_pk (p1 &&& (7 : Int32)) w0 w1 w2 w3 w4 w5 w6 w7))])) rfl (by rw [hml]; rfl) (Steps.refl _) (argsL := []) (rest := []) (lenOf pd_1 rfl) rfl (by show 2 * 0 + _ ≤ _; exact Nat.le_of_eq rfl) (hb hby at_27) (fun _ _ => ⟨rfl, e1, (by decide : 0 + 0 ≤ _), (by decide : 0 + 0 ≤ _)⟩)
      dsimp only [Pt.U, Pt.locs, Pt.cells, Pt.slots] at X8 l8 y8 z8 st8 hQ8
      subst l8 y8 z8
      obtain ⟨rfl, N8q, e8⟩ := hQ8
      have N8 := Fr.app N1 N8q
      have go9 : ∀ t, Steps p.tables e below (T8.setTop (mkF m 39 #[.val (.int p1), .val (.int (p1 &&& (7 : Int32))), .val (.ref (own_pk (p1 &&& (7 : Int32)) w0 w1 w2 w3 w4 w5 w6 w7)), .val (.int (0 : Int32))] [(.int (1 : Int32))])) t → Steps p.tables e below (s₁.setTop (entryFrame m #[(.int p1)] maxLocals)) t := by
        intro t k
        refine go6 t ?_
        show Steps p.tables e below (T1.setTop (mkF m 17 #[.val (.int p1), .val (.int (p1 &&& (7 : Int32))), .val (.ref (own_pk (p1 &&& (7 : Int32)) w0 w1 w2 w3 w4 w5 w6 w7)), .unset] [(.int (5 : Int32)), (.int (p1 &&& (7 : Int32)))])) _
        refine XS.icmpYes X1.here hx rfl (pc0 := 17) (pc' := 24) rfl (hb hby at_17) rfl (tlt hc7).2.2.1 (by decide) (by decide) ?_
        show Steps p.tables e below (T1.setTop (mkF m 24 #[.val (.int p1), .val (.int (p1 &&& (7 : Int32))), .val (.ref (own_pk (p1 &&& (7 : Int32)) w0 w1 w2 w3 w4 w5 w6 w7)), .unset] [])) _
        refine XS.iconst X1.here hx rfl (hb hby at_24) ?_
        show Steps p.tables e below (T1.setTop (mkF m 25 #[.val (.int p1), .val (.int (p1 &&& (7 : Int32))), .val (.ref (own_pk (p1 &&& (7 : Int32)) w0 w1 w2 w3 w4 w5 w6 w7)), .unset] [(.int (0 : Int32))])) _
        refine XS.istoreN X1.here hx rfl (hb hby at_25) rfl (l' := #[.val (.int p1), .val (.int (p1 &&& (7 : Int32))), .val (.ref (own_pk (p1 &&& (7 : Int32)) w0 w1 w2 w3 w4 w5 w6 w7)), .val (.int (0 : Int32))]) rfl ?_
        show Steps p.tables e below (T1.setTop (mkF m 26 #[.val (.int p1), .val (.int (p1 &&& (7 : Int32))), .val (.ref (own_pk (p1 &&& (7 : Int32)) w0 w1 w2 w3 w4 w5 w6 w7)), .val (.int (0 : Int32))] [])) _
        refine XS.aloadN X1.here hx rfl (hb hby at_26) rfl rfl ?_
        show Steps p.tables e below (T1.setTop (mkF m 27 #[.val (.int p1), .val (.int (p1 &&& (7 : Int32))), .val (.ref (own_pk (p1 &&& (7 : Int32)) w0 w1 w2 w3 w4 w5 w6 w7)), .val (.int (0 : Int32))] [(.ref (own_pk (p1 &&& (7 : Int32)) w0 w1 w2 w3 w4 w5 w6 w7))])) _
        refine st8.trans ?_
        show Steps p.tables e below (T8.setTop (mkF m 30 #[.val (.int p1), .val (.int (p1 &&& (7 : Int32))), .val (.ref (own_pk (p1 &&& (7 : Int32)) w0 w1 w2 w3 w4 w5 w6 w7)), .val (.int (0 : Int32))] [(.int (own_al w2 w3 w4 w5 (own_pk (p1 &&& (7 : Int32)) w0 w1 w2 w3 w4 w5 w6 w7)))])) _
        refine XS.iloadN X8.here hx rfl (hb hby at_30) rfl ?_
        show Steps p.tables e below (T8.setTop (mkF m 31 #[.val (.int p1), .val (.int (p1 &&& (7 : Int32))), .val (.ref (own_pk (p1 &&& (7 : Int32)) w0 w1 w2 w3 w4 w5 w6 w7)), .val (.int (0 : Int32))] [(.int (0 : Int32)), (.int (own_al w2 w3 w4 w5 (own_pk (p1 &&& (7 : Int32)) w0 w1 w2 w3 w4 w5 w6 w7)))])) _
        refine XS.icmpNo X8.here hx rfl (hb hby at_31) rfl (teq ((own_law (own_rng p1) hd).trans (by simp [hc3, hc7]) : (own_al w2 w3 w4 w5 (own_pk (p1 &&& (7 : Int32)) w0 w1 w2 w3 w4 w5 w6 w7)) = (0 : Int32))).2 ?_
        show Steps p.tables e below (T8.setTop (mkF m 34 #[.val (.int p1), .val (.int (p1 &&& (7 : Int32))), .val (.ref (own_pk (p1 &&& (7 : Int32)) w0 w1 w2 w3 w4 w5 w6 w7)), .val (.int (0 : Int32))] [])) _
        refine XS.iconst X8.here hx rfl (hb hby at_34) ?_
        show Steps p.tables e below (T8.setTop (mkF m 35 #[.val (.int p1), .val (.int (p1 &&& (7 : Int32))), .val (.ref (own_pk (p1 &&& (7 : Int32)) w0 w1 w2 w3 w4 w5 w6 w7)), .val (.int (0 : Int32))] [(.int (1 : Int32))])) _
        refine XS.goto X8.here hx rfl (pc0 := 35) (pc' := 39) rfl (hb hby at_35) (by decide) (by decide) ?_
        exact k
      obtain ⟨fs, hr, hrun, hended, hW, hsame⟩ := X8.leave (v := some (.int (1 : Int32))) (fun h => by rw [Bd.returns] at h; cases h)
      refine ⟨_, _, go9 _ ?_, hrun, hended, _, _, rfl, ?_, ⟨_, rfl⟩, hW, hsame.mono (by decide) (by decide)⟩
      · skip
        show Steps p.tables e below (T8.setTop (mkF m 39 #[.val (.int p1), .val (.int (p1 &&& (7 : Int32))), .val (.ref (own_pk (p1 &&& (7 : Int32)) w0 w1 w2 w3 w4 w5 w6 w7)), .val (.int (0 : Int32))] [(.int (1 : Int32))])) _
        exact retN X8 hx (t := .boolean) Bd.returns (by simp) (hb hby at_39) hr
      · show Q_rm0 Z p1 w0 w1 w2 w3 w4 w5 w6 w7 h0 n0 _ T8.heap _
        rw [e8]
        exact ⟨rfl, N8⟩
    · skip
      obtain ⟨cq10, kq10, q10a, q10b, q10c⟩ := isOf hZ e1 E_pk
      obtain ⟨_, _, ⟨T10, L10, k10, n10⟩, -, X10, ⟨Lc10, hQ10, l10, y10, z10⟩, st10⟩ := X1.virtualBack hx (y := (⟨"com/example/clayms/clayms/cbor/MajorType", "allowsIndefiniteLength", "()Z"⟩ : MethodName)) (z := (⟨"com/example/clayms/clayms/cbor/MajorType", "allowsIndefiniteLength", "()Z"⟩ : MethodName)) hown (mvT hZ hw_7) (mvT hZ hw_8) (notFace_of_selects (args := #[]) (mvT hZ hw_10)) (mvT hZ hw_10) (mvT hZ hw_9) (by decide) (backOf (W := 0) (rm2 l Z a0 hw [] (own_pk (p1 &&& (7 : Int32)) w0 w1 w2 w3 w4 w5 w6 w7) w2 w3 w4 w5 h0 n0 Z0 S_BYTE_STRING S_TEXT_STRING S_ARRAY S_MAP) hZ hw_11 hw_5 (by decide) (by decide)) q10a q10c (g := (mkF m 27 #[.val (.int p1), .val (.int (p1 &&& (7 : Int32))), .val (.ref (own_pk (p1 &&& (7 : Int32)) w0 w1 w2 w3 w4 w5 w6 w7)), .val (.int (1 : Int32))] [(.ref (own_pk (p1 &&& (7 : Int32)) w0 w1 w2 w3 w4 w5 w6 w7))])) rfl (by rw [hml]; rfl) (Steps.refl _) (argsL := []) (rest := []) (lenOf pd_1 rfl) rfl (by show 2 * 0 + _ ≤ _; exact Nat.le_of_eq rfl) (hb hby at_27) (fun _ _ => ⟨rfl, e1, (by decide : 0 + 0 ≤ _), (by decide : 0 + 0 ≤ _)⟩)
      dsimp only [Pt.U, Pt.locs, Pt.cells, Pt.slots] at X10 l10 y10 z10 st10 hQ10
      subst l10 y10 z10
      obtain ⟨rfl, N10q, e10⟩ := hQ10
      have N10 := Fr.app N1 N10q
      have go11 : ∀ t, Steps p.tables e below (T10.setTop (mkF m 39 #[.val (.int p1), .val (.int (p1 &&& (7 : Int32))), .val (.ref (own_pk (p1 &&& (7 : Int32)) w0 w1 w2 w3 w4 w5 w6 w7)), .val (.int (1 : Int32))] [(.int (1 : Int32))])) t → Steps p.tables e below (s₁.setTop (entryFrame m #[(.int p1)] maxLocals)) t := by
        intro t k
        refine go6 t ?_
        show Steps p.tables e below (T1.setTop (mkF m 17 #[.val (.int p1), .val (.int (p1 &&& (7 : Int32))), .val (.ref (own_pk (p1 &&& (7 : Int32)) w0 w1 w2 w3 w4 w5 w6 w7)), .unset] [(.int (5 : Int32)), (.int (p1 &&& (7 : Int32)))])) _
        refine XS.icmpNo X1.here hx rfl (hb hby at_17) rfl (flt hc7).2.2.1 ?_
        show Steps p.tables e below (T1.setTop (mkF m 20 #[.val (.int p1), .val (.int (p1 &&& (7 : Int32))), .val (.ref (own_pk (p1 &&& (7 : Int32)) w0 w1 w2 w3 w4 w5 w6 w7)), .unset] [])) _
        refine XS.iconst X1.here hx rfl (hb hby at_20) ?_
        show Steps p.tables e below (T1.setTop (mkF m 21 #[.val (.int p1), .val (.int (p1 &&& (7 : Int32))), .val (.ref (own_pk (p1 &&& (7 : Int32)) w0 w1 w2 w3 w4 w5 w6 w7)), .unset] [(.int (1 : Int32))])) _
        refine XS.goto X1.here hx rfl (pc0 := 21) (pc' := 25) rfl (hb hby at_21) (by decide) (by decide) ?_
        show Steps p.tables e below (T1.setTop (mkF m 25 #[.val (.int p1), .val (.int (p1 &&& (7 : Int32))), .val (.ref (own_pk (p1 &&& (7 : Int32)) w0 w1 w2 w3 w4 w5 w6 w7)), .unset] [(.int (1 : Int32))])) _
        refine XS.istoreN X1.here hx rfl (hb hby at_25) rfl (l' := #[.val (.int p1), .val (.int (p1 &&& (7 : Int32))), .val (.ref (own_pk (p1 &&& (7 : Int32)) w0 w1 w2 w3 w4 w5 w6 w7)), .val (.int (1 : Int32))]) rfl ?_
        show Steps p.tables e below (T1.setTop (mkF m 26 #[.val (.int p1), .val (.int (p1 &&& (7 : Int32))), .val (.ref (own_pk (p1 &&& (7 : Int32)) w0 w1 w2 w3 w4 w5 w6 w7)), .val (.int (1 : Int32))] [])) _
        refine XS.aloadN X1.here hx rfl (hb hby at_26) rfl rfl ?_
        show Steps p.tables e below (T1.setTop (mkF m 27 #[.val (.int p1), .val (.int (p1 &&& (7 : Int32))), .val (.ref (own_pk (p1 &&& (7 : Int32)) w0 w1 w2 w3 w4 w5 w6 w7)), .val (.int (1 : Int32))] [(.ref (own_pk (p1 &&& (7 : Int32)) w0 w1 w2 w3 w4 w5 w6 w7))])) _
        refine st10.trans ?_
        show Steps p.tables e below (T10.setTop (mkF m 30 #[.val (.int p1), .val (.int (p1 &&& (7 : Int32))), .val (.ref (own_pk (p1 &&& (7 : Int32)) w0 w1 w2 w3 w4 w5 w6 w7)), .val (.int (1 : Int32))] [(.int (own_al w2 w3 w4 w5 (own_pk (p1 &&& (7 : Int32)) w0 w1 w2 w3 w4 w5 w6 w7)))])) _
        refine XS.iloadN X10.here hx rfl (hb hby at_30) rfl ?_
        show Steps p.tables e below (T10.setTop (mkF m 31 #[.val (.int p1), .val (.int (p1 &&& (7 : Int32))), .val (.ref (own_pk (p1 &&& (7 : Int32)) w0 w1 w2 w3 w4 w5 w6 w7)), .val (.int (1 : Int32))] [(.int (1 : Int32)), (.int (own_al w2 w3 w4 w5 (own_pk (p1 &&& (7 : Int32)) w0 w1 w2 w3 w4 w5 w6 w7)))])) _
        refine XS.icmpNo X10.here hx rfl (hb hby at_31) rfl (teq ((own_law (own_rng p1) hd).trans (by simp [hc3, hc7]) : (own_al w2 w3 w4 w5 (own_pk (p1 &&& (7 : Int32)) w0 w1 w2 w3 w4 w5 w6 w7)) = (1 : Int32))).2 ?_
        show Steps p.tables e below (T10.setTop (mkF m 34 #[.val (.int p1), .val (.int (p1 &&& (7 : Int32))), .val (.ref (own_pk (p1 &&& (7 : Int32)) w0 w1 w2 w3 w4 w5 w6 w7)), .val (.int (1 : Int32))] [])) _
        refine XS.iconst X10.here hx rfl (hb hby at_34) ?_
        show Steps p.tables e below (T10.setTop (mkF m 35 #[.val (.int p1), .val (.int (p1 &&& (7 : Int32))), .val (.ref (own_pk (p1 &&& (7 : Int32)) w0 w1 w2 w3 w4 w5 w6 w7)), .val (.int (1 : Int32))] [(.int (1 : Int32))])) _
        refine XS.goto X10.here hx rfl (pc0 := 35) (pc' := 39) rfl (hb hby at_35) (by decide) (by decide) ?_
        exact k
      obtain ⟨fs, hr, hrun, hended, hW, hsame⟩ := X10.leave (v := some (.int (1 : Int32))) (fun h => by rw [Bd.returns] at h; cases h)
      refine ⟨_, _, go11 _ ?_, hrun, hended, _, _, rfl, ?_, ⟨_, rfl⟩, hW, hsame.mono (by decide) (by decide)⟩
      · skip
        show Steps p.tables e below (T10.setTop (mkF m 39 #[.val (.int p1), .val (.int (p1 &&& (7 : Int32))), .val (.ref (own_pk (p1 &&& (7 : Int32)) w0 w1 w2 w3 w4 w5 w6 w7)), .val (.int (1 : Int32))] [(.int (1 : Int32))])) _
        exact retN X10 hx (t := .boolean) Bd.returns (by simp) (hb hby at_39) hr
      · show Q_rm0 Z p1 w0 w1 w2 w3 w4 w5 w6 w7 h0 n0 _ T10.heap _
        rw [e10]
        exact ⟨rfl, N10⟩
set_option maxRecDepth 65536 in
set_option maxHeartbeats 40000000 in
theorem comes_1 {Post : Tables → Env → Array Value → State → Outcome → State → Prop} (hpost : ∀ tb e args s v u, (limb_1_1.after args s (.returned v) u = true ∧ limb_1_2.after args s (.returned v) u = true ∧ True) → FrameEnd s (.returned v) u (Jvm.fieldLocs frame_1_writes args s ++ Jvm.arrayLocs frame_1_arrays args s ++ Jvm.staticLocs frame_1_statics s) 0 0 → Post tb e args s (.returned v) u) :
    ArmFor flags0 classFile x code maxLocals ret World_1 tables_1 room_1 Calls_1 rest_1 Pre_1 Post := by
  intro l hfl _ _ p e ha hc hk s m args below hf hA hF happ hP
  obtain ⟨hcalls, hrest, hpre⟩ := hP
  obtain ⟨-, -, -, hnamed, -, -, -, hat⟩ := (Spec.applies_iff hf).mp happ
  obtain ⟨hg, hn⟩ := and_e (Cond.before_iff.mp (show (Jvm.Cond.and given_1 narrow_1).before args s = true from hpre))
  obtain ⟨gc, hg⟩ := and_e hg
  have gk0 := hg
  obtain ⟨w0, rfl⟩ : ∃ w0 : Value, args = #[w0] := by
    have hs : args.size = 1 := by simpa [Cond.value, given_1] using gc
    obtain ⟨L⟩ := args
    match L, hs with
    | [w0], _ => exact ⟨w0, rfl⟩
  have hw := fun d (hd : d ∈ tables_1) => atoms_spec (ws := Jvm.Cond.code x code maxLocals ret :: tables_1) hat d (List.mem_cons_of_mem _ hd)
  have hfit : Fit s := fun {y c} hc i hi => by
    obtain ⟨ha, rfl⟩ := Array.getElem?_eq_some_iff.mp hc
    have q := List.all_eq_true.mp ((Array.all_eq_true_iff_forall_mem.mp hF) _ (Array.getElem_mem ha)) i (List.mem_range.mpr hi)
    simpa [Array.getElem?_eq_getElem hi] using q
  obtain ⟨i0, ei0⟩ := is_v gk0
  obtain rfl : w0 = (.int i0) := Option.some.inj ei0
  obtain ⟨x0, hn⟩ := and_e hn
  obtain ⟨x1, hn⟩ := and_e hn
  obtain ⟨x2, hn⟩ := and_e hn
  obtain ⟨x3, hn⟩ := and_e hn
  obtain ⟨x4, hn⟩ := and_e hn
  obtain ⟨x5, hn⟩ := and_e hn
  obtain ⟨x6, hn⟩ := and_e hn
  obtain ⟨x7, hn⟩ := and_e hn
  obtain ⟨x8, hn⟩ := and_e hn
  obtain ⟨x9, hn⟩ := and_e hn
  obtain ⟨x10, hn⟩ := and_e hn
  obtain ⟨x11, hn⟩ := and_e hn
  obtain ⟨x12, hn⟩ := and_e hn
  obtain ⟨x13, hn⟩ := and_e hn
  obtain ⟨x14, hn⟩ := and_e hn
  have x15 := hn
  obtain ⟨w_UNSIGNED_INTEGER, ev_UNSIGNED_INTEGER⟩ := exa_v x0
  have E_UNSIGNED_INTEGER := Exa.start ev_UNSIGNED_INTEGER x0
  have S_UNSIGNED_INTEGER := Sta.start ev_UNSIGNED_INTEGER (Or.inr ⟨(hw _ (List.mem_of_getElem? (i := 5) rfl)), (hw _ (List.mem_of_getElem? (i := 6) rfl))⟩)
  obtain ⟨w_BYTE_STRING, ev_BYTE_STRING⟩ := exa_v x1
  have E_BYTE_STRING := Exa.start ev_BYTE_STRING x1
  have S_BYTE_STRING := Sta.start ev_BYTE_STRING (Or.inr ⟨(hw _ (List.mem_of_getElem? (i := 5) rfl)), (hw _ (List.mem_of_getElem? (i := 13) rfl))⟩)
  obtain ⟨w_TEXT_STRING, ev_TEXT_STRING⟩ := exa_v x4
  have E_TEXT_STRING := Exa.start ev_TEXT_STRING x4
  have S_TEXT_STRING := Sta.start ev_TEXT_STRING (Or.inr ⟨(hw _ (List.mem_of_getElem? (i := 5) rfl)), (hw _ (List.mem_of_getElem? (i := 15) rfl))⟩)
  obtain ⟨w_ARRAY, ev_ARRAY⟩ := exa_v x6
  have E_ARRAY := Exa.start ev_ARRAY x6
  have S_ARRAY := Sta.start ev_ARRAY (Or.inr ⟨(hw _ (List.mem_of_getElem? (i := 5) rfl)), (hw _ (List.mem_of_getElem? (i := 17) rfl))⟩)
  obtain ⟨w_MAP, ev_MAP⟩ := exa_v x8
  have E_MAP := Exa.start ev_MAP x8
  have S_MAP := Sta.start ev_MAP (Or.inr ⟨(hw _ (List.mem_of_getElem? (i := 5) rfl)), (hw _ (List.mem_of_getElem? (i := 19) rfl))⟩)
  obtain ⟨w_TAG, ev_TAG⟩ := exa_v x10
  have E_TAG := Exa.start ev_TAG x10
  have S_TAG := Sta.start ev_TAG (Or.inr ⟨(hw _ (List.mem_of_getElem? (i := 5) rfl)), (hw _ (List.mem_of_getElem? (i := 22) rfl))⟩)
  obtain ⟨w_SIMPLE_OR_FLOAT, ev_SIMPLE_OR_FLOAT⟩ := exa_v x12
  have E_SIMPLE_OR_FLOAT := Exa.start ev_SIMPLE_OR_FLOAT x12
  have S_SIMPLE_OR_FLOAT := Sta.start ev_SIMPLE_OR_FLOAT (Or.inr ⟨(hw _ (List.mem_of_getElem? (i := 5) rfl)), (hw _ (List.mem_of_getElem? (i := 24) rfl))⟩)
  obtain ⟨w_NEGATIVE_INTEGER, ev_NEGATIVE_INTEGER⟩ := exa_v x14
  have E_NEGATIVE_INTEGER := Exa.start ev_NEGATIVE_INTEGER x14
  have S_NEGATIVE_INTEGER := Sta.start ev_NEGATIVE_INTEGER (Or.inr ⟨(hw _ (List.mem_of_getElem? (i := 5) rfl)), (hw _ (List.mem_of_getElem? (i := 27) rfl))⟩)
  have ord_UNSIGNED_INTEGER := own_ord ev_UNSIGNED_INTEGER x2
  have ord_BYTE_STRING := own_ord ev_BYTE_STRING x3
  have ord_TEXT_STRING := own_ord ev_TEXT_STRING x5
  have ord_ARRAY := own_ord ev_ARRAY x7
  have ord_MAP := own_ord ev_MAP x9
  have ord_TAG := own_ord ev_TAG x11
  have ord_SIMPLE_OR_FLOAT := own_ord ev_SIMPLE_OR_FLOAT x13
  have ord_NEGATIVE_INTEGER := own_ord ev_NEGATIVE_INTEGER x15
  have Epk : Exa s s.heap (own_pk (i0 &&& (7 : Int32)) w_UNSIGNED_INTEGER w_NEGATIVE_INTEGER w_BYTE_STRING w_TEXT_STRING w_ARRAY w_MAP w_TAG w_SIMPLE_OR_FLOAT) "com/example/clayms/clayms/cbor/MajorType" := by
    unfold own_pk
    repeat' split
    all_goals assumption
  obtain ⟨n, o, h1, h2, h3, _, L, rfl, ⟨rfl, N⟩, hq⟩ := rm0 l s _ hw tables_1 i0 w_UNSIGNED_INTEGER w_NEGATIVE_INTEGER w_BYTE_STRING w_TEXT_STRING w_ARRAY w_MAP w_TAG w_SIMPLE_OR_FLOAT s.heap s.heap.size (Nat.le_refl _) S_UNSIGNED_INTEGER S_NEGATIVE_INTEGER S_BYTE_STRING S_TEXT_STRING S_ARRAY S_MAP S_TAG S_SIMPLE_OR_FLOAT Epk ⟨ninS (own_ne ord_UNSIGNED_INTEGER ord_BYTE_STRING (by decide)) (ninS (own_ne ord_UNSIGNED_INTEGER ord_TEXT_STRING (by decide)) (ninS (own_ne ord_UNSIGNED_INTEGER ord_ARRAY (by decide)) (ninS (own_ne ord_UNSIGNED_INTEGER ord_MAP (by decide)) nin0))), ninS (own_ne ord_NEGATIVE_INTEGER ord_BYTE_STRING (by decide)) (ninS (own_ne ord_NEGATIVE_INTEGER ord_TEXT_STRING (by decide)) (ninS (own_ne ord_NEGATIVE_INTEGER ord_ARRAY (by decide)) (ninS (own_ne ord_NEGATIVE_INTEGER ord_MAP (by decide)) nin0))), ninS (own_ne ord_TAG ord_BYTE_STRING (by decide)) (ninS (own_ne ord_TAG ord_TEXT_STRING (by decide)) (ninS (own_ne ord_TAG ord_ARRAY (by decide)) (ninS (own_ne ord_TAG ord_MAP (by decide)) nin0))), ninS (own_ne ord_SIMPLE_OR_FLOAT ord_BYTE_STRING (by decide)) (ninS (own_ne ord_SIMPLE_OR_FLOAT ord_TEXT_STRING (by decide)) (ninS (own_ne ord_SIMPLE_OR_FLOAT ord_ARRAY (by decide)) (ninS (own_ne ord_SIMPLE_OR_FLOAT ord_MAP (by decide)) nin0)))⟩ p e ha hc hk s m _ below hf ((Spec.applies_iff_loose hf).mp happ).1 ⟨rfl, State.Warmed39.refl s, rfl⟩ trivial
  refine ⟨n, _, h1, h2, h3, hpost _ _ _ _ _ _ ⟨Cond.after_iff.mpr rfl, Cond.after_iff.mpr (eq_i res_at (Term.int_eval (1)) rfl), trivial⟩ ⟨hq.1, hq.2.1, (hq.2.2.sift fun y hy => Or.inr (N y hy)).mono (by decide) (by decide)⟩⟩
theorem main_1_1 : Claimed_1_1 := comes_1 fun _ _ _ _ _ _ h hF => ⟨h.1, hF⟩
theorem main_1_2 : Claimed_1_2 := comes_1 fun _ _ _ _ _ _ h hF => ⟨h.2.1, hF⟩
end Jvm.Pilot.@@N@@
namespace Jvm.Pilot.@@N@@
open Jvm Jvm.ClassFile Sem Op Lib Jvm.Free Jvm.Stand Jvm.Pilot.@@N@@.Jvm.D
/-! MADE BY PROGRAM (witnessworld.py) out of the Statement's table words and the real class files: 12 classes; the members and pool entries that the words name. The judged class is class 1, her method 2. -/
namespace start1
open Jvm.ClassFile
def u (s : String) : CpInfo := .utf8 (stringToUtf16 s)
/-- a pool by its gaps: so many unusable entries, then the entry; so many at the end -/
def gap : Nat → List CpInfo → List CpInfo
  | 0, r => r
  | n + 1, r => .unusable :: gap n r
def poolList (es : List (Nat × CpInfo)) (last : Nat) : List CpInfo := es.foldr (fun e r => gap e.1 (e.2 :: r)) (gap last [])
def pool (es : List (Nat × CpInfo)) (last : Nat) : Array CpInfo := ⟨poolList es last⟩
def fileOf (pool : Array CpInfo) (this : Nat) (attrs : Array Attribute := #[]) (ms : Array MethodInfo := #[]) (fl : Nat := 33) (sup : Nat := 0) (ifs : Array Nat := #[]) (fds : Array FieldInfo := #[]) : ClassFile where
  minorVersion := 0
  majorVersion := 65
  constantPool := pool
  accessFlags := fl
  thisClass := this
  superClass := sup
  interfaces := ifs
  fields := fds
  methods := ms
  attributes := attrs
def plain (name : String) (sup : Option ClassId) : Class where
  name := name
  kind := .ordinary
  loader := none
  accessFlags := 33
  super := sup
  interfaces := #[]
  cf := none
  fields := #[]
  methods := #[]
  instanceTypes := #[]
  staticTypes := #[]
  resolved := #[]
  callSites := []
  init := .initialized
  statics := none
  mirror := none

def pool0 : Array CpInfo := pool [(5, u "<init>"), (0, u "()V"), (1, .class_ 10), (1, u "java/lang/Object")] 113

def k0m0 : Method := { name := "<init>", desc := "()V", sig := { parameters := [], returnType := none }, accessFlags := 1, code := none }
/-- java/lang/Object -/
def k0 : Class := { plain "java/lang/Object" none with
  accessFlags := 33
  interfaces := #[]
  cf := some (fileOf pool0 8 #[] #[{ accessFlags := 1, nameIndex := 5, descriptorIndex := 6, attributes := #[] }] 33 0 #[] #[])
  fields := #[]
  methods := #[k0m0]
  instanceTypes := #[]
  staticTypes := #[]
  resolved := Array.replicate 124 none
  statics := none }

def pool1 : Array CpInfo := pool [(2, .class_ 4), (1, u "java/lang/Object"), (0, u "<init>"), (0, u "()V"), (0, .fieldref 8 9), (0, .class_ 10), (0, .nameAndType 11 12), (0, u "com/example/clayms/clayms/cbor/MajorType"), (0, u "UNSIGNED_INTEGER"), (0, u "Lcom/example/clayms/clayms/cbor/MajorType;"), (0, .fieldref 8 14), (0, .nameAndType 15 12), (0, u "NEGATIVE_INTEGER"), (0, .fieldref 8 17), (0, .nameAndType 18 12), (0, u "BYTE_STRING"), (0, .fieldref 8 20), (0, .nameAndType 21 12), (0, u "TEXT_STRING"), (0, .fieldref 8 23), (0, .nameAndType 24 12), (0, u "ARRAY"), (0, .fieldref 8 26), (0, .nameAndType 27 12), (0, u "MAP"), (0, .fieldref 8 29), (0, .nameAndType 30 12), (0, u "TAG"), (0, .fieldref 8 32), (0, .nameAndType 33 12), (0, u "SIMPLE_OR_FLOAT"), (0, .methodref 35 36), (0, .class_ 37), (0, .nameAndType 38 39), (0, u "com/example/clayms/clayms/cbor/MajorTypeAllowsIndefiniteLengthPinLaw"), (0, u "pick"), (0, u "(I)Lcom/example/clayms/clayms/cbor/MajorType;"), (0, .methodref 8 41), (0, .nameAndType 42 43), (0, u "allowsIndefiniteLength"), (0, u "()Z"), (3, u "law"), (0, u "(I)Z")] 2

def k1m0 : Method := { name := "<init>", desc := "()V", sig := { parameters := [], returnType := none }, accessFlags := 2, code := none }
def k1c1 : Code := { maxStack := 2, maxLocals := 1, code := method_2_code, exceptionTable := #[], attributes := #[] }
def k1m1 : Method := { name := "pick", desc := "(I)Lcom/example/clayms/clayms/cbor/MajorType;", sig := { parameters := [.int], returnType := some (.object "com/example/clayms/clayms/cbor/MajorType") }, accessFlags := 10, code := some k1c1 }
def k1c2 : Code := { maxStack := 2, maxLocals := 4, code := code, exceptionTable := #[], attributes := #[] }
def k1m2 : Method := { name := "law", desc := "(I)Z", sig := { parameters := [.int], returnType := some .boolean }, accessFlags := 9, code := some k1c2 }
/-- com/example/clayms/clayms/cbor/MajorTypeAllowsIndefiniteLengthPinLaw -/
def k1 : Class := { plain "com/example/clayms/clayms/cbor/MajorTypeAllowsIndefiniteLengthPinLaw" (some 0) with
  accessFlags := 49
  interfaces := #[]
  cf := some (fileOf pool1 35 #[] #[{ accessFlags := 2, nameIndex := 5, descriptorIndex := 6, attributes := #[] }, { accessFlags := 10, nameIndex := 38, descriptorIndex := 39, attributes := #[] }, { accessFlags := 9, nameIndex := 47, descriptorIndex := 48, attributes := #[] }] 49 2 #[] #[])
  fields := #[]
  methods := #[k1m0, k1m1, k1m2]
  instanceTypes := #[]
  staticTypes := #[]
  resolved := Array.replicate 51 none
  statics := none }

def pool2 : Array CpInfo := pool [(1, .class_ 2), (0, u "java/lang/constant/Constable"), (0, .class_ 4), (0, u "java/lang/Object")] 6

/-- java/lang/constant/Constable -/
def k2 : Class := { plain "java/lang/constant/Constable" (some 0) with
  accessFlags := 1537
  interfaces := #[]
  cf := some (fileOf pool2 1 #[] #[] 1537 3 #[] #[])
  fields := #[]
  methods := #[]
  instanceTypes := #[]
  staticTypes := #[]
  resolved := Array.replicate 11 none
  statics := none }

def pool3 : Array CpInfo := pool [(1, .class_ 2), (0, u "java/lang/Comparable"), (0, .class_ 4), (0, u "java/lang/Object")] 7

/-- java/lang/Comparable -/
def k3 : Class := { plain "java/lang/Comparable" (some 0) with
  accessFlags := 1537
  interfaces := #[]
  cf := some (fileOf pool3 1 #[] #[] 1537 3 #[] #[])
  fields := #[]
  methods := #[]
  instanceTypes := #[]
  staticTypes := #[]
  resolved := Array.replicate 12 none
  statics := none }

def pool4 : Array CpInfo := pool [(1, .class_ 2), (0, u "java/io/Serializable"), (0, .class_ 4), (0, u "java/lang/Object")] 2

/-- java/io/Serializable -/
def k4 : Class := { plain "java/io/Serializable" (some 0) with
  accessFlags := 1537
  interfaces := #[]
  cf := some (fileOf pool4 1 #[] #[] 1537 3 #[] #[])
  fields := #[]
  methods := #[]
  instanceTypes := #[]
  staticTypes := #[]
  resolved := Array.replicate 7 none
  statics := none }

def pool5 : Array CpInfo := pool [(2, .class_ 4), (1, u "java/lang/Enum"), (0, u "name"), (0, u "Ljava/lang/String;"), (2, u "ordinal"), (0, u "I"), (1, .class_ 14), (1, u "java/lang/Object"), (4, u "hash"), (86, .class_ 108), (1, u "java/lang/Enum$EnumDesc"), (2, .class_ 112), (0, u "java/lang/constant/Constable"), (0, .class_ 114), (0, u "java/lang/Comparable"), (0, .class_ 116), (0, u "java/io/Serializable")] 87

/-- java/lang/Enum -/
def k5 : Class := { plain "java/lang/Enum" (some 0) with
  accessFlags := 1057
  interfaces := #[2, 3, 4]
  cf := some (fileOf pool5 2 #[.nestMembers #[106]] #[] 1057 12 #[111, 113, 115] #[{ accessFlags := 18, nameIndex := 5, descriptorIndex := 6, attributes := #[] }, { accessFlags := 18, nameIndex := 9, descriptorIndex := 10, attributes := #[] }, { accessFlags := 2, nameIndex := 19, descriptorIndex := 10, attributes := #[] }])
  fields := #[{ name := "name", type := (.object "java/lang/String"), accessFlags := 18, slot := 0, constantValue := 0 }, { name := "ordinal", type := .int, accessFlags := 18, slot := 1, constantValue := 0 }, { name := "hash", type := .int, accessFlags := 2, slot := 2, constantValue := 0 }]
  methods := #[]
  instanceTypes := #[(.object "java/lang/String"), .int, .int]
  staticTypes := #[]
  resolved := Array.replicate 204 none
  statics := none }

def pool6 : Array CpInfo := pool [(1, .class_ 2), (0, u "com/example/clayms/clayms/cbor/MajorType"), (2, u "UNSIGNED_INTEGER"), (0, u "Lcom/example/clayms/clayms/cbor/MajorType;"), (2, u "NEGATIVE_INTEGER"), (0, .fieldref 1 11), (0, .nameAndType 12 6), (0, u "BYTE_STRING"), (0, .fieldref 1 14), (0, .nameAndType 15 6), (0, u "TEXT_STRING"), (0, .fieldref 1 17), (0, .nameAndType 18 6), (0, u "ARRAY"), (0, .fieldref 1 20), (0, .nameAndType 21 6), (0, u "MAP"), (2, u "TAG"), (2, u "SIMPLE_OR_FLOAT"), (2, u "$VALUES"), (0, u "[Lcom/example/clayms/clayms/cbor/MajorType;"), (6, .class_ 40), (1, u "java/lang/Enum"), (8, u "BY_NUMBER"), (29, u "allowsIndefiniteLength"), (0, u "()Z")] 5

def k6c0 : Code := { maxStack := 2, maxLocals := 1, code := prog_20_method_6_code, exceptionTable := #[], attributes := #[] }
def k6m0 : Method := { name := "allowsIndefiniteLength", desc := "()Z", sig := { parameters := [], returnType := some .boolean }, accessFlags := 1, code := some k6c0 }
/-- com/example/clayms/clayms/cbor/MajorType -/
def k6 : Class := { plain "com/example/clayms/clayms/cbor/MajorType" (some 5) with
  accessFlags := 16433
  interfaces := #[]
  cf := some (fileOf pool6 1 #[] #[{ accessFlags := 1, nameIndex := 79, descriptorIndex := 80, attributes := #[] }] 16433 38 #[] #[{ accessFlags := 16409, nameIndex := 5, descriptorIndex := 6, attributes := #[] }, { accessFlags := 16409, nameIndex := 9, descriptorIndex := 6, attributes := #[] }, { accessFlags := 16409, nameIndex := 12, descriptorIndex := 6, attributes := #[] }, { accessFlags := 16409, nameIndex := 15, descriptorIndex := 6, attributes := #[] }, { accessFlags := 16409, nameIndex := 18, descriptorIndex := 6, attributes := #[] }, { accessFlags := 16409, nameIndex := 21, descriptorIndex := 6, attributes := #[] }, { accessFlags := 16409, nameIndex := 24, descriptorIndex := 6, attributes := #[] }, { accessFlags := 16409, nameIndex := 27, descriptorIndex := 6, attributes := #[] }, { accessFlags := 26, nameIndex := 49, descriptorIndex := 31, attributes := #[] }, { accessFlags := 4122, nameIndex := 30, descriptorIndex := 31, attributes := #[] }])
  fields := #[{ name := "UNSIGNED_INTEGER", type := (.object "com/example/clayms/clayms/cbor/MajorType"), accessFlags := 16409, slot := 0, constantValue := 0 }, { name := "NEGATIVE_INTEGER", type := (.object "com/example/clayms/clayms/cbor/MajorType"), accessFlags := 16409, slot := 1, constantValue := 0 }, { name := "BYTE_STRING", type := (.object "com/example/clayms/clayms/cbor/MajorType"), accessFlags := 16409, slot := 2, constantValue := 0 }, { name := "TEXT_STRING", type := (.object "com/example/clayms/clayms/cbor/MajorType"), accessFlags := 16409, slot := 3, constantValue := 0 }, { name := "ARRAY", type := (.object "com/example/clayms/clayms/cbor/MajorType"), accessFlags := 16409, slot := 4, constantValue := 0 }, { name := "MAP", type := (.object "com/example/clayms/clayms/cbor/MajorType"), accessFlags := 16409, slot := 5, constantValue := 0 }, { name := "TAG", type := (.object "com/example/clayms/clayms/cbor/MajorType"), accessFlags := 16409, slot := 6, constantValue := 0 }, { name := "SIMPLE_OR_FLOAT", type := (.object "com/example/clayms/clayms/cbor/MajorType"), accessFlags := 16409, slot := 7, constantValue := 0 }, { name := "BY_NUMBER", type := (.array (.object "com/example/clayms/clayms/cbor/MajorType")), accessFlags := 26, slot := 8, constantValue := 0 }, { name := "$VALUES", type := (.array (.object "com/example/clayms/clayms/cbor/MajorType")), accessFlags := 4122, slot := 9, constantValue := 0 }]
  methods := #[k6m0]
  instanceTypes := #[(.object "java/lang/String"), .int, .int]
  staticTypes := #[(.object "com/example/clayms/clayms/cbor/MajorType"), (.object "com/example/clayms/clayms/cbor/MajorType"), (.object "com/example/clayms/clayms/cbor/MajorType"), (.object "com/example/clayms/clayms/cbor/MajorType"), (.object "com/example/clayms/clayms/cbor/MajorType"), (.object "com/example/clayms/clayms/cbor/MajorType"), (.object "com/example/clayms/clayms/cbor/MajorType"), (.object "com/example/clayms/clayms/cbor/MajorType"), (.array (.object "com/example/clayms/clayms/cbor/MajorType")), (.array (.object "com/example/clayms/clayms/cbor/MajorType"))]
  resolved := Array.replicate 86 none
  statics := some 0 }

def pool7 : Array CpInfo := pool [(1, u "java/lang/Cloneable"), (0, .class_ 1), (0, u "java/lang/Object"), (0, .class_ 3)] 3

/-- java/lang/Cloneable -/
def k7 : Class := { plain "java/lang/Cloneable" (some 0) with
  accessFlags := 1537
  interfaces := #[]
  cf := some (fileOf pool7 2 #[] #[] 1537 4 #[] #[])
  fields := #[]
  methods := #[]
  instanceTypes := #[]
  staticTypes := #[]
  resolved := Array.replicate 8 none
  statics := none }

/-- the primitive byte -/
def k8 : Class := { plain "byte" none with kind := .primitive 'B', accessFlags := 0x411 }
/-- [B -/
def k9 : Class := { plain "[B" (some 0) with kind := .array 8 .byte, interfaces := #[7, 4], accessFlags := 1041 }

/-- the primitive int -/
def k10 : Class := { plain "int" none with kind := .primitive 'I', accessFlags := 0x411 }
/-- [I -/
def k11 : Class := { plain "[I" (some 0) with kind := .array 10 .int, interfaces := #[7, 4], accessFlags := 1041 }

def heap : Heap := #[{ cls := 6, slots := #[.ref 1, .ref 2, .ref 3, .ref 4, .ref 5, .ref 6, .ref 7, .ref 8, .null, .null], vm := .statics 6 },
  { cls := 6, slots := #[.null, .int 0, .int 0], vm := .none },
  { cls := 6, slots := #[.null, .int 1, .int 0], vm := .none },
  { cls := 6, slots := #[.null, .int 2, .int 0], vm := .none },
  { cls := 6, slots := #[.null, .int 3, .int 0], vm := .none },
  { cls := 6, slots := #[.null, .int 4, .int 0], vm := .none },
  { cls := 6, slots := #[.null, .int 5, .int 0], vm := .none },
  { cls := 6, slots := #[.null, .int 6, .int 0], vm := .none },
  { cls := 6, slots := #[.null, .int 7, .int 0], vm := .none }]
def classes : Array Class := #[k0, k1, k2, k3, k4, k5, k6, k7, k8, k9, k10, k11]
def interned : List (Array UInt16 × Addr) := []
def slotsUsed : Nat := 34
def theMethod : MethodId := ⟨1, 2⟩
def args0 : Array Value := #[.int 5]
def aboutOver (below : List Frame) : State where
  vm := { classes := classes, interned := interned.toArray }
  heap := heap
  slotsUsed := slotsUsed
  threads := #[{ frames := .invoking theMethod args0 :: below }]
def below0 : List Frame := [.native { method := ⟨0, 0⟩, args := #[] }]
def about1 : State := aboutOver below0
def p0 : Program := .bare "" "" ""
def e0 : Env := launch0.env 0 0 0
theorem w_frames : about1.frames = Frame.invoking theMethod args0 :: below0 := rfl
set_option maxRecDepth 65536 in
theorem w_args : argsFit about1.vm theMethod args0 = true := by decide +kernel
set_option maxRecDepth 65536 in
theorem w_heap : heapFits about1 = true := by decide +kernel
set_option maxRecDepth 65536 in
theorem w_runnable : about1.curStatus? = some .runnable := by decide +kernel
set_option maxRecDepth 65536 in
theorem w_alone : about1.alone = true := by decide +kernel
set_option maxRecDepth 65536 in
theorem w_named : about1.methodNamed? x = some theMethod := by decide +kernel
set_option maxRecDepth 65536 in
theorem w_hears : about1.hears theMethod below0 = true := by decide +kernel
set_option maxRecDepth 65536 in
theorem w_ripe : about1.ripe theMethod args0 below0 = true := by decide +kernel
theorem w_running : about1.status = .running := rfl
set_option maxRecDepth 65536 in
theorem w_room : about1.hasRoom e0.platform room_1 = true :=
  launch0.hasRoom_least _ room_1 (by decide +kernel) (by decide +kernel) (by decide +kernel) (by decide +kernel) (by decide +kernel) (by decide +kernel)
theorem allAtoms_all (ts : List Jvm.Cond) (a : Array Jvm.Value) (st : Jvm.State) : (allAtoms ts).before a st = ts.all (fun c => c.before a st) := by
  induction ts with
  | nil => rfl
  | cons c t ih =>
    show (Jvm.Cond.and c (allAtoms t)).before a st = _
    rw [Jvm.Cond.before_and, ih, List.all_cons]
def words1 : List Jvm.Cond := Jvm.Cond.code x code maxLocals ret :: tables_1
/-- a 'code' word, met by the world's own term for the bytes: nothing is compared byte by byte -/
theorem code_word {y : MethodName} {bytes : ByteArray} {mx : Nat} {rt : Option FieldType} {a : Array Value} {s : State} {m : MethodId} {meth : Method} {c : Code} (h1 : s.methodNamed? y = some m) (h2 : s.vm.method? m = some meth) (h3 : meth.code = some c) (h4 : c.code = bytes)
    (h5 : (c.maxLocals == mx && c.exceptionTable.isEmpty && decide (c.maxStack ≤ mostOperands) && decide (meth.sig.returnType = rt) && !meth.locks && decide (parseMethodDescriptor y.desc = some meth.sig)) = true) : (Jvm.Cond.code y bytes mx rt).before a s = true := by
  simp only [Bool.and_eq_true, beq_iff_eq, Bool.not_eq_true', decide_eq_true_eq] at h5
  obtain ⟨⟨⟨⟨⟨g1, g2⟩, g3⟩, g4⟩, g5⟩, g6⟩ := h5
  simp [Cond.before, Cond.holds, Cond.value, h1, h2, h3, h4, g1, g2, g3, g4, g5, g6]
def isCode : Jvm.Cond → Bool
  | .code _ _ _ _ => true
  | _ => false
theorem all_split {L : List Jvm.Cond} {P : Jvm.Cond → Bool} (h1 : L.all (fun c => isCode c || P c) = true) (h2 : ∀ c ∈ L.filter isCode, P c = true) : L.all P = true := by
  refine List.all_eq_true.mpr fun c hc => ?_
  have h := List.all_eq_true.mp h1 c hc
  rcases Bool.eq_false_or_eq_true (isCode c) with hi | hi
  · exact h2 c (List.mem_filter.mpr ⟨hc, hi⟩)
  · simpa [hi] using h
set_option maxRecDepth 65536 in
theorem w_c0 : (Jvm.Cond.code x code maxLocals ret).before args0 about1 = true := code_word (m := ⟨1, 2⟩) (meth := k1m2) (c := k1c2) (by decide +kernel) rfl rfl rfl (by decide +kernel)
set_option maxRecDepth 65536 in
theorem w_c1 : (Jvm.Cond.code ({ cls := "com/example/clayms/clayms/cbor/MajorTypeAllowsIndefiniteLengthPinLaw", name := "pick", desc := "(I)Lcom/example/clayms/clayms/cbor/MajorType;" } : Jvm.MethodName) method_2_code (1 : Nat) (Option.some (Jvm.ClassFile.FieldType.object "com/example/clayms/clayms/cbor/MajorType"))).before args0 about1 = true := code_word (m := ⟨1, 1⟩) (meth := k1m1) (c := k1c1) (by decide +kernel) rfl rfl rfl (by decide +kernel)
set_option maxRecDepth 65536 in
theorem w_c2 : (Jvm.Cond.code ({ cls := "com/example/clayms/clayms/cbor/MajorType", name := "allowsIndefiniteLength", desc := "()Z" } : Jvm.MethodName) prog_20_method_6_code (1 : Nat) (Option.some Jvm.ClassFile.FieldType.boolean)).before args0 about1 = true := code_word (m := ⟨6, 0⟩) (meth := k6m0) (c := k6c0) (by decide +kernel) rfl rfl rfl (by decide +kernel)
def codes1 : List Jvm.Cond := [Jvm.Cond.code x code maxLocals ret, Jvm.Cond.code ({ cls := "com/example/clayms/clayms/cbor/MajorTypeAllowsIndefiniteLengthPinLaw", name := "pick", desc := "(I)Lcom/example/clayms/clayms/cbor/MajorType;" } : Jvm.MethodName) method_2_code (1 : Nat) (Option.some (Jvm.ClassFile.FieldType.object "com/example/clayms/clayms/cbor/MajorType")), Jvm.Cond.code ({ cls := "com/example/clayms/clayms/cbor/MajorType", name := "allowsIndefiniteLength", desc := "()Z" } : Jvm.MethodName) prog_20_method_6_code (1 : Nat) (Option.some Jvm.ClassFile.FieldType.boolean)]
set_option maxRecDepth 65536 in
theorem codes_eq : words1.filter isCode = codes1 := rfl
theorem w_codes : ∀ c ∈ words1.filter isCode, c.before args0 about1 = true := by
  rw [codes_eq]
  intro c hc
  simp only [codes1, List.mem_cons, List.not_mem_nil, or_false] at hc
  rcases hc with rfl | rfl | rfl
  · exact w_c0
  · exact w_c1
  · exact w_c2
set_option maxRecDepth 65536 in
theorem w_t1 : (words1.take 24).all (fun c => isCode c || c.before args0 about1) = true := by decide +kernel
set_option maxRecDepth 65536 in
theorem w_t2 : (words1.drop 24).all (fun c => isCode c || c.before args0 about1) = true := by decide +kernel
theorem w_tables : (allAtoms (Jvm.Cond.code x code maxLocals ret :: tables_1)).before args0 about1 = true := by
  rw [allAtoms_all]
  show words1.all (fun c => c.before args0 about1) = true
  refine all_split ?_ w_codes
  rw [← List.take_append_drop 24 words1, List.all_append, w_t1, w_t2]
  rfl
set_option maxRecDepth 65536 in
theorem w_case : (Jvm.Cond.and given_1 narrow_1).before args0 about1 = true := by decide +kernel
theorem w_applies : (headSpec (Jvm.Cond.code x code maxLocals ret :: tables_1) room_1).applies x e0.platform about1 = true :=
  (Spec.applies_iff w_frames).mpr ⟨w_running, w_runnable, w_alone, w_named, w_hears, w_ripe, w_room, w_tables⟩
theorem atStart : AtStart classFile x code maxLocals ret World_1 tables_1 room_1 Calls_1 rest_1 Pre_1 launch0 p0 e0 about1 theMethod args0 below0 :=
  ⟨lists_1, trivial, launch0.admits_env _ _ _, launch0.least_env, fairChoices_fair.cas, fairChoices_fair.clock, w_frames, w_args, w_heap, w_applies, trivial, trivial, w_case⟩
end start1
theorem witness_1 : WitnessClaimed_1 := ⟨start1.p0, start1.e0, start1.about1, start1.theMethod, start1.args0, start1.below0, start1.atStart⟩
end Jvm.Pilot.@@N@@
