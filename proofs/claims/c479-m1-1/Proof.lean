import JvmDerived
import JvmDerived.Pilot.@@N@@Statement
import JvmDerived.Pilot.@@N@@Code
set_option linter.unusedVariables false
set_option linter.unusedSimpArgs false
namespace Jvm.RoadKit
open Sem ClassFile Op Lib Jvm.Stand Jvm.Free Jvm.LawKit
section New
variable {p : Program} {l : Launch} {e : Env} {R : Room} {s : State} {m : MethodId} {args : Array Value} {below : List Frame} {meth : Method} {c : Code} {T : State} {locs : List Loc} {cells slots : Nat}
theorem retI (X : Stand p l e R s m args below meth c T locs cells slots) (hx : p.tables.exec = Jvm.exec) {pc : Nat} {Ls : Array Slot} {z : Int32} {rest : List Value} (hret : meth.sig.returnType = some .int) (hd : decode c.code pc = .ok (.ireturn, 1)) {fs : List Frame}
    (hl : ∀ (f : JFrame) (acts : List Action), f.method = m → f.locked = none → f.entered = [] → (doReturn e (T.setTop f) acts (some (.int z))).1 = T.setFrames fs) : Steps p.tables e below (T.setTop (mkF m pc Ls (.int z :: rest))) (T.setFrames fs) := by
  have hm' : T.vm.method? m = some meth := X.method'
  have hn : narrow .int (.int z) = .int z := rfl
  show Steps p.tables e below (T.setTop { method := m, pc := pc, locals := Ls, stack := _ :: rest, locked := none }) _
  jvm_step X.here [X.here.top, hx, hd, hm', hret, hn]
  first | (intro acts; rw [hl _ acts rfl rfl rfl]) | rw [hl _ _ rfl rfl rfl]
  exact Steps.refl _
end New
end Jvm.RoadKit
namespace Jvm.Pilot.@@N@@
open Jvm Jvm.ClassFile Sem Op Lib Jvm.Free Jvm.Stand Jvm.LawKit Jvm.RoadKit Bundle Jvm.Pilot.@@N@@.Jvm.D
def own_bp (Z : State) (W : Nat → Addr) : Prop := Sta Z Z.heap "com/example/maksu/maksu/catalog/BillingPeriod" "DAILY" "Lcom/example/maksu/maksu/catalog/BillingPeriod;" (.ref (W 0)) ∧ Exa Z Z.heap (W 0) "com/example/maksu/maksu/catalog/BillingPeriod" ∧ Sta Z Z.heap "com/example/maksu/maksu/catalog/BillingPeriod" "WEEKLY" "Lcom/example/maksu/maksu/catalog/BillingPeriod;" (.ref (W 1)) ∧ Exa Z Z.heap (W 1) "com/example/maksu/maksu/catalog/BillingPeriod" ∧ Sta Z Z.heap "com/example/maksu/maksu/catalog/BillingPeriod" "BIWEEKLY" "Lcom/example/maksu/maksu/catalog/BillingPeriod;" (.ref (W 2)) ∧ Exa Z Z.heap (W 2) "com/example/maksu/maksu/catalog/BillingPeriod" ∧ Sta Z Z.heap "com/example/maksu/maksu/catalog/BillingPeriod" "THIRTY_DAYS" "Lcom/example/maksu/maksu/catalog/BillingPeriod;" (.ref (W 3)) ∧ Exa Z Z.heap (W 3) "com/example/maksu/maksu/catalog/BillingPeriod" ∧ Sta Z Z.heap "com/example/maksu/maksu/catalog/BillingPeriod" "THIRTY_ONE_DAYS" "Lcom/example/maksu/maksu/catalog/BillingPeriod;" (.ref (W 4)) ∧ Exa Z Z.heap (W 4) "com/example/maksu/maksu/catalog/BillingPeriod" ∧ Sta Z Z.heap "com/example/maksu/maksu/catalog/BillingPeriod" "SIXTY_DAYS" "Lcom/example/maksu/maksu/catalog/BillingPeriod;" (.ref (W 5)) ∧ Exa Z Z.heap (W 5) "com/example/maksu/maksu/catalog/BillingPeriod" ∧ Sta Z Z.heap "com/example/maksu/maksu/catalog/BillingPeriod" "NINETY_DAYS" "Lcom/example/maksu/maksu/catalog/BillingPeriod;" (.ref (W 6)) ∧ Exa Z Z.heap (W 6) "com/example/maksu/maksu/catalog/BillingPeriod" ∧ Sta Z Z.heap "com/example/maksu/maksu/catalog/BillingPeriod" "MONTHLY" "Lcom/example/maksu/maksu/catalog/BillingPeriod;" (.ref (W 7)) ∧ Exa Z Z.heap (W 7) "com/example/maksu/maksu/catalog/BillingPeriod" ∧ Sta Z Z.heap "com/example/maksu/maksu/catalog/BillingPeriod" "BIMESTRIAL" "Lcom/example/maksu/maksu/catalog/BillingPeriod;" (.ref (W 8)) ∧ Exa Z Z.heap (W 8) "com/example/maksu/maksu/catalog/BillingPeriod" ∧ Sta Z Z.heap "com/example/maksu/maksu/catalog/BillingPeriod" "QUARTERLY" "Lcom/example/maksu/maksu/catalog/BillingPeriod;" (.ref (W 9)) ∧ Exa Z Z.heap (W 9) "com/example/maksu/maksu/catalog/BillingPeriod" ∧ Sta Z Z.heap "com/example/maksu/maksu/catalog/BillingPeriod" "TRIANNUAL" "Lcom/example/maksu/maksu/catalog/BillingPeriod;" (.ref (W 10)) ∧ Exa Z Z.heap (W 10) "com/example/maksu/maksu/catalog/BillingPeriod" ∧ Sta Z Z.heap "com/example/maksu/maksu/catalog/BillingPeriod" "BIANNUAL" "Lcom/example/maksu/maksu/catalog/BillingPeriod;" (.ref (W 11)) ∧ Exa Z Z.heap (W 11) "com/example/maksu/maksu/catalog/BillingPeriod" ∧ Sta Z Z.heap "com/example/maksu/maksu/catalog/BillingPeriod" "ANNUAL" "Lcom/example/maksu/maksu/catalog/BillingPeriod;" (.ref (W 12)) ∧ Exa Z Z.heap (W 12) "com/example/maksu/maksu/catalog/BillingPeriod" ∧ Sta Z Z.heap "com/example/maksu/maksu/catalog/BillingPeriod" "SESQUIENNIAL" "Lcom/example/maksu/maksu/catalog/BillingPeriod;" (.ref (W 13)) ∧ Exa Z Z.heap (W 13) "com/example/maksu/maksu/catalog/BillingPeriod" ∧ Sta Z Z.heap "com/example/maksu/maksu/catalog/BillingPeriod" "BIENNIAL" "Lcom/example/maksu/maksu/catalog/BillingPeriod;" (.ref (W 14)) ∧ Exa Z Z.heap (W 14) "com/example/maksu/maksu/catalog/BillingPeriod" ∧ Sta Z Z.heap "com/example/maksu/maksu/catalog/BillingPeriod" "TRIENNIAL" "Lcom/example/maksu/maksu/catalog/BillingPeriod;" (.ref (W 15)) ∧ Exa Z Z.heap (W 15) "com/example/maksu/maksu/catalog/BillingPeriod"
def own_pk (W : Nat → Addr) (p : Int32) : Addr := W ((p &&& (2147483647 : Int32)) % (16 : Int32)).toNatClampNeg
theorem own_ix (p : Int32) : ¬ ((p &&& (2147483647 : Int32)) % (16 : Int32)) < 0 ∧ ((p &&& (2147483647 : Int32)) % (16 : Int32)) < (16 : Int32) := by
  have h := (c_and p 2147483647 (by decide)).1
  generalize p &&& 2147483647 = y at h
  have q := (c_iremV y 16).1 h (by decide)
  have h3 : (16 : Int32).toInt = 16 := by decide
  have h0 : (0 : Int32).toInt = 0 := by decide
  rw [h3] at q
  rw [Int32.lt_iff_toInt_lt, Int32.lt_iff_toInt_lt, h3, h0]
  omega
theorem own_ixn (p : Int32) : ((p &&& (2147483647 : Int32)) % (16 : Int32)).toNatClampNeg < 16 := by
  obtain ⟨h1, h2⟩ := own_ix p
  have h3 : (16 : Int32).toInt = 16 := by decide
  have h0 : (0 : Int32).toInt = 0 := by decide
  rw [Int32.lt_iff_toInt_lt, h0] at h1
  rw [Int32.lt_iff_toInt_lt, h3] at h2
  have q := nat_of (j := (p &&& 2147483647) % 16) (by rw [Int32.lt_iff_toInt_lt, h0]; exact h1)
  omega
theorem own_getW (W : Nat → Addr) (j : Nat) (h : j < 16) : ([(.ref (W 0)), (.ref (W 1)), (.ref (W 2)), (.ref (W 3)), (.ref (W 4)), (.ref (W 5)), (.ref (W 6)), (.ref (W 7)), (.ref (W 8)), (.ref (W 9)), (.ref (W 10)), (.ref (W 11)), (.ref (W 12)), (.ref (W 13)), (.ref (W 14)), (.ref (W 15))] : List Value).getD j .null = .ref (W j) := by
  match j, h with
  | 0, _ => rfl
  | 1, _ => rfl
  | 2, _ => rfl
  | 3, _ => rfl
  | 4, _ => rfl
  | 5, _ => rfl
  | 6, _ => rfl
  | 7, _ => rfl
  | 8, _ => rfl
  | 9, _ => rfl
  | 10, _ => rfl
  | 11, _ => rfl
  | 12, _ => rfl
  | 13, _ => rfl
  | 14, _ => rfl
  | 15, _ => rfl
  | n + 16, h => exact absurd h (by omega)
theorem own_n3 (x : Int32) : (((x &&& (2147483647 : Int32)) % (3 : Int32)) + (1 : Int32)) = (1 : Int32) ∨ (((x &&& (2147483647 : Int32)) % (3 : Int32)) + (1 : Int32)) = (2 : Int32) ∨ (((x &&& (2147483647 : Int32)) % (3 : Int32)) + (1 : Int32)) = (3 : Int32) := by
  have h := (c_and x 2147483647 (by decide)).1
  generalize x &&& 2147483647 = y at h
  have q := (c_iremV y 3).1 h (by decide)
  have h3 : (3 : Int32).toInt = 3 := by decide
  rw [h3] at q
  have e : ∀ k : Int32, (y % 3).toInt = k.toInt → y % 3 = k := fun k q => Int32.toInt_inj.mp q
  have : (y % 3).toInt = 0 ∨ (y % 3).toInt = 1 ∨ (y % 3).toInt = 2 := by omega
  rcases this with q | q | q
  · rw [e 0 q]; decide
  · rw [e 1 q]; decide
  · rw [e 2 q]; decide
theorem ef_2 (m : MethodId) (x0 : Int32) : entryFrame m #[(.int x0)] 2 = mkF m 0 #[.val (.int x0), .unset] [] := by first | (simp [entryFrame, mkF, argsToLocals, Value.category]; done) | rfl
theorem pn_PlanBillingPeriodPinLaw : plainName "com/example/maksu/maksu/catalog/PlanBillingPeriodPinLaw" = true := by first | (simp [plainName, overriddenIn]; done) | decide +kernel
theorem d2_0 : decode method_2_code 0 = .ok (.bipush 16, 2) := by decide +kernel
theorem d2_2 : decode method_2_code 2 = .ok (.anewarray 7, 3) := by decide +kernel
theorem d2_5 : decode method_2_code 5 = .ok (.dup, 1) := by decide +kernel
theorem d2_6 : decode method_2_code 6 = .ok (.iconst 0, 1) := by decide +kernel
theorem d2_7 : decode method_2_code 7 = .ok (.getstatic 9, 3) := by decide +kernel
theorem d2_10 : decode method_2_code 10 = .ok (.aastore, 1) := by decide +kernel
theorem d2_11 : decode method_2_code 11 = .ok (.dup, 1) := by decide +kernel
theorem d2_12 : decode method_2_code 12 = .ok (.iconst 1, 1) := by decide +kernel
theorem d2_13 : decode method_2_code 13 = .ok (.getstatic 13, 3) := by decide +kernel
theorem d2_16 : decode method_2_code 16 = .ok (.aastore, 1) := by decide +kernel
theorem d2_17 : decode method_2_code 17 = .ok (.dup, 1) := by decide +kernel
theorem d2_18 : decode method_2_code 18 = .ok (.iconst 2, 1) := by decide +kernel
theorem d2_19 : decode method_2_code 19 = .ok (.getstatic 16, 3) := by decide +kernel
theorem d2_22 : decode method_2_code 22 = .ok (.aastore, 1) := by decide +kernel
theorem d2_23 : decode method_2_code 23 = .ok (.dup, 1) := by decide +kernel
theorem d2_24 : decode method_2_code 24 = .ok (.iconst 3, 1) := by decide +kernel
theorem d2_25 : decode method_2_code 25 = .ok (.getstatic 19, 3) := by decide +kernel
theorem d2_28 : decode method_2_code 28 = .ok (.aastore, 1) := by decide +kernel
theorem d2_29 : decode method_2_code 29 = .ok (.dup, 1) := by decide +kernel
theorem d2_30 : decode method_2_code 30 = .ok (.iconst 4, 1) := by decide +kernel
theorem d2_31 : decode method_2_code 31 = .ok (.getstatic 22, 3) := by decide +kernel
theorem d2_34 : decode method_2_code 34 = .ok (.aastore, 1) := by decide +kernel
theorem d2_35 : decode method_2_code 35 = .ok (.dup, 1) := by decide +kernel
theorem d2_36 : decode method_2_code 36 = .ok (.iconst 5, 1) := by decide +kernel
theorem d2_37 : decode method_2_code 37 = .ok (.getstatic 25, 3) := by decide +kernel
theorem d2_40 : decode method_2_code 40 = .ok (.aastore, 1) := by decide +kernel
theorem d2_41 : decode method_2_code 41 = .ok (.dup, 1) := by decide +kernel
theorem d2_42 : decode method_2_code 42 = .ok (.bipush 6, 2) := by decide +kernel
theorem d2_44 : decode method_2_code 44 = .ok (.getstatic 28, 3) := by decide +kernel
theorem d2_47 : decode method_2_code 47 = .ok (.aastore, 1) := by decide +kernel
theorem d2_48 : decode method_2_code 48 = .ok (.dup, 1) := by decide +kernel
theorem d2_49 : decode method_2_code 49 = .ok (.bipush 7, 2) := by decide +kernel
theorem d2_51 : decode method_2_code 51 = .ok (.getstatic 31, 3) := by decide +kernel
theorem d2_54 : decode method_2_code 54 = .ok (.aastore, 1) := by decide +kernel
theorem d2_55 : decode method_2_code 55 = .ok (.dup, 1) := by decide +kernel
theorem d2_56 : decode method_2_code 56 = .ok (.bipush 8, 2) := by decide +kernel
theorem d2_58 : decode method_2_code 58 = .ok (.getstatic 34, 3) := by decide +kernel
theorem d2_61 : decode method_2_code 61 = .ok (.aastore, 1) := by decide +kernel
theorem d2_62 : decode method_2_code 62 = .ok (.dup, 1) := by decide +kernel
theorem d2_63 : decode method_2_code 63 = .ok (.bipush 9, 2) := by decide +kernel
theorem d2_65 : decode method_2_code 65 = .ok (.getstatic 37, 3) := by decide +kernel
theorem d2_68 : decode method_2_code 68 = .ok (.aastore, 1) := by decide +kernel
theorem d2_69 : decode method_2_code 69 = .ok (.dup, 1) := by decide +kernel
theorem d2_70 : decode method_2_code 70 = .ok (.bipush 10, 2) := by decide +kernel
theorem d2_72 : decode method_2_code 72 = .ok (.getstatic 40, 3) := by decide +kernel
theorem d2_75 : decode method_2_code 75 = .ok (.aastore, 1) := by decide +kernel
theorem d2_76 : decode method_2_code 76 = .ok (.dup, 1) := by decide +kernel
theorem d2_77 : decode method_2_code 77 = .ok (.bipush 11, 2) := by decide +kernel
theorem d2_79 : decode method_2_code 79 = .ok (.getstatic 43, 3) := by decide +kernel
theorem d2_82 : decode method_2_code 82 = .ok (.aastore, 1) := by decide +kernel
theorem d2_83 : decode method_2_code 83 = .ok (.dup, 1) := by decide +kernel
theorem d2_84 : decode method_2_code 84 = .ok (.bipush 12, 2) := by decide +kernel
theorem d2_86 : decode method_2_code 86 = .ok (.getstatic 46, 3) := by decide +kernel
theorem d2_89 : decode method_2_code 89 = .ok (.aastore, 1) := by decide +kernel
theorem d2_90 : decode method_2_code 90 = .ok (.dup, 1) := by decide +kernel
theorem d2_91 : decode method_2_code 91 = .ok (.bipush 13, 2) := by decide +kernel
theorem d2_93 : decode method_2_code 93 = .ok (.getstatic 49, 3) := by decide +kernel
theorem d2_96 : decode method_2_code 96 = .ok (.aastore, 1) := by decide +kernel
theorem d2_97 : decode method_2_code 97 = .ok (.dup, 1) := by decide +kernel
theorem d2_98 : decode method_2_code 98 = .ok (.bipush 14, 2) := by decide +kernel
theorem d2_100 : decode method_2_code 100 = .ok (.getstatic 52, 3) := by decide +kernel
theorem d2_103 : decode method_2_code 103 = .ok (.aastore, 1) := by decide +kernel
theorem d2_104 : decode method_2_code 104 = .ok (.dup, 1) := by decide +kernel
theorem d2_105 : decode method_2_code 105 = .ok (.bipush 15, 2) := by decide +kernel
theorem d2_107 : decode method_2_code 107 = .ok (.getstatic 55, 3) := by decide +kernel
theorem d2_110 : decode method_2_code 110 = .ok (.aastore, 1) := by decide +kernel
theorem d2_111 : decode method_2_code 111 = .ok (.astore_n 1, 1) := by decide +kernel
theorem d2_112 : decode method_2_code 112 = .ok (.aload_n 1, 1) := by decide +kernel
theorem d2_113 : decode method_2_code 113 = .ok (.iload_n 0, 1) := by decide +kernel
theorem d2_114 : decode method_2_code 114 = .ok (.ldc 58, 2) := by decide +kernel
theorem d2_116 : decode method_2_code 116 = .ok (.iand, 1) := by decide +kernel
theorem d2_117 : decode method_2_code 117 = .ok (.bipush 16, 2) := by decide +kernel
theorem d2_119 : decode method_2_code 119 = .ok (.irem, 1) := by decide +kernel
theorem d2_120 : decode method_2_code 120 = .ok (.aaload, 1) := by decide +kernel
theorem d2_121 : decode method_2_code 121 = .ok (.areturn, 1) := by decide +kernel
def Q_rmPick (Z : State) (p1 : Int32) (W : Nat → Addr) (h0 : Heap) (n0 : Nat) (v : Option Value) (h : Heap) (L : List Loc) : Prop := v = some (.ref (own_pk W p1)) ∧ Fr n0 L ∧ Keep h0 h []
set_option maxRecDepth 65536 in
set_option maxHeartbeats 40000000 in
theorem rmPick (l : Launch) (Z : State) (a0 : Array Value) (hw : ∀ d ∈ tables_1, d.before a0 Z = true) (ws : List Jvm.Cond) (p1 : Int32) (W : Nat → Addr) (h0 : Heap) (n0 : Nat) (Z0 : n0 ≤ h0.size) (BPs : own_bp Z W) (O0 : Old Z n0 h0) :
    MetFree l (⟨"com/example/maksu/maksu/catalog/PlanBillingPeriodPinLaw", "pick", "(I)Lcom/example/maksu/maksu/catalog/BillingPeriod;"⟩ : MethodName) (head1 (Jvm.Cond.code (⟨"com/example/maksu/maksu/catalog/PlanBillingPeriodPinLaw", "pick", "(I)Lcom/example/maksu/maksu/catalog/BillingPeriod;"⟩ : MethodName) method_2_code 2 (some (.object "com/example/maksu/maksu/catalog/BillingPeriod")) :: ws) ({ frames := 0, cells := 1, slots := 16, locals := 0 } : Room)) (fun a U => a = #[(.int p1)] ∧ Z.Warmed39 U.vm ∧ U.heap = h0) (fun _ _ _ _ _ => True) (fun _ U o U' => ∃ v L, o = .returned v ∧ Q_rmPick Z p1 W h0 n0 v U'.heap L ∧ FrameEnd U o U' L ({ frames := 0, cells := 1, slots := 16, locals := 0 } : Room).cells ({ frames := 0, cells := 1, slots := 16, locals := 0 } : Room).slots) := by
  have hw_0 := hw _ (List.mem_of_getElem? (i := 0) rfl)
  have hw_11 := hw _ (List.mem_of_getElem? (i := 11) rfl)
  have hw_12 := hw _ (List.mem_of_getElem? (i := 12) rfl)
  have hw_13 := hw _ (List.mem_of_getElem? (i := 13) rfl)
  have hw_17 := hw _ (List.mem_of_getElem? (i := 17) rfl)
  have hw_19 := hw _ (List.mem_of_getElem? (i := 19) rfl)
  have hw_21 := hw _ (List.mem_of_getElem? (i := 21) rfl)
  have hw_23 := hw _ (List.mem_of_getElem? (i := 23) rfl)
  have hw_25 := hw _ (List.mem_of_getElem? (i := 25) rfl)
  have hw_27 := hw _ (List.mem_of_getElem? (i := 27) rfl)
  have hw_29 := hw _ (List.mem_of_getElem? (i := 29) rfl)
  have hw_31 := hw _ (List.mem_of_getElem? (i := 31) rfl)
  have hw_33 := hw _ (List.mem_of_getElem? (i := 33) rfl)
  have hw_35 := hw _ (List.mem_of_getElem? (i := 35) rfl)
  have hw_37 := hw _ (List.mem_of_getElem? (i := 37) rfl)
  have hw_39 := hw _ (List.mem_of_getElem? (i := 39) rfl)
  have hw_41 := hw _ (List.mem_of_getElem? (i := 41) rfl)
  have hw_43 := hw _ (List.mem_of_getElem? (i := 43) rfl)
  have hw_45 := hw _ (List.mem_of_getElem? (i := 45) rfl)
  refine MetFree.of_bodySF (plainFor_of_name pn_PlanBillingPeriodPinLaw) hisR ?_
  intro p e s m args below meth c s₁ Bd hml0 hP hK
  obtain ⟨rfl, hZ, hh⟩ := hP
  have hx := Bd.exec
  have hby := Bd.bytes
  have hml : c.maxLocals = 2 := hml0
  have hown : s.vm.findClass "com/example/maksu/maksu/catalog/PlanBillingPeriodPinLaw" = some m.cls := findClass_of_methodNamed Bd.named
  have hnm := (name_of_methodNamed Bd.named Bd.method).1
  have X0 : Stand p l e ({ frames := 0, cells := 1, slots := 16, locals := 0 } : Room) s m #[(.int p1)] below meth c s₁ [] 0 0 := Stand.of_body Bd
  have e0 : s₁.heap = h0 := by rw [← hh, Bd.state]; rfl
  have N0 := Fr.nil n0
  have pre0 : ∀ t_, Steps p.tables e below (s₁.setTop (mkF m 0 #[.val (.int p1), .unset] [])) t_ → Steps p.tables e below (s₁.setTop (entryFrame m #[(.int p1)] 2)) t_ := fun t_ k_ => castTop (ef_2 m p1) k_
  have K0 : Keep h0 h0 [] := Keep.refl h0 _
  obtain ⟨S0_, E0_, S1_, E1_, S2_, E2_, S3_, E3_, S4_, E4_, S5_, E5_, S6_, E6_, S7_, E7_, S8_, E8_, S9_, E9_, S10_, E10_, S11_, E11_, S12_, E12_, S13_, E13_, S14_, E14_, S15_, E15_⟩ := BPs
  obtain ⟨T1, h1, k1, X1, e1, E1, A1, Ov1, st1⟩ := newR X0 hx hZ hown hw_11 hw_12 e0 (g := (mkF m 2 #[.val (.int p1), .unset] [(.int (16 : Int32))])) rfl (hb hby d2_2) rfl (by decide) (cap := 16) (by decide) (by decide) (by decide) (by decide)
  obtain ⟨b1, g1⟩ : ∃ z, z = h0.size := ⟨_, rfl⟩
  rw [← g1] at A1 st1
  have lt1 : b1 < h1.size := A1.lt
  have V1 : Arv Z h1 b1 k1 (.object "com/example/maksu/maksu/catalog/BillingPeriod") (16 : Int32) [.null, .null, .null, .null, .null, .null, .null, .null, .null, .null, .null, .null, .null, .null, .null, .null] .null := (Arv.new A1 (by decide)).pad (pad_rep [] .null 16)
  have sz1 : h0.size ≤ h1.size := E1.1
  have Z1 : n0 ≤ h1.size := Nat.le_trans Z0 sz1
  have K1 : Keep h0 h1 [] := K0.ext E1
  have O1 : Old Z n0 h1 := O0.ext E1
  obtain ⟨T2, X2, e2, st2⟩ := getS2 X1 hx hZ hown (host := "") (Or.inl hw_13) Via.refl e1 (S0_.ext O1.2) (g := (mkF m 7 #[.val (.int p1), .unset] [(.int (0 : Int32)), (.ref b1), (.ref b1)])) rfl (hb hby d2_7)
  obtain ⟨cl3, Ar3, q3, S3, M3, H3, G3⟩ := V1
  have hin3 : ¬ ((0 : Int32) < 0 ∨ cl3.slots.size ≤ ((0 : Int32)).toNatClampNeg) := inb_of S3 ⟨by decide, by decide⟩
  obtain ⟨T4, h4, X4, e4, W4, st4⟩ := stR X2 hx hZ e2 Ar3 (j := (0 : Int32)) hin3 rfl (Sto.ofV Ar3 q3 Ov1 (Ins.self (E0_.ext O1.2))) (g := (mkF m 10 #[.val (.int p1), .unset] [(.ref (W 0)), (.int (0 : Int32)), (.ref b1), (.ref b1)])) rfl rfl (hb hby d2_10)
  have V4 : Arv Z h4 b1 k1 (.object "com/example/maksu/maksu/catalog/BillingPeriod") (16 : Int32) [(.ref (W 0)), .null, .null, .null, .null, .null, .null, .null, .null, .null, .null, .null, .null, .null, .null, .null] .null := Arv.set Ar3 q3 S3 M3 H3 G3 rfl W4 0 rfl (Nat.le_of_ble_eq_true rfl)
  have N4 := Fr.snoc X4 N0 (show n0 ≤ b1 by omega)
  have sz4 : h1.size ≤ h4.size := Nat.le_of_eq W4.size.symm
  have Z4 : n0 ≤ h4.size := Nat.le_trans Z1 sz4
  have K4 : Keep h0 h4 [] := K1.wr W4 (Or.inr (by omega))
  have O4 : Old Z n0 h4 := O1.wr W4 (by omega)
  obtain ⟨T5, X5, e5, st5⟩ := getS2 X4 hx hZ hown (host := "") (Or.inl hw_17) Via.refl e4 (S1_.ext O4.2) (g := (mkF m 13 #[.val (.int p1), .unset] [(.int (1 : Int32)), (.ref b1), (.ref b1)])) rfl (hb hby d2_13)
  obtain ⟨cl6, Ar6, q6, S6, M6, H6, G6⟩ := V4
  have hin6 : ¬ ((1 : Int32) < 0 ∨ cl6.slots.size ≤ ((1 : Int32)).toNatClampNeg) := inb_of S6 ⟨by decide, by decide⟩
  obtain ⟨T7, h7, X7, e7, W7, st7⟩ := stR X5 hx hZ e5 Ar6 (j := (1 : Int32)) hin6 rfl (Sto.ofV Ar6 q6 Ov1 (Ins.self (E1_.ext O4.2))) (g := (mkF m 16 #[.val (.int p1), .unset] [(.ref (W 1)), (.int (1 : Int32)), (.ref b1), (.ref b1)])) rfl rfl (hb hby d2_16)
  have V7 : Arv Z h7 b1 k1 (.object "com/example/maksu/maksu/catalog/BillingPeriod") (16 : Int32) [(.ref (W 0)), (.ref (W 1)), .null, .null, .null, .null, .null, .null, .null, .null, .null, .null, .null, .null, .null, .null] .null := Arv.set Ar6 q6 S6 M6 H6 G6 rfl W7 1 rfl (Nat.le_of_ble_eq_true rfl)
  have N7 := Fr.snoc X7 N4 (show n0 ≤ b1 by omega)
  have sz7 : h4.size ≤ h7.size := Nat.le_of_eq W7.size.symm
  have Z7 : n0 ≤ h7.size := Nat.le_trans Z4 sz7
  have K7 : Keep h0 h7 [] := K4.wr W7 (Or.inr (by omega))
  have O7 : Old Z n0 h7 := O4.wr W7 (by omega)
  obtain ⟨T8, X8, e8, st8⟩ := getS2 X7 hx hZ hown (host := "") (Or.inl hw_19) Via.refl e7 (S2_.ext O7.2) (g := (mkF m 19 #[.val (.int p1), .unset] [(.int (2 : Int32)), (.ref b1), (.ref b1)])) rfl (hb hby d2_19)
  obtain ⟨cl9, Ar9, q9, S9, M9, H9, G9⟩ := V7
  have hin9 : ¬ ((2 : Int32) < 0 ∨ cl9.slots.size ≤ ((2 : Int32)).toNatClampNeg) := inb_of S9 ⟨by decide, by decide⟩
  obtain ⟨T10, h10, X10, e10, W10, st10⟩ := stR X8 hx hZ e8 Ar9 (j := (2 : Int32)) hin9 rfl (Sto.ofV Ar9 q9 Ov1 (Ins.self (E2_.ext O7.2))) (g := (mkF m 22 #[.val (.int p1), .unset] [(.ref (W 2)), (.int (2 : Int32)), (.ref b1), (.ref b1)])) rfl rfl (hb hby d2_22)
  have V10 : Arv Z h10 b1 k1 (.object "com/example/maksu/maksu/catalog/BillingPeriod") (16 : Int32) [(.ref (W 0)), (.ref (W 1)), (.ref (W 2)), .null, .null, .null, .null, .null, .null, .null, .null, .null, .null, .null, .null, .null] .null := Arv.set Ar9 q9 S9 M9 H9 G9 rfl W10 2 rfl (Nat.le_of_ble_eq_true rfl)
  have N10 := Fr.snoc X10 N7 (show n0 ≤ b1 by omega)
  have sz10 : h7.size ≤ h10.size := Nat.le_of_eq W10.size.symm
  have Z10 : n0 ≤ h10.size := Nat.le_trans Z7 sz10
  have K10 : Keep h0 h10 [] := K7.wr W10 (Or.inr (by omega))
  have O10 : Old Z n0 h10 := O7.wr W10 (by omega)
  obtain ⟨T11, X11, e11, st11⟩ := getS2 X10 hx hZ hown (host := "") (Or.inl hw_21) Via.refl e10 (S3_.ext O10.2) (g := (mkF m 25 #[.val (.int p1), .unset] [(.int (3 : Int32)), (.ref b1), (.ref b1)])) rfl (hb hby d2_25)
  obtain ⟨cl12, Ar12, q12, S12, M12, H12, G12⟩ := V10
  have hin12 : ¬ ((3 : Int32) < 0 ∨ cl12.slots.size ≤ ((3 : Int32)).toNatClampNeg) := inb_of S12 ⟨by decide, by decide⟩
  obtain ⟨T13, h13, X13, e13, W13, st13⟩ := stR X11 hx hZ e11 Ar12 (j := (3 : Int32)) hin12 rfl (Sto.ofV Ar12 q12 Ov1 (Ins.self (E3_.ext O10.2))) (g := (mkF m 28 #[.val (.int p1), .unset] [(.ref (W 3)), (.int (3 : Int32)), (.ref b1), (.ref b1)])) rfl rfl (hb hby d2_28)
  have V13 : Arv Z h13 b1 k1 (.object "com/example/maksu/maksu/catalog/BillingPeriod") (16 : Int32) [(.ref (W 0)), (.ref (W 1)), (.ref (W 2)), (.ref (W 3)), .null, .null, .null, .null, .null, .null, .null, .null, .null, .null, .null, .null] .null := Arv.set Ar12 q12 S12 M12 H12 G12 rfl W13 3 rfl (Nat.le_of_ble_eq_true rfl)
  have N13 := Fr.snoc X13 N10 (show n0 ≤ b1 by omega)
  have sz13 : h10.size ≤ h13.size := Nat.le_of_eq W13.size.symm
  have Z13 : n0 ≤ h13.size := Nat.le_trans Z10 sz13
  have K13 : Keep h0 h13 [] := K10.wr W13 (Or.inr (by omega))
  have O13 : Old Z n0 h13 := O10.wr W13 (by omega)
  obtain ⟨T14, X14, e14, st14⟩ := getS2 X13 hx hZ hown (host := "") (Or.inl hw_23) Via.refl e13 (S4_.ext O13.2) (g := (mkF m 31 #[.val (.int p1), .unset] [(.int (4 : Int32)), (.ref b1), (.ref b1)])) rfl (hb hby d2_31)
  obtain ⟨cl15, Ar15, q15, S15, M15, H15, G15⟩ := V13
  have hin15 : ¬ ((4 : Int32) < 0 ∨ cl15.slots.size ≤ ((4 : Int32)).toNatClampNeg) := inb_of S15 ⟨by decide, by decide⟩
  obtain ⟨T16, h16, X16, e16, W16, st16⟩ := stR X14 hx hZ e14 Ar15 (j := (4 : Int32)) hin15 rfl (Sto.ofV Ar15 q15 Ov1 (Ins.self (E4_.ext O13.2))) (g := (mkF m 34 #[.val (.int p1), .unset] [(.ref (W 4)), (.int (4 : Int32)), (.ref b1), (.ref b1)])) rfl rfl (hb hby d2_34)
  have V16 : Arv Z h16 b1 k1 (.object "com/example/maksu/maksu/catalog/BillingPeriod") (16 : Int32) [(.ref (W 0)), (.ref (W 1)), (.ref (W 2)), (.ref (W 3)), (.ref (W 4)), .null, .null, .null, .null, .null, .null, .null, .null, .null, .null, .null] .null := Arv.set Ar15 q15 S15 M15 H15 G15 rfl W16 4 rfl (Nat.le_of_ble_eq_true rfl)
  have N16 := Fr.snoc X16 N13 (show n0 ≤ b1 by omega)
  have sz16 : h13.size ≤ h16.size := Nat.le_of_eq W16.size.symm
  have Z16 : n0 ≤ h16.size := Nat.le_trans Z13 sz16
  have K16 : Keep h0 h16 [] := K13.wr W16 (Or.inr (by omega))
  have O16 : Old Z n0 h16 := O13.wr W16 (by omega)
  obtain ⟨T17, X17, e17, st17⟩ := getS2 X16 hx hZ hown (host := "") (Or.inl hw_25) Via.refl e16 (S5_.ext O16.2) (g := (mkF m 37 #[.val (.int p1), .unset] [(.int (5 : Int32)), (.ref b1), (.ref b1)])) rfl (hb hby d2_37)
  obtain ⟨cl18, Ar18, q18, S18, M18, H18, G18⟩ := V16
  have hin18 : ¬ ((5 : Int32) < 0 ∨ cl18.slots.size ≤ ((5 : Int32)).toNatClampNeg) := inb_of S18 ⟨by decide, by decide⟩
  obtain ⟨T19, h19, X19, e19, W19, st19⟩ := stR X17 hx hZ e17 Ar18 (j := (5 : Int32)) hin18 rfl (Sto.ofV Ar18 q18 Ov1 (Ins.self (E5_.ext O16.2))) (g := (mkF m 40 #[.val (.int p1), .unset] [(.ref (W 5)), (.int (5 : Int32)), (.ref b1), (.ref b1)])) rfl rfl (hb hby d2_40)
  have V19 : Arv Z h19 b1 k1 (.object "com/example/maksu/maksu/catalog/BillingPeriod") (16 : Int32) [(.ref (W 0)), (.ref (W 1)), (.ref (W 2)), (.ref (W 3)), (.ref (W 4)), (.ref (W 5)), .null, .null, .null, .null, .null, .null, .null, .null, .null, .null] .null := Arv.set Ar18 q18 S18 M18 H18 G18 rfl W19 5 rfl (Nat.le_of_ble_eq_true rfl)
  have N19 := Fr.snoc X19 N16 (show n0 ≤ b1 by omega)
  have sz19 : h16.size ≤ h19.size := Nat.le_of_eq W19.size.symm
  have Z19 : n0 ≤ h19.size := Nat.le_trans Z16 sz19
  have K19 : Keep h0 h19 [] := K16.wr W19 (Or.inr (by omega))
  have O19 : Old Z n0 h19 := O16.wr W19 (by omega)
  obtain ⟨T20, X20, e20, st20⟩ := getS2 X19 hx hZ hown (host := "") (Or.inl hw_27) Via.refl e19 (S6_.ext O19.2) (g := (mkF m 44 #[.val (.int p1), .unset] [(.int (6 : Int32)), (.ref b1), (.ref b1)])) rfl (hb hby d2_44)
  obtain ⟨cl21, Ar21, q21, S21, M21, H21, G21⟩ := V19
  have hin21 : ¬ ((6 : Int32) < 0 ∨ cl21.slots.size ≤ ((6 : Int32)).toNatClampNeg) := inb_of S21 ⟨by decide, by decide⟩
  obtain ⟨T22, h22, X22, e22, W22, st22⟩ := stR X20 hx hZ e20 Ar21 (j := (6 : Int32)) hin21 rfl (Sto.ofV Ar21 q21 Ov1 (Ins.self (E6_.ext O19.2))) (g := (mkF m 47 #[.val (.int p1), .unset] [(.ref (W 6)), (.int (6 : Int32)), (.ref b1), (.ref b1)])) rfl rfl (hb hby d2_47)
  have V22 : Arv Z h22 b1 k1 (.object "com/example/maksu/maksu/catalog/BillingPeriod") (16 : Int32) [(.ref (W 0)), (.ref (W 1)), (.ref (W 2)), (.ref (W 3)), (.ref (W 4)), (.ref (W 5)), (.ref (W 6)), .null, .null, .null, .null, .null, .null, .null, .null, .null] .null := Arv.set Ar21 q21 S21 M21 H21 G21 rfl W22 6 rfl (Nat.le_of_ble_eq_true rfl)
  have N22 := Fr.snoc X22 N19 (show n0 ≤ b1 by omega)
  have sz22 : h19.size ≤ h22.size := Nat.le_of_eq W22.size.symm
  have Z22 : n0 ≤ h22.size := Nat.le_trans Z19 sz22
  have K22 : Keep h0 h22 [] := K19.wr W22 (Or.inr (by omega))
  have O22 : Old Z n0 h22 := O19.wr W22 (by omega)
  obtain ⟨T23, X23, e23, st23⟩ := getS2 X22 hx hZ hown (host := "") (Or.inl hw_29) Via.refl e22 (S7_.ext O22.2) (g := (mkF m 51 #[.val (.int p1), .unset] [(.int (7 : Int32)), (.ref b1), (.ref b1)])) rfl (hb hby d2_51)
  obtain ⟨cl24, Ar24, q24, S24, M24, H24, G24⟩ := V22
  have hin24 : ¬ ((7 : Int32) < 0 ∨ cl24.slots.size ≤ ((7 : Int32)).toNatClampNeg) := inb_of S24 ⟨by decide, by decide⟩
  obtain ⟨T25, h25, X25, e25, W25, st25⟩ := stR X23 hx hZ e23 Ar24 (j := (7 : Int32)) hin24 rfl (Sto.ofV Ar24 q24 Ov1 (Ins.self (E7_.ext O22.2))) (g := (mkF m 54 #[.val (.int p1), .unset] [(.ref (W 7)), (.int (7 : Int32)), (.ref b1), (.ref b1)])) rfl rfl (hb hby d2_54)
  have V25 : Arv Z h25 b1 k1 (.object "com/example/maksu/maksu/catalog/BillingPeriod") (16 : Int32) [(.ref (W 0)), (.ref (W 1)), (.ref (W 2)), (.ref (W 3)), (.ref (W 4)), (.ref (W 5)), (.ref (W 6)), (.ref (W 7)), .null, .null, .null, .null, .null, .null, .null, .null] .null := Arv.set Ar24 q24 S24 M24 H24 G24 rfl W25 7 rfl (Nat.le_of_ble_eq_true rfl)
  have N25 := Fr.snoc X25 N22 (show n0 ≤ b1 by omega)
  have sz25 : h22.size ≤ h25.size := Nat.le_of_eq W25.size.symm
  have Z25 : n0 ≤ h25.size := Nat.le_trans Z22 sz25
  have K25 : Keep h0 h25 [] := K22.wr W25 (Or.inr (by omega))
  have O25 : Old Z n0 h25 := O22.wr W25 (by omega)
  obtain ⟨T26, X26, e26, st26⟩ := getS2 X25 hx hZ hown (host := "") (Or.inl hw_31) Via.refl e25 (S8_.ext O25.2) (g := (mkF m 58 #[.val (.int p1), .unset] [(.int (8 : Int32)), (.ref b1), (.ref b1)])) rfl (hb hby d2_58)
  obtain ⟨cl27, Ar27, q27, S27, M27, H27, G27⟩ := V25
  have hin27 : ¬ ((8 : Int32) < 0 ∨ cl27.slots.size ≤ ((8 : Int32)).toNatClampNeg) := inb_of S27 ⟨by decide, by decide⟩
  obtain ⟨T28, h28, X28, e28, W28, st28⟩ := stR X26 hx hZ e26 Ar27 (j := (8 : Int32)) hin27 rfl (Sto.ofV Ar27 q27 Ov1 (Ins.self (E8_.ext O25.2))) (g := (mkF m 61 #[.val (.int p1), .unset] [(.ref (W 8)), (.int (8 : Int32)), (.ref b1), (.ref b1)])) rfl rfl (hb hby d2_61)
  have V28 : Arv Z h28 b1 k1 (.object "com/example/maksu/maksu/catalog/BillingPeriod") (16 : Int32) [(.ref (W 0)), (.ref (W 1)), (.ref (W 2)), (.ref (W 3)), (.ref (W 4)), (.ref (W 5)), (.ref (W 6)), (.ref (W 7)), (.ref (W 8)), .null, .null, .null, .null, .null, .null, .null] .null := Arv.set Ar27 q27 S27 M27 H27 G27 rfl W28 8 rfl (Nat.le_of_ble_eq_true rfl)
  have N28 := Fr.snoc X28 N25 (show n0 ≤ b1 by omega)
  have sz28 : h25.size ≤ h28.size := Nat.le_of_eq W28.size.symm
  have Z28 : n0 ≤ h28.size := Nat.le_trans Z25 sz28
  have K28 : Keep h0 h28 [] := K25.wr W28 (Or.inr (by omega))
  have O28 : Old Z n0 h28 := O25.wr W28 (by omega)
  obtain ⟨T29, X29, e29, st29⟩ := getS2 X28 hx hZ hown (host := "") (Or.inl hw_33) Via.refl e28 (S9_.ext O28.2) (g := (mkF m 65 #[.val (.int p1), .unset] [(.int (9 : Int32)), (.ref b1), (.ref b1)])) rfl (hb hby d2_65)
  obtain ⟨cl30, Ar30, q30, S30, M30, H30, G30⟩ := V28
  have hin30 : ¬ ((9 : Int32) < 0 ∨ cl30.slots.size ≤ ((9 : Int32)).toNatClampNeg) := inb_of S30 ⟨by decide, by decide⟩
  obtain ⟨T31, h31, X31, e31, W31, st31⟩ := stR X29 hx hZ e29 Ar30 (j := (9 : Int32)) hin30 rfl (Sto.ofV Ar30 q30 Ov1 (Ins.self (E9_.ext O28.2))) (g := (mkF m 68 #[.val (.int p1), .unset] [(.ref (W 9)), (.int (9 : Int32)), (.ref b1), (.ref b1)])) rfl rfl (hb hby d2_68)
  have V31 : Arv Z h31 b1 k1 (.object "com/example/maksu/maksu/catalog/BillingPeriod") (16 : Int32) [(.ref (W 0)), (.ref (W 1)), (.ref (W 2)), (.ref (W 3)), (.ref (W 4)), (.ref (W 5)), (.ref (W 6)), (.ref (W 7)), (.ref (W 8)), (.ref (W 9)), .null, .null, .null, .null, .null, .null] .null := Arv.set Ar30 q30 S30 M30 H30 G30 rfl W31 9 rfl (Nat.le_of_ble_eq_true rfl)
  have N31 := Fr.snoc X31 N28 (show n0 ≤ b1 by omega)
  have sz31 : h28.size ≤ h31.size := Nat.le_of_eq W31.size.symm
  have Z31 : n0 ≤ h31.size := Nat.le_trans Z28 sz31
  have K31 : Keep h0 h31 [] := K28.wr W31 (Or.inr (by omega))
  have O31 : Old Z n0 h31 := O28.wr W31 (by omega)
  obtain ⟨T32, X32, e32, st32⟩ := getS2 X31 hx hZ hown (host := "") (Or.inl hw_35) Via.refl e31 (S10_.ext O31.2) (g := (mkF m 72 #[.val (.int p1), .unset] [(.int (10 : Int32)), (.ref b1), (.ref b1)])) rfl (hb hby d2_72)
  obtain ⟨cl33, Ar33, q33, S33, M33, H33, G33⟩ := V31
  have hin33 : ¬ ((10 : Int32) < 0 ∨ cl33.slots.size ≤ ((10 : Int32)).toNatClampNeg) := inb_of S33 ⟨by decide, by decide⟩
  obtain ⟨T34, h34, X34, e34, W34, st34⟩ := stR X32 hx hZ e32 Ar33 (j := (10 : Int32)) hin33 rfl (Sto.ofV Ar33 q33 Ov1 (Ins.self (E10_.ext O31.2))) (g := (mkF m 75 #[.val (.int p1), .unset] [(.ref (W 10)), (.int (10 : Int32)), (.ref b1), (.ref b1)])) rfl rfl (hb hby d2_75)
  have V34 : Arv Z h34 b1 k1 (.object "com/example/maksu/maksu/catalog/BillingPeriod") (16 : Int32) [(.ref (W 0)), (.ref (W 1)), (.ref (W 2)), (.ref (W 3)), (.ref (W 4)), (.ref (W 5)), (.ref (W 6)), (.ref (W 7)), (.ref (W 8)), (.ref (W 9)), (.ref (W 10)), .null, .null, .null, .null, .null] .null := Arv.set Ar33 q33 S33 M33 H33 G33 rfl W34 10 rfl (Nat.le_of_ble_eq_true rfl)
  have N34 := Fr.snoc X34 N31 (show n0 ≤ b1 by omega)
  have sz34 : h31.size ≤ h34.size := Nat.le_of_eq W34.size.symm
  have Z34 : n0 ≤ h34.size := Nat.le_trans Z31 sz34
  have K34 : Keep h0 h34 [] := K31.wr W34 (Or.inr (by omega))
  have O34 : Old Z n0 h34 := O31.wr W34 (by omega)
  obtain ⟨T35, X35, e35, st35⟩ := getS2 X34 hx hZ hown (host := "") (Or.inl hw_37) Via.refl e34 (S11_.ext O34.2) (g := (mkF m 79 #[.val (.int p1), .unset] [(.int (11 : Int32)), (.ref b1), (.ref b1)])) rfl (hb hby d2_79)
  obtain ⟨cl36, Ar36, q36, S36, M36, H36, G36⟩ := V34
  have hin36 : ¬ ((11 : Int32) < 0 ∨ cl36.slots.size ≤ ((11 : Int32)).toNatClampNeg) := inb_of S36 ⟨by decide, by decide⟩
  obtain ⟨T37, h37, X37, e37, W37, st37⟩ := stR X35 hx hZ e35 Ar36 (j := (11 : Int32)) hin36 rfl (Sto.ofV Ar36 q36 Ov1 (Ins.self (E11_.ext O34.2))) (g := (mkF m 82 #[.val (.int p1), .unset] [(.ref (W 11)), (.int (11 : Int32)), (.ref b1), (.ref b1)])) rfl rfl (hb hby d2_82)
  have V37 : Arv Z h37 b1 k1 (.object "com/example/maksu/maksu/catalog/BillingPeriod") (16 : Int32) [(.ref (W 0)), (.ref (W 1)), (.ref (W 2)), (.ref (W 3)), (.ref (W 4)), (.ref (W 5)), (.ref (W 6)), (.ref (W 7)), (.ref (W 8)), (.ref (W 9)), (.ref (W 10)), (.ref (W 11)), .null, .null, .null, .null] .null := Arv.set Ar36 q36 S36 M36 H36 G36 rfl W37 11 rfl (Nat.le_of_ble_eq_true rfl)
  have N37 := Fr.snoc X37 N34 (show n0 ≤ b1 by omega)
  have sz37 : h34.size ≤ h37.size := Nat.le_of_eq W37.size.symm
  have Z37 : n0 ≤ h37.size := Nat.le_trans Z34 sz37
  have K37 : Keep h0 h37 [] := K34.wr W37 (Or.inr (by omega))
  have O37 : Old Z n0 h37 := O34.wr W37 (by omega)
  obtain ⟨T38, X38, e38, st38⟩ := getS2 X37 hx hZ hown (host := "") (Or.inl hw_39) Via.refl e37 (S12_.ext O37.2) (g := (mkF m 86 #[.val (.int p1), .unset] [(.int (12 : Int32)), (.ref b1), (.ref b1)])) rfl (hb hby d2_86)
  obtain ⟨cl39, Ar39, q39, S39, M39, H39, G39⟩ := V37
  have hin39 : ¬ ((12 : Int32) < 0 ∨ cl39.slots.size ≤ ((12 : Int32)).toNatClampNeg) := inb_of S39 ⟨by decide, by decide⟩
  obtain ⟨T40, h40, X40, e40, W40, st40⟩ := stR X38 hx hZ e38 Ar39 (j := (12 : Int32)) hin39 rfl (Sto.ofV Ar39 q39 Ov1 (Ins.self (E12_.ext O37.2))) (g := (mkF m 89 #[.val (.int p1), .unset] [(.ref (W 12)), (.int (12 : Int32)), (.ref b1), (.ref b1)])) rfl rfl (hb hby d2_89)
  have V40 : Arv Z h40 b1 k1 (.object "com/example/maksu/maksu/catalog/BillingPeriod") (16 : Int32) [(.ref (W 0)), (.ref (W 1)), (.ref (W 2)), (.ref (W 3)), (.ref (W 4)), (.ref (W 5)), (.ref (W 6)), (.ref (W 7)), (.ref (W 8)), (.ref (W 9)), (.ref (W 10)), (.ref (W 11)), (.ref (W 12)), .null, .null, .null] .null := Arv.set Ar39 q39 S39 M39 H39 G39 rfl W40 12 rfl (Nat.le_of_ble_eq_true rfl)
  have N40 := Fr.snoc X40 N37 (show n0 ≤ b1 by omega)
  have sz40 : h37.size ≤ h40.size := Nat.le_of_eq W40.size.symm
  have Z40 : n0 ≤ h40.size := Nat.le_trans Z37 sz40
  have K40 : Keep h0 h40 [] := K37.wr W40 (Or.inr (by omega))
  have O40 : Old Z n0 h40 := O37.wr W40 (by omega)
  obtain ⟨T41, X41, e41, st41⟩ := getS2 X40 hx hZ hown (host := "") (Or.inl hw_41) Via.refl e40 (S13_.ext O40.2) (g := (mkF m 93 #[.val (.int p1), .unset] [(.int (13 : Int32)), (.ref b1), (.ref b1)])) rfl (hb hby d2_93)
  obtain ⟨cl42, Ar42, q42, S42, M42, H42, G42⟩ := V40
  have hin42 : ¬ ((13 : Int32) < 0 ∨ cl42.slots.size ≤ ((13 : Int32)).toNatClampNeg) := inb_of S42 ⟨by decide, by decide⟩
  obtain ⟨T43, h43, X43, e43, W43, st43⟩ := stR X41 hx hZ e41 Ar42 (j := (13 : Int32)) hin42 rfl (Sto.ofV Ar42 q42 Ov1 (Ins.self (E13_.ext O40.2))) (g := (mkF m 96 #[.val (.int p1), .unset] [(.ref (W 13)), (.int (13 : Int32)), (.ref b1), (.ref b1)])) rfl rfl (hb hby d2_96)
  have V43 : Arv Z h43 b1 k1 (.object "com/example/maksu/maksu/catalog/BillingPeriod") (16 : Int32) [(.ref (W 0)), (.ref (W 1)), (.ref (W 2)), (.ref (W 3)), (.ref (W 4)), (.ref (W 5)), (.ref (W 6)), (.ref (W 7)), (.ref (W 8)), (.ref (W 9)), (.ref (W 10)), (.ref (W 11)), (.ref (W 12)), (.ref (W 13)), .null, .null] .null := Arv.set Ar42 q42 S42 M42 H42 G42 rfl W43 13 rfl (Nat.le_of_ble_eq_true rfl)
  have N43 := Fr.snoc X43 N40 (show n0 ≤ b1 by omega)
  have sz43 : h40.size ≤ h43.size := Nat.le_of_eq W43.size.symm
  have Z43 : n0 ≤ h43.size := Nat.le_trans Z40 sz43
  have K43 : Keep h0 h43 [] := K40.wr W43 (Or.inr (by omega))
  have O43 : Old Z n0 h43 := O40.wr W43 (by omega)
  obtain ⟨T44, X44, e44, st44⟩ := getS2 X43 hx hZ hown (host := "") (Or.inl hw_43) Via.refl e43 (S14_.ext O43.2) (g := (mkF m 100 #[.val (.int p1), .unset] [(.int (14 : Int32)), (.ref b1), (.ref b1)])) rfl (hb hby d2_100)
  obtain ⟨cl45, Ar45, q45, S45, M45, H45, G45⟩ := V43
  have hin45 : ¬ ((14 : Int32) < 0 ∨ cl45.slots.size ≤ ((14 : Int32)).toNatClampNeg) := inb_of S45 ⟨by decide, by decide⟩
  obtain ⟨T46, h46, X46, e46, W46, st46⟩ := stR X44 hx hZ e44 Ar45 (j := (14 : Int32)) hin45 rfl (Sto.ofV Ar45 q45 Ov1 (Ins.self (E14_.ext O43.2))) (g := (mkF m 103 #[.val (.int p1), .unset] [(.ref (W 14)), (.int (14 : Int32)), (.ref b1), (.ref b1)])) rfl rfl (hb hby d2_103)
  have V46 : Arv Z h46 b1 k1 (.object "com/example/maksu/maksu/catalog/BillingPeriod") (16 : Int32) [(.ref (W 0)), (.ref (W 1)), (.ref (W 2)), (.ref (W 3)), (.ref (W 4)), (.ref (W 5)), (.ref (W 6)), (.ref (W 7)), (.ref (W 8)), (.ref (W 9)), (.ref (W 10)), (.ref (W 11)), (.ref (W 12)), (.ref (W 13)), (.ref (W 14)), .null] .null := Arv.set Ar45 q45 S45 M45 H45 G45 rfl W46 14 rfl (Nat.le_of_ble_eq_true rfl)
  have N46 := Fr.snoc X46 N43 (show n0 ≤ b1 by omega)
  have sz46 : h43.size ≤ h46.size := Nat.le_of_eq W46.size.symm
  have Z46 : n0 ≤ h46.size := Nat.le_trans Z43 sz46
  have K46 : Keep h0 h46 [] := K43.wr W46 (Or.inr (by omega))
  have O46 : Old Z n0 h46 := O43.wr W46 (by omega)
  obtain ⟨T47, X47, e47, st47⟩ := getS2 X46 hx hZ hown (host := "") (Or.inl hw_45) Via.refl e46 (S15_.ext O46.2) (g := (mkF m 107 #[.val (.int p1), .unset] [(.int (15 : Int32)), (.ref b1), (.ref b1)])) rfl (hb hby d2_107)
  obtain ⟨cl48, Ar48, q48, S48, M48, H48, G48⟩ := V46
  have hin48 : ¬ ((15 : Int32) < 0 ∨ cl48.slots.size ≤ ((15 : Int32)).toNatClampNeg) := inb_of S48 ⟨by decide, by decide⟩
  obtain ⟨T49, h49, X49, e49, W49, st49⟩ := stR X47 hx hZ e47 Ar48 (j := (15 : Int32)) hin48 rfl (Sto.ofV Ar48 q48 Ov1 (Ins.self (E15_.ext O46.2))) (g := (mkF m 110 #[.val (.int p1), .unset] [(.ref (W 15)), (.int (15 : Int32)), (.ref b1), (.ref b1)])) rfl rfl (hb hby d2_110)
  have V49 : Arv Z h49 b1 k1 (.object "com/example/maksu/maksu/catalog/BillingPeriod") (16 : Int32) [(.ref (W 0)), (.ref (W 1)), (.ref (W 2)), (.ref (W 3)), (.ref (W 4)), (.ref (W 5)), (.ref (W 6)), (.ref (W 7)), (.ref (W 8)), (.ref (W 9)), (.ref (W 10)), (.ref (W 11)), (.ref (W 12)), (.ref (W 13)), (.ref (W 14)), (.ref (W 15))] .null := Arv.set Ar48 q48 S48 M48 H48 G48 rfl W49 15 rfl (Nat.le_of_ble_eq_true rfl)
  have N49 := Fr.snoc X49 N46 (show n0 ≤ b1 by omega)
  have sz49 : h46.size ≤ h49.size := Nat.le_of_eq W49.size.symm
  have Z49 : n0 ≤ h49.size := Nat.le_trans Z46 sz49
  have K49 : Keep h0 h49 [] := K46.wr W49 (Or.inr (by omega))
  have O49 : Old Z n0 h49 := O46.wr W49 (by omega)
  obtain ⟨cl50, Ar50, q50, S50, M50, H50, G50⟩ := V49
  have f51 : Arv Z h49 b1 k1 (.object "com/example/maksu/maksu/catalog/BillingPeriod") (16 : Int32) [(.ref (W 0)), (.ref (W 1)), (.ref (W 2)), (.ref (W 3)), (.ref (W 4)), (.ref (W 5)), (.ref (W 6)), (.ref (W 7)), (.ref (W 8)), (.ref (W 9)), (.ref (W 10)), (.ref (W 11)), (.ref (W 12)), (.ref (W 13)), (.ref (W 14)), (.ref (W 15))] .null := ⟨cl50, Ar50, q50, S50, M50, H50, G50⟩
  have hin50 : ¬ (((p1 &&& (2147483647 : Int32)) % (16 : Int32)) < 0 ∨ cl50.slots.size ≤ (((p1 &&& (2147483647 : Int32)) % (16 : Int32))).toNatClampNeg) := inb_of S50 (own_ix p1)
  have hat50 : cl50.slots[(((p1 &&& (2147483647 : Int32)) % (16 : Int32))).toNatClampNeg]? = some (.ref (W ((p1 &&& (2147483647 : Int32)) % (16 : Int32)).toNatClampNeg)) := Has.at H50 hin50 (own_getW W _ (own_ixn p1))
  have go52 : ∀ t_, Steps p.tables e below (T49.setTop (mkF m 121 #[.val (.int p1), .val (.ref b1)] [(.ref (W ((p1 &&& (2147483647 : Int32)) % (16 : Int32)).toNatClampNeg))])) t_ → Steps p.tables e below (s₁.setTop (entryFrame m #[(.int p1)] 2)) t_ := by
    intro t_ k_
    refine pre0 t_ ?_
    show Steps p.tables e below (s₁.setTop (mkF m 0 #[.val (.int p1), .unset] [])) _
    refine XS.bipush X0.here hx rfl (hb hby d2_0) ?_
    show Steps p.tables e below (s₁.setTop (mkF m 2 #[.val (.int p1), .unset] [(.int (16 : Int32))])) _
    refine st1 _ ?_
    show Steps p.tables e below (T1.setTop (mkF m 5 #[.val (.int p1), .unset] [(.ref b1)])) _
    refine XS.dup X1.here hx rfl (hb hby d2_5) rfl rfl ?_
    show Steps p.tables e below (T1.setTop (mkF m 6 #[.val (.int p1), .unset] [(.ref b1), (.ref b1)])) _
    refine XS.iconst X1.here hx rfl (hb hby d2_6) ?_
    show Steps p.tables e below (T1.setTop (mkF m 7 #[.val (.int p1), .unset] [(.int (0 : Int32)), (.ref b1), (.ref b1)])) _
    refine st2 _ ?_
    show Steps p.tables e below (T2.setTop (mkF m 10 #[.val (.int p1), .unset] [(.ref (W 0)), (.int (0 : Int32)), (.ref b1), (.ref b1)])) _
    refine st4 _ ?_
    show Steps p.tables e below (T4.setTop (mkF m 11 #[.val (.int p1), .unset] [(.ref b1)])) _
    refine XS.dup X4.here hx rfl (hb hby d2_11) rfl rfl ?_
    show Steps p.tables e below (T4.setTop (mkF m 12 #[.val (.int p1), .unset] [(.ref b1), (.ref b1)])) _
    refine XS.iconst X4.here hx rfl (hb hby d2_12) ?_
    show Steps p.tables e below (T4.setTop (mkF m 13 #[.val (.int p1), .unset] [(.int (1 : Int32)), (.ref b1), (.ref b1)])) _
    refine st5 _ ?_
    show Steps p.tables e below (T5.setTop (mkF m 16 #[.val (.int p1), .unset] [(.ref (W 1)), (.int (1 : Int32)), (.ref b1), (.ref b1)])) _
    refine st7 _ ?_
    show Steps p.tables e below (T7.setTop (mkF m 17 #[.val (.int p1), .unset] [(.ref b1)])) _
    refine XS.dup X7.here hx rfl (hb hby d2_17) rfl rfl ?_
    show Steps p.tables e below (T7.setTop (mkF m 18 #[.val (.int p1), .unset] [(.ref b1), (.ref b1)])) _
    refine XS.iconst X7.here hx rfl (hb hby d2_18) ?_
    show Steps p.tables e below (T7.setTop (mkF m 19 #[.val (.int p1), .unset] [(.int (2 : Int32)), (.ref b1), (.ref b1)])) _
    refine st8 _ ?_
    show Steps p.tables e below (T8.setTop (mkF m 22 #[.val (.int p1), .unset] [(.ref (W 2)), (.int (2 : Int32)), (.ref b1), (.ref b1)])) _
    refine st10 _ ?_
    show Steps p.tables e below (T10.setTop (mkF m 23 #[.val (.int p1), .unset] [(.ref b1)])) _
    refine XS.dup X10.here hx rfl (hb hby d2_23) rfl rfl ?_
    show Steps p.tables e below (T10.setTop (mkF m 24 #[.val (.int p1), .unset] [(.ref b1), (.ref b1)])) _
    refine XS.iconst X10.here hx rfl (hb hby d2_24) ?_
    show Steps p.tables e below (T10.setTop (mkF m 25 #[.val (.int p1), .unset] [(.int (3 : Int32)), (.ref b1), (.ref b1)])) _
    refine st11 _ ?_
    show Steps p.tables e below (T11.setTop (mkF m 28 #[.val (.int p1), .unset] [(.ref (W 3)), (.int (3 : Int32)), (.ref b1), (.ref b1)])) _
    refine st13 _ ?_
    show Steps p.tables e below (T13.setTop (mkF m 29 #[.val (.int p1), .unset] [(.ref b1)])) _
    refine XS.dup X13.here hx rfl (hb hby d2_29) rfl rfl ?_
    show Steps p.tables e below (T13.setTop (mkF m 30 #[.val (.int p1), .unset] [(.ref b1), (.ref b1)])) _
    refine XS.iconst X13.here hx rfl (hb hby d2_30) ?_
    show Steps p.tables e below (T13.setTop (mkF m 31 #[.val (.int p1), .unset] [(.int (4 : Int32)), (.ref b1), (.ref b1)])) _
    refine st14 _ ?_
    show Steps p.tables e below (T14.setTop (mkF m 34 #[.val (.int p1), .unset] [(.ref (W 4)), (.int (4 : Int32)), (.ref b1), (.ref b1)])) _
    refine st16 _ ?_
    show Steps p.tables e below (T16.setTop (mkF m 35 #[.val (.int p1), .unset] [(.ref b1)])) _
    refine XS.dup X16.here hx rfl (hb hby d2_35) rfl rfl ?_
    show Steps p.tables e below (T16.setTop (mkF m 36 #[.val (.int p1), .unset] [(.ref b1), (.ref b1)])) _
    refine XS.iconst X16.here hx rfl (hb hby d2_36) ?_
    show Steps p.tables e below (T16.setTop (mkF m 37 #[.val (.int p1), .unset] [(.int (5 : Int32)), (.ref b1), (.ref b1)])) _
    refine st17 _ ?_
    show Steps p.tables e below (T17.setTop (mkF m 40 #[.val (.int p1), .unset] [(.ref (W 5)), (.int (5 : Int32)), (.ref b1), (.ref b1)])) _
    refine st19 _ ?_
    show Steps p.tables e below (T19.setTop (mkF m 41 #[.val (.int p1), .unset] [(.ref b1)])) _
    refine XS.dup X19.here hx rfl (hb hby d2_41) rfl rfl ?_
    show Steps p.tables e below (T19.setTop (mkF m 42 #[.val (.int p1), .unset] [(.ref b1), (.ref b1)])) _
    refine XS.bipush X19.here hx rfl (hb hby d2_42) ?_
    show Steps p.tables e below (T19.setTop (mkF m 44 #[.val (.int p1), .unset] [(.int (6 : Int32)), (.ref b1), (.ref b1)])) _
    refine st20 _ ?_
    show Steps p.tables e below (T20.setTop (mkF m 47 #[.val (.int p1), .unset] [(.ref (W 6)), (.int (6 : Int32)), (.ref b1), (.ref b1)])) _
    refine st22 _ ?_
    show Steps p.tables e below (T22.setTop (mkF m 48 #[.val (.int p1), .unset] [(.ref b1)])) _
    refine XS.dup X22.here hx rfl (hb hby d2_48) rfl rfl ?_
    show Steps p.tables e below (T22.setTop (mkF m 49 #[.val (.int p1), .unset] [(.ref b1), (.ref b1)])) _
    refine XS.bipush X22.here hx rfl (hb hby d2_49) ?_
    show Steps p.tables e below (T22.setTop (mkF m 51 #[.val (.int p1), .unset] [(.int (7 : Int32)), (.ref b1), (.ref b1)])) _
    refine st23 _ ?_
    show Steps p.tables e below (T23.setTop (mkF m 54 #[.val (.int p1), .unset] [(.ref (W 7)), (.int (7 : Int32)), (.ref b1), (.ref b1)])) _
    refine st25 _ ?_
    show Steps p.tables e below (T25.setTop (mkF m 55 #[.val (.int p1), .unset] [(.ref b1)])) _
    refine XS.dup X25.here hx rfl (hb hby d2_55) rfl rfl ?_
    show Steps p.tables e below (T25.setTop (mkF m 56 #[.val (.int p1), .unset] [(.ref b1), (.ref b1)])) _
    refine XS.bipush X25.here hx rfl (hb hby d2_56) ?_
    show Steps p.tables e below (T25.setTop (mkF m 58 #[.val (.int p1), .unset] [(.int (8 : Int32)), (.ref b1), (.ref b1)])) _
    refine st26 _ ?_
    show Steps p.tables e below (T26.setTop (mkF m 61 #[.val (.int p1), .unset] [(.ref (W 8)), (.int (8 : Int32)), (.ref b1), (.ref b1)])) _
    refine st28 _ ?_
    show Steps p.tables e below (T28.setTop (mkF m 62 #[.val (.int p1), .unset] [(.ref b1)])) _
    refine XS.dup X28.here hx rfl (hb hby d2_62) rfl rfl ?_
    show Steps p.tables e below (T28.setTop (mkF m 63 #[.val (.int p1), .unset] [(.ref b1), (.ref b1)])) _
    refine XS.bipush X28.here hx rfl (hb hby d2_63) ?_
    show Steps p.tables e below (T28.setTop (mkF m 65 #[.val (.int p1), .unset] [(.int (9 : Int32)), (.ref b1), (.ref b1)])) _
    refine st29 _ ?_
    show Steps p.tables e below (T29.setTop (mkF m 68 #[.val (.int p1), .unset] [(.ref (W 9)), (.int (9 : Int32)), (.ref b1), (.ref b1)])) _
    refine st31 _ ?_
    show Steps p.tables e below (T31.setTop (mkF m 69 #[.val (.int p1), .unset] [(.ref b1)])) _
    refine XS.dup X31.here hx rfl (hb hby d2_69) rfl rfl ?_
    show Steps p.tables e below (T31.setTop (mkF m 70 #[.val (.int p1), .unset] [(.ref b1), (.ref b1)])) _
    refine XS.bipush X31.here hx rfl (hb hby d2_70) ?_
    show Steps p.tables e below (T31.setTop (mkF m 72 #[.val (.int p1), .unset] [(.int (10 : Int32)), (.ref b1), (.ref b1)])) _
    refine st32 _ ?_
    show Steps p.tables e below (T32.setTop (mkF m 75 #[.val (.int p1), .unset] [(.ref (W 10)), (.int (10 : Int32)), (.ref b1), (.ref b1)])) _
    refine st34 _ ?_
    show Steps p.tables e below (T34.setTop (mkF m 76 #[.val (.int p1), .unset] [(.ref b1)])) _
    refine XS.dup X34.here hx rfl (hb hby d2_76) rfl rfl ?_
    show Steps p.tables e below (T34.setTop (mkF m 77 #[.val (.int p1), .unset] [(.ref b1), (.ref b1)])) _
    refine XS.bipush X34.here hx rfl (hb hby d2_77) ?_
    show Steps p.tables e below (T34.setTop (mkF m 79 #[.val (.int p1), .unset] [(.int (11 : Int32)), (.ref b1), (.ref b1)])) _
    refine st35 _ ?_
    show Steps p.tables e below (T35.setTop (mkF m 82 #[.val (.int p1), .unset] [(.ref (W 11)), (.int (11 : Int32)), (.ref b1), (.ref b1)])) _
    refine st37 _ ?_
    show Steps p.tables e below (T37.setTop (mkF m 83 #[.val (.int p1), .unset] [(.ref b1)])) _
    refine XS.dup X37.here hx rfl (hb hby d2_83) rfl rfl ?_
    show Steps p.tables e below (T37.setTop (mkF m 84 #[.val (.int p1), .unset] [(.ref b1), (.ref b1)])) _
    refine XS.bipush X37.here hx rfl (hb hby d2_84) ?_
    show Steps p.tables e below (T37.setTop (mkF m 86 #[.val (.int p1), .unset] [(.int (12 : Int32)), (.ref b1), (.ref b1)])) _
    refine st38 _ ?_
    show Steps p.tables e below (T38.setTop (mkF m 89 #[.val (.int p1), .unset] [(.ref (W 12)), (.int (12 : Int32)), (.ref b1), (.ref b1)])) _
    refine st40 _ ?_
    show Steps p.tables e below (T40.setTop (mkF m 90 #[.val (.int p1), .unset] [(.ref b1)])) _
    refine XS.dup X40.here hx rfl (hb hby d2_90) rfl rfl ?_
    show Steps p.tables e below (T40.setTop (mkF m 91 #[.val (.int p1), .unset] [(.ref b1), (.ref b1)])) _
    refine XS.bipush X40.here hx rfl (hb hby d2_91) ?_
    show Steps p.tables e below (T40.setTop (mkF m 93 #[.val (.int p1), .unset] [(.int (13 : Int32)), (.ref b1), (.ref b1)])) _
    refine st41 _ ?_
    show Steps p.tables e below (T41.setTop (mkF m 96 #[.val (.int p1), .unset] [(.ref (W 13)), (.int (13 : Int32)), (.ref b1), (.ref b1)])) _
    refine st43 _ ?_
    show Steps p.tables e below (T43.setTop (mkF m 97 #[.val (.int p1), .unset] [(.ref b1)])) _
    refine XS.dup X43.here hx rfl (hb hby d2_97) rfl rfl ?_
    show Steps p.tables e below (T43.setTop (mkF m 98 #[.val (.int p1), .unset] [(.ref b1), (.ref b1)])) _
    refine XS.bipush X43.here hx rfl (hb hby d2_98) ?_
    show Steps p.tables e below (T43.setTop (mkF m 100 #[.val (.int p1), .unset] [(.int (14 : Int32)), (.ref b1), (.ref b1)])) _
    refine st44 _ ?_
    show Steps p.tables e below (T44.setTop (mkF m 103 #[.val (.int p1), .unset] [(.ref (W 14)), (.int (14 : Int32)), (.ref b1), (.ref b1)])) _
    refine st46 _ ?_
    show Steps p.tables e below (T46.setTop (mkF m 104 #[.val (.int p1), .unset] [(.ref b1)])) _
    refine XS.dup X46.here hx rfl (hb hby d2_104) rfl rfl ?_
    show Steps p.tables e below (T46.setTop (mkF m 105 #[.val (.int p1), .unset] [(.ref b1), (.ref b1)])) _
    refine XS.bipush X46.here hx rfl (hb hby d2_105) ?_
    show Steps p.tables e below (T46.setTop (mkF m 107 #[.val (.int p1), .unset] [(.int (15 : Int32)), (.ref b1), (.ref b1)])) _
    refine st47 _ ?_
    show Steps p.tables e below (T47.setTop (mkF m 110 #[.val (.int p1), .unset] [(.ref (W 15)), (.int (15 : Int32)), (.ref b1), (.ref b1)])) _
    refine st49 _ ?_
    show Steps p.tables e below (T49.setTop (mkF m 111 #[.val (.int p1), .unset] [(.ref b1)])) _
    refine XS.astoreN X49.here hx rfl (hb hby d2_111) rfl rfl (l' := #[.val (.int p1), .val (.ref b1)]) rfl ?_
    show Steps p.tables e below (T49.setTop (mkF m 112 #[.val (.int p1), .val (.ref b1)] [])) _
    refine XS.aloadN X49.here hx rfl (hb hby d2_112) rfl rfl ?_
    show Steps p.tables e below (T49.setTop (mkF m 113 #[.val (.int p1), .val (.ref b1)] [(.ref b1)])) _
    refine XS.iloadN X49.here hx rfl (hb hby d2_113) rfl ?_
    show Steps p.tables e below (T49.setTop (mkF m 114 #[.val (.int p1), .val (.ref b1)] [(.int p1), (.ref b1)])) _
    refine X49.ldcInt hx hown (mvT hZ hw_0) (g := (mkF m 114 #[.val (.int p1), .val (.ref b1)] [(.int p1), (.ref b1)])) rfl (hb hby d2_114) _ ?_
    show Steps p.tables e below (T49.setTop (mkF m 116 #[.val (.int p1), .val (.ref b1)] [(.int (2147483647 : Int32)), (.int p1), (.ref b1)])) _
    refine XS.iand X49.here hx rfl (hb hby d2_116) rfl ?_
    show Steps p.tables e below (T49.setTop (mkF m 117 #[.val (.int p1), .val (.ref b1)] [(.int (p1 &&& (2147483647 : Int32))), (.ref b1)])) _
    refine XS.bipush X49.here hx rfl (hb hby d2_117) ?_
    show Steps p.tables e below (T49.setTop (mkF m 119 #[.val (.int p1), .val (.ref b1)] [(.int (16 : Int32)), (.int (p1 &&& (2147483647 : Int32))), (.ref b1)])) _
    refine Jvm.RoadKit.iremM X49 hx rfl (hb hby d2_119) rfl (by decide) ?_
    show Steps p.tables e below (T49.setTop (mkF m 120 #[.val (.int p1), .val (.ref b1)] [(.int ((p1 &&& (2147483647 : Int32)) % (16 : Int32))), (.ref b1)])) _
    refine X49.aaload hx (j := ((p1 &&& (2147483647 : Int32)) % (16 : Int32))) (v := (.ref (W ((p1 &&& (2147483647 : Int32)) % (16 : Int32)).toNatClampNeg))) (by rw [e49]; exact Ar50.1) (State.isArrayOf_alike hZ.alike Ar50.2.1) rfl Ar50.2.2 hin50 hat50 (g := (mkF m 120 #[.val (.int p1), .val (.ref b1)] [(.int ((p1 &&& (2147483647 : Int32)) % (16 : Int32))), (.ref b1)])) rfl rfl (hb hby d2_120) _ ?_
    exact k_
  obtain ⟨fs, hr, hrun, hended, hW, hsame⟩ := X49.leave (v := some (.ref (W ((p1 &&& (2147483647 : Int32)) % (16 : Int32)).toNatClampNeg))) (fun h => by rw [Bd.returns] at h; cases h)
  refine ⟨_, _, go52 _ ?_, hrun, hended, _, _, rfl, ?_, ⟨_, rfl⟩, hW, hsame.mono (by decide) (by decide)⟩
  · skip
    show Steps p.tables e below (T49.setTop (mkF m 121 #[.val (.int p1), .val (.ref b1)] [(.ref (W ((p1 &&& (2147483647 : Int32)) % (16 : Int32)).toNatClampNeg))])) _
    jvm_step X49.here [X49.here.top, hx, (hb hby d2_121), X49.method', Bd.returns, Value.isRef, FieldType.isReference]
    first | (intro acts; rw [hr _ acts rfl rfl rfl]) | rw [hr _ _ rfl rfl rfl]
    exact Steps.refl _
  · show Q_rmPick Z p1 W h0 n0 _ T49.heap _
    rw [e49]
    exact ⟨rfl, N49, K49⟩
theorem ef_4 (m : MethodId) (x0 : Addr) : entryFrame m #[(.ref x0)] 1 = mkF m 0 #[.val (.ref x0)] [] := by first | (simp [entryFrame, mkF, argsToLocals, Value.category]; done) | rfl
theorem pn_Record : plainName "java/lang/Record" = true := by first | (simp [plainName, overriddenIn]; done) | decide +kernel
theorem d4_0 : decode jdk_30_method_1_code 0 = .ok (.aload_n 0, 1) := by decide +kernel
theorem d4_1 : decode jdk_30_method_1_code 1 = .ok (.invokespecial 1, 3) := by decide +kernel
theorem d4_4 : decode jdk_30_method_1_code 4 = .ok (.return_, 1) := by decide +kernel
def Q_rmRec (Z : State) (a1 : Nat) (h0 : Heap) (n0 : Nat) (v : Option Value) (h : Heap) (L : List Loc) : Prop := v = none ∧ Fr n0 L ∧ h = h0
set_option maxRecDepth 65536 in
set_option maxHeartbeats 40000000 in
theorem rmRec (l : Launch) (Z : State) (a0 : Array Value) (hw : ∀ d ∈ tables_1, d.before a0 Z = true) (ws : List Jvm.Cond) (a1 : Nat) (h0 : Heap) (n0 : Nat) (Z0 : n0 ≤ h0.size) :
    MetFree l (⟨"java/lang/Record", "<init>", "()V"⟩ : MethodName) (head1 (Jvm.Cond.code (⟨"java/lang/Record", "<init>", "()V"⟩ : MethodName) jdk_30_method_1_code 1 none :: ws) ({ frames := 1, cells := 0, slots := 0, locals := 12 } : Room)) (fun a U => a = #[(.ref a1)] ∧ Z.Warmed39 U.vm ∧ U.heap = h0) (fun _ _ _ _ _ => True) (fun _ U o U' => ∃ v L, o = .returned v ∧ Q_rmRec Z a1 h0 n0 v U'.heap L ∧ FrameEnd U o U' L ({ frames := 1, cells := 0, slots := 0, locals := 12 } : Room).cells ({ frames := 1, cells := 0, slots := 0, locals := 12 } : Room).slots) := by
  have hw_55 := hw _ (List.mem_of_getElem? (i := 55) rfl)
  have hw_56 := hw _ (List.mem_of_getElem? (i := 56) rfl)
  have hw_57 := hw _ (List.mem_of_getElem? (i := 57) rfl)
  refine MetFree.of_bodySF (plainFor_of_name pn_Record) hisR ?_
  intro p e s m args below meth c s₁ Bd hml0 hP hK
  obtain ⟨rfl, hZ, hh⟩ := hP
  have hx := Bd.exec
  have hby := Bd.bytes
  have hml : c.maxLocals = 1 := hml0
  have hown : s.vm.findClass "java/lang/Record" = some m.cls := findClass_of_methodNamed Bd.named
  have hnm := (name_of_methodNamed Bd.named Bd.method).1
  have X0 : Stand p l e ({ frames := 1, cells := 0, slots := 0, locals := 12 } : Room) s m #[(.ref a1)] below meth c s₁ [] 0 0 := Stand.of_body Bd
  have e0 : s₁.heap = h0 := by rw [← hh, Bd.state]; rfl
  have N0 := Fr.nil n0
  have pre0 : ∀ t_, Steps p.tables e below (s₁.setTop (mkF m 0 #[.val (.ref a1)] [])) t_ → Steps p.tables e below (s₁.setTop (entryFrame m #[(.ref a1)] 1)) t_ := fun t_ k_ => castTop (ef_4 m a1) k_
  obtain ⟨T1, X1, e1, st1⟩ := initO X0 hx hZ hown hw_55 hw_56 hw_57 e0 (g := (mkF m 1 #[.val (.ref a1)] [(.ref a1)])) rfl (by rw [hml]; rfl) rfl (hb hby d4_1) (by decide) (W := 0) (by show 2 * 0 + _ ≤ _; exact Nat.le_of_eq rfl) (by decide)
  have go2 : ∀ t_, Steps p.tables e below (T1.setTop (mkF m 4 #[.val (.ref a1)] [])) t_ → Steps p.tables e below (s₁.setTop (entryFrame m #[(.ref a1)] 1)) t_ := by
    intro t_ k_
    refine pre0 t_ ?_
    show Steps p.tables e below (s₁.setTop (mkF m 0 #[.val (.ref a1)] [])) _
    refine XS.aloadN X0.here hx rfl (hb hby d4_0) rfl rfl ?_
    show Steps p.tables e below (s₁.setTop (mkF m 1 #[.val (.ref a1)] [(.ref a1)])) _
    refine st1 _ ?_
    exact k_
  obtain ⟨fs, hr, hrun, hended, hW, hsame⟩ := X1.leave (v := none) (fun _ => rfl)
  refine ⟨_, _, go2 _ ?_, hrun, hended, _, _, rfl, ?_, ⟨_, rfl⟩, hW, hsame.mono (by decide) (by decide)⟩
  · skip
    show Steps p.tables e below (T1.setTop (mkF m 4 #[.val (.ref a1)] [])) _
    exact X1.returnOut hx Bd.returns (hb hby d4_4) hr
  · show Q_rmRec Z a1 h0 n0 _ T1.heap _
    rw [e1]
    exact ⟨rfl, N0, rfl⟩
theorem ef_3n2 (m : MethodId) (x0 : Addr) (x1 : Addr) : entryFrame m #[(.ref x0), (.ref x1), .null] 3 = mkF m 0 #[.val (.ref x0), .val (.ref x1), .val .null] [] := by first | (simp [entryFrame, mkF, argsToLocals, Value.category]; done) | rfl
theorem pn_Phase_Recurring : plainName "com/example/maksu/maksu/catalog/Phase$Recurring" = true := by first | (simp [plainName, overriddenIn]; done) | decide +kernel
theorem d3_0 : decode prog_6_method_1_code 0 = .ok (.aload_n 0, 1) := by decide +kernel
theorem d3_1 : decode prog_6_method_1_code 1 = .ok (.invokespecial 1, 3) := by decide +kernel
theorem pd_0 : parseMethodDescriptor "()V" = some ⟨[], none⟩ := by decide +kernel
theorem d3_4 : decode prog_6_method_1_code 4 = .ok (.aload_n 0, 1) := by decide +kernel
theorem d3_5 : decode prog_6_method_1_code 5 = .ok (.aload_n 1, 1) := by decide +kernel
theorem d3_6 : decode prog_6_method_1_code 6 = .ok (.putfield 7, 3) := by decide +kernel
theorem d3_9 : decode prog_6_method_1_code 9 = .ok (.aload_n 0, 1) := by decide +kernel
theorem d3_10 : decode prog_6_method_1_code 10 = .ok (.aload_n 2, 1) := by decide +kernel
theorem d3_11 : decode prog_6_method_1_code 11 = .ok (.putfield 13, 3) := by decide +kernel
theorem d3_14 : decode prog_6_method_1_code 14 = .ok (.return_, 1) := by decide +kernel
def Q_rmRcI (Z : State) (a1 : Nat) (a2 : Nat) (h0 : Heap) (n0 : Nat) (v : Option Value) (h : Heap) (L : List Loc) : Prop := v = none ∧ Fr n0 L ∧ Keep h0 h [a1] ∧ Exa Z h a1 "com/example/maksu/maksu/catalog/Phase$Recurring" ∧ Fld Z h a1 "com/example/maksu/maksu/catalog/Phase$Recurring" "billingPeriod" "Lcom/example/maksu/maksu/catalog/BillingPeriod;" (.ref a2)
set_option maxRecDepth 65536 in
set_option maxHeartbeats 40000000 in
theorem rmRcI (l : Launch) (Z : State) (a0 : Array Value) (hw : ∀ d ∈ tables_1, d.before a0 Z = true) (ws : List Jvm.Cond) (a1 : Nat) (a2 : Nat) (h0 : Heap) (n0 : Nat) (Z0 : n0 ≤ h0.size) (E1 : Exa Z h0 a1 "com/example/maksu/maksu/catalog/Phase$Recurring") (Fb : Fld Z h0 a1 "com/example/maksu/maksu/catalog/Phase$Recurring" "billingPeriod" "Lcom/example/maksu/maksu/catalog/BillingPeriod;" .null) (Fp : Fld Z h0 a1 "com/example/maksu/maksu/catalog/Phase$Recurring" "price" "Ljava/util/Map;" .null) (ga : n0 ≤ a1) :
    MetFree l (⟨"com/example/maksu/maksu/catalog/Phase$Recurring", "<init>", "(Lcom/example/maksu/maksu/catalog/BillingPeriod;Ljava/util/Map;)V"⟩ : MethodName) (head1 (Jvm.Cond.code (⟨"com/example/maksu/maksu/catalog/Phase$Recurring", "<init>", "(Lcom/example/maksu/maksu/catalog/BillingPeriod;Ljava/util/Map;)V"⟩ : MethodName) prog_6_method_1_code 3 none :: ws) ({ frames := 2, cells := 0, slots := 0, locals := 24 } : Room)) (fun a U => a = #[(.ref a1), (.ref a2), .null] ∧ Z.Warmed39 U.vm ∧ U.heap = h0) (fun _ _ _ _ _ => True) (fun _ U o U' => ∃ v L, o = .returned v ∧ Q_rmRcI Z a1 a2 h0 n0 v U'.heap L ∧ FrameEnd U o U' L ({ frames := 2, cells := 0, slots := 0, locals := 24 } : Room).cells ({ frames := 2, cells := 0, slots := 0, locals := 24 } : Room).slots) := by
  have hw_6 := hw _ (List.mem_of_getElem? (i := 6) rfl)
  have hw_50 := hw _ (List.mem_of_getElem? (i := 50) rfl)
  have hw_51 := hw _ (List.mem_of_getElem? (i := 51) rfl)
  have hw_53 := hw _ (List.mem_of_getElem? (i := 53) rfl)
  have hw_54 := hw _ (List.mem_of_getElem? (i := 54) rfl)
  have hw_58 := hw _ (List.mem_of_getElem? (i := 58) rfl)
  have hw_59 := hw _ (List.mem_of_getElem? (i := 59) rfl)
  have hw_60 := hw _ (List.mem_of_getElem? (i := 60) rfl)
  have hw_61 := hw _ (List.mem_of_getElem? (i := 61) rfl)
  refine MetFree.of_bodySF (plainFor_of_name pn_Phase_Recurring) hisR ?_
  intro p e s m args below meth c s₁ Bd hml0 hP hK
  obtain ⟨rfl, hZ, hh⟩ := hP
  have hx := Bd.exec
  have hby := Bd.bytes
  have hml : c.maxLocals = 3 := hml0
  have hown : s.vm.findClass "com/example/maksu/maksu/catalog/Phase$Recurring" = some m.cls := findClass_of_methodNamed Bd.named
  have hnm := (name_of_methodNamed Bd.named Bd.method).1
  have X0 : Stand p l e ({ frames := 2, cells := 0, slots := 0, locals := 24 } : Room) s m #[(.ref a1), (.ref a2), .null] below meth c s₁ [] 0 0 := Stand.of_body Bd
  have e0 : s₁.heap = h0 := by rw [← hh, Bd.state]; rfl
  have N0 := Fr.nil n0
  have pre0 : ∀ t_, Steps p.tables e below (s₁.setTop (mkF m 0 #[.val (.ref a1), .val (.ref a2), .val .null] [])) t_ → Steps p.tables e below (s₁.setTop (entryFrame m #[(.ref a1), (.ref a2), .null] 3)) t_ := fun t_ k_ => castTop (ef_3n2 m a1 a2) k_
  have K0 : Keep h0 h0 [a1] := Keep.refl h0 _
  obtain ⟨_, _, ⟨T1, L1, k1, n1⟩, -, X1, ⟨Lc1, hQ1, l1, y1, z1⟩, st1⟩ := X0.specialBack hx (y := (⟨"java/lang/Record", "<init>", "()V"⟩ : MethodName)) rfl hown (mvT hZ hw_50) (mvT hZ hw_51) (mvT hZ hw_54) (by decide) (backOf (W := 0) (rmRec l Z a0 hw [] a1 h0 n0 Z0) hZ hw_54 hw_53 (by decide) (by decide)) (g := (mkF m 1 #[.val (.ref a1), .val (.ref a2), .val .null] [(.ref a1)])) rfl (by rw [hml]; rfl) (Steps.refl _) (a := a1) (argsL := []) (rest := []) (lenOf pd_0 rfl) rfl (by show 2 * 0 + _ ≤ _; exact Nat.le_of_eq rfl) (hb hby d3_1) (fun _ _ => ⟨rfl, e0, (by decide : 0 + 0 ≤ _), (by decide : 0 + 0 ≤ _)⟩)
  dsimp only [Pt.U, Pt.locs, Pt.cells, Pt.slots] at X1 l1 y1 z1 st1 hQ1
  subst l1 y1 z1
  obtain ⟨rfl, N1q, e1⟩ := hQ1
  have N1 := Fr.app N0 N1q
  obtain ⟨T2, h2, X2, e2, W2, st2⟩ := putF X1 hx hZ hown (host := "") (Or.inl hw_58) Via.refl e1 Fb E1 (Or.inr ⟨hw_59, rfl, hnm⟩) hw_6 (ty := (.object "com/example/maksu/maksu/catalog/BillingPeriod")) (by decide) rfl rfl (g := (mkF m 6 #[.val (.ref a1), .val (.ref a2), .val .null] [(.ref a2), (.ref a1)])) rfl rfl (hb hby d3_6)
  have Fw2 := Fb.same W2
  have N2 := Fr.snoc X2 N1 (show n0 ≤ a1 by omega)
  have sz2 : h0.size ≤ h2.size := Nat.le_of_eq W2.size.symm
  have Z2 : n0 ≤ h2.size := Nat.le_trans Z0 sz2
  have K2 : Keep h0 h2 [a1] := K0.wr W2 (Or.inl (by simp))
  have f3 := (Fp.other W2 (Or.inr (slot_ne (Or.inr hw_61) (Or.inr hw_59) (by decide) (t := (.object "java/util/Map")) (t' := (.object "com/example/maksu/maksu/catalog/BillingPeriod")) (by decide) (by decide))))
  have f4 := (E1.wr W2)
  obtain ⟨T5, h5, X5, e5, W5, st5⟩ := putF X2 hx hZ hown (host := "") (Or.inl hw_60) Via.refl e2 f3 f4 (Or.inr ⟨hw_61, rfl, hnm⟩) hw_6 (ty := (.object "java/util/Map")) (by decide) rfl rfl (g := (mkF m 11 #[.val (.ref a1), .val (.ref a2), .val .null] [.null, (.ref a1)])) rfl rfl (hb hby d3_11)
  have Fw5 := f3.same W5
  have N5 := Fr.snoc X5 N2 (show n0 ≤ a1 by omega)
  have sz5 : h2.size ≤ h5.size := Nat.le_of_eq W5.size.symm
  have Z5 : n0 ≤ h5.size := Nat.le_trans Z2 sz5
  have K5 : Keep h0 h5 [a1] := K2.wr W5 (Or.inl (by simp))
  have go6 : ∀ t_, Steps p.tables e below (T5.setTop (mkF m 14 #[.val (.ref a1), .val (.ref a2), .val .null] [])) t_ → Steps p.tables e below (s₁.setTop (entryFrame m #[(.ref a1), (.ref a2), .null] 3)) t_ := by
    intro t_ k_
    refine pre0 t_ ?_
    show Steps p.tables e below (s₁.setTop (mkF m 0 #[.val (.ref a1), .val (.ref a2), .val .null] [])) _
    refine XS.aloadN X0.here hx rfl (hb hby d3_0) rfl rfl ?_
    show Steps p.tables e below (s₁.setTop (mkF m 1 #[.val (.ref a1), .val (.ref a2), .val .null] [(.ref a1)])) _
    refine st1.trans ?_
    show Steps p.tables e below (T1.setTop (mkF m 4 #[.val (.ref a1), .val (.ref a2), .val .null] [])) _
    refine XS.aloadN X1.here hx rfl (hb hby d3_4) rfl rfl ?_
    show Steps p.tables e below (T1.setTop (mkF m 5 #[.val (.ref a1), .val (.ref a2), .val .null] [(.ref a1)])) _
    refine XS.aloadN X1.here hx rfl (hb hby d3_5) rfl rfl ?_
    show Steps p.tables e below (T1.setTop (mkF m 6 #[.val (.ref a1), .val (.ref a2), .val .null] [(.ref a2), (.ref a1)])) _
    refine st2 _ ?_
    show Steps p.tables e below (T2.setTop (mkF m 9 #[.val (.ref a1), .val (.ref a2), .val .null] [])) _
    refine XS.aloadN X2.here hx rfl (hb hby d3_9) rfl rfl ?_
    show Steps p.tables e below (T2.setTop (mkF m 10 #[.val (.ref a1), .val (.ref a2), .val .null] [(.ref a1)])) _
    refine XS.aloadN X2.here hx rfl (hb hby d3_10) rfl rfl ?_
    show Steps p.tables e below (T2.setTop (mkF m 11 #[.val (.ref a1), .val (.ref a2), .val .null] [.null, (.ref a1)])) _
    refine st5 _ ?_
    exact k_
  obtain ⟨fs, hr, hrun, hended, hW, hsame⟩ := X5.leave (v := none) (fun _ => rfl)
  have f7 := (f4.wr W5)
  have f8 := (Fw2.other W5 (Or.inr (slot_ne (Or.inr hw_59) (Or.inr hw_61) (by decide) (t := (.object "com/example/maksu/maksu/catalog/BillingPeriod")) (t' := (.object "java/util/Map")) (by decide) (by decide))))
  refine ⟨_, _, go6 _ ?_, hrun, hended, _, _, rfl, ?_, ⟨_, rfl⟩, hW, hsame.mono (by decide) (by decide)⟩
  · skip
    show Steps p.tables e below (T5.setTop (mkF m 14 #[.val (.ref a1), .val (.ref a2), .val .null] [])) _
    exact X5.returnOut hx Bd.returns (hb hby d3_14) hr
  · show Q_rmRcI Z a1 a2 h0 n0 _ T5.heap _
    rw [e5]
    exact ⟨rfl, N5, K5, f7, f8⟩
theorem ef_6n1n2n3n4 (m : MethodId) (x0 : Addr) : entryFrame m #[(.ref x0), .null, .null, .null, .null] 5 = mkF m 0 #[.val (.ref x0), .val .null, .val .null, .val .null, .val .null] [] := by first | (simp [entryFrame, mkF, argsToLocals, Value.category]; done) | rfl
theorem pn_Phase : plainName "com/example/maksu/maksu/catalog/Phase" = true := by first | (simp [plainName, overriddenIn]; done) | decide +kernel
theorem d6_0 : decode prog_3_method_1_code 0 = .ok (.aload_n 0, 1) := by decide +kernel
theorem d6_1 : decode prog_3_method_1_code 1 = .ok (.invokespecial 1, 3) := by decide +kernel
theorem d6_4 : decode prog_3_method_1_code 4 = .ok (.aload_n 0, 1) := by decide +kernel
theorem d6_5 : decode prog_3_method_1_code 5 = .ok (.aload_n 1, 1) := by decide +kernel
theorem d6_6 : decode prog_3_method_1_code 6 = .ok (.putfield 7, 3) := by decide +kernel
theorem d6_9 : decode prog_3_method_1_code 9 = .ok (.aload_n 0, 1) := by decide +kernel
theorem d6_10 : decode prog_3_method_1_code 10 = .ok (.aload_n 2, 1) := by decide +kernel
theorem d6_11 : decode prog_3_method_1_code 11 = .ok (.putfield 13, 3) := by decide +kernel
theorem d6_14 : decode prog_3_method_1_code 14 = .ok (.aload_n 0, 1) := by decide +kernel
theorem d6_15 : decode prog_3_method_1_code 15 = .ok (.aload_n 3, 1) := by decide +kernel
theorem d6_16 : decode prog_3_method_1_code 16 = .ok (.putfield 17, 3) := by decide +kernel
theorem d6_19 : decode prog_3_method_1_code 19 = .ok (.aload_n 0, 1) := by decide +kernel
theorem d6_20 : decode prog_3_method_1_code 20 = .ok (.aload 4, 2) := by decide +kernel
theorem d6_22 : decode prog_3_method_1_code 22 = .ok (.putfield 21, 3) := by decide +kernel
theorem d6_25 : decode prog_3_method_1_code 25 = .ok (.return_, 1) := by decide +kernel
def Q_rmPI0 (Z : State) (a1 : Nat) (h0 : Heap) (n0 : Nat) (v : Option Value) (h : Heap) (L : List Loc) : Prop := v = none ∧ Fr n0 L ∧ Keep h0 h [a1] ∧ Exa Z h a1 "com/example/maksu/maksu/catalog/Phase" ∧ Fld Z h a1 "com/example/maksu/maksu/catalog/Phase" "recurring" "Lcom/example/maksu/maksu/catalog/Phase$Recurring;" .null
set_option maxRecDepth 65536 in
set_option maxHeartbeats 40000000 in
theorem rmPI0 (l : Launch) (Z : State) (a0 : Array Value) (hw : ∀ d ∈ tables_1, d.before a0 Z = true) (ws : List Jvm.Cond) (a1 : Nat) (h0 : Heap) (n0 : Nat) (Z0 : n0 ≤ h0.size) (E1 : Exa Z h0 a1 "com/example/maksu/maksu/catalog/Phase") (F_type : Fld Z h0 a1 "com/example/maksu/maksu/catalog/Phase" "type" "Lcom/example/maksu/maksu/catalog/Phase$Type;" .null) (F_duration : Fld Z h0 a1 "com/example/maksu/maksu/catalog/Phase" "duration" "Lcom/example/maksu/maksu/catalog/Phase$Duration;" .null) (F_fixedPrice : Fld Z h0 a1 "com/example/maksu/maksu/catalog/Phase" "fixedPrice" "Ljava/util/Map;" .null) (F_recurring : Fld Z h0 a1 "com/example/maksu/maksu/catalog/Phase" "recurring" "Lcom/example/maksu/maksu/catalog/Phase$Recurring;" .null) (ga : n0 ≤ a1) :
    MetFree l (⟨"com/example/maksu/maksu/catalog/Phase", "<init>", "(Lcom/example/maksu/maksu/catalog/Phase$Type;Lcom/example/maksu/maksu/catalog/Phase$Duration;Ljava/util/Map;Lcom/example/maksu/maksu/catalog/Phase$Recurring;)V"⟩ : MethodName) (head1 (Jvm.Cond.code (⟨"com/example/maksu/maksu/catalog/Phase", "<init>", "(Lcom/example/maksu/maksu/catalog/Phase$Type;Lcom/example/maksu/maksu/catalog/Phase$Duration;Ljava/util/Map;Lcom/example/maksu/maksu/catalog/Phase$Recurring;)V"⟩ : MethodName) prog_3_method_1_code 5 none :: ws) ({ frames := 2, cells := 0, slots := 0, locals := 24 } : Room)) (fun a U => a = #[(.ref a1), .null, .null, .null, .null] ∧ Z.Warmed39 U.vm ∧ U.heap = h0) (fun _ _ _ _ _ => True) (fun _ U o U' => ∃ v L, o = .returned v ∧ Q_rmPI0 Z a1 h0 n0 v U'.heap L ∧ FrameEnd U o U' L ({ frames := 2, cells := 0, slots := 0, locals := 24 } : Room).cells ({ frames := 2, cells := 0, slots := 0, locals := 24 } : Room).slots) := by
  have hw_51 := hw _ (List.mem_of_getElem? (i := 51) rfl)
  have hw_53 := hw _ (List.mem_of_getElem? (i := 53) rfl)
  have hw_54 := hw _ (List.mem_of_getElem? (i := 54) rfl)
  have hw_63 := hw _ (List.mem_of_getElem? (i := 63) rfl)
  have hw_68 := hw _ (List.mem_of_getElem? (i := 68) rfl)
  have hw_69 := hw _ (List.mem_of_getElem? (i := 69) rfl)
  have hw_70 := hw _ (List.mem_of_getElem? (i := 70) rfl)
  have hw_71 := hw _ (List.mem_of_getElem? (i := 71) rfl)
  have hw_72 := hw _ (List.mem_of_getElem? (i := 72) rfl)
  have hw_73 := hw _ (List.mem_of_getElem? (i := 73) rfl)
  have hw_74 := hw _ (List.mem_of_getElem? (i := 74) rfl)
  have hw_75 := hw _ (List.mem_of_getElem? (i := 75) rfl)
  have hw_76 := hw _ (List.mem_of_getElem? (i := 76) rfl)
  refine MetFree.of_bodySF (plainFor_of_name pn_Phase) hisR ?_
  intro p e s m args below meth c s₁ Bd hml0 hP hK
  obtain ⟨rfl, hZ, hh⟩ := hP
  have hx := Bd.exec
  have hby := Bd.bytes
  have hml : c.maxLocals = 5 := hml0
  have hown : s.vm.findClass "com/example/maksu/maksu/catalog/Phase" = some m.cls := findClass_of_methodNamed Bd.named
  have hnm := (name_of_methodNamed Bd.named Bd.method).1
  have X0 : Stand p l e ({ frames := 2, cells := 0, slots := 0, locals := 24 } : Room) s m #[(.ref a1), .null, .null, .null, .null] below meth c s₁ [] 0 0 := Stand.of_body Bd
  have e0 : s₁.heap = h0 := by rw [← hh, Bd.state]; rfl
  have N0 := Fr.nil n0
  have pre0 : ∀ t_, Steps p.tables e below (s₁.setTop (mkF m 0 #[.val (.ref a1), .val .null, .val .null, .val .null, .val .null] [])) t_ → Steps p.tables e below (s₁.setTop (entryFrame m #[(.ref a1), .null, .null, .null, .null] 5)) t_ := fun t_ k_ => castTop (ef_6n1n2n3n4 m a1) k_
  have K0 : Keep h0 h0 [a1] := Keep.refl h0 _
  obtain ⟨_, _, ⟨T1, L1, k1, n1⟩, -, X1, ⟨Lc1, hQ1, l1, y1, z1⟩, st1⟩ := X0.specialBack hx (y := (⟨"java/lang/Record", "<init>", "()V"⟩ : MethodName)) rfl hown (mvT hZ hw_68) (mvT hZ hw_51) (mvT hZ hw_54) (by decide) (backOf (W := 0) (rmRec l Z a0 hw [] a1 h0 n0 Z0) hZ hw_54 hw_53 (by decide) (by decide)) (g := (mkF m 1 #[.val (.ref a1), .val .null, .val .null, .val .null, .val .null] [(.ref a1)])) rfl (by rw [hml]; rfl) (Steps.refl _) (a := a1) (argsL := []) (rest := []) (lenOf pd_0 rfl) rfl (by show 2 * 0 + _ ≤ _; exact Nat.le_of_eq rfl) (hb hby d6_1) (fun _ _ => ⟨rfl, e0, (by decide : 0 + 0 ≤ _), (by decide : 0 + 0 ≤ _)⟩)
  dsimp only [Pt.U, Pt.locs, Pt.cells, Pt.slots] at X1 l1 y1 z1 st1 hQ1
  subst l1 y1 z1
  obtain ⟨rfl, N1q, e1⟩ := hQ1
  have N1 := Fr.app N0 N1q
  obtain ⟨T2, h2, X2, e2, W2, st2⟩ := putF X1 hx hZ hown (host := "") (Or.inl hw_69) Via.refl e1 F_type E1 (Or.inr ⟨hw_70, rfl, hnm⟩) hw_63 (ty := (.object "com/example/maksu/maksu/catalog/Phase$Type")) (by decide) rfl rfl (g := (mkF m 6 #[.val (.ref a1), .val .null, .val .null, .val .null, .val .null] [.null, (.ref a1)])) rfl rfl (hb hby d6_6)
  have Fw2 := F_type.same W2
  have N2 := Fr.snoc X2 N1 (show n0 ≤ a1 by omega)
  have sz2 : h0.size ≤ h2.size := Nat.le_of_eq W2.size.symm
  have Z2 : n0 ≤ h2.size := Nat.le_trans Z0 sz2
  have K2 : Keep h0 h2 [a1] := K0.wr W2 (Or.inl (by simp))
  have f3 := (F_duration.other W2 (Or.inr (slot_ne (Or.inr hw_72) (Or.inr hw_70) (by decide) (t := (.object "com/example/maksu/maksu/catalog/Phase$Duration")) (t' := (.object "com/example/maksu/maksu/catalog/Phase$Type")) (by decide) (by decide))))
  have f4 := (E1.wr W2)
  obtain ⟨T5, h5, X5, e5, W5, st5⟩ := putF X2 hx hZ hown (host := "") (Or.inl hw_71) Via.refl e2 f3 f4 (Or.inr ⟨hw_72, rfl, hnm⟩) hw_63 (ty := (.object "com/example/maksu/maksu/catalog/Phase$Duration")) (by decide) rfl rfl (g := (mkF m 11 #[.val (.ref a1), .val .null, .val .null, .val .null, .val .null] [.null, (.ref a1)])) rfl rfl (hb hby d6_11)
  have Fw5 := f3.same W5
  have N5 := Fr.snoc X5 N2 (show n0 ≤ a1 by omega)
  have sz5 : h2.size ≤ h5.size := Nat.le_of_eq W5.size.symm
  have Z5 : n0 ≤ h5.size := Nat.le_trans Z2 sz5
  have K5 : Keep h0 h5 [a1] := K2.wr W5 (Or.inl (by simp))
  have f6 := (F_fixedPrice.other W2 (Or.inr (slot_ne (Or.inr hw_74) (Or.inr hw_70) (by decide) (t := (.object "java/util/Map")) (t' := (.object "com/example/maksu/maksu/catalog/Phase$Type")) (by decide) (by decide))))
  have f7 := (f6.other W5 (Or.inr (slot_ne (Or.inr hw_74) (Or.inr hw_72) (by decide) (t := (.object "java/util/Map")) (t' := (.object "com/example/maksu/maksu/catalog/Phase$Duration")) (by decide) (by decide))))
  have f8 := (f4.wr W5)
  obtain ⟨T9, h9, X9, e9, W9, st9⟩ := putF X5 hx hZ hown (host := "") (Or.inl hw_73) Via.refl e5 f7 f8 (Or.inr ⟨hw_74, rfl, hnm⟩) hw_63 (ty := (.object "java/util/Map")) (by decide) rfl rfl (g := (mkF m 16 #[.val (.ref a1), .val .null, .val .null, .val .null, .val .null] [.null, (.ref a1)])) rfl rfl (hb hby d6_16)
  have Fw9 := f7.same W9
  have N9 := Fr.snoc X9 N5 (show n0 ≤ a1 by omega)
  have sz9 : h5.size ≤ h9.size := Nat.le_of_eq W9.size.symm
  have Z9 : n0 ≤ h9.size := Nat.le_trans Z5 sz9
  have K9 : Keep h0 h9 [a1] := K5.wr W9 (Or.inl (by simp))
  have f10 := (F_recurring.other W2 (Or.inr (slot_ne (Or.inr hw_76) (Or.inr hw_70) (by decide) (t := (.object "com/example/maksu/maksu/catalog/Phase$Recurring")) (t' := (.object "com/example/maksu/maksu/catalog/Phase$Type")) (by decide) (by decide))))
  have f11 := (f10.other W5 (Or.inr (slot_ne (Or.inr hw_76) (Or.inr hw_72) (by decide) (t := (.object "com/example/maksu/maksu/catalog/Phase$Recurring")) (t' := (.object "com/example/maksu/maksu/catalog/Phase$Duration")) (by decide) (by decide))))
  have f12 := (f11.other W9 (Or.inr (slot_ne (Or.inr hw_76) (Or.inr hw_74) (by decide) (t := (.object "com/example/maksu/maksu/catalog/Phase$Recurring")) (t' := (.object "java/util/Map")) (by decide) (by decide))))
  have f13 := (f8.wr W9)
  obtain ⟨T14, h14, X14, e14, W14, st14⟩ := putF X9 hx hZ hown (host := "") (Or.inl hw_75) Via.refl e9 f12 f13 (Or.inr ⟨hw_76, rfl, hnm⟩) hw_63 (ty := (.object "com/example/maksu/maksu/catalog/Phase$Recurring")) (by decide) rfl rfl (g := (mkF m 22 #[.val (.ref a1), .val .null, .val .null, .val .null, .val .null] [.null, (.ref a1)])) rfl rfl (hb hby d6_22)
  have Fw14 := f12.same W14
  have N14 := Fr.snoc X14 N9 (show n0 ≤ a1 by omega)
  have sz14 : h9.size ≤ h14.size := Nat.le_of_eq W14.size.symm
  have Z14 : n0 ≤ h14.size := Nat.le_trans Z9 sz14
  have K14 : Keep h0 h14 [a1] := K9.wr W14 (Or.inl (by simp))
  have go15 : ∀ t_, Steps p.tables e below (T14.setTop (mkF m 25 #[.val (.ref a1), .val .null, .val .null, .val .null, .val .null] [])) t_ → Steps p.tables e below (s₁.setTop (entryFrame m #[(.ref a1), .null, .null, .null, .null] 5)) t_ := by
    intro t_ k_
    refine pre0 t_ ?_
    show Steps p.tables e below (s₁.setTop (mkF m 0 #[.val (.ref a1), .val .null, .val .null, .val .null, .val .null] [])) _
    refine XS.aloadN X0.here hx rfl (hb hby d6_0) rfl rfl ?_
    show Steps p.tables e below (s₁.setTop (mkF m 1 #[.val (.ref a1), .val .null, .val .null, .val .null, .val .null] [(.ref a1)])) _
    refine st1.trans ?_
    show Steps p.tables e below (T1.setTop (mkF m 4 #[.val (.ref a1), .val .null, .val .null, .val .null, .val .null] [])) _
    refine XS.aloadN X1.here hx rfl (hb hby d6_4) rfl rfl ?_
    show Steps p.tables e below (T1.setTop (mkF m 5 #[.val (.ref a1), .val .null, .val .null, .val .null, .val .null] [(.ref a1)])) _
    refine XS.aloadN X1.here hx rfl (hb hby d6_5) rfl rfl ?_
    show Steps p.tables e below (T1.setTop (mkF m 6 #[.val (.ref a1), .val .null, .val .null, .val .null, .val .null] [.null, (.ref a1)])) _
    refine st2 _ ?_
    show Steps p.tables e below (T2.setTop (mkF m 9 #[.val (.ref a1), .val .null, .val .null, .val .null, .val .null] [])) _
    refine XS.aloadN X2.here hx rfl (hb hby d6_9) rfl rfl ?_
    show Steps p.tables e below (T2.setTop (mkF m 10 #[.val (.ref a1), .val .null, .val .null, .val .null, .val .null] [(.ref a1)])) _
    refine XS.aloadN X2.here hx rfl (hb hby d6_10) rfl rfl ?_
    show Steps p.tables e below (T2.setTop (mkF m 11 #[.val (.ref a1), .val .null, .val .null, .val .null, .val .null] [.null, (.ref a1)])) _
    refine st5 _ ?_
    show Steps p.tables e below (T5.setTop (mkF m 14 #[.val (.ref a1), .val .null, .val .null, .val .null, .val .null] [])) _
    refine XS.aloadN X5.here hx rfl (hb hby d6_14) rfl rfl ?_
    show Steps p.tables e below (T5.setTop (mkF m 15 #[.val (.ref a1), .val .null, .val .null, .val .null, .val .null] [(.ref a1)])) _
    refine XS.aloadN X5.here hx rfl (hb hby d6_15) rfl rfl ?_
    show Steps p.tables e below (T5.setTop (mkF m 16 #[.val (.ref a1), .val .null, .val .null, .val .null, .val .null] [.null, (.ref a1)])) _
    refine st9 _ ?_
    show Steps p.tables e below (T9.setTop (mkF m 19 #[.val (.ref a1), .val .null, .val .null, .val .null, .val .null] [])) _
    refine XS.aloadN X9.here hx rfl (hb hby d6_19) rfl rfl ?_
    show Steps p.tables e below (T9.setTop (mkF m 20 #[.val (.ref a1), .val .null, .val .null, .val .null, .val .null] [(.ref a1)])) _
    refine XS.aload X9.here hx rfl (hb hby d6_20) rfl rfl ?_
    show Steps p.tables e below (T9.setTop (mkF m 22 #[.val (.ref a1), .val .null, .val .null, .val .null, .val .null] [.null, (.ref a1)])) _
    refine st14 _ ?_
    exact k_
  obtain ⟨fs, hr, hrun, hended, hW, hsame⟩ := X14.leave (v := none) (fun _ => rfl)
  have f16 := (f13.wr W14)
  refine ⟨_, _, go15 _ ?_, hrun, hended, _, _, rfl, ?_, ⟨_, rfl⟩, hW, hsame.mono (by decide) (by decide)⟩
  · skip
    show Steps p.tables e below (T14.setTop (mkF m 25 #[.val (.ref a1), .val .null, .val .null, .val .null, .val .null] [])) _
    exact X14.returnOut hx Bd.returns (hb hby d6_25) hr
  · show Q_rmPI0 Z a1 h0 n0 _ T14.heap _
    rw [e14]
    exact ⟨rfl, N14, K14, f16, Fw14⟩
theorem ef_6n1n2n3 (m : MethodId) (x0 : Addr) (x4 : Addr) : entryFrame m #[(.ref x0), .null, .null, .null, (.ref x4)] 5 = mkF m 0 #[.val (.ref x0), .val .null, .val .null, .val .null, .val (.ref x4)] [] := by first | (simp [entryFrame, mkF, argsToLocals, Value.category]; done) | rfl
def Q_rmPI1 (Z : State) (a1 : Nat) (a5 : Nat) (h0 : Heap) (n0 : Nat) (v : Option Value) (h : Heap) (L : List Loc) : Prop := v = none ∧ Fr n0 L ∧ Keep h0 h [a1] ∧ Exa Z h a1 "com/example/maksu/maksu/catalog/Phase" ∧ Fld Z h a1 "com/example/maksu/maksu/catalog/Phase" "recurring" "Lcom/example/maksu/maksu/catalog/Phase$Recurring;" (.ref a5)
set_option maxRecDepth 65536 in
set_option maxHeartbeats 40000000 in
theorem rmPI1 (l : Launch) (Z : State) (a0 : Array Value) (hw : ∀ d ∈ tables_1, d.before a0 Z = true) (ws : List Jvm.Cond) (a1 : Nat) (a5 : Nat) (h0 : Heap) (n0 : Nat) (Z0 : n0 ≤ h0.size) (E1 : Exa Z h0 a1 "com/example/maksu/maksu/catalog/Phase") (F_type : Fld Z h0 a1 "com/example/maksu/maksu/catalog/Phase" "type" "Lcom/example/maksu/maksu/catalog/Phase$Type;" .null) (F_duration : Fld Z h0 a1 "com/example/maksu/maksu/catalog/Phase" "duration" "Lcom/example/maksu/maksu/catalog/Phase$Duration;" .null) (F_fixedPrice : Fld Z h0 a1 "com/example/maksu/maksu/catalog/Phase" "fixedPrice" "Ljava/util/Map;" .null) (F_recurring : Fld Z h0 a1 "com/example/maksu/maksu/catalog/Phase" "recurring" "Lcom/example/maksu/maksu/catalog/Phase$Recurring;" .null) (ga : n0 ≤ a1) :
    MetFree l (⟨"com/example/maksu/maksu/catalog/Phase", "<init>", "(Lcom/example/maksu/maksu/catalog/Phase$Type;Lcom/example/maksu/maksu/catalog/Phase$Duration;Ljava/util/Map;Lcom/example/maksu/maksu/catalog/Phase$Recurring;)V"⟩ : MethodName) (head1 (Jvm.Cond.code (⟨"com/example/maksu/maksu/catalog/Phase", "<init>", "(Lcom/example/maksu/maksu/catalog/Phase$Type;Lcom/example/maksu/maksu/catalog/Phase$Duration;Ljava/util/Map;Lcom/example/maksu/maksu/catalog/Phase$Recurring;)V"⟩ : MethodName) prog_3_method_1_code 5 none :: ws) ({ frames := 2, cells := 0, slots := 0, locals := 24 } : Room)) (fun a U => a = #[(.ref a1), .null, .null, .null, (.ref a5)] ∧ Z.Warmed39 U.vm ∧ U.heap = h0) (fun _ _ _ _ _ => True) (fun _ U o U' => ∃ v L, o = .returned v ∧ Q_rmPI1 Z a1 a5 h0 n0 v U'.heap L ∧ FrameEnd U o U' L ({ frames := 2, cells := 0, slots := 0, locals := 24 } : Room).cells ({ frames := 2, cells := 0, slots := 0, locals := 24 } : Room).slots) := by
  have hw_51 := hw _ (List.mem_of_getElem? (i := 51) rfl)
  have hw_53 := hw _ (List.mem_of_getElem? (i := 53) rfl)
  have hw_54 := hw _ (List.mem_of_getElem? (i := 54) rfl)
  have hw_63 := hw _ (List.mem_of_getElem? (i := 63) rfl)
  have hw_68 := hw _ (List.mem_of_getElem? (i := 68) rfl)
  have hw_69 := hw _ (List.mem_of_getElem? (i := 69) rfl)
  have hw_70 := hw _ (List.mem_of_getElem? (i := 70) rfl)
  have hw_71 := hw _ (List.mem_of_getElem? (i := 71) rfl)
  have hw_72 := hw _ (List.mem_of_getElem? (i := 72) rfl)
  have hw_73 := hw _ (List.mem_of_getElem? (i := 73) rfl)
  have hw_74 := hw _ (List.mem_of_getElem? (i := 74) rfl)
  have hw_75 := hw _ (List.mem_of_getElem? (i := 75) rfl)
  have hw_76 := hw _ (List.mem_of_getElem? (i := 76) rfl)
  refine MetFree.of_bodySF (plainFor_of_name pn_Phase) hisR ?_
  intro p e s m args below meth c s₁ Bd hml0 hP hK
  obtain ⟨rfl, hZ, hh⟩ := hP
  have hx := Bd.exec
  have hby := Bd.bytes
  have hml : c.maxLocals = 5 := hml0
  have hown : s.vm.findClass "com/example/maksu/maksu/catalog/Phase" = some m.cls := findClass_of_methodNamed Bd.named
  have hnm := (name_of_methodNamed Bd.named Bd.method).1
  have X0 : Stand p l e ({ frames := 2, cells := 0, slots := 0, locals := 24 } : Room) s m #[(.ref a1), .null, .null, .null, (.ref a5)] below meth c s₁ [] 0 0 := Stand.of_body Bd
  have e0 : s₁.heap = h0 := by rw [← hh, Bd.state]; rfl
  have N0 := Fr.nil n0
  have pre0 : ∀ t_, Steps p.tables e below (s₁.setTop (mkF m 0 #[.val (.ref a1), .val .null, .val .null, .val .null, .val (.ref a5)] [])) t_ → Steps p.tables e below (s₁.setTop (entryFrame m #[(.ref a1), .null, .null, .null, (.ref a5)] 5)) t_ := fun t_ k_ => castTop (ef_6n1n2n3 m a1 a5) k_
  have K0 : Keep h0 h0 [a1] := Keep.refl h0 _
  obtain ⟨_, _, ⟨T1, L1, k1, n1⟩, -, X1, ⟨Lc1, hQ1, l1, y1, z1⟩, st1⟩ := X0.specialBack hx (y := (⟨"java/lang/Record", "<init>", "()V"⟩ : MethodName)) rfl hown (mvT hZ hw_68) (mvT hZ hw_51) (mvT hZ hw_54) (by decide) (backOf (W := 0) (rmRec l Z a0 hw [] a1 h0 n0 Z0) hZ hw_54 hw_53 (by decide) (by decide)) (g := (mkF m 1 #[.val (.ref a1), .val .null, .val .null, .val .null, .val (.ref a5)] [(.ref a1)])) rfl (by rw [hml]; rfl) (Steps.refl _) (a := a1) (argsL := []) (rest := []) (lenOf pd_0 rfl) rfl (by show 2 * 0 + _ ≤ _; exact Nat.le_of_eq rfl) (hb hby d6_1) (fun _ _ => ⟨rfl, e0, (by decide : 0 + 0 ≤ _), (by decide : 0 + 0 ≤ _)⟩)
  dsimp only [Pt.U, Pt.locs, Pt.cells, Pt.slots] at X1 l1 y1 z1 st1 hQ1
  subst l1 y1 z1
  obtain ⟨rfl, N1q, e1⟩ := hQ1
  have N1 := Fr.app N0 N1q
  obtain ⟨T2, h2, X2, e2, W2, st2⟩ := putF X1 hx hZ hown (host := "") (Or.inl hw_69) Via.refl e1 F_type E1 (Or.inr ⟨hw_70, rfl, hnm⟩) hw_63 (ty := (.object "com/example/maksu/maksu/catalog/Phase$Type")) (by decide) rfl rfl (g := (mkF m 6 #[.val (.ref a1), .val .null, .val .null, .val .null, .val (.ref a5)] [.null, (.ref a1)])) rfl rfl (hb hby d6_6)
  have Fw2 := F_type.same W2
  have N2 := Fr.snoc X2 N1 (show n0 ≤ a1 by omega)
  have sz2 : h0.size ≤ h2.size := Nat.le_of_eq W2.size.symm
  have Z2 : n0 ≤ h2.size := Nat.le_trans Z0 sz2
  have K2 : Keep h0 h2 [a1] := K0.wr W2 (Or.inl (by simp))
  have f3 := (F_duration.other W2 (Or.inr (slot_ne (Or.inr hw_72) (Or.inr hw_70) (by decide) (t := (.object "com/example/maksu/maksu/catalog/Phase$Duration")) (t' := (.object "com/example/maksu/maksu/catalog/Phase$Type")) (by decide) (by decide))))
  have f4 := (E1.wr W2)
  obtain ⟨T5, h5, X5, e5, W5, st5⟩ := putF X2 hx hZ hown (host := "") (Or.inl hw_71) Via.refl e2 f3 f4 (Or.inr ⟨hw_72, rfl, hnm⟩) hw_63 (ty := (.object "com/example/maksu/maksu/catalog/Phase$Duration")) (by decide) rfl rfl (g := (mkF m 11 #[.val (.ref a1), .val .null, .val .null, .val .null, .val (.ref a5)] [.null, (.ref a1)])) rfl rfl (hb hby d6_11)
  have Fw5 := f3.same W5
  have N5 := Fr.snoc X5 N2 (show n0 ≤ a1 by omega)
  have sz5 : h2.size ≤ h5.size := Nat.le_of_eq W5.size.symm
  have Z5 : n0 ≤ h5.size := Nat.le_trans Z2 sz5
  have K5 : Keep h0 h5 [a1] := K2.wr W5 (Or.inl (by simp))
  have f6 := (F_fixedPrice.other W2 (Or.inr (slot_ne (Or.inr hw_74) (Or.inr hw_70) (by decide) (t := (.object "java/util/Map")) (t' := (.object "com/example/maksu/maksu/catalog/Phase$Type")) (by decide) (by decide))))
  have f7 := (f6.other W5 (Or.inr (slot_ne (Or.inr hw_74) (Or.inr hw_72) (by decide) (t := (.object "java/util/Map")) (t' := (.object "com/example/maksu/maksu/catalog/Phase$Duration")) (by decide) (by decide))))
  have f8 := (f4.wr W5)
  obtain ⟨T9, h9, X9, e9, W9, st9⟩ := putF X5 hx hZ hown (host := "") (Or.inl hw_73) Via.refl e5 f7 f8 (Or.inr ⟨hw_74, rfl, hnm⟩) hw_63 (ty := (.object "java/util/Map")) (by decide) rfl rfl (g := (mkF m 16 #[.val (.ref a1), .val .null, .val .null, .val .null, .val (.ref a5)] [.null, (.ref a1)])) rfl rfl (hb hby d6_16)
  have Fw9 := f7.same W9
  have N9 := Fr.snoc X9 N5 (show n0 ≤ a1 by omega)
  have sz9 : h5.size ≤ h9.size := Nat.le_of_eq W9.size.symm
  have Z9 : n0 ≤ h9.size := Nat.le_trans Z5 sz9
  have K9 : Keep h0 h9 [a1] := K5.wr W9 (Or.inl (by simp))
  have f10 := (F_recurring.other W2 (Or.inr (slot_ne (Or.inr hw_76) (Or.inr hw_70) (by decide) (t := (.object "com/example/maksu/maksu/catalog/Phase$Recurring")) (t' := (.object "com/example/maksu/maksu/catalog/Phase$Type")) (by decide) (by decide))))
  have f11 := (f10.other W5 (Or.inr (slot_ne (Or.inr hw_76) (Or.inr hw_72) (by decide) (t := (.object "com/example/maksu/maksu/catalog/Phase$Recurring")) (t' := (.object "com/example/maksu/maksu/catalog/Phase$Duration")) (by decide) (by decide))))
  have f12 := (f11.other W9 (Or.inr (slot_ne (Or.inr hw_76) (Or.inr hw_74) (by decide) (t := (.object "com/example/maksu/maksu/catalog/Phase$Recurring")) (t' := (.object "java/util/Map")) (by decide) (by decide))))
  have f13 := (f8.wr W9)
  obtain ⟨T14, h14, X14, e14, W14, st14⟩ := putF X9 hx hZ hown (host := "") (Or.inl hw_75) Via.refl e9 f12 f13 (Or.inr ⟨hw_76, rfl, hnm⟩) hw_63 (ty := (.object "com/example/maksu/maksu/catalog/Phase$Recurring")) (by decide) rfl rfl (g := (mkF m 22 #[.val (.ref a1), .val .null, .val .null, .val .null, .val (.ref a5)] [(.ref a5), (.ref a1)])) rfl rfl (hb hby d6_22)
  have Fw14 := f12.same W14
  have N14 := Fr.snoc X14 N9 (show n0 ≤ a1 by omega)
  have sz14 : h9.size ≤ h14.size := Nat.le_of_eq W14.size.symm
  have Z14 : n0 ≤ h14.size := Nat.le_trans Z9 sz14
  have K14 : Keep h0 h14 [a1] := K9.wr W14 (Or.inl (by simp))
  have go15 : ∀ t_, Steps p.tables e below (T14.setTop (mkF m 25 #[.val (.ref a1), .val .null, .val .null, .val .null, .val (.ref a5)] [])) t_ → Steps p.tables e below (s₁.setTop (entryFrame m #[(.ref a1), .null, .null, .null, (.ref a5)] 5)) t_ := by
    intro t_ k_
    refine pre0 t_ ?_
    show Steps p.tables e below (s₁.setTop (mkF m 0 #[.val (.ref a1), .val .null, .val .null, .val .null, .val (.ref a5)] [])) _
    refine XS.aloadN X0.here hx rfl (hb hby d6_0) rfl rfl ?_
    show Steps p.tables e below (s₁.setTop (mkF m 1 #[.val (.ref a1), .val .null, .val .null, .val .null, .val (.ref a5)] [(.ref a1)])) _
    refine st1.trans ?_
    show Steps p.tables e below (T1.setTop (mkF m 4 #[.val (.ref a1), .val .null, .val .null, .val .null, .val (.ref a5)] [])) _
    refine XS.aloadN X1.here hx rfl (hb hby d6_4) rfl rfl ?_
    show Steps p.tables e below (T1.setTop (mkF m 5 #[.val (.ref a1), .val .null, .val .null, .val .null, .val (.ref a5)] [(.ref a1)])) _
    refine XS.aloadN X1.here hx rfl (hb hby d6_5) rfl rfl ?_
    show Steps p.tables e below (T1.setTop (mkF m 6 #[.val (.ref a1), .val .null, .val .null, .val .null, .val (.ref a5)] [.null, (.ref a1)])) _
    refine st2 _ ?_
    show Steps p.tables e below (T2.setTop (mkF m 9 #[.val (.ref a1), .val .null, .val .null, .val .null, .val (.ref a5)] [])) _
    refine XS.aloadN X2.here hx rfl (hb hby d6_9) rfl rfl ?_
    show Steps p.tables e below (T2.setTop (mkF m 10 #[.val (.ref a1), .val .null, .val .null, .val .null, .val (.ref a5)] [(.ref a1)])) _
    refine XS.aloadN X2.here hx rfl (hb hby d6_10) rfl rfl ?_
    show Steps p.tables e below (T2.setTop (mkF m 11 #[.val (.ref a1), .val .null, .val .null, .val .null, .val (.ref a5)] [.null, (.ref a1)])) _
    refine st5 _ ?_
    show Steps p.tables e below (T5.setTop (mkF m 14 #[.val (.ref a1), .val .null, .val .null, .val .null, .val (.ref a5)] [])) _
    refine XS.aloadN X5.here hx rfl (hb hby d6_14) rfl rfl ?_
    show Steps p.tables e below (T5.setTop (mkF m 15 #[.val (.ref a1), .val .null, .val .null, .val .null, .val (.ref a5)] [(.ref a1)])) _
    refine XS.aloadN X5.here hx rfl (hb hby d6_15) rfl rfl ?_
    show Steps p.tables e below (T5.setTop (mkF m 16 #[.val (.ref a1), .val .null, .val .null, .val .null, .val (.ref a5)] [.null, (.ref a1)])) _
    refine st9 _ ?_
    show Steps p.tables e below (T9.setTop (mkF m 19 #[.val (.ref a1), .val .null, .val .null, .val .null, .val (.ref a5)] [])) _
    refine XS.aloadN X9.here hx rfl (hb hby d6_19) rfl rfl ?_
    show Steps p.tables e below (T9.setTop (mkF m 20 #[.val (.ref a1), .val .null, .val .null, .val .null, .val (.ref a5)] [(.ref a1)])) _
    refine XS.aload X9.here hx rfl (hb hby d6_20) rfl rfl ?_
    show Steps p.tables e below (T9.setTop (mkF m 22 #[.val (.ref a1), .val .null, .val .null, .val .null, .val (.ref a5)] [(.ref a5), (.ref a1)])) _
    refine st14 _ ?_
    exact k_
  obtain ⟨fs, hr, hrun, hended, hW, hsame⟩ := X14.leave (v := none) (fun _ => rfl)
  have f16 := (f13.wr W14)
  refine ⟨_, _, go15 _ ?_, hrun, hended, _, _, rfl, ?_, ⟨_, rfl⟩, hW, hsame.mono (by decide) (by decide)⟩
  · skip
    show Steps p.tables e below (T14.setTop (mkF m 25 #[.val (.ref a1), .val .null, .val .null, .val .null, .val (.ref a5)] [])) _
    exact X14.returnOut hx Bd.returns (hb hby d6_25) hr
  · show Q_rmPI1 Z a1 a5 h0 n0 _ T14.heap _
    rw [e14]
    exact ⟨rfl, N14, K14, f16, Fw14⟩
theorem ef_1 (m : MethodId) (x0 : Int32) (x1 : Int32) (x2 : Int32) : entryFrame m #[(.int x0), (.int x1), (.int x2)] 4 = mkF m 0 #[.val (.int x0), .val (.int x1), .val (.int x2), .unset] [] := by first | (simp [entryFrame, mkF, argsToLocals, Value.category]; done) | rfl
theorem d1_0 : decode method_3_code 0 = .ok (.aconst_null, 1) := by decide +kernel
theorem d1_1 : decode method_3_code 1 = .ok (.astore_n 3, 1) := by decide +kernel
theorem d1_2 : decode method_3_code 2 = .ok (.iload_n 0, 1) := by decide +kernel
theorem d1_3 : decode method_3_code 3 = .ok (.iload_n 1, 1) := by decide +kernel
theorem d1_4 : decode method_3_code 4 = .ok (.ishr, 1) := by decide +kernel
theorem d1_5 : decode method_3_code 5 = .ok (.iconst 1, 1) := by decide +kernel
theorem d1_6 : decode method_3_code 6 = .ok (.iand, 1) := by decide +kernel
theorem d1_7 : decode method_3_code 7 = .ok (.ifCond .eq 16, 3) := by decide +kernel
theorem d1_23 : decode method_3_code 23 = .ok (.new 70, 3) := by decide +kernel
theorem d1_26 : decode method_3_code 26 = .ok (.dup, 1) := by decide +kernel
theorem d1_27 : decode method_3_code 27 = .ok (.aconst_null, 1) := by decide +kernel
theorem d1_28 : decode method_3_code 28 = .ok (.aconst_null, 1) := by decide +kernel
theorem d1_29 : decode method_3_code 29 = .ok (.aconst_null, 1) := by decide +kernel
theorem d1_30 : decode method_3_code 30 = .ok (.aload_n 3, 1) := by decide +kernel
theorem d1_31 : decode method_3_code 31 = .ok (.invokespecial 72, 3) := by decide +kernel
theorem pd_1 : parseMethodDescriptor "(Lcom/example/maksu/maksu/catalog/Phase$Type;Lcom/example/maksu/maksu/catalog/Phase$Duration;Ljava/util/Map;Lcom/example/maksu/maksu/catalog/Phase$Recurring;)V" = some ⟨[(.object "com/example/maksu/maksu/catalog/Phase$Type"), (.object "com/example/maksu/maksu/catalog/Phase$Duration"), (.object "java/util/Map"), (.object "com/example/maksu/maksu/catalog/Phase$Recurring")], none⟩ := by decide +kernel
theorem d1_34 : decode method_3_code 34 = .ok (.areturn, 1) := by decide +kernel
theorem d1_10 : decode method_3_code 10 = .ok (.new 59, 3) := by decide +kernel
theorem d1_13 : decode method_3_code 13 = .ok (.dup, 1) := by decide +kernel
theorem d1_14 : decode method_3_code 14 = .ok (.iload_n 2, 1) := by decide +kernel
theorem d1_15 : decode method_3_code 15 = .ok (.invokestatic 61, 3) := by decide +kernel
theorem pd_2 : parseMethodDescriptor "(I)Lcom/example/maksu/maksu/catalog/BillingPeriod;" = some ⟨[.int], some (.object "com/example/maksu/maksu/catalog/BillingPeriod")⟩ := by decide +kernel
theorem d1_18 : decode method_3_code 18 = .ok (.aconst_null, 1) := by decide +kernel
theorem d1_19 : decode method_3_code 19 = .ok (.invokespecial 67, 3) := by decide +kernel
theorem pd_3 : parseMethodDescriptor "(Lcom/example/maksu/maksu/catalog/BillingPeriod;Ljava/util/Map;)V" = some ⟨[(.object "com/example/maksu/maksu/catalog/BillingPeriod"), (.object "java/util/Map")], none⟩ := by decide +kernel
theorem d1_22 : decode method_3_code 22 = .ok (.astore_n 3, 1) := by decide +kernel
def Q_rmPhA (Z : State) (p1 : Int32) (p2 : Int32) (p3 : Int32) (W : Nat → Addr) (h0 : Heap) (n0 : Nat) (v : Option Value) (h : Heap) (L : List Loc) : Prop := ∃ b : Nat, v = some (.ref b) ∧ Fr n0 L ∧ Keep h0 h [] ∧ h0.size ≤ b ∧ b < h.size ∧ Exa Z h b "com/example/maksu/maksu/catalog/Phase"
set_option maxRecDepth 65536 in
set_option maxHeartbeats 40000000 in
theorem rmPhA (l : Launch) (Z : State) (a0 : Array Value) (hw : ∀ d ∈ tables_1, d.before a0 Z = true) (ws : List Jvm.Cond) (p1 : Int32) (p2 : Int32) (p3 : Int32) (W : Nat → Addr) (h0 : Heap) (n0 : Nat) (Z0 : n0 ≤ h0.size) (BPs : own_bp Z W) (O0 : Old Z n0 h0) :
    MetFree l (⟨"com/example/maksu/maksu/catalog/PlanBillingPeriodPinLaw", "phase", "(III)Lcom/example/maksu/maksu/catalog/Phase;"⟩ : MethodName) (head1 (Jvm.Cond.code (⟨"com/example/maksu/maksu/catalog/PlanBillingPeriodPinLaw", "phase", "(III)Lcom/example/maksu/maksu/catalog/Phase;"⟩ : MethodName) method_3_code 4 (some (.object "com/example/maksu/maksu/catalog/Phase")) :: ws) ({ frames := 3, cells := 3, slots := 22, locals := 41 } : Room)) (fun a U => a = #[(.int p1), (.int p2), (.int p3)] ∧ Z.Warmed39 U.vm ∧ U.heap = h0) (fun _ _ _ _ _ => True) (fun _ U o U' => ∃ v L, o = .returned v ∧ Q_rmPhA Z p1 p2 p3 W h0 n0 v U'.heap L ∧ FrameEnd U o U' L ({ frames := 3, cells := 3, slots := 22, locals := 41 } : Room).cells ({ frames := 3, cells := 3, slots := 22, locals := 41 } : Room).slots) := by
  have hw_3 := hw _ (List.mem_of_getElem? (i := 3) rfl)
  have hw_5 := hw _ (List.mem_of_getElem? (i := 5) rfl)
  have hw_6 := hw _ (List.mem_of_getElem? (i := 6) rfl)
  have hw_7 := hw _ (List.mem_of_getElem? (i := 7) rfl)
  have hw_8 := hw _ (List.mem_of_getElem? (i := 8) rfl)
  have hw_9 := hw _ (List.mem_of_getElem? (i := 9) rfl)
  have hw_10 := hw _ (List.mem_of_getElem? (i := 10) rfl)
  have hw_47 := hw _ (List.mem_of_getElem? (i := 47) rfl)
  have hw_48 := hw _ (List.mem_of_getElem? (i := 48) rfl)
  have hw_49 := hw _ (List.mem_of_getElem? (i := 49) rfl)
  have hw_59 := hw _ (List.mem_of_getElem? (i := 59) rfl)
  have hw_61 := hw _ (List.mem_of_getElem? (i := 61) rfl)
  have hw_62 := hw _ (List.mem_of_getElem? (i := 62) rfl)
  have hw_63 := hw _ (List.mem_of_getElem? (i := 63) rfl)
  have hw_64 := hw _ (List.mem_of_getElem? (i := 64) rfl)
  have hw_65 := hw _ (List.mem_of_getElem? (i := 65) rfl)
  have hw_66 := hw _ (List.mem_of_getElem? (i := 66) rfl)
  have hw_67 := hw _ (List.mem_of_getElem? (i := 67) rfl)
  have hw_70 := hw _ (List.mem_of_getElem? (i := 70) rfl)
  have hw_72 := hw _ (List.mem_of_getElem? (i := 72) rfl)
  have hw_74 := hw _ (List.mem_of_getElem? (i := 74) rfl)
  have hw_76 := hw _ (List.mem_of_getElem? (i := 76) rfl)
  refine MetFree.of_bodySF (plainFor_of_name pn_PlanBillingPeriodPinLaw) hisR ?_
  intro p e s m args below meth c s₁ Bd hml0 hP hK
  obtain ⟨rfl, hZ, hh⟩ := hP
  have hx := Bd.exec
  have hby := Bd.bytes
  have hml : c.maxLocals = 4 := hml0
  have hown : s.vm.findClass "com/example/maksu/maksu/catalog/PlanBillingPeriodPinLaw" = some m.cls := findClass_of_methodNamed Bd.named
  have hnm := (name_of_methodNamed Bd.named Bd.method).1
  have X0 : Stand p l e ({ frames := 3, cells := 3, slots := 22, locals := 41 } : Room) s m #[(.int p1), (.int p2), (.int p3)] below meth c s₁ [] 0 0 := Stand.of_body Bd
  have e0 : s₁.heap = h0 := by rw [← hh, Bd.state]; rfl
  have N0 := Fr.nil n0
  have pre0 : ∀ t_, Steps p.tables e below (s₁.setTop (mkF m 0 #[.val (.int p1), .val (.int p2), .val (.int p3), .unset] [])) t_ → Steps p.tables e below (s₁.setTop (entryFrame m #[(.int p1), (.int p2), (.int p3)] 4)) t_ := fun t_ k_ => castTop (ef_1 m p1 p2 p3) k_
  have K0 : Keep h0 h0 [] := Keep.refl h0 _
  have go1 : ∀ t_, Steps p.tables e below (s₁.setTop (mkF m 7 #[.val (.int p1), .val (.int p2), .val (.int p3), .val .null] [(.int ((p1 >>> (p2 &&& 31)) &&& (1 : Int32)))])) t_ → Steps p.tables e below (s₁.setTop (entryFrame m #[(.int p1), (.int p2), (.int p3)] 4)) t_ := by
    intro t_ k_
    refine pre0 t_ ?_
    show Steps p.tables e below (s₁.setTop (mkF m 0 #[.val (.int p1), .val (.int p2), .val (.int p3), .unset] [])) _
    refine XS.aconstNull X0.here hx rfl (hb hby d1_0) ?_
    show Steps p.tables e below (s₁.setTop (mkF m 1 #[.val (.int p1), .val (.int p2), .val (.int p3), .unset] [.null])) _
    refine XS.astoreN X0.here hx rfl (hb hby d1_1) rfl rfl (l' := #[.val (.int p1), .val (.int p2), .val (.int p3), .val .null]) rfl ?_
    show Steps p.tables e below (s₁.setTop (mkF m 2 #[.val (.int p1), .val (.int p2), .val (.int p3), .val .null] [])) _
    refine XS.iloadN X0.here hx rfl (hb hby d1_2) rfl ?_
    show Steps p.tables e below (s₁.setTop (mkF m 3 #[.val (.int p1), .val (.int p2), .val (.int p3), .val .null] [(.int p1)])) _
    refine XS.iloadN X0.here hx rfl (hb hby d1_3) rfl ?_
    show Steps p.tables e below (s₁.setTop (mkF m 4 #[.val (.int p1), .val (.int p2), .val (.int p3), .val .null] [(.int p2), (.int p1)])) _
    refine XS.ishr X0.here hx rfl (hb hby d1_4) rfl ?_
    show Steps p.tables e below (s₁.setTop (mkF m 5 #[.val (.int p1), .val (.int p2), .val (.int p3), .val .null] [(.int (p1 >>> (p2 &&& 31)))])) _
    refine XS.iconst X0.here hx rfl (hb hby d1_5) ?_
    show Steps p.tables e below (s₁.setTop (mkF m 6 #[.val (.int p1), .val (.int p2), .val (.int p3), .val .null] [(.int (1 : Int32)), (.int (p1 >>> (p2 &&& 31)))])) _
    refine XS.iand X0.here hx rfl (hb hby d1_6) rfl ?_
    exact k_
  by_cases hc2 : ((p1 >>> (p2 &&& 31)) &&& (1 : Int32)) = (0 : Int32)
  · skip
    obtain ⟨T3, h3, X3, e3, E3, A3, D3, -, st3⟩ := newO X0 hx hZ hown hw_62 hw_63 hw_64 e0 (g := (mkF m 23 #[.val (.int p1), .val (.int p2), .val (.int p3), .val .null] [])) rfl (hb hby d1_23) (by decide) (by decide)
    obtain ⟨b3, g3⟩ : ∃ z, z = h0.size := ⟨_, rfl⟩
    rw [← g3] at A3 D3 st3
    have lt3 : b3 < h3.size := A3.lt
    have sz3 : h0.size ≤ h3.size := E3.1
    have Z3 : n0 ≤ h3.size := Nat.le_trans Z0 sz3
    have K3 : Keep h0 h3 [] := K0.ext E3
    have O3 : Old Z n0 h3 := O0.ext E3
    have F4 : Fld Z h3 b3 "com/example/maksu/maksu/catalog/Phase" "type" "Lcom/example/maksu/maksu/catalog/Phase$Type;" .null := D3 (Or.inr hw_70) (ty := (.object "com/example/maksu/maksu/catalog/Phase$Type")) (by decide)
    have F5 : Fld Z h3 b3 "com/example/maksu/maksu/catalog/Phase" "duration" "Lcom/example/maksu/maksu/catalog/Phase$Duration;" .null := D3 (Or.inr hw_72) (ty := (.object "com/example/maksu/maksu/catalog/Phase$Duration")) (by decide)
    have F6 : Fld Z h3 b3 "com/example/maksu/maksu/catalog/Phase" "fixedPrice" "Ljava/util/Map;" .null := D3 (Or.inr hw_74) (ty := (.object "java/util/Map")) (by decide)
    have F7 : Fld Z h3 b3 "com/example/maksu/maksu/catalog/Phase" "recurring" "Lcom/example/maksu/maksu/catalog/Phase$Recurring;" .null := D3 (Or.inr hw_76) (ty := (.object "com/example/maksu/maksu/catalog/Phase$Recurring")) (by decide)
    obtain ⟨_, _, ⟨T8, L8, k8, n8⟩, -, X8, ⟨Lc8, hQ8, l8, y8, z8⟩, st8⟩ := X3.specialBack hx (y := (⟨"com/example/maksu/maksu/catalog/Phase", "<init>", "(Lcom/example/maksu/maksu/catalog/Phase$Type;Lcom/example/maksu/maksu/catalog/Phase$Duration;Ljava/util/Map;Lcom/example/maksu/maksu/catalog/Phase$Recurring;)V"⟩ : MethodName)) rfl hown (mvT hZ hw_65) (mvT hZ hw_66) (mvT hZ hw_67) (by decide) (backOf (W := 1) (rmPI0 l Z a0 hw [] b3 h3 n0 Z3 A3 F4 F5 F6 F7 (by omega)) hZ hw_67 hw_64 (by decide) (by decide)) (g := (mkF m 31 #[.val (.int p1), .val (.int p2), .val (.int p3), .val .null] [.null, .null, .null, .null, (.ref b3), (.ref b3)])) rfl (by rw [hml]; rfl) (Steps.refl _) (a := b3) (argsL := [.null, .null, .null, .null]) (rest := [(.ref b3)]) (lenOf pd_1 rfl) rfl (by show 2 * 0 + _ ≤ _; exact Nat.le_of_eq rfl) (hb hby d1_31) (fun _ _ => ⟨rfl, e3, (by decide : 1 + 0 ≤ _), (by decide : 4 + 0 ≤ _)⟩)
    dsimp only [Pt.U, Pt.locs, Pt.cells, Pt.slots] at X8 l8 y8 z8 st8 hQ8
    subst l8 y8 z8
    obtain ⟨rfl, N8q, Kc8, Ec8, Fc8⟩ := hQ8
    have N8 := Fr.app N0 N8q
    have sz8 : h3.size ≤ T8.heap.size := Kc8.1
    have Z8 : n0 ≤ T8.heap.size := Nat.le_trans Z3 sz8
    have K8 : Keep h0 T8.heap [] := K3.trans Kc8 (allS (Or.inr (by omega)) all0)
    have O8 : Old Z n0 T8.heap := O3.keep Kc8 (allS (show n0 ≤ b3 by omega) all0)
    have go9 : ∀ t_, Steps p.tables e below (T8.setTop (mkF m 34 #[.val (.int p1), .val (.int p2), .val (.int p3), .val .null] [(.ref b3)])) t_ → Steps p.tables e below (s₁.setTop (entryFrame m #[(.int p1), (.int p2), (.int p3)] 4)) t_ := by
      intro t_ k_
      refine go1 t_ ?_
      show Steps p.tables e below (s₁.setTop (mkF m 7 #[.val (.int p1), .val (.int p2), .val (.int p3), .val .null] [(.int ((p1 >>> (p2 &&& 31)) &&& (1 : Int32)))])) _
      refine XS.ifYes X0.here hx rfl (pc0 := 7) (pc' := 23) rfl (hb hby d1_7) rfl ((if0 _ _).trans (teq hc2).1) (by decide) (by decide) ?_
      show Steps p.tables e below (s₁.setTop (mkF m 23 #[.val (.int p1), .val (.int p2), .val (.int p3), .val .null] [])) _
      refine st3 _ ?_
      show Steps p.tables e below (T3.setTop (mkF m 26 #[.val (.int p1), .val (.int p2), .val (.int p3), .val .null] [(.ref b3)])) _
      refine XS.dup X3.here hx rfl (hb hby d1_26) rfl rfl ?_
      show Steps p.tables e below (T3.setTop (mkF m 27 #[.val (.int p1), .val (.int p2), .val (.int p3), .val .null] [(.ref b3), (.ref b3)])) _
      refine XS.aconstNull X3.here hx rfl (hb hby d1_27) ?_
      show Steps p.tables e below (T3.setTop (mkF m 28 #[.val (.int p1), .val (.int p2), .val (.int p3), .val .null] [.null, (.ref b3), (.ref b3)])) _
      refine XS.aconstNull X3.here hx rfl (hb hby d1_28) ?_
      show Steps p.tables e below (T3.setTop (mkF m 29 #[.val (.int p1), .val (.int p2), .val (.int p3), .val .null] [.null, .null, (.ref b3), (.ref b3)])) _
      refine XS.aconstNull X3.here hx rfl (hb hby d1_29) ?_
      show Steps p.tables e below (T3.setTop (mkF m 30 #[.val (.int p1), .val (.int p2), .val (.int p3), .val .null] [.null, .null, .null, (.ref b3), (.ref b3)])) _
      refine XS.aloadN X3.here hx rfl (hb hby d1_30) rfl rfl ?_
      show Steps p.tables e below (T3.setTop (mkF m 31 #[.val (.int p1), .val (.int p2), .val (.int p3), .val .null] [.null, .null, .null, .null, (.ref b3), (.ref b3)])) _
      refine st8.trans ?_
      exact k_
    obtain ⟨fs, hr, hrun, hended, hW, hsame⟩ := X8.leave (v := some (.ref b3)) (fun h => by rw [Bd.returns] at h; cases h)
    refine ⟨_, _, go9 _ ?_, hrun, hended, _, _, rfl, ?_, ⟨_, rfl⟩, hW, hsame.mono (by decide) (by decide)⟩
    · skip
      show Steps p.tables e below (T8.setTop (mkF m 34 #[.val (.int p1), .val (.int p2), .val (.int p3), .val .null] [(.ref b3)])) _
      jvm_step X8.here [X8.here.top, hx, (hb hby d1_34), X8.method', Bd.returns, Value.isRef, FieldType.isReference]
      first | (intro acts; rw [hr _ acts rfl rfl rfl]) | rw [hr _ _ rfl rfl rfl]
      exact Steps.refl _
    · show Q_rmPhA Z p1 p2 p3 W h0 n0 _ T8.heap _
      exact ⟨b3, rfl, N8, K8, by omega, by omega, Ec8⟩
  · skip
    obtain ⟨T10, h10, X10, e10, E10, A10, D10, -, st10⟩ := newO X0 hx hZ hown hw_5 hw_6 hw_7 e0 (g := (mkF m 10 #[.val (.int p1), .val (.int p2), .val (.int p3), .val .null] [])) rfl (hb hby d1_10) (by decide) (by decide)
    obtain ⟨b10, g10⟩ : ∃ z, z = h0.size := ⟨_, rfl⟩
    rw [← g10] at A10 D10 st10
    have lt10 : b10 < h10.size := A10.lt
    have sz10 : h0.size ≤ h10.size := E10.1
    have Z10 : n0 ≤ h10.size := Nat.le_trans Z0 sz10
    have K10 : Keep h0 h10 [] := K0.ext E10
    have O10 : Old Z n0 h10 := O0.ext E10
    have F11 : Fld Z h10 b10 "com/example/maksu/maksu/catalog/Phase$Recurring" "billingPeriod" "Lcom/example/maksu/maksu/catalog/BillingPeriod;" .null := D10 (Or.inr hw_59) (ty := (.object "com/example/maksu/maksu/catalog/BillingPeriod")) (by decide)
    have F12 : Fld Z h10 b10 "com/example/maksu/maksu/catalog/Phase$Recurring" "price" "Ljava/util/Map;" .null := D10 (Or.inr hw_61) (ty := (.object "java/util/Map")) (by decide)
    obtain ⟨_, _, ⟨T13, L13, k13, n13⟩, -, X13, ⟨Lc13, hQ13, l13, y13, z13⟩, st13⟩ := Jvm.LawKit.callS X10 hx (y := (⟨"com/example/maksu/maksu/catalog/PlanBillingPeriodPinLaw", "pick", "(I)Lcom/example/maksu/maksu/catalog/BillingPeriod;"⟩ : MethodName)) hown (mvT hZ hw_8) (mvT hZ hw_9) (mvT hZ hw_3) (mvT hZ hw_10) (by decide) (backOf (W := 2) (rmPick l Z a0 hw [] p3 W h10 n0 Z10 BPs O10) hZ hw_10 hw_3 (by decide) (by decide)) (g := (mkF m 15 #[.val (.int p1), .val (.int p2), .val (.int p3), .val .null] [(.int p3), (.ref b10), (.ref b10)])) rfl (by rw [hml]; rfl) (argsL := [(.int p3)]) (rest := [(.ref b10), (.ref b10)]) (lenOf pd_2 rfl) rfl (by show 2 * 0 + _ ≤ _; exact Nat.le_of_eq rfl) (hb hby d1_15) (fun _ _ => ⟨rfl, e10, (by decide : 1 + 1 ≤ _), (by decide : 2 + 16 ≤ _)⟩)
    dsimp only [Pt.U, Pt.locs, Pt.cells, Pt.slots] at X13 l13 y13 z13 st13 hQ13
    subst l13 y13 z13
    obtain ⟨rfl, N13q, Kc13⟩ := hQ13
    have N13 := Fr.app N0 N13q
    have sz13 : h10.size ≤ T13.heap.size := Kc13.1
    have Z13 : n0 ≤ T13.heap.size := Nat.le_trans Z10 sz13
    have K13 : Keep h0 T13.heap [] := K10.trans Kc13 all0
    have O13 : Old Z n0 T13.heap := O10.keep Kc13 all0
    have f15 := (A10.keep Kc13)
    have f16 := (F11.keep Kc13 nin0)
    have f17 := (F12.keep Kc13 nin0)
    obtain ⟨_, _, ⟨T14, L14, k14, n14⟩, -, X14, ⟨Lc14, hQ14, l14, y14, z14⟩, st14⟩ := X13.specialBack hx (y := (⟨"com/example/maksu/maksu/catalog/Phase$Recurring", "<init>", "(Lcom/example/maksu/maksu/catalog/BillingPeriod;Ljava/util/Map;)V"⟩ : MethodName)) rfl hown (mvT hZ hw_47) (mvT hZ hw_48) (mvT hZ hw_49) (by decide) (backOf (W := 1) (rmRcI l Z a0 hw [] b10 (own_pk W p3) T13.heap n0 Z13 f15 f16 f17 (by omega)) hZ hw_49 hw_7 (by decide) (by decide)) (g := (mkF m 19 #[.val (.int p1), .val (.int p2), .val (.int p3), .val .null] [.null, (.ref (own_pk W p3)), (.ref b10), (.ref b10)])) rfl (by rw [hml]; rfl) (Steps.refl _) (a := b10) (argsL := [(.ref (own_pk W p3)), .null]) (rest := [(.ref b10)]) (lenOf pd_3 rfl) rfl (by show 2 * 0 + _ ≤ _; exact Nat.le_of_eq rfl) (hb hby d1_19) (fun _ _ => ⟨rfl, rfl, (by decide : 2 + 0 ≤ _), (by decide : 18 + 0 ≤ _)⟩)
    dsimp only [Pt.U, Pt.locs, Pt.cells, Pt.slots] at X14 l14 y14 z14 st14 hQ14
    subst l14 y14 z14
    obtain ⟨rfl, N14q, Kc14, Ec14, Fc14⟩ := hQ14
    have N14 := Fr.app N13 N14q
    have sz14 : T13.heap.size ≤ T14.heap.size := Kc14.1
    have Z14 : n0 ≤ T14.heap.size := Nat.le_trans Z13 sz14
    have K14 : Keep h0 T14.heap [] := K13.trans Kc14 (allS (Or.inr (by omega)) all0)
    have O14 : Old Z n0 T14.heap := O13.keep Kc14 (allS (show n0 ≤ b10 by omega) all0)
    obtain ⟨T18, h18, X18, e18, E18, A18, D18, -, st18⟩ := newO X14 hx hZ hown hw_62 hw_63 hw_64 rfl (g := (mkF m 23 #[.val (.int p1), .val (.int p2), .val (.int p3), .val (.ref b10)] [])) rfl (hb hby d1_23) (by decide) (by decide)
    obtain ⟨b18, g18⟩ : ∃ z, z = T14.heap.size := ⟨_, rfl⟩
    rw [← g18] at A18 D18 st18
    have lt18 : b18 < h18.size := A18.lt
    have sz18 : T14.heap.size ≤ h18.size := E18.1
    have Z18 : n0 ≤ h18.size := Nat.le_trans Z14 sz18
    have K18 : Keep h0 h18 [] := K14.ext E18
    have O18 : Old Z n0 h18 := O14.ext E18
    have F19 : Fld Z h18 b18 "com/example/maksu/maksu/catalog/Phase" "type" "Lcom/example/maksu/maksu/catalog/Phase$Type;" .null := D18 (Or.inr hw_70) (ty := (.object "com/example/maksu/maksu/catalog/Phase$Type")) (by decide)
    have F20 : Fld Z h18 b18 "com/example/maksu/maksu/catalog/Phase" "duration" "Lcom/example/maksu/maksu/catalog/Phase$Duration;" .null := D18 (Or.inr hw_72) (ty := (.object "com/example/maksu/maksu/catalog/Phase$Duration")) (by decide)
    have F21 : Fld Z h18 b18 "com/example/maksu/maksu/catalog/Phase" "fixedPrice" "Ljava/util/Map;" .null := D18 (Or.inr hw_74) (ty := (.object "java/util/Map")) (by decide)
    have F22 : Fld Z h18 b18 "com/example/maksu/maksu/catalog/Phase" "recurring" "Lcom/example/maksu/maksu/catalog/Phase$Recurring;" .null := D18 (Or.inr hw_76) (ty := (.object "com/example/maksu/maksu/catalog/Phase$Recurring")) (by decide)
    obtain ⟨_, _, ⟨T23, L23, k23, n23⟩, -, X23, ⟨Lc23, hQ23, l23, y23, z23⟩, st23⟩ := X18.specialBack hx (y := (⟨"com/example/maksu/maksu/catalog/Phase", "<init>", "(Lcom/example/maksu/maksu/catalog/Phase$Type;Lcom/example/maksu/maksu/catalog/Phase$Duration;Ljava/util/Map;Lcom/example/maksu/maksu/catalog/Phase$Recurring;)V"⟩ : MethodName)) rfl hown (mvT hZ hw_65) (mvT hZ hw_66) (mvT hZ hw_67) (by decide) (backOf (W := 1) (rmPI1 l Z a0 hw [] b18 b10 h18 n0 Z18 A18 F19 F20 F21 F22 (by omega)) hZ hw_67 hw_64 (by decide) (by decide)) (g := (mkF m 31 #[.val (.int p1), .val (.int p2), .val (.int p3), .val (.ref b10)] [(.ref b10), .null, .null, .null, (.ref b18), (.ref b18)])) rfl (by rw [hml]; rfl) (Steps.refl _) (a := b18) (argsL := [.null, .null, .null, (.ref b10)]) (rest := [(.ref b18)]) (lenOf pd_1 rfl) rfl (by show 2 * 0 + _ ≤ _; exact Nat.le_of_eq rfl) (hb hby d1_31) (fun _ _ => ⟨rfl, e18, (by decide : 3 + 0 ≤ _), (by decide : 22 + 0 ≤ _)⟩)
    dsimp only [Pt.U, Pt.locs, Pt.cells, Pt.slots] at X23 l23 y23 z23 st23 hQ23
    subst l23 y23 z23
    obtain ⟨rfl, N23q, Kc23, Ec23, Fc23⟩ := hQ23
    have N23 := Fr.app N14 N23q
    have sz23 : h18.size ≤ T23.heap.size := Kc23.1
    have Z23 : n0 ≤ T23.heap.size := Nat.le_trans Z18 sz23
    have K23 : Keep h0 T23.heap [] := K18.trans Kc23 (allS (Or.inr (by omega)) all0)
    have O23 : Old Z n0 T23.heap := O18.keep Kc23 (allS (show n0 ≤ b18 by omega) all0)
    have go24 : ∀ t_, Steps p.tables e below (T23.setTop (mkF m 34 #[.val (.int p1), .val (.int p2), .val (.int p3), .val (.ref b10)] [(.ref b18)])) t_ → Steps p.tables e below (s₁.setTop (entryFrame m #[(.int p1), (.int p2), (.int p3)] 4)) t_ := by
      intro t_ k_
      refine go1 t_ ?_
      show Steps p.tables e below (s₁.setTop (mkF m 7 #[.val (.int p1), .val (.int p2), .val (.int p3), .val .null] [(.int ((p1 >>> (p2 &&& 31)) &&& (1 : Int32)))])) _
      refine XS.ifNo X0.here hx rfl (hb hby d1_7) rfl ((if0 _ _).trans (feq hc2).1) ?_
      show Steps p.tables e below (s₁.setTop (mkF m 10 #[.val (.int p1), .val (.int p2), .val (.int p3), .val .null] [])) _
      refine st10 _ ?_
      show Steps p.tables e below (T10.setTop (mkF m 13 #[.val (.int p1), .val (.int p2), .val (.int p3), .val .null] [(.ref b10)])) _
      refine XS.dup X10.here hx rfl (hb hby d1_13) rfl rfl ?_
      show Steps p.tables e below (T10.setTop (mkF m 14 #[.val (.int p1), .val (.int p2), .val (.int p3), .val .null] [(.ref b10), (.ref b10)])) _
      refine XS.iloadN X10.here hx rfl (hb hby d1_14) rfl ?_
      show Steps p.tables e below (T10.setTop (mkF m 15 #[.val (.int p1), .val (.int p2), .val (.int p3), .val .null] [(.int p3), (.ref b10), (.ref b10)])) _
      refine st13 _ ?_
      show Steps p.tables e below (T13.setTop (mkF m 18 #[.val (.int p1), .val (.int p2), .val (.int p3), .val .null] [(.ref (own_pk W p3)), (.ref b10), (.ref b10)])) _
      refine XS.aconstNull X13.here hx rfl (hb hby d1_18) ?_
      show Steps p.tables e below (T13.setTop (mkF m 19 #[.val (.int p1), .val (.int p2), .val (.int p3), .val .null] [.null, (.ref (own_pk W p3)), (.ref b10), (.ref b10)])) _
      refine st14.trans ?_
      show Steps p.tables e below (T14.setTop (mkF m 22 #[.val (.int p1), .val (.int p2), .val (.int p3), .val .null] [(.ref b10)])) _
      refine XS.astoreN X14.here hx rfl (hb hby d1_22) rfl rfl (l' := #[.val (.int p1), .val (.int p2), .val (.int p3), .val (.ref b10)]) rfl ?_
      show Steps p.tables e below (T14.setTop (mkF m 23 #[.val (.int p1), .val (.int p2), .val (.int p3), .val (.ref b10)] [])) _
      refine st18 _ ?_
      show Steps p.tables e below (T18.setTop (mkF m 26 #[.val (.int p1), .val (.int p2), .val (.int p3), .val (.ref b10)] [(.ref b18)])) _
      refine XS.dup X18.here hx rfl (hb hby d1_26) rfl rfl ?_
      show Steps p.tables e below (T18.setTop (mkF m 27 #[.val (.int p1), .val (.int p2), .val (.int p3), .val (.ref b10)] [(.ref b18), (.ref b18)])) _
      refine XS.aconstNull X18.here hx rfl (hb hby d1_27) ?_
      show Steps p.tables e below (T18.setTop (mkF m 28 #[.val (.int p1), .val (.int p2), .val (.int p3), .val (.ref b10)] [.null, (.ref b18), (.ref b18)])) _
      refine XS.aconstNull X18.here hx rfl (hb hby d1_28) ?_
      show Steps p.tables e below (T18.setTop (mkF m 29 #[.val (.int p1), .val (.int p2), .val (.int p3), .val (.ref b10)] [.null, .null, (.ref b18), (.ref b18)])) _
      refine XS.aconstNull X18.here hx rfl (hb hby d1_29) ?_
      show Steps p.tables e below (T18.setTop (mkF m 30 #[.val (.int p1), .val (.int p2), .val (.int p3), .val (.ref b10)] [.null, .null, .null, (.ref b18), (.ref b18)])) _
      refine XS.aloadN X18.here hx rfl (hb hby d1_30) rfl rfl ?_
      show Steps p.tables e below (T18.setTop (mkF m 31 #[.val (.int p1), .val (.int p2), .val (.int p3), .val (.ref b10)] [(.ref b10), .null, .null, .null, (.ref b18), (.ref b18)])) _
      refine st23.trans ?_
      exact k_
    obtain ⟨fs, hr, hrun, hended, hW, hsame⟩ := X23.leave (v := some (.ref b18)) (fun h => by rw [Bd.returns] at h; cases h)
    refine ⟨_, _, go24 _ ?_, hrun, hended, _, _, rfl, ?_, ⟨_, rfl⟩, hW, hsame.mono (by decide) (by decide)⟩
    · skip
      show Steps p.tables e below (T23.setTop (mkF m 34 #[.val (.int p1), .val (.int p2), .val (.int p3), .val (.ref b10)] [(.ref b18)])) _
      jvm_step X23.here [X23.here.top, hx, (hb hby d1_34), X23.method', Bd.returns, Value.isRef, FieldType.isReference]
      first | (intro acts; rw [hr _ acts rfl rfl rfl]) | rw [hr _ _ rfl rfl rfl]
      exact Steps.refl _
    · show Q_rmPhA Z p1 p2 p3 W h0 n0 _ T23.heap _
      exact ⟨b18, rfl, N23, K23, by omega, by omega, Ec23⟩
def Q_rmPh0 (Z : State) (p1 : Int32) (p2 : Int32) (p3 : Int32) (W : Nat → Addr) (h0 : Heap) (n0 : Nat) (v : Option Value) (h : Heap) (L : List Loc) : Prop := ∃ b : Nat, v = some (.ref b) ∧ Fr n0 L ∧ Keep h0 h [] ∧ h0.size ≤ b ∧ b < h.size ∧ Exa Z h b "com/example/maksu/maksu/catalog/Phase" ∧ Fld Z h b "com/example/maksu/maksu/catalog/Phase" "recurring" "Lcom/example/maksu/maksu/catalog/Phase$Recurring;" .null
set_option maxRecDepth 65536 in
set_option maxHeartbeats 40000000 in
theorem rmPh0 (l : Launch) (Z : State) (a0 : Array Value) (hw : ∀ d ∈ tables_1, d.before a0 Z = true) (ws : List Jvm.Cond) (p1 : Int32) (p2 : Int32) (p3 : Int32) (W : Nat → Addr) (h0 : Heap) (n0 : Nat) (Z0 : n0 ≤ h0.size) (BPs : own_bp Z W) (hz : ((p1 >>> (p2 &&& 31)) &&& (1 : Int32)) = (0 : Int32)) (O0 : Old Z n0 h0) :
    MetFree l (⟨"com/example/maksu/maksu/catalog/PlanBillingPeriodPinLaw", "phase", "(III)Lcom/example/maksu/maksu/catalog/Phase;"⟩ : MethodName) (head1 (Jvm.Cond.code (⟨"com/example/maksu/maksu/catalog/PlanBillingPeriodPinLaw", "phase", "(III)Lcom/example/maksu/maksu/catalog/Phase;"⟩ : MethodName) method_3_code 4 (some (.object "com/example/maksu/maksu/catalog/Phase")) :: ws) ({ frames := 3, cells := 1, slots := 4, locals := 41 } : Room)) (fun a U => a = #[(.int p1), (.int p2), (.int p3)] ∧ Z.Warmed39 U.vm ∧ U.heap = h0) (fun _ _ _ _ _ => True) (fun _ U o U' => ∃ v L, o = .returned v ∧ Q_rmPh0 Z p1 p2 p3 W h0 n0 v U'.heap L ∧ FrameEnd U o U' L ({ frames := 3, cells := 1, slots := 4, locals := 41 } : Room).cells ({ frames := 3, cells := 1, slots := 4, locals := 41 } : Room).slots) := by
  have hw_62 := hw _ (List.mem_of_getElem? (i := 62) rfl)
  have hw_63 := hw _ (List.mem_of_getElem? (i := 63) rfl)
  have hw_64 := hw _ (List.mem_of_getElem? (i := 64) rfl)
  have hw_65 := hw _ (List.mem_of_getElem? (i := 65) rfl)
  have hw_66 := hw _ (List.mem_of_getElem? (i := 66) rfl)
  have hw_67 := hw _ (List.mem_of_getElem? (i := 67) rfl)
  have hw_70 := hw _ (List.mem_of_getElem? (i := 70) rfl)
  have hw_72 := hw _ (List.mem_of_getElem? (i := 72) rfl)
  have hw_74 := hw _ (List.mem_of_getElem? (i := 74) rfl)
  have hw_76 := hw _ (List.mem_of_getElem? (i := 76) rfl)
  refine MetFree.of_bodySF (plainFor_of_name pn_PlanBillingPeriodPinLaw) hisR ?_
  intro p e s m args below meth c s₁ Bd hml0 hP hK
  obtain ⟨rfl, hZ, hh⟩ := hP
  have hx := Bd.exec
  have hby := Bd.bytes
  have hml : c.maxLocals = 4 := hml0
  have hown : s.vm.findClass "com/example/maksu/maksu/catalog/PlanBillingPeriodPinLaw" = some m.cls := findClass_of_methodNamed Bd.named
  have hnm := (name_of_methodNamed Bd.named Bd.method).1
  have X0 : Stand p l e ({ frames := 3, cells := 1, slots := 4, locals := 41 } : Room) s m #[(.int p1), (.int p2), (.int p3)] below meth c s₁ [] 0 0 := Stand.of_body Bd
  have e0 : s₁.heap = h0 := by rw [← hh, Bd.state]; rfl
  have N0 := Fr.nil n0
  have pre0 : ∀ t_, Steps p.tables e below (s₁.setTop (mkF m 0 #[.val (.int p1), .val (.int p2), .val (.int p3), .unset] [])) t_ → Steps p.tables e below (s₁.setTop (entryFrame m #[(.int p1), (.int p2), (.int p3)] 4)) t_ := fun t_ k_ => castTop (ef_1 m p1 p2 p3) k_
  have K0 : Keep h0 h0 [] := Keep.refl h0 _
  obtain ⟨T1, h1, X1, e1, E1, A1, D1, -, st1⟩ := newO X0 hx hZ hown hw_62 hw_63 hw_64 e0 (g := (mkF m 23 #[.val (.int p1), .val (.int p2), .val (.int p3), .val .null] [])) rfl (hb hby d1_23) (by decide) (by decide)
  obtain ⟨b1, g1⟩ : ∃ z, z = h0.size := ⟨_, rfl⟩
  rw [← g1] at A1 D1 st1
  have lt1 : b1 < h1.size := A1.lt
  have sz1 : h0.size ≤ h1.size := E1.1
  have Z1 : n0 ≤ h1.size := Nat.le_trans Z0 sz1
  have K1 : Keep h0 h1 [] := K0.ext E1
  have O1 : Old Z n0 h1 := O0.ext E1
  have F2 : Fld Z h1 b1 "com/example/maksu/maksu/catalog/Phase" "type" "Lcom/example/maksu/maksu/catalog/Phase$Type;" .null := D1 (Or.inr hw_70) (ty := (.object "com/example/maksu/maksu/catalog/Phase$Type")) (by decide)
  have F3 : Fld Z h1 b1 "com/example/maksu/maksu/catalog/Phase" "duration" "Lcom/example/maksu/maksu/catalog/Phase$Duration;" .null := D1 (Or.inr hw_72) (ty := (.object "com/example/maksu/maksu/catalog/Phase$Duration")) (by decide)
  have F4 : Fld Z h1 b1 "com/example/maksu/maksu/catalog/Phase" "fixedPrice" "Ljava/util/Map;" .null := D1 (Or.inr hw_74) (ty := (.object "java/util/Map")) (by decide)
  have F5 : Fld Z h1 b1 "com/example/maksu/maksu/catalog/Phase" "recurring" "Lcom/example/maksu/maksu/catalog/Phase$Recurring;" .null := D1 (Or.inr hw_76) (ty := (.object "com/example/maksu/maksu/catalog/Phase$Recurring")) (by decide)
  obtain ⟨_, _, ⟨T6, L6, k6, n6⟩, -, X6, ⟨Lc6, hQ6, l6, y6, z6⟩, st6⟩ := X1.specialBack hx (y := (⟨"com/example/maksu/maksu/catalog/Phase", "<init>", "(Lcom/example/maksu/maksu/catalog/Phase$Type;Lcom/example/maksu/maksu/catalog/Phase$Duration;Ljava/util/Map;Lcom/example/maksu/maksu/catalog/Phase$Recurring;)V"⟩ : MethodName)) rfl hown (mvT hZ hw_65) (mvT hZ hw_66) (mvT hZ hw_67) (by decide) (backOf (W := 1) (rmPI0 l Z a0 hw [] b1 h1 n0 Z1 A1 F2 F3 F4 F5 (by omega)) hZ hw_67 hw_64 (by decide) (by decide)) (g := (mkF m 31 #[.val (.int p1), .val (.int p2), .val (.int p3), .val .null] [.null, .null, .null, .null, (.ref b1), (.ref b1)])) rfl (by rw [hml]; rfl) (Steps.refl _) (a := b1) (argsL := [.null, .null, .null, .null]) (rest := [(.ref b1)]) (lenOf pd_1 rfl) rfl (by show 2 * 0 + _ ≤ _; exact Nat.le_of_eq rfl) (hb hby d1_31) (fun _ _ => ⟨rfl, e1, (by decide : 1 + 0 ≤ _), (by decide : 4 + 0 ≤ _)⟩)
  dsimp only [Pt.U, Pt.locs, Pt.cells, Pt.slots] at X6 l6 y6 z6 st6 hQ6
  subst l6 y6 z6
  obtain ⟨rfl, N6q, Kc6, Ec6, Fc6⟩ := hQ6
  have N6 := Fr.app N0 N6q
  have sz6 : h1.size ≤ T6.heap.size := Kc6.1
  have Z6 : n0 ≤ T6.heap.size := Nat.le_trans Z1 sz6
  have K6 : Keep h0 T6.heap [] := K1.trans Kc6 (allS (Or.inr (by omega)) all0)
  have O6 : Old Z n0 T6.heap := O1.keep Kc6 (allS (show n0 ≤ b1 by omega) all0)
  have go7 : ∀ t_, Steps p.tables e below (T6.setTop (mkF m 34 #[.val (.int p1), .val (.int p2), .val (.int p3), .val .null] [(.ref b1)])) t_ → Steps p.tables e below (s₁.setTop (entryFrame m #[(.int p1), (.int p2), (.int p3)] 4)) t_ := by
    intro t_ k_
    refine pre0 t_ ?_
    show Steps p.tables e below (s₁.setTop (mkF m 0 #[.val (.int p1), .val (.int p2), .val (.int p3), .unset] [])) _
    refine XS.aconstNull X0.here hx rfl (hb hby d1_0) ?_
    show Steps p.tables e below (s₁.setTop (mkF m 1 #[.val (.int p1), .val (.int p2), .val (.int p3), .unset] [.null])) _
    refine XS.astoreN X0.here hx rfl (hb hby d1_1) rfl rfl (l' := #[.val (.int p1), .val (.int p2), .val (.int p3), .val .null]) rfl ?_
    show Steps p.tables e below (s₁.setTop (mkF m 2 #[.val (.int p1), .val (.int p2), .val (.int p3), .val .null] [])) _
    refine XS.iloadN X0.here hx rfl (hb hby d1_2) rfl ?_
    show Steps p.tables e below (s₁.setTop (mkF m 3 #[.val (.int p1), .val (.int p2), .val (.int p3), .val .null] [(.int p1)])) _
    refine XS.iloadN X0.here hx rfl (hb hby d1_3) rfl ?_
    show Steps p.tables e below (s₁.setTop (mkF m 4 #[.val (.int p1), .val (.int p2), .val (.int p3), .val .null] [(.int p2), (.int p1)])) _
    refine XS.ishr X0.here hx rfl (hb hby d1_4) rfl ?_
    show Steps p.tables e below (s₁.setTop (mkF m 5 #[.val (.int p1), .val (.int p2), .val (.int p3), .val .null] [(.int (p1 >>> (p2 &&& 31)))])) _
    refine XS.iconst X0.here hx rfl (hb hby d1_5) ?_
    show Steps p.tables e below (s₁.setTop (mkF m 6 #[.val (.int p1), .val (.int p2), .val (.int p3), .val .null] [(.int (1 : Int32)), (.int (p1 >>> (p2 &&& 31)))])) _
    refine XS.iand X0.here hx rfl (hb hby d1_6) rfl ?_
    show Steps p.tables e below (s₁.setTop (mkF m 7 #[.val (.int p1), .val (.int p2), .val (.int p3), .val .null] [(.int ((p1 >>> (p2 &&& 31)) &&& (1 : Int32)))])) _
    refine XS.ifYes X0.here hx rfl (pc0 := 7) (pc' := 23) rfl (hb hby d1_7) rfl ((if0 _ _).trans (teq hz).1) (by decide) (by decide) ?_
    show Steps p.tables e below (s₁.setTop (mkF m 23 #[.val (.int p1), .val (.int p2), .val (.int p3), .val .null] [])) _
    refine st1 _ ?_
    show Steps p.tables e below (T1.setTop (mkF m 26 #[.val (.int p1), .val (.int p2), .val (.int p3), .val .null] [(.ref b1)])) _
    refine XS.dup X1.here hx rfl (hb hby d1_26) rfl rfl ?_
    show Steps p.tables e below (T1.setTop (mkF m 27 #[.val (.int p1), .val (.int p2), .val (.int p3), .val .null] [(.ref b1), (.ref b1)])) _
    refine XS.aconstNull X1.here hx rfl (hb hby d1_27) ?_
    show Steps p.tables e below (T1.setTop (mkF m 28 #[.val (.int p1), .val (.int p2), .val (.int p3), .val .null] [.null, (.ref b1), (.ref b1)])) _
    refine XS.aconstNull X1.here hx rfl (hb hby d1_28) ?_
    show Steps p.tables e below (T1.setTop (mkF m 29 #[.val (.int p1), .val (.int p2), .val (.int p3), .val .null] [.null, .null, (.ref b1), (.ref b1)])) _
    refine XS.aconstNull X1.here hx rfl (hb hby d1_29) ?_
    show Steps p.tables e below (T1.setTop (mkF m 30 #[.val (.int p1), .val (.int p2), .val (.int p3), .val .null] [.null, .null, .null, (.ref b1), (.ref b1)])) _
    refine XS.aloadN X1.here hx rfl (hb hby d1_30) rfl rfl ?_
    show Steps p.tables e below (T1.setTop (mkF m 31 #[.val (.int p1), .val (.int p2), .val (.int p3), .val .null] [.null, .null, .null, .null, (.ref b1), (.ref b1)])) _
    refine st6.trans ?_
    exact k_
  obtain ⟨fs, hr, hrun, hended, hW, hsame⟩ := X6.leave (v := some (.ref b1)) (fun h => by rw [Bd.returns] at h; cases h)
  refine ⟨_, _, go7 _ ?_, hrun, hended, _, _, rfl, ?_, ⟨_, rfl⟩, hW, hsame.mono (by decide) (by decide)⟩
  · skip
    show Steps p.tables e below (T6.setTop (mkF m 34 #[.val (.int p1), .val (.int p2), .val (.int p3), .val .null] [(.ref b1)])) _
    jvm_step X6.here [X6.here.top, hx, (hb hby d1_34), X6.method', Bd.returns, Value.isRef, FieldType.isReference]
    first | (intro acts; rw [hr _ acts rfl rfl rfl]) | rw [hr _ _ rfl rfl rfl]
    exact Steps.refl _
  · show Q_rmPh0 Z p1 p2 p3 W h0 n0 _ T6.heap _
    exact ⟨b1, rfl, N6, K6, by omega, by omega, Ec6, Fc6⟩
def Q_rmPh1 (Z : State) (p1 : Int32) (p2 : Int32) (p3 : Int32) (W : Nat → Addr) (h0 : Heap) (n0 : Nat) (v : Option Value) (h : Heap) (L : List Loc) : Prop := ∃ b r : Nat, v = some (.ref b) ∧ Fr n0 L ∧ Keep h0 h [] ∧ h0.size ≤ b ∧ b < h.size ∧ h0.size ≤ r ∧ r < h.size ∧ Exa Z h b "com/example/maksu/maksu/catalog/Phase" ∧ Fld Z h b "com/example/maksu/maksu/catalog/Phase" "recurring" "Lcom/example/maksu/maksu/catalog/Phase$Recurring;" (.ref r) ∧ Exa Z h r "com/example/maksu/maksu/catalog/Phase$Recurring" ∧ Fld Z h r "com/example/maksu/maksu/catalog/Phase$Recurring" "billingPeriod" "Lcom/example/maksu/maksu/catalog/BillingPeriod;" (.ref (own_pk W p3))
set_option maxRecDepth 65536 in
set_option maxHeartbeats 40000000 in
theorem rmPh1 (l : Launch) (Z : State) (a0 : Array Value) (hw : ∀ d ∈ tables_1, d.before a0 Z = true) (ws : List Jvm.Cond) (p1 : Int32) (p2 : Int32) (p3 : Int32) (W : Nat → Addr) (h0 : Heap) (n0 : Nat) (Z0 : n0 ≤ h0.size) (BPs : own_bp Z W) (hz : ¬ (((p1 >>> (p2 &&& 31)) &&& (1 : Int32)) = (0 : Int32))) (O0 : Old Z n0 h0) :
    MetFree l (⟨"com/example/maksu/maksu/catalog/PlanBillingPeriodPinLaw", "phase", "(III)Lcom/example/maksu/maksu/catalog/Phase;"⟩ : MethodName) (head1 (Jvm.Cond.code (⟨"com/example/maksu/maksu/catalog/PlanBillingPeriodPinLaw", "phase", "(III)Lcom/example/maksu/maksu/catalog/Phase;"⟩ : MethodName) method_3_code 4 (some (.object "com/example/maksu/maksu/catalog/Phase")) :: ws) ({ frames := 3, cells := 3, slots := 22, locals := 41 } : Room)) (fun a U => a = #[(.int p1), (.int p2), (.int p3)] ∧ Z.Warmed39 U.vm ∧ U.heap = h0) (fun _ _ _ _ _ => True) (fun _ U o U' => ∃ v L, o = .returned v ∧ Q_rmPh1 Z p1 p2 p3 W h0 n0 v U'.heap L ∧ FrameEnd U o U' L ({ frames := 3, cells := 3, slots := 22, locals := 41 } : Room).cells ({ frames := 3, cells := 3, slots := 22, locals := 41 } : Room).slots) := by
  have hw_3 := hw _ (List.mem_of_getElem? (i := 3) rfl)
  have hw_5 := hw _ (List.mem_of_getElem? (i := 5) rfl)
  have hw_6 := hw _ (List.mem_of_getElem? (i := 6) rfl)
  have hw_7 := hw _ (List.mem_of_getElem? (i := 7) rfl)
  have hw_8 := hw _ (List.mem_of_getElem? (i := 8) rfl)
  have hw_9 := hw _ (List.mem_of_getElem? (i := 9) rfl)
  have hw_10 := hw _ (List.mem_of_getElem? (i := 10) rfl)
  have hw_47 := hw _ (List.mem_of_getElem? (i := 47) rfl)
  have hw_48 := hw _ (List.mem_of_getElem? (i := 48) rfl)
  have hw_49 := hw _ (List.mem_of_getElem? (i := 49) rfl)
  have hw_59 := hw _ (List.mem_of_getElem? (i := 59) rfl)
  have hw_61 := hw _ (List.mem_of_getElem? (i := 61) rfl)
  have hw_62 := hw _ (List.mem_of_getElem? (i := 62) rfl)
  have hw_63 := hw _ (List.mem_of_getElem? (i := 63) rfl)
  have hw_64 := hw _ (List.mem_of_getElem? (i := 64) rfl)
  have hw_65 := hw _ (List.mem_of_getElem? (i := 65) rfl)
  have hw_66 := hw _ (List.mem_of_getElem? (i := 66) rfl)
  have hw_67 := hw _ (List.mem_of_getElem? (i := 67) rfl)
  have hw_70 := hw _ (List.mem_of_getElem? (i := 70) rfl)
  have hw_72 := hw _ (List.mem_of_getElem? (i := 72) rfl)
  have hw_74 := hw _ (List.mem_of_getElem? (i := 74) rfl)
  have hw_76 := hw _ (List.mem_of_getElem? (i := 76) rfl)
  refine MetFree.of_bodySF (plainFor_of_name pn_PlanBillingPeriodPinLaw) hisR ?_
  intro p e s m args below meth c s₁ Bd hml0 hP hK
  obtain ⟨rfl, hZ, hh⟩ := hP
  have hx := Bd.exec
  have hby := Bd.bytes
  have hml : c.maxLocals = 4 := hml0
  have hown : s.vm.findClass "com/example/maksu/maksu/catalog/PlanBillingPeriodPinLaw" = some m.cls := findClass_of_methodNamed Bd.named
  have hnm := (name_of_methodNamed Bd.named Bd.method).1
  have X0 : Stand p l e ({ frames := 3, cells := 3, slots := 22, locals := 41 } : Room) s m #[(.int p1), (.int p2), (.int p3)] below meth c s₁ [] 0 0 := Stand.of_body Bd
  have e0 : s₁.heap = h0 := by rw [← hh, Bd.state]; rfl
  have N0 := Fr.nil n0
  have pre0 : ∀ t_, Steps p.tables e below (s₁.setTop (mkF m 0 #[.val (.int p1), .val (.int p2), .val (.int p3), .unset] [])) t_ → Steps p.tables e below (s₁.setTop (entryFrame m #[(.int p1), (.int p2), (.int p3)] 4)) t_ := fun t_ k_ => castTop (ef_1 m p1 p2 p3) k_
  have K0 : Keep h0 h0 [] := Keep.refl h0 _
  obtain ⟨T1, h1, X1, e1, E1, A1, D1, -, st1⟩ := newO X0 hx hZ hown hw_5 hw_6 hw_7 e0 (g := (mkF m 10 #[.val (.int p1), .val (.int p2), .val (.int p3), .val .null] [])) rfl (hb hby d1_10) (by decide) (by decide)
  obtain ⟨b1, g1⟩ : ∃ z, z = h0.size := ⟨_, rfl⟩
  rw [← g1] at A1 D1 st1
  have lt1 : b1 < h1.size := A1.lt
  have sz1 : h0.size ≤ h1.size := E1.1
  have Z1 : n0 ≤ h1.size := Nat.le_trans Z0 sz1
  have K1 : Keep h0 h1 [] := K0.ext E1
  have O1 : Old Z n0 h1 := O0.ext E1
  have F2 : Fld Z h1 b1 "com/example/maksu/maksu/catalog/Phase$Recurring" "billingPeriod" "Lcom/example/maksu/maksu/catalog/BillingPeriod;" .null := D1 (Or.inr hw_59) (ty := (.object "com/example/maksu/maksu/catalog/BillingPeriod")) (by decide)
  have F3 : Fld Z h1 b1 "com/example/maksu/maksu/catalog/Phase$Recurring" "price" "Ljava/util/Map;" .null := D1 (Or.inr hw_61) (ty := (.object "java/util/Map")) (by decide)
  obtain ⟨_, _, ⟨T4, L4, k4, n4⟩, -, X4, ⟨Lc4, hQ4, l4, y4, z4⟩, st4⟩ := Jvm.LawKit.callS X1 hx (y := (⟨"com/example/maksu/maksu/catalog/PlanBillingPeriodPinLaw", "pick", "(I)Lcom/example/maksu/maksu/catalog/BillingPeriod;"⟩ : MethodName)) hown (mvT hZ hw_8) (mvT hZ hw_9) (mvT hZ hw_3) (mvT hZ hw_10) (by decide) (backOf (W := 2) (rmPick l Z a0 hw [] p3 W h1 n0 Z1 BPs O1) hZ hw_10 hw_3 (by decide) (by decide)) (g := (mkF m 15 #[.val (.int p1), .val (.int p2), .val (.int p3), .val .null] [(.int p3), (.ref b1), (.ref b1)])) rfl (by rw [hml]; rfl) (argsL := [(.int p3)]) (rest := [(.ref b1), (.ref b1)]) (lenOf pd_2 rfl) rfl (by show 2 * 0 + _ ≤ _; exact Nat.le_of_eq rfl) (hb hby d1_15) (fun _ _ => ⟨rfl, e1, (by decide : 1 + 1 ≤ _), (by decide : 2 + 16 ≤ _)⟩)
  dsimp only [Pt.U, Pt.locs, Pt.cells, Pt.slots] at X4 l4 y4 z4 st4 hQ4
  subst l4 y4 z4
  obtain ⟨rfl, N4q, Kc4⟩ := hQ4
  have N4 := Fr.app N0 N4q
  have sz4 : h1.size ≤ T4.heap.size := Kc4.1
  have Z4 : n0 ≤ T4.heap.size := Nat.le_trans Z1 sz4
  have K4 : Keep h0 T4.heap [] := K1.trans Kc4 all0
  have O4 : Old Z n0 T4.heap := O1.keep Kc4 all0
  have f6 := (A1.keep Kc4)
  have f7 := (F2.keep Kc4 nin0)
  have f8 := (F3.keep Kc4 nin0)
  obtain ⟨_, _, ⟨T5, L5, k5, n5⟩, -, X5, ⟨Lc5, hQ5, l5, y5, z5⟩, st5⟩ := X4.specialBack hx (y := (⟨"com/example/maksu/maksu/catalog/Phase$Recurring", "<init>", "(Lcom/example/maksu/maksu/catalog/BillingPeriod;Ljava/util/Map;)V"⟩ : MethodName)) rfl hown (mvT hZ hw_47) (mvT hZ hw_48) (mvT hZ hw_49) (by decide) (backOf (W := 1) (rmRcI l Z a0 hw [] b1 (own_pk W p3) T4.heap n0 Z4 f6 f7 f8 (by omega)) hZ hw_49 hw_7 (by decide) (by decide)) (g := (mkF m 19 #[.val (.int p1), .val (.int p2), .val (.int p3), .val .null] [.null, (.ref (own_pk W p3)), (.ref b1), (.ref b1)])) rfl (by rw [hml]; rfl) (Steps.refl _) (a := b1) (argsL := [(.ref (own_pk W p3)), .null]) (rest := [(.ref b1)]) (lenOf pd_3 rfl) rfl (by show 2 * 0 + _ ≤ _; exact Nat.le_of_eq rfl) (hb hby d1_19) (fun _ _ => ⟨rfl, rfl, (by decide : 2 + 0 ≤ _), (by decide : 18 + 0 ≤ _)⟩)
  dsimp only [Pt.U, Pt.locs, Pt.cells, Pt.slots] at X5 l5 y5 z5 st5 hQ5
  subst l5 y5 z5
  obtain ⟨rfl, N5q, Kc5, Ec5, Fc5⟩ := hQ5
  have N5 := Fr.app N4 N5q
  have sz5 : T4.heap.size ≤ T5.heap.size := Kc5.1
  have Z5 : n0 ≤ T5.heap.size := Nat.le_trans Z4 sz5
  have K5 : Keep h0 T5.heap [] := K4.trans Kc5 (allS (Or.inr (by omega)) all0)
  have O5 : Old Z n0 T5.heap := O4.keep Kc5 (allS (show n0 ≤ b1 by omega) all0)
  obtain ⟨T9, h9, X9, e9, E9, A9, D9, -, st9⟩ := newO X5 hx hZ hown hw_62 hw_63 hw_64 rfl (g := (mkF m 23 #[.val (.int p1), .val (.int p2), .val (.int p3), .val (.ref b1)] [])) rfl (hb hby d1_23) (by decide) (by decide)
  obtain ⟨b9, g9⟩ : ∃ z, z = T5.heap.size := ⟨_, rfl⟩
  rw [← g9] at A9 D9 st9
  have lt9 : b9 < h9.size := A9.lt
  have sz9 : T5.heap.size ≤ h9.size := E9.1
  have Z9 : n0 ≤ h9.size := Nat.le_trans Z5 sz9
  have K9 : Keep h0 h9 [] := K5.ext E9
  have O9 : Old Z n0 h9 := O5.ext E9
  have F10 : Fld Z h9 b9 "com/example/maksu/maksu/catalog/Phase" "type" "Lcom/example/maksu/maksu/catalog/Phase$Type;" .null := D9 (Or.inr hw_70) (ty := (.object "com/example/maksu/maksu/catalog/Phase$Type")) (by decide)
  have F11 : Fld Z h9 b9 "com/example/maksu/maksu/catalog/Phase" "duration" "Lcom/example/maksu/maksu/catalog/Phase$Duration;" .null := D9 (Or.inr hw_72) (ty := (.object "com/example/maksu/maksu/catalog/Phase$Duration")) (by decide)
  have F12 : Fld Z h9 b9 "com/example/maksu/maksu/catalog/Phase" "fixedPrice" "Ljava/util/Map;" .null := D9 (Or.inr hw_74) (ty := (.object "java/util/Map")) (by decide)
  have F13 : Fld Z h9 b9 "com/example/maksu/maksu/catalog/Phase" "recurring" "Lcom/example/maksu/maksu/catalog/Phase$Recurring;" .null := D9 (Or.inr hw_76) (ty := (.object "com/example/maksu/maksu/catalog/Phase$Recurring")) (by decide)
  obtain ⟨_, _, ⟨T14, L14, k14, n14⟩, -, X14, ⟨Lc14, hQ14, l14, y14, z14⟩, st14⟩ := X9.specialBack hx (y := (⟨"com/example/maksu/maksu/catalog/Phase", "<init>", "(Lcom/example/maksu/maksu/catalog/Phase$Type;Lcom/example/maksu/maksu/catalog/Phase$Duration;Ljava/util/Map;Lcom/example/maksu/maksu/catalog/Phase$Recurring;)V"⟩ : MethodName)) rfl hown (mvT hZ hw_65) (mvT hZ hw_66) (mvT hZ hw_67) (by decide) (backOf (W := 1) (rmPI1 l Z a0 hw [] b9 b1 h9 n0 Z9 A9 F10 F11 F12 F13 (by omega)) hZ hw_67 hw_64 (by decide) (by decide)) (g := (mkF m 31 #[.val (.int p1), .val (.int p2), .val (.int p3), .val (.ref b1)] [(.ref b1), .null, .null, .null, (.ref b9), (.ref b9)])) rfl (by rw [hml]; rfl) (Steps.refl _) (a := b9) (argsL := [.null, .null, .null, (.ref b1)]) (rest := [(.ref b9)]) (lenOf pd_1 rfl) rfl (by show 2 * 0 + _ ≤ _; exact Nat.le_of_eq rfl) (hb hby d1_31) (fun _ _ => ⟨rfl, e9, (by decide : 3 + 0 ≤ _), (by decide : 22 + 0 ≤ _)⟩)
  dsimp only [Pt.U, Pt.locs, Pt.cells, Pt.slots] at X14 l14 y14 z14 st14 hQ14
  subst l14 y14 z14
  obtain ⟨rfl, N14q, Kc14, Ec14, Fc14⟩ := hQ14
  have N14 := Fr.app N5 N14q
  have sz14 : h9.size ≤ T14.heap.size := Kc14.1
  have Z14 : n0 ≤ T14.heap.size := Nat.le_trans Z9 sz14
  have K14 : Keep h0 T14.heap [] := K9.trans Kc14 (allS (Or.inr (by omega)) all0)
  have O14 : Old Z n0 T14.heap := O9.keep Kc14 (allS (show n0 ≤ b9 by omega) all0)
  have go15 : ∀ t_, Steps p.tables e below (T14.setTop (mkF m 34 #[.val (.int p1), .val (.int p2), .val (.int p3), .val (.ref b1)] [(.ref b9)])) t_ → Steps p.tables e below (s₁.setTop (entryFrame m #[(.int p1), (.int p2), (.int p3)] 4)) t_ := by
    intro t_ k_
    refine pre0 t_ ?_
    show Steps p.tables e below (s₁.setTop (mkF m 0 #[.val (.int p1), .val (.int p2), .val (.int p3), .unset] [])) _
    refine XS.aconstNull X0.here hx rfl (hb hby d1_0) ?_
    show Steps p.tables e below (s₁.setTop (mkF m 1 #[.val (.int p1), .val (.int p2), .val (.int p3), .unset] [.null])) _
    refine XS.astoreN X0.here hx rfl (hb hby d1_1) rfl rfl (l' := #[.val (.int p1), .val (.int p2), .val (.int p3), .val .null]) rfl ?_
    show Steps p.tables e below (s₁.setTop (mkF m 2 #[.val (.int p1), .val (.int p2), .val (.int p3), .val .null] [])) _
    refine XS.iloadN X0.here hx rfl (hb hby d1_2) rfl ?_
    show Steps p.tables e below (s₁.setTop (mkF m 3 #[.val (.int p1), .val (.int p2), .val (.int p3), .val .null] [(.int p1)])) _
    refine XS.iloadN X0.here hx rfl (hb hby d1_3) rfl ?_
    show Steps p.tables e below (s₁.setTop (mkF m 4 #[.val (.int p1), .val (.int p2), .val (.int p3), .val .null] [(.int p2), (.int p1)])) _
    refine XS.ishr X0.here hx rfl (hb hby d1_4) rfl ?_
    show Steps p.tables e below (s₁.setTop (mkF m 5 #[.val (.int p1), .val (.int p2), .val (.int p3), .val .null] [(.int (p1 >>> (p2 &&& 31)))])) _
    refine XS.iconst X0.here hx rfl (hb hby d1_5) ?_
    show Steps p.tables e below (s₁.setTop (mkF m 6 #[.val (.int p1), .val (.int p2), .val (.int p3), .val .null] [(.int (1 : Int32)), (.int (p1 >>> (p2 &&& 31)))])) _
    refine XS.iand X0.here hx rfl (hb hby d1_6) rfl ?_
    show Steps p.tables e below (s₁.setTop (mkF m 7 #[.val (.int p1), .val (.int p2), .val (.int p3), .val .null] [(.int ((p1 >>> (p2 &&& 31)) &&& (1 : Int32)))])) _
    refine XS.ifNo X0.here hx rfl (hb hby d1_7) rfl ((if0 _ _).trans (feq hz).1) ?_
    show Steps p.tables e below (s₁.setTop (mkF m 10 #[.val (.int p1), .val (.int p2), .val (.int p3), .val .null] [])) _
    refine st1 _ ?_
    show Steps p.tables e below (T1.setTop (mkF m 13 #[.val (.int p1), .val (.int p2), .val (.int p3), .val .null] [(.ref b1)])) _
    refine XS.dup X1.here hx rfl (hb hby d1_13) rfl rfl ?_
    show Steps p.tables e below (T1.setTop (mkF m 14 #[.val (.int p1), .val (.int p2), .val (.int p3), .val .null] [(.ref b1), (.ref b1)])) _
    refine XS.iloadN X1.here hx rfl (hb hby d1_14) rfl ?_
    show Steps p.tables e below (T1.setTop (mkF m 15 #[.val (.int p1), .val (.int p2), .val (.int p3), .val .null] [(.int p3), (.ref b1), (.ref b1)])) _
    refine st4 _ ?_
    show Steps p.tables e below (T4.setTop (mkF m 18 #[.val (.int p1), .val (.int p2), .val (.int p3), .val .null] [(.ref (own_pk W p3)), (.ref b1), (.ref b1)])) _
    refine XS.aconstNull X4.here hx rfl (hb hby d1_18) ?_
    show Steps p.tables e below (T4.setTop (mkF m 19 #[.val (.int p1), .val (.int p2), .val (.int p3), .val .null] [.null, (.ref (own_pk W p3)), (.ref b1), (.ref b1)])) _
    refine st5.trans ?_
    show Steps p.tables e below (T5.setTop (mkF m 22 #[.val (.int p1), .val (.int p2), .val (.int p3), .val .null] [(.ref b1)])) _
    refine XS.astoreN X5.here hx rfl (hb hby d1_22) rfl rfl (l' := #[.val (.int p1), .val (.int p2), .val (.int p3), .val (.ref b1)]) rfl ?_
    show Steps p.tables e below (T5.setTop (mkF m 23 #[.val (.int p1), .val (.int p2), .val (.int p3), .val (.ref b1)] [])) _
    refine st9 _ ?_
    show Steps p.tables e below (T9.setTop (mkF m 26 #[.val (.int p1), .val (.int p2), .val (.int p3), .val (.ref b1)] [(.ref b9)])) _
    refine XS.dup X9.here hx rfl (hb hby d1_26) rfl rfl ?_
    show Steps p.tables e below (T9.setTop (mkF m 27 #[.val (.int p1), .val (.int p2), .val (.int p3), .val (.ref b1)] [(.ref b9), (.ref b9)])) _
    refine XS.aconstNull X9.here hx rfl (hb hby d1_27) ?_
    show Steps p.tables e below (T9.setTop (mkF m 28 #[.val (.int p1), .val (.int p2), .val (.int p3), .val (.ref b1)] [.null, (.ref b9), (.ref b9)])) _
    refine XS.aconstNull X9.here hx rfl (hb hby d1_28) ?_
    show Steps p.tables e below (T9.setTop (mkF m 29 #[.val (.int p1), .val (.int p2), .val (.int p3), .val (.ref b1)] [.null, .null, (.ref b9), (.ref b9)])) _
    refine XS.aconstNull X9.here hx rfl (hb hby d1_29) ?_
    show Steps p.tables e below (T9.setTop (mkF m 30 #[.val (.int p1), .val (.int p2), .val (.int p3), .val (.ref b1)] [.null, .null, .null, (.ref b9), (.ref b9)])) _
    refine XS.aloadN X9.here hx rfl (hb hby d1_30) rfl rfl ?_
    show Steps p.tables e below (T9.setTop (mkF m 31 #[.val (.int p1), .val (.int p2), .val (.int p3), .val (.ref b1)] [(.ref b1), .null, .null, .null, (.ref b9), (.ref b9)])) _
    refine st14.trans ?_
    exact k_
  obtain ⟨fs, hr, hrun, hended, hW, hsame⟩ := X14.leave (v := some (.ref b9)) (fun h => by rw [Bd.returns] at h; cases h)
  have f16 := (Ec5.ext E9)
  have f17 := (f16.keep Kc14)
  have f18 := (Fc5.ext E9)
  have f19 := (f18.keep Kc14 (ninS (show b1 ≠ b9 by omega) nin0))
  refine ⟨_, _, go15 _ ?_, hrun, hended, _, _, rfl, ?_, ⟨_, rfl⟩, hW, hsame.mono (by decide) (by decide)⟩
  · skip
    show Steps p.tables e below (T14.setTop (mkF m 34 #[.val (.int p1), .val (.int p2), .val (.int p3), .val (.ref b1)] [(.ref b9)])) _
    jvm_step X14.here [X14.here.top, hx, (hb hby d1_34), X14.method', Bd.returns, Value.isRef, FieldType.isReference]
    first | (intro acts; rw [hr _ acts rfl rfl rfl]) | rw [hr _ _ rfl rfl rfl]
    exact Steps.refl _
  · show Q_rmPh1 Z p1 p2 p3 W h0 n0 _ T14.heap _
    exact ⟨b9, b1, rfl, N14, K14, by omega, by omega, by omega, by omega, Ec14, Fc14, f17, f19⟩
theorem ef_9 (m : MethodId) (x0 : Addr) : entryFrame m #[(.ref x0)] 1 = mkF m 0 #[.val (.ref x0)] [] := by first | (simp [entryFrame, mkF, argsToLocals, Value.category]; done) | rfl
theorem pn_AbstractCollection : plainName "java/util/AbstractCollection" = true := by first | (simp [plainName, overriddenIn]; done) | decide +kernel
theorem d9_0 : decode jdk_22_method_1_code 0 = .ok (.aload_n 0, 1) := by decide +kernel
theorem d9_1 : decode jdk_22_method_1_code 1 = .ok (.invokespecial 1, 3) := by decide +kernel
theorem d9_4 : decode jdk_22_method_1_code 4 = .ok (.return_, 1) := by decide +kernel
def Q_rmACo (Z : State) (a1 : Nat) (h0 : Heap) (n0 : Nat) (v : Option Value) (h : Heap) (L : List Loc) : Prop := v = none ∧ Fr n0 L ∧ h = h0
set_option maxRecDepth 65536 in
set_option maxHeartbeats 40000000 in
theorem rmACo (l : Launch) (Z : State) (a0 : Array Value) (hw : ∀ d ∈ tables_1, d.before a0 Z = true) (ws : List Jvm.Cond) (a1 : Nat) (h0 : Heap) (n0 : Nat) (Z0 : n0 ≤ h0.size) :
    MetFree l (⟨"java/util/AbstractCollection", "<init>", "()V"⟩ : MethodName) (head1 (Jvm.Cond.code (⟨"java/util/AbstractCollection", "<init>", "()V"⟩ : MethodName) jdk_22_method_1_code 1 none :: ws) ({ frames := 1, cells := 0, slots := 0, locals := 12 } : Room)) (fun a U => a = #[(.ref a1)] ∧ Z.Warmed39 U.vm ∧ U.heap = h0) (fun _ _ _ _ _ => True) (fun _ U o U' => ∃ v L, o = .returned v ∧ Q_rmACo Z a1 h0 n0 v U'.heap L ∧ FrameEnd U o U' L ({ frames := 1, cells := 0, slots := 0, locals := 12 } : Room).cells ({ frames := 1, cells := 0, slots := 0, locals := 12 } : Room).slots) := by
  have hw_56 := hw _ (List.mem_of_getElem? (i := 56) rfl)
  have hw_57 := hw _ (List.mem_of_getElem? (i := 57) rfl)
  have hw_95 := hw _ (List.mem_of_getElem? (i := 95) rfl)
  refine MetFree.of_bodySF (plainFor_of_name pn_AbstractCollection) hisR ?_
  intro p e s m args below meth c s₁ Bd hml0 hP hK
  obtain ⟨rfl, hZ, hh⟩ := hP
  have hx := Bd.exec
  have hby := Bd.bytes
  have hml : c.maxLocals = 1 := hml0
  have hown : s.vm.findClass "java/util/AbstractCollection" = some m.cls := findClass_of_methodNamed Bd.named
  have hnm := (name_of_methodNamed Bd.named Bd.method).1
  have X0 : Stand p l e ({ frames := 1, cells := 0, slots := 0, locals := 12 } : Room) s m #[(.ref a1)] below meth c s₁ [] 0 0 := Stand.of_body Bd
  have e0 : s₁.heap = h0 := by rw [← hh, Bd.state]; rfl
  have N0 := Fr.nil n0
  have pre0 : ∀ t_, Steps p.tables e below (s₁.setTop (mkF m 0 #[.val (.ref a1)] [])) t_ → Steps p.tables e below (s₁.setTop (entryFrame m #[(.ref a1)] 1)) t_ := fun t_ k_ => castTop (ef_9 m a1) k_
  obtain ⟨T1, X1, e1, st1⟩ := initO X0 hx hZ hown hw_95 hw_56 hw_57 e0 (g := (mkF m 1 #[.val (.ref a1)] [(.ref a1)])) rfl (by rw [hml]; rfl) rfl (hb hby d9_1) (by decide) (W := 0) (by show 2 * 0 + _ ≤ _; exact Nat.le_of_eq rfl) (by decide)
  have go2 : ∀ t_, Steps p.tables e below (T1.setTop (mkF m 4 #[.val (.ref a1)] [])) t_ → Steps p.tables e below (s₁.setTop (entryFrame m #[(.ref a1)] 1)) t_ := by
    intro t_ k_
    refine pre0 t_ ?_
    show Steps p.tables e below (s₁.setTop (mkF m 0 #[.val (.ref a1)] [])) _
    refine XS.aloadN X0.here hx rfl (hb hby d9_0) rfl rfl ?_
    show Steps p.tables e below (s₁.setTop (mkF m 1 #[.val (.ref a1)] [(.ref a1)])) _
    refine st1 _ ?_
    exact k_
  obtain ⟨fs, hr, hrun, hended, hW, hsame⟩ := X1.leave (v := none) (fun _ => rfl)
  refine ⟨_, _, go2 _ ?_, hrun, hended, _, _, rfl, ?_, ⟨_, rfl⟩, hW, hsame.mono (by decide) (by decide)⟩
  · skip
    show Steps p.tables e below (T1.setTop (mkF m 4 #[.val (.ref a1)] [])) _
    exact X1.returnOut hx Bd.returns (hb hby d9_4) hr
  · show Q_rmACo Z a1 h0 n0 _ T1.heap _
    rw [e1]
    exact ⟨rfl, N0, rfl⟩
theorem ef_8 (m : MethodId) (x0 : Addr) : entryFrame m #[(.ref x0)] 1 = mkF m 0 #[.val (.ref x0)] [] := by first | (simp [entryFrame, mkF, argsToLocals, Value.category]; done) | rfl
theorem pn_AbstractList : plainName "java/util/AbstractList" = true := by first | (simp [plainName, overriddenIn]; done) | decide +kernel
theorem d8_0 : decode jdk_39_method_1_code 0 = .ok (.aload_n 0, 1) := by decide +kernel
theorem d8_1 : decode jdk_39_method_1_code 1 = .ok (.invokespecial 1, 3) := by decide +kernel
theorem d8_4 : decode jdk_39_method_1_code 4 = .ok (.aload_n 0, 1) := by decide +kernel
theorem d8_5 : decode jdk_39_method_1_code 5 = .ok (.iconst 0, 1) := by decide +kernel
theorem d8_6 : decode jdk_39_method_1_code 6 = .ok (.putfield 7, 3) := by decide +kernel
theorem d8_9 : decode jdk_39_method_1_code 9 = .ok (.return_, 1) := by decide +kernel
def Q_rmALs (Z : State) (a1 : Nat) (h0 : Heap) (n0 : Nat) (v : Option Value) (h : Heap) (L : List Loc) : Prop := v = none ∧ Fr n0 L ∧ Keep h0 h [a1] ∧ Exa Z h a1 "java/util/ArrayList" ∧ Fld Z h a1 "java/util/AbstractList" "modCount" "I" (.int (0 : Int32)) ∧ Fld Z h a1 "java/util/ArrayList" "size" "I" (.int (0 : Int32)) ∧ Fld Z h a1 "java/util/ArrayList" "elementData" "[Ljava/lang/Object;" .null
set_option maxRecDepth 65536 in
set_option maxHeartbeats 40000000 in
theorem rmALs (l : Launch) (Z : State) (a0 : Array Value) (hw : ∀ d ∈ tables_1, d.before a0 Z = true) (ws : List Jvm.Cond) (a1 : Nat) (h0 : Heap) (n0 : Nat) (Z0 : n0 ≤ h0.size) (E1 : Exa Z h0 a1 "java/util/ArrayList") (Fm : Fld Z h0 a1 "java/util/AbstractList" "modCount" "I" (.int (0 : Int32))) (Fs : Fld Z h0 a1 "java/util/ArrayList" "size" "I" (.int (0 : Int32))) (Fe : Fld Z h0 a1 "java/util/ArrayList" "elementData" "[Ljava/lang/Object;" .null) (ga : n0 ≤ a1) :
    MetFree l (⟨"java/util/AbstractList", "<init>", "()V"⟩ : MethodName) (head1 (Jvm.Cond.code (⟨"java/util/AbstractList", "<init>", "()V"⟩ : MethodName) jdk_39_method_1_code 1 none :: ws) ({ frames := 2, cells := 0, slots := 0, locals := 24 } : Room)) (fun a U => a = #[(.ref a1)] ∧ Z.Warmed39 U.vm ∧ U.heap = h0) (fun _ _ _ _ _ => True) (fun _ U o U' => ∃ v L, o = .returned v ∧ Q_rmALs Z a1 h0 n0 v U'.heap L ∧ FrameEnd U o U' L ({ frames := 2, cells := 0, slots := 0, locals := 24 } : Room).cells ({ frames := 2, cells := 0, slots := 0, locals := 24 } : Room).slots) := by
  have hw_78 := hw _ (List.mem_of_getElem? (i := 78) rfl)
  have hw_89 := hw _ (List.mem_of_getElem? (i := 89) rfl)
  have hw_90 := hw _ (List.mem_of_getElem? (i := 90) rfl)
  have hw_93 := hw _ (List.mem_of_getElem? (i := 93) rfl)
  have hw_94 := hw _ (List.mem_of_getElem? (i := 94) rfl)
  have hw_96 := hw _ (List.mem_of_getElem? (i := 96) rfl)
  have hw_97 := hw _ (List.mem_of_getElem? (i := 97) rfl)
  have hw_100 := hw _ (List.mem_of_getElem? (i := 100) rfl)
  have hw_113 := hw _ (List.mem_of_getElem? (i := 113) rfl)
  refine MetFree.of_bodySF (plainFor_of_name pn_AbstractList) hisR ?_
  intro p e s m args below meth c s₁ Bd hml0 hP hK
  obtain ⟨rfl, hZ, hh⟩ := hP
  have hx := Bd.exec
  have hby := Bd.bytes
  have hml : c.maxLocals = 1 := hml0
  have hown : s.vm.findClass "java/util/AbstractList" = some m.cls := findClass_of_methodNamed Bd.named
  have hnm := (name_of_methodNamed Bd.named Bd.method).1
  have X0 : Stand p l e ({ frames := 2, cells := 0, slots := 0, locals := 24 } : Room) s m #[(.ref a1)] below meth c s₁ [] 0 0 := Stand.of_body Bd
  have e0 : s₁.heap = h0 := by rw [← hh, Bd.state]; rfl
  have N0 := Fr.nil n0
  have pre0 : ∀ t_, Steps p.tables e below (s₁.setTop (mkF m 0 #[.val (.ref a1)] [])) t_ → Steps p.tables e below (s₁.setTop (entryFrame m #[(.ref a1)] 1)) t_ := fun t_ k_ => castTop (ef_8 m a1) k_
  have K0 : Keep h0 h0 [a1] := Keep.refl h0 _
  obtain ⟨_, _, ⟨T1, L1, k1, n1⟩, -, X1, ⟨Lc1, hQ1, l1, y1, z1⟩, st1⟩ := X0.specialBack hx (y := (⟨"java/util/AbstractCollection", "<init>", "()V"⟩ : MethodName)) rfl hown (mvT hZ hw_89) (mvT hZ hw_90) (mvT hZ hw_94) (by decide) (backOf (W := 0) (rmACo l Z a0 hw [] a1 h0 n0 Z0) hZ hw_94 hw_93 (by decide) (by decide)) (g := (mkF m 1 #[.val (.ref a1)] [(.ref a1)])) rfl (by rw [hml]; rfl) (Steps.refl _) (a := a1) (argsL := []) (rest := []) (lenOf pd_0 rfl) rfl (by show 2 * 0 + _ ≤ _; exact Nat.le_of_eq rfl) (hb hby d8_1) (fun _ _ => ⟨rfl, e0, (by decide : 0 + 0 ≤ _), (by decide : 0 + 0 ≤ _)⟩)
  dsimp only [Pt.U, Pt.locs, Pt.cells, Pt.slots] at X1 l1 y1 z1 st1 hQ1
  subst l1 y1 z1
  obtain ⟨rfl, N1q, e1⟩ := hQ1
  have N1 := Fr.app N0 N1q
  obtain ⟨T2, h2, X2, e2, W2, st2⟩ := putF X1 hx hZ hown (host := "") (Or.inl hw_96) Via.refl e1 Fm E1 (Or.inl hw_97) hw_78 (ty := .int) (by decide) rfl rfl (g := (mkF m 6 #[.val (.ref a1)] [(.int (0 : Int32)), (.ref a1)])) rfl rfl (hb hby d8_6)
  have Fw2 := Fm.same W2
  have N2 := Fr.snoc X2 N1 (show n0 ≤ a1 by omega)
  have sz2 : h0.size ≤ h2.size := Nat.le_of_eq W2.size.symm
  have Z2 : n0 ≤ h2.size := Nat.le_trans Z0 sz2
  have K2 : Keep h0 h2 [a1] := K0.wr W2 (Or.inl (by simp))
  have go3 : ∀ t_, Steps p.tables e below (T2.setTop (mkF m 9 #[.val (.ref a1)] [])) t_ → Steps p.tables e below (s₁.setTop (entryFrame m #[(.ref a1)] 1)) t_ := by
    intro t_ k_
    refine pre0 t_ ?_
    show Steps p.tables e below (s₁.setTop (mkF m 0 #[.val (.ref a1)] [])) _
    refine XS.aloadN X0.here hx rfl (hb hby d8_0) rfl rfl ?_
    show Steps p.tables e below (s₁.setTop (mkF m 1 #[.val (.ref a1)] [(.ref a1)])) _
    refine st1.trans ?_
    show Steps p.tables e below (T1.setTop (mkF m 4 #[.val (.ref a1)] [])) _
    refine XS.aloadN X1.here hx rfl (hb hby d8_4) rfl rfl ?_
    show Steps p.tables e below (T1.setTop (mkF m 5 #[.val (.ref a1)] [(.ref a1)])) _
    refine XS.iconst X1.here hx rfl (hb hby d8_5) ?_
    show Steps p.tables e below (T1.setTop (mkF m 6 #[.val (.ref a1)] [(.int (0 : Int32)), (.ref a1)])) _
    refine st2 _ ?_
    exact k_
  obtain ⟨fs, hr, hrun, hended, hW, hsame⟩ := X2.leave (v := none) (fun _ => rfl)
  have f4 := (E1.wr W2)
  have f5 := (Fs.other W2 (Or.inr (slot_ne (Or.inl hw_113) (Or.inl hw_97) (by decide) (t := .int) (t' := .int) (by decide) (by decide))))
  have f6 := (Fe.other W2 (Or.inr (slot_ne (Or.inl hw_100) (Or.inl hw_97) (by decide) (t := (.array (.object "java/lang/Object"))) (t' := .int) (by decide) (by decide))))
  refine ⟨_, _, go3 _ ?_, hrun, hended, _, _, rfl, ?_, ⟨_, rfl⟩, hW, hsame.mono (by decide) (by decide)⟩
  · skip
    show Steps p.tables e below (T2.setTop (mkF m 9 #[.val (.ref a1)] [])) _
    exact X2.returnOut hx Bd.returns (hb hby d8_9) hr
  · show Q_rmALs Z a1 h0 n0 _ T2.heap _
    rw [e2]
    exact ⟨rfl, N2, K2, f4, Fw2, f5, f6⟩
theorem ef_7 (m : MethodId) (x0 : Addr) : entryFrame m #[(.ref x0)] 1 = mkF m 0 #[.val (.ref x0)] [] := by first | (simp [entryFrame, mkF, argsToLocals, Value.category]; done) | rfl
theorem pn_ArrayList : plainName "java/util/ArrayList" = true := by first | (simp [plainName, overriddenIn]; done) | decide +kernel
theorem d7_0 : decode jdk_38_method_2_code 0 = .ok (.aload_n 0, 1) := by decide +kernel
theorem d7_1 : decode jdk_38_method_2_code 1 = .ok (.invokespecial 1, 3) := by decide +kernel
theorem d7_4 : decode jdk_38_method_2_code 4 = .ok (.aload_n 0, 1) := by decide +kernel
theorem d7_5 : decode jdk_38_method_2_code 5 = .ok (.getstatic 39, 3) := by decide +kernel
theorem d7_8 : decode jdk_38_method_2_code 8 = .ok (.putfield 9, 3) := by decide +kernel
theorem d7_11 : decode jdk_38_method_2_code 11 = .ok (.return_, 1) := by decide +kernel
def Q_rmALI (Z : State) (a1 : Nat) (ed : Nat) (h0 : Heap) (n0 : Nat) (v : Option Value) (h : Heap) (L : List Loc) : Prop := v = none ∧ Fr n0 L ∧ Keep h0 h [a1] ∧ Exa Z h a1 "java/util/ArrayList" ∧ Fld Z h a1 "java/util/AbstractList" "modCount" "I" (.int (0 : Int32)) ∧ Fld Z h a1 "java/util/ArrayList" "size" "I" (.int (0 : Int32)) ∧ Fld Z h a1 "java/util/ArrayList" "elementData" "[Ljava/lang/Object;" (.ref ed)
set_option maxRecDepth 65536 in
set_option maxHeartbeats 40000000 in
theorem rmALI (l : Launch) (Z : State) (a0 : Array Value) (hw : ∀ d ∈ tables_1, d.before a0 Z = true) (ws : List Jvm.Cond) (a1 : Nat) (ed : Nat) (h0 : Heap) (n0 : Nat) (Z0 : n0 ≤ h0.size) (E1 : Exa Z h0 a1 "java/util/ArrayList") (Fm : Fld Z h0 a1 "java/util/AbstractList" "modCount" "I" (.int (0 : Int32))) (Fs : Fld Z h0 a1 "java/util/ArrayList" "size" "I" (.int (0 : Int32))) (Fe : Fld Z h0 a1 "java/util/ArrayList" "elementData" "[Ljava/lang/Object;" .null) (ga : n0 ≤ a1) (S_D : Sta Z Z.heap "java/util/ArrayList" "DEFAULTCAPACITY_EMPTY_ELEMENTDATA" "[Ljava/lang/Object;" (.ref ed)) (O0 : Old Z n0 h0) :
    MetFree l (⟨"java/util/ArrayList", "<init>", "()V"⟩ : MethodName) (head1 (Jvm.Cond.code (⟨"java/util/ArrayList", "<init>", "()V"⟩ : MethodName) jdk_38_method_2_code 1 none :: ws) ({ frames := 3, cells := 0, slots := 0, locals := 36 } : Room)) (fun a U => a = #[(.ref a1)] ∧ Z.Warmed39 U.vm ∧ U.heap = h0) (fun _ _ _ _ _ => True) (fun _ U o U' => ∃ v L, o = .returned v ∧ Q_rmALI Z a1 ed h0 n0 v U'.heap L ∧ FrameEnd U o U' L ({ frames := 3, cells := 0, slots := 0, locals := 36 } : Room).cells ({ frames := 3, cells := 0, slots := 0, locals := 36 } : Room).slots) := by
  have hw_78 := hw _ (List.mem_of_getElem? (i := 78) rfl)
  have hw_83 := hw _ (List.mem_of_getElem? (i := 83) rfl)
  have hw_84 := hw _ (List.mem_of_getElem? (i := 84) rfl)
  have hw_87 := hw _ (List.mem_of_getElem? (i := 87) rfl)
  have hw_88 := hw _ (List.mem_of_getElem? (i := 88) rfl)
  have hw_97 := hw _ (List.mem_of_getElem? (i := 97) rfl)
  have hw_98 := hw _ (List.mem_of_getElem? (i := 98) rfl)
  have hw_99 := hw _ (List.mem_of_getElem? (i := 99) rfl)
  have hw_100 := hw _ (List.mem_of_getElem? (i := 100) rfl)
  have hw_113 := hw _ (List.mem_of_getElem? (i := 113) rfl)
  refine MetFree.of_bodySF (plainFor_of_name pn_ArrayList) hisR ?_
  intro p e s m args below meth c s₁ Bd hml0 hP hK
  obtain ⟨rfl, hZ, hh⟩ := hP
  have hx := Bd.exec
  have hby := Bd.bytes
  have hml : c.maxLocals = 1 := hml0
  have hown : s.vm.findClass "java/util/ArrayList" = some m.cls := findClass_of_methodNamed Bd.named
  have hnm := (name_of_methodNamed Bd.named Bd.method).1
  have X0 : Stand p l e ({ frames := 3, cells := 0, slots := 0, locals := 36 } : Room) s m #[(.ref a1)] below meth c s₁ [] 0 0 := Stand.of_body Bd
  have e0 : s₁.heap = h0 := by rw [← hh, Bd.state]; rfl
  have N0 := Fr.nil n0
  have pre0 : ∀ t_, Steps p.tables e below (s₁.setTop (mkF m 0 #[.val (.ref a1)] [])) t_ → Steps p.tables e below (s₁.setTop (entryFrame m #[(.ref a1)] 1)) t_ := fun t_ k_ => castTop (ef_7 m a1) k_
  have K0 : Keep h0 h0 [a1] := Keep.refl h0 _
  obtain ⟨_, _, ⟨T1, L1, k1, n1⟩, -, X1, ⟨Lc1, hQ1, l1, y1, z1⟩, st1⟩ := X0.specialBack hx (y := (⟨"java/util/AbstractList", "<init>", "()V"⟩ : MethodName)) rfl hown (mvT hZ hw_83) (mvT hZ hw_84) (mvT hZ hw_88) (by decide) (backOf (W := 0) (rmALs l Z a0 hw [] a1 h0 n0 Z0 E1 Fm Fs Fe (by omega)) hZ hw_88 hw_87 (by decide) (by decide)) (g := (mkF m 1 #[.val (.ref a1)] [(.ref a1)])) rfl (by rw [hml]; rfl) (Steps.refl _) (a := a1) (argsL := []) (rest := []) (lenOf pd_0 rfl) rfl (by show 2 * 0 + _ ≤ _; exact Nat.le_of_eq rfl) (hb hby d7_1) (fun _ _ => ⟨rfl, e0, (by decide : 0 + 0 ≤ _), (by decide : 0 + 0 ≤ _)⟩)
  dsimp only [Pt.U, Pt.locs, Pt.cells, Pt.slots] at X1 l1 y1 z1 st1 hQ1
  subst l1 y1 z1
  obtain ⟨rfl, N1q, Kc1, Ec1, Fm1, Fs1, Fe1⟩ := hQ1
  have N1 := Fr.app N0 N1q
  have sz1 : h0.size ≤ T1.heap.size := Kc1.1
  have Z1 : n0 ≤ T1.heap.size := Nat.le_trans Z0 sz1
  have K1 : Keep h0 T1.heap [a1] := K0.trans Kc1 (allS (Or.inl (by simp)) all0)
  have O1 : Old Z n0 T1.heap := O0.keep Kc1 (allS (show n0 ≤ a1 by omega) all0)
  obtain ⟨T2, X2, e2, st2⟩ := getS2 X1 hx hZ hown (host := "") (Or.inl hw_98) Via.refl rfl (S_D.ext O1.2) (g := (mkF m 5 #[.val (.ref a1)] [(.ref a1)])) rfl (hb hby d7_5)
  obtain ⟨T3, h3, X3, e3, W3, st3⟩ := putF X2 hx hZ hown (host := "") (Or.inl hw_99) Via.refl e2 Fe1 Ec1 (Or.inl hw_100) hw_78 (ty := (.array (.object "java/lang/Object"))) (by decide) rfl rfl (g := (mkF m 8 #[.val (.ref a1)] [(.ref ed), (.ref a1)])) rfl rfl (hb hby d7_8)
  have Fw3 := Fe1.same W3
  have N3 := Fr.snoc X3 N1 (show n0 ≤ a1 by omega)
  have sz3 : T1.heap.size ≤ h3.size := Nat.le_of_eq W3.size.symm
  have Z3 : n0 ≤ h3.size := Nat.le_trans Z1 sz3
  have K3 : Keep h0 h3 [a1] := K1.wr W3 (Or.inl (by simp))
  have O3 : Old Z n0 h3 := O1.wr W3 (by omega)
  have go4 : ∀ t_, Steps p.tables e below (T3.setTop (mkF m 11 #[.val (.ref a1)] [])) t_ → Steps p.tables e below (s₁.setTop (entryFrame m #[(.ref a1)] 1)) t_ := by
    intro t_ k_
    refine pre0 t_ ?_
    show Steps p.tables e below (s₁.setTop (mkF m 0 #[.val (.ref a1)] [])) _
    refine XS.aloadN X0.here hx rfl (hb hby d7_0) rfl rfl ?_
    show Steps p.tables e below (s₁.setTop (mkF m 1 #[.val (.ref a1)] [(.ref a1)])) _
    refine st1.trans ?_
    show Steps p.tables e below (T1.setTop (mkF m 4 #[.val (.ref a1)] [])) _
    refine XS.aloadN X1.here hx rfl (hb hby d7_4) rfl rfl ?_
    show Steps p.tables e below (T1.setTop (mkF m 5 #[.val (.ref a1)] [(.ref a1)])) _
    refine st2 _ ?_
    show Steps p.tables e below (T2.setTop (mkF m 8 #[.val (.ref a1)] [(.ref ed), (.ref a1)])) _
    refine st3 _ ?_
    exact k_
  obtain ⟨fs, hr, hrun, hended, hW, hsame⟩ := X3.leave (v := none) (fun _ => rfl)
  have f5 := (Ec1.wr W3)
  have f6 := (Fm1.other W3 (Or.inr (slot_ne (Or.inl hw_97) (Or.inl hw_100) (by decide) (t := .int) (t' := (.array (.object "java/lang/Object"))) (by decide) (by decide))))
  have f7 := (Fs1.other W3 (Or.inr (slot_ne (Or.inl hw_113) (Or.inl hw_100) (by decide) (t := .int) (t' := (.array (.object "java/lang/Object"))) (by decide) (by decide))))
  refine ⟨_, _, go4 _ ?_, hrun, hended, _, _, rfl, ?_, ⟨_, rfl⟩, hW, hsame.mono (by decide) (by decide)⟩
  · skip
    show Steps p.tables e below (T3.setTop (mkF m 11 #[.val (.ref a1)] [])) _
    exact X3.returnOut hx Bd.returns (hb hby d7_11) hr
  · show Q_rmALI Z a1 ed h0 n0 _ T3.heap _
    rw [e3]
    exact ⟨rfl, N3, K3, f5, f6, f7, Fw3⟩
theorem ef_14 (m : MethodId) (x0 : Int32) (x1 : Int32) : entryFrame m #[(.int x0), (.int x1)] 2 = mkF m 0 #[.val (.int x0), .val (.int x1)] [] := by first | (simp [entryFrame, mkF, argsToLocals, Value.category]; done) | rfl
theorem d14_0 : decode jdk_29_method_65_code 0 = .ok (.iload_n 0, 1) := by decide +kernel
theorem d14_1 : decode jdk_29_method_65_code 1 = .ok (.iload_n 1, 1) := by decide +kernel
theorem d14_2 : decode jdk_29_method_65_code 2 = .ok (.if_icmp .lt 7, 3) := by decide +kernel
theorem d14_5 : decode jdk_29_method_65_code 5 = .ok (.iload_n 0, 1) := by decide +kernel
theorem d14_6 : decode jdk_29_method_65_code 6 = .ok (.goto 4, 3) := by decide +kernel
theorem d14_10 : decode jdk_29_method_65_code 10 = .ok (.ireturn, 1) := by decide +kernel
def Q_rmMax (Z : State)  (h0 : Heap) (n0 : Nat) (v : Option Value) (h : Heap) (L : List Loc) : Prop := v = some (.int (10 : Int32)) ∧ Fr n0 L ∧ h = h0
set_option maxRecDepth 65536 in
set_option maxHeartbeats 40000000 in
theorem rmMax (l : Launch) (Z : State) (a0 : Array Value) (hw : ∀ d ∈ tables_1, d.before a0 Z = true) (ws : List Jvm.Cond)  (h0 : Heap) (n0 : Nat) (Z0 : n0 ≤ h0.size) :
    MetFree l (⟨"java/lang/Math", "max", "(II)I"⟩ : MethodName) (head1 (Jvm.Cond.code (⟨"java/lang/Math", "max", "(II)I"⟩ : MethodName) jdk_29_method_65_code 2 (some .int) :: ws) ({ frames := 0, cells := 0, slots := 0, locals := 0 } : Room)) (fun a U => a = #[(.int (10 : Int32)), (.int (1 : Int32))] ∧ Z.Warmed39 U.vm ∧ U.heap = h0) (fun _ _ _ _ _ => True) (fun _ U o U' => ∃ v L, o = .returned v ∧ Q_rmMax Z  h0 n0 v U'.heap L ∧ FrameEnd U o U' L ({ frames := 0, cells := 0, slots := 0, locals := 0 } : Room).cells ({ frames := 0, cells := 0, slots := 0, locals := 0 } : Room).slots) := by
  refine MetFree.of_bodySF (Jvm.Free.JP.mathPlain rfl (by decide +kernel)) hisR ?_
  intro p e s m args below meth c s₁ Bd hml0 hP hK
  obtain ⟨rfl, hZ, hh⟩ := hP
  have hx := Bd.exec
  have hby := Bd.bytes
  have hml : c.maxLocals = 2 := hml0
  have hown : s.vm.findClass "java/lang/Math" = some m.cls := findClass_of_methodNamed Bd.named
  have hnm := (name_of_methodNamed Bd.named Bd.method).1
  have X0 : Stand p l e ({ frames := 0, cells := 0, slots := 0, locals := 0 } : Room) s m #[(.int (10 : Int32)), (.int (1 : Int32))] below meth c s₁ [] 0 0 := Stand.of_body Bd
  have e0 : s₁.heap = h0 := by rw [← hh, Bd.state]; rfl
  have N0 := Fr.nil n0
  have pre0 : ∀ t_, Steps p.tables e below (s₁.setTop (mkF m 0 #[.val (.int (10 : Int32)), .val (.int (1 : Int32))] [])) t_ → Steps p.tables e below (s₁.setTop (entryFrame m #[(.int (10 : Int32)), (.int (1 : Int32))] 2)) t_ := fun t_ k_ => castTop (ef_14 m (10 : Int32) (1 : Int32)) k_
  have go1 : ∀ t_, Steps p.tables e below (s₁.setTop (mkF m 10 #[.val (.int (10 : Int32)), .val (.int (1 : Int32))] [(.int (10 : Int32))])) t_ → Steps p.tables e below (s₁.setTop (entryFrame m #[(.int (10 : Int32)), (.int (1 : Int32))] 2)) t_ := by
    intro t_ k_
    refine pre0 t_ ?_
    show Steps p.tables e below (s₁.setTop (mkF m 0 #[.val (.int (10 : Int32)), .val (.int (1 : Int32))] [])) _
    refine XS.iloadN X0.here hx rfl (hb hby d14_0) rfl ?_
    show Steps p.tables e below (s₁.setTop (mkF m 1 #[.val (.int (10 : Int32)), .val (.int (1 : Int32))] [(.int (10 : Int32))])) _
    refine XS.iloadN X0.here hx rfl (hb hby d14_1) rfl ?_
    show Steps p.tables e below (s₁.setTop (mkF m 2 #[.val (.int (10 : Int32)), .val (.int (1 : Int32))] [(.int (1 : Int32)), (.int (10 : Int32))])) _
    refine XS.icmpNo X0.here hx rfl (hb hby d14_2) rfl (flt (by decide : ¬ ((10 : Int32) < (1 : Int32)))).1 ?_
    show Steps p.tables e below (s₁.setTop (mkF m 5 #[.val (.int (10 : Int32)), .val (.int (1 : Int32))] [])) _
    refine XS.iloadN X0.here hx rfl (hb hby d14_5) rfl ?_
    show Steps p.tables e below (s₁.setTop (mkF m 6 #[.val (.int (10 : Int32)), .val (.int (1 : Int32))] [(.int (10 : Int32))])) _
    refine XS.goto X0.here hx rfl (pc0 := 6) (pc' := 10) rfl (hb hby d14_6) (by decide) (by decide) ?_
    exact k_
  obtain ⟨fs, hr, hrun, hended, hW, hsame⟩ := X0.leave (v := some (.int (10 : Int32))) (fun h => by rw [Bd.returns] at h; cases h)
  refine ⟨_, _, go1 _ ?_, hrun, hended, _, _, rfl, ?_, ⟨_, rfl⟩, hW, hsame.mono (by decide) (by decide)⟩
  · skip
    show Steps p.tables e below (s₁.setTop (mkF m 10 #[.val (.int (10 : Int32)), .val (.int (1 : Int32))] [(.int (10 : Int32))])) _
    exact retI X0 hx Bd.returns (hb hby d14_10) hr
  · show Q_rmMax Z  h0 n0 _ s₁.heap _
    rw [e0]
    exact ⟨rfl, N0, rfl⟩
theorem ef_13 (m : MethodId) (x0 : Addr) (x1 : Int32) : entryFrame m #[(.ref x0), (.int x1)] 4 = mkF m 0 #[.val (.ref x0), .val (.int x1), .unset, .unset] [] := by first | (simp [entryFrame, mkF, argsToLocals, Value.category]; done) | rfl
theorem d13_0 : decode jdk_38_method_6_code 0 = .ok (.aload_n 0, 1) := by decide +kernel
theorem d13_1 : decode jdk_38_method_6_code 1 = .ok (.getfield 9, 3) := by decide +kernel
theorem d13_4 : decode jdk_38_method_6_code 4 = .ok (.arraylength, 1) := by decide +kernel
theorem d13_5 : decode jdk_38_method_6_code 5 = .ok (.istore_n 2, 1) := by decide +kernel
theorem d13_6 : decode jdk_38_method_6_code 6 = .ok (.iload_n 2, 1) := by decide +kernel
theorem d13_7 : decode jdk_38_method_6_code 7 = .ok (.ifCond .gt 13, 3) := by decide +kernel
theorem d13_10 : decode jdk_38_method_6_code 10 = .ok (.aload_n 0, 1) := by decide +kernel
theorem d13_11 : decode jdk_38_method_6_code 11 = .ok (.getfield 9, 3) := by decide +kernel
theorem d13_14 : decode jdk_38_method_6_code 14 = .ok (.getstatic 39, 3) := by decide +kernel
theorem d13_17 : decode jdk_38_method_6_code 17 = .ok (.if_acmp .eq 28, 3) := by decide +kernel
theorem d13_45 : decode jdk_38_method_6_code 45 = .ok (.aload_n 0, 1) := by decide +kernel
theorem d13_46 : decode jdk_38_method_6_code 46 = .ok (.bipush 10, 2) := by decide +kernel
theorem d13_48 : decode jdk_38_method_6_code 48 = .ok (.iload_n 1, 1) := by decide +kernel
theorem d13_49 : decode jdk_38_method_6_code 49 = .ok (.invokestatic 79, 3) := by decide +kernel
theorem pd_4 : parseMethodDescriptor "(II)I" = some ⟨[.int, .int], some .int⟩ := by decide +kernel
theorem d13_52 : decode jdk_38_method_6_code 52 = .ok (.anewarray 7, 3) := by decide +kernel
theorem d13_55 : decode jdk_38_method_6_code 55 = .ok (.dup_x1, 1) := by decide +kernel
theorem d13_56 : decode jdk_38_method_6_code 56 = .ok (.putfield 9, 3) := by decide +kernel
theorem d13_59 : decode jdk_38_method_6_code 59 = .ok (.areturn, 1) := by decide +kernel
def Q_rmGr1 (Z : State) (a1 : Nat) (ed : Nat) (kd : ClassId) (m_ : Int32) (h0 : Heap) (n0 : Nat) (v : Option Value) (h : Heap) (L : List Loc) : Prop := ∃ (b : Nat) (kb : ClassId), v = some (.ref b) ∧ Fr n0 L ∧ Keep h0 h [a1] ∧ h0.size ≤ b ∧ b < h.size ∧ Exa Z h a1 "java/util/ArrayList" ∧ Fld Z h a1 "java/util/AbstractList" "modCount" "I" (.int m_) ∧ Fld Z h a1 "java/util/ArrayList" "size" "I" (.int (0 : Int32)) ∧ Fld Z h a1 "java/util/ArrayList" "elementData" "[Ljava/lang/Object;" (.ref b) ∧ Ovr Z kb "java/lang/Object" ∧ Arv Z h b kb (.object "java/lang/Object") (10 : Int32) [.null, .null, .null, .null, .null, .null, .null, .null, .null, .null] .null
set_option maxRecDepth 65536 in
set_option maxHeartbeats 40000000 in
theorem rmGr1 (l : Launch) (Z : State) (a0 : Array Value) (hw : ∀ d ∈ tables_1, d.before a0 Z = true) (ws : List Jvm.Cond) (a1 : Nat) (ed : Nat) (kd : ClassId) (m_ : Int32) (h0 : Heap) (n0 : Nat) (Z0 : n0 ≤ h0.size) (E1 : Exa Z h0 a1 "java/util/ArrayList") (Fm : Fld Z h0 a1 "java/util/AbstractList" "modCount" "I" (.int m_)) (Fs : Fld Z h0 a1 "java/util/ArrayList" "size" "I" (.int (0 : Int32))) (Fe : Fld Z h0 a1 "java/util/ArrayList" "elementData" "[Ljava/lang/Object;" (.ref ed)) (ga : n0 ≤ a1) (la : a1 < h0.size) (S_D : Sta Z Z.heap "java/util/ArrayList" "DEFAULTCAPACITY_EMPTY_ELEMENTDATA" "[Ljava/lang/Object;" (.ref ed)) (V_D : Arv Z Z.heap ed kd (.object "java/lang/Object") (0 : Int32) [] .null) (O0 : Old Z n0 h0) :
    MetFree l (⟨"java/util/ArrayList", "grow", "(I)[Ljava/lang/Object;"⟩ : MethodName) (head1 (Jvm.Cond.code (⟨"java/util/ArrayList", "grow", "(I)[Ljava/lang/Object;"⟩ : MethodName) jdk_38_method_6_code 4 (some (.array (.object "java/lang/Object"))) :: ws) ({ frames := 1, cells := 1, slots := 10, locals := 14 } : Room)) (fun a U => a = #[(.ref a1), (.int (1 : Int32))] ∧ Z.Warmed39 U.vm ∧ U.heap = h0) (fun _ _ _ _ _ => True) (fun _ U o U' => ∃ v L, o = .returned v ∧ Q_rmGr1 Z a1 ed kd m_ h0 n0 v U'.heap L ∧ FrameEnd U o U' L ({ frames := 1, cells := 1, slots := 10, locals := 14 } : Room).cells ({ frames := 1, cells := 1, slots := 10, locals := 14 } : Room).slots) := by
  have hw_78 := hw _ (List.mem_of_getElem? (i := 78) rfl)
  have hw_97 := hw _ (List.mem_of_getElem? (i := 97) rfl)
  have hw_98 := hw _ (List.mem_of_getElem? (i := 98) rfl)
  have hw_99 := hw _ (List.mem_of_getElem? (i := 99) rfl)
  have hw_100 := hw _ (List.mem_of_getElem? (i := 100) rfl)
  have hw_113 := hw _ (List.mem_of_getElem? (i := 113) rfl)
  have hw_129 := hw _ (List.mem_of_getElem? (i := 129) rfl)
  have hw_130 := hw _ (List.mem_of_getElem? (i := 130) rfl)
  have hw_131 := hw _ (List.mem_of_getElem? (i := 131) rfl)
  have hw_132 := hw _ (List.mem_of_getElem? (i := 132) rfl)
  have hw_133 := hw _ (List.mem_of_getElem? (i := 133) rfl)
  have hw_134 := hw _ (List.mem_of_getElem? (i := 134) rfl)
  refine MetFree.of_bodySF (plainFor_of_name pn_ArrayList) hisR ?_
  intro p e s m args below meth c s₁ Bd hml0 hP hK
  obtain ⟨rfl, hZ, hh⟩ := hP
  have hx := Bd.exec
  have hby := Bd.bytes
  have hml : c.maxLocals = 4 := hml0
  have hown : s.vm.findClass "java/util/ArrayList" = some m.cls := findClass_of_methodNamed Bd.named
  have hnm := (name_of_methodNamed Bd.named Bd.method).1
  have X0 : Stand p l e ({ frames := 1, cells := 1, slots := 10, locals := 14 } : Room) s m #[(.ref a1), (.int (1 : Int32))] below meth c s₁ [] 0 0 := Stand.of_body Bd
  have e0 : s₁.heap = h0 := by rw [← hh, Bd.state]; rfl
  have N0 := Fr.nil n0
  have pre0 : ∀ t_, Steps p.tables e below (s₁.setTop (mkF m 0 #[.val (.ref a1), .val (.int (1 : Int32)), .unset, .unset] [])) t_ → Steps p.tables e below (s₁.setTop (entryFrame m #[(.ref a1), (.int (1 : Int32))] 4)) t_ := fun t_ k_ => castTop (ef_13 m a1 (1 : Int32)) k_
  have K0 : Keep h0 h0 [a1] := Keep.refl h0 _
  obtain ⟨T1, X1, e1, st1⟩ := getF X0 hx hZ hown (host := "") (Or.inl hw_99) Via.refl e0 Fe (g := (mkF m 1 #[.val (.ref a1), .val (.int (1 : Int32)), .unset, .unset] [(.ref a1)])) rfl rfl (hb hby d13_1)
  obtain ⟨cl2, Ar2, q2, S2, M2, H2, G2⟩ := (V_D.ext O0.2)
  have f3 : Arv Z h0 ed kd (.object "java/lang/Object") (0 : Int32) [] .null := ⟨cl2, Ar2, q2, S2, M2, H2, G2⟩
  obtain ⟨T4, X4, e4, st4⟩ := getF X1 hx hZ hown (host := "") (Or.inl hw_99) Via.refl e1 Fe (g := (mkF m 11 #[.val (.ref a1), .val (.int (1 : Int32)), .val (.int (0 : Int32)), .unset] [(.ref a1)])) rfl rfl (hb hby d13_11)
  obtain ⟨T5, X5, e5, st5⟩ := getS2 X4 hx hZ hown (host := "") (Or.inl hw_98) Via.refl e4 (S_D.ext O0.2) (g := (mkF m 14 #[.val (.ref a1), .val (.int (1 : Int32)), .val (.int (0 : Int32)), .unset] [(.ref ed)])) rfl (hb hby d13_14)
  obtain ⟨_, _, ⟨T6, L6, k6, n6⟩, -, X6, ⟨Lc6, hQ6, l6, y6, z6⟩, st6⟩ := Jvm.LawKit.callS X5 hx (y := (⟨"java/lang/Math", "max", "(II)I"⟩ : MethodName)) hown (mvT hZ hw_129) (mvT hZ hw_130) (mvT hZ hw_131) (mvT hZ hw_132) (by decide) (backOf (W := 1) (rmMax l Z a0 hw [] h0 n0 Z0) hZ hw_132 hw_131 (by decide) (by decide)) (g := (mkF m 49 #[.val (.ref a1), .val (.int (1 : Int32)), .val (.int (0 : Int32)), .unset] [(.int (1 : Int32)), (.int (10 : Int32)), (.ref a1)])) rfl (by rw [hml]; rfl) (argsL := [(.int (10 : Int32)), (.int (1 : Int32))]) (rest := [(.ref a1)]) (lenOf pd_4 rfl) rfl (by show 2 * 0 + _ ≤ _; exact Nat.le_of_eq rfl) (hb hby d13_49) (fun _ _ => ⟨rfl, e5, (by decide : 0 + 0 ≤ _), (by decide : 0 + 0 ≤ _)⟩)
  dsimp only [Pt.U, Pt.locs, Pt.cells, Pt.slots] at X6 l6 y6 z6 st6 hQ6
  subst l6 y6 z6
  obtain ⟨rfl, N6q, e6⟩ := hQ6
  have N6 := Fr.app N0 N6q
  obtain ⟨T7, h7, k7, X7, e7, E7, A7, Ov7, st7⟩ := newR X6 hx hZ hown hw_133 hw_134 e6 (g := (mkF m 52 #[.val (.ref a1), .val (.int (1 : Int32)), .val (.int (0 : Int32)), .unset] [(.int (10 : Int32)), (.ref a1)])) rfl (hb hby d13_52) rfl (by decide) (cap := 10) (by decide) (by decide) (by decide) (by decide)
  obtain ⟨b7, g7⟩ : ∃ z, z = h0.size := ⟨_, rfl⟩
  rw [← g7] at A7 st7
  have lt7 : b7 < h7.size := A7.lt
  have V7 : Arv Z h7 b7 k7 (.object "java/lang/Object") (10 : Int32) [.null, .null, .null, .null, .null, .null, .null, .null, .null, .null] .null := (Arv.new A7 (by decide)).pad (pad_rep [] .null 10)
  have sz7 : h0.size ≤ h7.size := E7.1
  have Z7 : n0 ≤ h7.size := Nat.le_trans Z0 sz7
  have K7 : Keep h0 h7 [a1] := K0.ext E7
  have O7 : Old Z n0 h7 := O0.ext E7
  have f8 := (Fe.ext E7)
  have f9 := (E1.ext E7)
  obtain ⟨T10, h10, X10, e10, W10, st10⟩ := putF X7 hx hZ hown (host := "") (Or.inl hw_99) Via.refl e7 f8 f9 (Or.inl hw_100) hw_78 (ty := (.array (.object "java/lang/Object"))) (by decide) rfl rfl (g := (mkF m 56 #[.val (.ref a1), .val (.int (1 : Int32)), .val (.int (0 : Int32)), .unset] [(.ref b7), (.ref a1), (.ref b7)])) rfl rfl (hb hby d13_56)
  have Fw10 := f8.same W10
  have N10 := Fr.snoc X10 N6 (show n0 ≤ a1 by omega)
  have sz10 : h7.size ≤ h10.size := Nat.le_of_eq W10.size.symm
  have Z10 : n0 ≤ h10.size := Nat.le_trans Z7 sz10
  have K10 : Keep h0 h10 [a1] := K7.wr W10 (Or.inl (by simp))
  have O10 : Old Z n0 h10 := O7.wr W10 (by omega)
  have go11 : ∀ t_, Steps p.tables e below (T10.setTop (mkF m 59 #[.val (.ref a1), .val (.int (1 : Int32)), .val (.int (0 : Int32)), .unset] [(.ref b7)])) t_ → Steps p.tables e below (s₁.setTop (entryFrame m #[(.ref a1), (.int (1 : Int32))] 4)) t_ := by
    intro t_ k_
    refine pre0 t_ ?_
    show Steps p.tables e below (s₁.setTop (mkF m 0 #[.val (.ref a1), .val (.int (1 : Int32)), .unset, .unset] [])) _
    refine XS.aloadN X0.here hx rfl (hb hby d13_0) rfl rfl ?_
    show Steps p.tables e below (s₁.setTop (mkF m 1 #[.val (.ref a1), .val (.int (1 : Int32)), .unset, .unset] [(.ref a1)])) _
    refine st1 _ ?_
    show Steps p.tables e below (T1.setTop (mkF m 4 #[.val (.ref a1), .val (.int (1 : Int32)), .unset, .unset] [(.ref ed)])) _
    refine X1.arraylength hx (by rw [e1]; exact Ar2.1) (State.isArrayOf_alike hZ.alike Ar2.2.1) (g := (mkF m 4 #[.val (.ref a1), .val (.int (1 : Int32)), .unset, .unset] [(.ref ed)])) rfl rfl (hb hby d13_4) _ ?_
    rw [len_of S2 M2]
    show Steps p.tables e below (T1.setTop (mkF m 5 #[.val (.ref a1), .val (.int (1 : Int32)), .unset, .unset] [(.int (0 : Int32))])) _
    refine XS.istoreN X1.here hx rfl (hb hby d13_5) rfl (l' := #[.val (.ref a1), .val (.int (1 : Int32)), .val (.int (0 : Int32)), .unset]) rfl ?_
    show Steps p.tables e below (T1.setTop (mkF m 6 #[.val (.ref a1), .val (.int (1 : Int32)), .val (.int (0 : Int32)), .unset] [])) _
    refine XS.iloadN X1.here hx rfl (hb hby d13_6) rfl ?_
    show Steps p.tables e below (T1.setTop (mkF m 7 #[.val (.ref a1), .val (.int (1 : Int32)), .val (.int (0 : Int32)), .unset] [(.int (0 : Int32))])) _
    refine XS.ifNo X1.here hx rfl (hb hby d13_7) rfl ((if0 _ _).trans (flt (by decide : ¬ ((0 : Int32) < (0 : Int32)))).2.2.1) ?_
    show Steps p.tables e below (T1.setTop (mkF m 10 #[.val (.ref a1), .val (.int (1 : Int32)), .val (.int (0 : Int32)), .unset] [])) _
    refine XS.aloadN X1.here hx rfl (hb hby d13_10) rfl rfl ?_
    show Steps p.tables e below (T1.setTop (mkF m 11 #[.val (.ref a1), .val (.int (1 : Int32)), .val (.int (0 : Int32)), .unset] [(.ref a1)])) _
    refine st4 _ ?_
    show Steps p.tables e below (T4.setTop (mkF m 14 #[.val (.ref a1), .val (.int (1 : Int32)), .val (.int (0 : Int32)), .unset] [(.ref ed)])) _
    refine st5 _ ?_
    show Steps p.tables e below (T5.setTop (mkF m 17 #[.val (.ref a1), .val (.int (1 : Int32)), .val (.int (0 : Int32)), .unset] [(.ref ed), (.ref ed)])) _
    refine Jvm.RoadKit.acmp (g := (mkF m 17 #[.val (.ref a1), .val (.int (1 : Int32)), .val (.int (0 : Int32)), .unset] [(.ref ed), (.ref ed)])) X5 hx rfl rfl rfl (pc0 := 17) (pc' := 45) (same := true) rfl (hb hby d13_17) rfl (decide_eq_true rfl) (by decide) (by decide) ?_
    show Steps p.tables e below (T5.setTop (mkF m 45 #[.val (.ref a1), .val (.int (1 : Int32)), .val (.int (0 : Int32)), .unset] [])) _
    refine XS.aloadN X5.here hx rfl (hb hby d13_45) rfl rfl ?_
    show Steps p.tables e below (T5.setTop (mkF m 46 #[.val (.ref a1), .val (.int (1 : Int32)), .val (.int (0 : Int32)), .unset] [(.ref a1)])) _
    refine XS.bipush X5.here hx rfl (hb hby d13_46) ?_
    show Steps p.tables e below (T5.setTop (mkF m 48 #[.val (.ref a1), .val (.int (1 : Int32)), .val (.int (0 : Int32)), .unset] [(.int (10 : Int32)), (.ref a1)])) _
    refine XS.iloadN X5.here hx rfl (hb hby d13_48) rfl ?_
    show Steps p.tables e below (T5.setTop (mkF m 49 #[.val (.ref a1), .val (.int (1 : Int32)), .val (.int (0 : Int32)), .unset] [(.int (1 : Int32)), (.int (10 : Int32)), (.ref a1)])) _
    refine st6 _ ?_
    show Steps p.tables e below (T6.setTop (mkF m 52 #[.val (.ref a1), .val (.int (1 : Int32)), .val (.int (0 : Int32)), .unset] [(.int (10 : Int32)), (.ref a1)])) _
    refine st7 _ ?_
    show Steps p.tables e below (T7.setTop (mkF m 55 #[.val (.ref a1), .val (.int (1 : Int32)), .val (.int (0 : Int32)), .unset] [(.ref b7), (.ref a1)])) _
    refine XS.dupX1 X7.here hx rfl (hb hby d13_55) rfl rfl rfl ?_
    show Steps p.tables e below (T7.setTop (mkF m 56 #[.val (.ref a1), .val (.int (1 : Int32)), .val (.int (0 : Int32)), .unset] [(.ref b7), (.ref a1), (.ref b7)])) _
    refine st10 _ ?_
    exact k_
  obtain ⟨fs, hr, hrun, hended, hW, hsame⟩ := X10.leave (v := some (.ref b7)) (fun h => by rw [Bd.returns] at h; cases h)
  have f12 := (f9.wr W10)
  have f13 := (Fm.ext E7)
  have f14 := (f13.other W10 (Or.inr (slot_ne (Or.inl hw_97) (Or.inl hw_100) (by decide) (t := .int) (t' := (.array (.object "java/lang/Object"))) (by decide) (by decide))))
  have f15 := (Fs.ext E7)
  have f16 := (f15.other W10 (Or.inr (slot_ne (Or.inl hw_113) (Or.inl hw_100) (by decide) (t := .int) (t' := (.array (.object "java/lang/Object"))) (by decide) (by decide))))
  have f17 := (V7.other W10 (show b7 ≠ a1 by omega))
  refine ⟨_, _, go11 _ ?_, hrun, hended, _, _, rfl, ?_, ⟨_, rfl⟩, hW, hsame.mono (by decide) (by decide)⟩
  · skip
    show Steps p.tables e below (T10.setTop (mkF m 59 #[.val (.ref a1), .val (.int (1 : Int32)), .val (.int (0 : Int32)), .unset] [(.ref b7)])) _
    jvm_step X10.here [X10.here.top, hx, (hb hby d13_59), X10.method', Bd.returns, Value.isRef, FieldType.isReference]
    first | (intro acts; rw [hr _ acts rfl rfl rfl]) | rw [hr _ _ rfl rfl rfl]
    exact Steps.refl _
  · show Q_rmGr1 Z a1 ed kd m_ h0 n0 _ T10.heap _
    rw [e10]
    exact ⟨b7, k7, rfl, N10, K10, by omega, by omega, f12, f14, f16, Fw10, Ov7, f17⟩
theorem ef_12 (m : MethodId) (x0 : Addr) : entryFrame m #[(.ref x0)] 1 = mkF m 0 #[.val (.ref x0)] [] := by first | (simp [entryFrame, mkF, argsToLocals, Value.category]; done) | rfl
theorem d12_0 : decode jdk_38_method_7_code 0 = .ok (.aload_n 0, 1) := by decide +kernel
theorem d12_1 : decode jdk_38_method_7_code 1 = .ok (.aload_n 0, 1) := by decide +kernel
theorem d12_2 : decode jdk_38_method_7_code 2 = .ok (.getfield 48, 3) := by decide +kernel
theorem d12_5 : decode jdk_38_method_7_code 5 = .ok (.iconst 1, 1) := by decide +kernel
theorem d12_6 : decode jdk_38_method_7_code 6 = .ok (.iadd, 1) := by decide +kernel
theorem d12_7 : decode jdk_38_method_7_code 7 = .ok (.invokevirtual 69, 3) := by decide +kernel
theorem pd_5 : parseMethodDescriptor "(I)[Ljava/lang/Object;" = some ⟨[.int], some (.array (.object "java/lang/Object"))⟩ := by decide +kernel
theorem d12_10 : decode jdk_38_method_7_code 10 = .ok (.areturn, 1) := by decide +kernel
def Q_rmGr0 (Z : State) (a1 : Nat) (ed : Nat) (kd : ClassId) (m_ : Int32) (h0 : Heap) (n0 : Nat) (v : Option Value) (h : Heap) (L : List Loc) : Prop := ∃ (b : Nat) (kb : ClassId), v = some (.ref b) ∧ Fr n0 L ∧ Keep h0 h [a1] ∧ h0.size ≤ b ∧ b < h.size ∧ Exa Z h a1 "java/util/ArrayList" ∧ Fld Z h a1 "java/util/AbstractList" "modCount" "I" (.int m_) ∧ Fld Z h a1 "java/util/ArrayList" "size" "I" (.int (0 : Int32)) ∧ Fld Z h a1 "java/util/ArrayList" "elementData" "[Ljava/lang/Object;" (.ref b) ∧ Ovr Z kb "java/lang/Object" ∧ Arv Z h b kb (.object "java/lang/Object") (10 : Int32) [.null, .null, .null, .null, .null, .null, .null, .null, .null, .null] .null
set_option maxRecDepth 65536 in
set_option maxHeartbeats 40000000 in
theorem rmGr0 (l : Launch) (Z : State) (a0 : Array Value) (hw : ∀ d ∈ tables_1, d.before a0 Z = true) (ws : List Jvm.Cond) (a1 : Nat) (ed : Nat) (kd : ClassId) (m_ : Int32) (h0 : Heap) (n0 : Nat) (Z0 : n0 ≤ h0.size) (E1 : Exa Z h0 a1 "java/util/ArrayList") (Fm : Fld Z h0 a1 "java/util/AbstractList" "modCount" "I" (.int m_)) (Fs : Fld Z h0 a1 "java/util/ArrayList" "size" "I" (.int (0 : Int32))) (Fe : Fld Z h0 a1 "java/util/ArrayList" "elementData" "[Ljava/lang/Object;" (.ref ed)) (ga : n0 ≤ a1) (la : a1 < h0.size) (S_D : Sta Z Z.heap "java/util/ArrayList" "DEFAULTCAPACITY_EMPTY_ELEMENTDATA" "[Ljava/lang/Object;" (.ref ed)) (V_D : Arv Z Z.heap ed kd (.object "java/lang/Object") (0 : Int32) [] .null) (O0 : Old Z n0 h0) :
    MetFree l (⟨"java/util/ArrayList", "grow", "()[Ljava/lang/Object;"⟩ : MethodName) (head1 (Jvm.Cond.code (⟨"java/util/ArrayList", "grow", "()[Ljava/lang/Object;"⟩ : MethodName) jdk_38_method_7_code 1 (some (.array (.object "java/lang/Object"))) :: ws) ({ frames := 2, cells := 1, slots := 10, locals := 29 } : Room)) (fun a U => a = #[(.ref a1)] ∧ Z.Warmed39 U.vm ∧ U.heap = h0) (fun _ _ _ _ _ => True) (fun _ U o U' => ∃ v L, o = .returned v ∧ Q_rmGr0 Z a1 ed kd m_ h0 n0 v U'.heap L ∧ FrameEnd U o U' L ({ frames := 2, cells := 1, slots := 10, locals := 29 } : Room).cells ({ frames := 2, cells := 1, slots := 10, locals := 29 } : Room).slots) := by
  have hw_79 := hw _ (List.mem_of_getElem? (i := 79) rfl)
  have hw_112 := hw _ (List.mem_of_getElem? (i := 112) rfl)
  have hw_124 := hw _ (List.mem_of_getElem? (i := 124) rfl)
  have hw_125 := hw _ (List.mem_of_getElem? (i := 125) rfl)
  have hw_126 := hw _ (List.mem_of_getElem? (i := 126) rfl)
  have hw_127 := hw _ (List.mem_of_getElem? (i := 127) rfl)
  have hw_128 := hw _ (List.mem_of_getElem? (i := 128) rfl)
  refine MetFree.of_bodySF (plainFor_of_name pn_ArrayList) hisR ?_
  intro p e s m args below meth c s₁ Bd hml0 hP hK
  obtain ⟨rfl, hZ, hh⟩ := hP
  have hx := Bd.exec
  have hby := Bd.bytes
  have hml : c.maxLocals = 1 := hml0
  have hown : s.vm.findClass "java/util/ArrayList" = some m.cls := findClass_of_methodNamed Bd.named
  have hnm := (name_of_methodNamed Bd.named Bd.method).1
  have X0 : Stand p l e ({ frames := 2, cells := 1, slots := 10, locals := 29 } : Room) s m #[(.ref a1)] below meth c s₁ [] 0 0 := Stand.of_body Bd
  have e0 : s₁.heap = h0 := by rw [← hh, Bd.state]; rfl
  have N0 := Fr.nil n0
  have pre0 : ∀ t_, Steps p.tables e below (s₁.setTop (mkF m 0 #[.val (.ref a1)] [])) t_ → Steps p.tables e below (s₁.setTop (entryFrame m #[(.ref a1)] 1)) t_ := fun t_ k_ => castTop (ef_12 m a1) k_
  have K0 : Keep h0 h0 [a1] := Keep.refl h0 _
  obtain ⟨T1, X1, e1, st1⟩ := getF X0 hx hZ hown (host := "") (Or.inl hw_112) Via.refl e0 Fs (g := (mkF m 2 #[.val (.ref a1)] [(.ref a1), (.ref a1)])) rfl rfl (hb hby d12_2)
  obtain ⟨cq2, q2, q2'⟩ := E1.cell
  obtain ⟨_, _, ⟨T2, L2, k2, n2⟩, -, X2, ⟨Lc2, hQ2, l2, y2, z2⟩, st2⟩ := X1.privateBack hx (y := (⟨"java/util/ArrayList", "grow", "(I)[Ljava/lang/Object;"⟩ : MethodName)) hown (mvT hZ hw_124) (mvT hZ hw_125) (mvT hZ hw_127) (Cond.privateMethod_at (mvP hZ hw_126 (args := #[]))) (mvT hZ hw_128) (by decide) (backOf (W := 0) (rmGr1 l Z a0 hw [] a1 ed kd m_ h0 n0 Z0 E1 Fm Fs Fe (by omega) (by omega) S_D V_D O0) hZ hw_128 hw_79 (by decide) (by decide)) (g := (mkF m 7 #[.val (.ref a1)] [(.int (1 : Int32)), (.ref a1)])) rfl (by rw [hml]; rfl) (Steps.refl _) (a := a1) (by rw [e1]; exact q2) q2' (argsL := [(.int (1 : Int32))]) (rest := []) (lenOf pd_5 rfl) rfl (by show 2 * 0 + _ ≤ _; exact Nat.le_of_eq rfl) (hb hby d12_7) (fun _ _ => ⟨rfl, e1, (by decide : 0 + 1 ≤ _), (by decide : 0 + 10 ≤ _)⟩)
  dsimp only [Pt.U, Pt.locs, Pt.cells, Pt.slots] at X2 l2 y2 z2 st2 hQ2
  subst l2 y2 z2
  obtain ⟨y2b, y2k, rfl, N2q, Kc2, lo2, hi2, Ec2, Fm2, Fs2, Fe2, Ov2, Vc2⟩ := hQ2
  have N2 := Fr.app N0 N2q
  have sz2 : h0.size ≤ T2.heap.size := Kc2.1
  have Z2 : n0 ≤ T2.heap.size := Nat.le_trans Z0 sz2
  have K2 : Keep h0 T2.heap [a1] := K0.trans Kc2 (allS (Or.inl (by simp)) all0)
  have O2 : Old Z n0 T2.heap := O0.keep Kc2 (allS (show n0 ≤ a1 by omega) all0)
  have go3 : ∀ t_, Steps p.tables e below (T2.setTop (mkF m 10 #[.val (.ref a1)] [(.ref y2b)])) t_ → Steps p.tables e below (s₁.setTop (entryFrame m #[(.ref a1)] 1)) t_ := by
    intro t_ k_
    refine pre0 t_ ?_
    show Steps p.tables e below (s₁.setTop (mkF m 0 #[.val (.ref a1)] [])) _
    refine XS.aloadN X0.here hx rfl (hb hby d12_0) rfl rfl ?_
    show Steps p.tables e below (s₁.setTop (mkF m 1 #[.val (.ref a1)] [(.ref a1)])) _
    refine XS.aloadN X0.here hx rfl (hb hby d12_1) rfl rfl ?_
    show Steps p.tables e below (s₁.setTop (mkF m 2 #[.val (.ref a1)] [(.ref a1), (.ref a1)])) _
    refine st1 _ ?_
    show Steps p.tables e below (T1.setTop (mkF m 5 #[.val (.ref a1)] [(.int (0 : Int32)), (.ref a1)])) _
    refine XS.iconst X1.here hx rfl (hb hby d12_5) ?_
    show Steps p.tables e below (T1.setTop (mkF m 6 #[.val (.ref a1)] [(.int (1 : Int32)), (.int (0 : Int32)), (.ref a1)])) _
    refine XS.iadd X1.here hx rfl (hb hby d12_6) rfl ?_
    show Steps p.tables e below (T1.setTop (mkF m 7 #[.val (.ref a1)] [(.int (1 : Int32)), (.ref a1)])) _
    refine st2.trans ?_
    exact k_
  obtain ⟨fs, hr, hrun, hended, hW, hsame⟩ := X2.leave (v := some (.ref y2b)) (fun h => by rw [Bd.returns] at h; cases h)
  refine ⟨_, _, go3 _ ?_, hrun, hended, _, _, rfl, ?_, ⟨_, rfl⟩, hW, hsame.mono (by decide) (by decide)⟩
  · skip
    show Steps p.tables e below (T2.setTop (mkF m 10 #[.val (.ref a1)] [(.ref y2b)])) _
    jvm_step X2.here [X2.here.top, hx, (hb hby d12_10), X2.method', Bd.returns, Value.isRef, FieldType.isReference]
    first | (intro acts; rw [hr _ acts rfl rfl rfl]) | rw [hr _ _ rfl rfl rfl]
    exact Steps.refl _
  · show Q_rmGr0 Z a1 ed kd m_ h0 n0 _ T2.heap _
    exact ⟨y2b, y2k, rfl, N2, K2, by omega, by omega, Ec2, Fm2, Fs2, Fe2, Ov2, Vc2⟩
theorem ef_11 (m : MethodId) (x0 : Addr) (x1 : Addr) (x2 : Addr) (x3 : Int32) : entryFrame m #[(.ref x0), (.ref x1), (.ref x2), (.int x3)] 4 = mkF m 0 #[.val (.ref x0), .val (.ref x1), .val (.ref x2), .val (.int x3)] [] := by first | (simp [entryFrame, mkF, argsToLocals, Value.category]; done) | rfl
theorem d11_0 : decode jdk_38_method_24_code 0 = .ok (.iload_n 3, 1) := by decide +kernel
theorem d11_1 : decode jdk_38_method_24_code 1 = .ok (.aload_n 2, 1) := by decide +kernel
theorem d11_2 : decode jdk_38_method_24_code 2 = .ok (.arraylength, 1) := by decide +kernel
theorem d11_3 : decode jdk_38_method_24_code 3 = .ok (.if_icmp .ne 8, 3) := by decide +kernel
theorem d11_6 : decode jdk_38_method_24_code 6 = .ok (.aload_n 0, 1) := by decide +kernel
theorem d11_7 : decode jdk_38_method_24_code 7 = .ok (.invokevirtual 129, 3) := by decide +kernel
theorem pd_6 : parseMethodDescriptor "()[Ljava/lang/Object;" = some ⟨[], some (.array (.object "java/lang/Object"))⟩ := by decide +kernel
theorem d11_10 : decode jdk_38_method_24_code 10 = .ok (.astore_n 2, 1) := by decide +kernel
theorem d11_11 : decode jdk_38_method_24_code 11 = .ok (.aload_n 2, 1) := by decide +kernel
theorem d11_12 : decode jdk_38_method_24_code 12 = .ok (.iload_n 3, 1) := by decide +kernel
theorem d11_13 : decode jdk_38_method_24_code 13 = .ok (.aload_n 1, 1) := by decide +kernel
theorem d11_14 : decode jdk_38_method_24_code 14 = .ok (.aastore, 1) := by decide +kernel
theorem d11_15 : decode jdk_38_method_24_code 15 = .ok (.aload_n 0, 1) := by decide +kernel
theorem d11_16 : decode jdk_38_method_24_code 16 = .ok (.iload_n 3, 1) := by decide +kernel
theorem d11_17 : decode jdk_38_method_24_code 17 = .ok (.iconst 1, 1) := by decide +kernel
theorem d11_18 : decode jdk_38_method_24_code 18 = .ok (.iadd, 1) := by decide +kernel
theorem d11_19 : decode jdk_38_method_24_code 19 = .ok (.putfield 48, 3) := by decide +kernel
theorem d11_22 : decode jdk_38_method_24_code 22 = .ok (.return_, 1) := by decide +kernel
def Q_rmAh0 (Z : State) (a1 : Nat) (a2 : Nat) (ed : Nat) (kd : ClassId) (m_ : Int32) (h0 : Heap) (n0 : Nat) (v : Option Value) (h : Heap) (L : List Loc) : Prop := ∃ (b : Nat) (kb : ClassId), v = none ∧ Fr n0 L ∧ Keep h0 h [a1] ∧ h0.size ≤ b ∧ b < h.size ∧ Exa Z h a1 "java/util/ArrayList" ∧ Fld Z h a1 "java/util/AbstractList" "modCount" "I" (.int m_) ∧ Fld Z h a1 "java/util/ArrayList" "size" "I" (.int (1 : Int32)) ∧ Fld Z h a1 "java/util/ArrayList" "elementData" "[Ljava/lang/Object;" (.ref b) ∧ Ovr Z kb "java/lang/Object" ∧ Arv Z h b kb (.object "java/lang/Object") (10 : Int32) [(.ref a2), .null, .null, .null, .null, .null, .null, .null, .null, .null] .null
set_option maxRecDepth 65536 in
set_option maxHeartbeats 40000000 in
theorem rmAh0 (l : Launch) (Z : State) (a0 : Array Value) (hw : ∀ d ∈ tables_1, d.before a0 Z = true) (ws : List Jvm.Cond) (a1 : Nat) (a2 : Nat) (ed : Nat) (kd : ClassId) (m_ : Int32) (h0 : Heap) (n0 : Nat) (Z0 : n0 ≤ h0.size) (E1 : Exa Z h0 a1 "java/util/ArrayList") (Fm : Fld Z h0 a1 "java/util/AbstractList" "modCount" "I" (.int m_)) (Fs : Fld Z h0 a1 "java/util/ArrayList" "size" "I" (.int (0 : Int32))) (Fe : Fld Z h0 a1 "java/util/ArrayList" "elementData" "[Ljava/lang/Object;" (.ref ed)) (ga : n0 ≤ a1) (la : a1 < h0.size) (S_D : Sta Z Z.heap "java/util/ArrayList" "DEFAULTCAPACITY_EMPTY_ELEMENTDATA" "[Ljava/lang/Object;" (.ref ed)) (V_D : Arv Z Z.heap ed kd (.object "java/lang/Object") (0 : Int32) [] .null) (E2 : Exa Z h0 a2 "com/example/maksu/maksu/catalog/Phase") (n12 : a1 ≠ a2) (O0 : Old Z n0 h0) :
    MetFree l (⟨"java/util/ArrayList", "add", "(Ljava/lang/Object;[Ljava/lang/Object;I)V"⟩ : MethodName) (head1 (Jvm.Cond.code (⟨"java/util/ArrayList", "add", "(Ljava/lang/Object;[Ljava/lang/Object;I)V"⟩ : MethodName) jdk_38_method_24_code 4 none :: ws) ({ frames := 3, cells := 1, slots := 10, locals := 41 } : Room)) (fun a U => a = #[(.ref a1), (.ref a2), (.ref ed), (.int (0 : Int32))] ∧ Z.Warmed39 U.vm ∧ U.heap = h0) (fun _ _ _ _ _ => True) (fun _ U o U' => ∃ v L, o = .returned v ∧ Q_rmAh0 Z a1 a2 ed kd m_ h0 n0 v U'.heap L ∧ FrameEnd U o U' L ({ frames := 3, cells := 1, slots := 10, locals := 41 } : Room).cells ({ frames := 3, cells := 1, slots := 10, locals := 41 } : Room).slots) := by
  have hw_78 := hw _ (List.mem_of_getElem? (i := 78) rfl)
  have hw_79 := hw _ (List.mem_of_getElem? (i := 79) rfl)
  have hw_97 := hw _ (List.mem_of_getElem? (i := 97) rfl)
  have hw_100 := hw _ (List.mem_of_getElem? (i := 100) rfl)
  have hw_112 := hw _ (List.mem_of_getElem? (i := 112) rfl)
  have hw_113 := hw _ (List.mem_of_getElem? (i := 113) rfl)
  have hw_119 := hw _ (List.mem_of_getElem? (i := 119) rfl)
  have hw_120 := hw _ (List.mem_of_getElem? (i := 120) rfl)
  have hw_121 := hw _ (List.mem_of_getElem? (i := 121) rfl)
  have hw_122 := hw _ (List.mem_of_getElem? (i := 122) rfl)
  have hw_123 := hw _ (List.mem_of_getElem? (i := 123) rfl)
  have hw_135 := hw _ (List.mem_of_getElem? (i := 135) rfl)
  refine MetFree.of_bodySF (plainFor_of_name pn_ArrayList) hisR ?_
  intro p e s m args below meth c s₁ Bd hml0 hP hK
  obtain ⟨rfl, hZ, hh⟩ := hP
  have hx := Bd.exec
  have hby := Bd.bytes
  have hml : c.maxLocals = 4 := hml0
  have hown : s.vm.findClass "java/util/ArrayList" = some m.cls := findClass_of_methodNamed Bd.named
  have hnm := (name_of_methodNamed Bd.named Bd.method).1
  have X0 : Stand p l e ({ frames := 3, cells := 1, slots := 10, locals := 41 } : Room) s m #[(.ref a1), (.ref a2), (.ref ed), (.int (0 : Int32))] below meth c s₁ [] 0 0 := Stand.of_body Bd
  have e0 : s₁.heap = h0 := by rw [← hh, Bd.state]; rfl
  have N0 := Fr.nil n0
  have pre0 : ∀ t_, Steps p.tables e below (s₁.setTop (mkF m 0 #[.val (.ref a1), .val (.ref a2), .val (.ref ed), .val (.int (0 : Int32))] [])) t_ → Steps p.tables e below (s₁.setTop (entryFrame m #[(.ref a1), (.ref a2), (.ref ed), (.int (0 : Int32))] 4)) t_ := fun t_ k_ => castTop (ef_11 m a1 a2 ed (0 : Int32)) k_
  have K0 : Keep h0 h0 [a1] := Keep.refl h0 _
  obtain ⟨cl1, Ar1, q1, S1, M1, H1, G1⟩ := (V_D.ext O0.2)
  have f2 : Arv Z h0 ed kd (.object "java/lang/Object") (0 : Int32) [] .null := ⟨cl1, Ar1, q1, S1, M1, H1, G1⟩
  obtain ⟨cq3, q3, q3'⟩ := E1.cell
  obtain ⟨_, _, ⟨T3, L3, k3, n3⟩, -, X3, ⟨Lc3, hQ3, l3, y3, z3⟩, st3⟩ := X0.privateBack hx (y := (⟨"java/util/ArrayList", "grow", "()[Ljava/lang/Object;"⟩ : MethodName)) hown (mvT hZ hw_119) (mvT hZ hw_120) (mvT hZ hw_122) (Cond.privateMethod_at (mvP hZ hw_121 (args := #[]))) (mvT hZ hw_123) (by decide) (backOf (W := 0) (rmGr0 l Z a0 hw [] a1 ed kd m_ h0 n0 Z0 E1 Fm Fs Fe (by omega) (by omega) S_D V_D O0) hZ hw_123 hw_79 (by decide) (by decide)) (g := (mkF m 7 #[.val (.ref a1), .val (.ref a2), .val (.ref ed), .val (.int (0 : Int32))] [(.ref a1)])) rfl (by rw [hml]; rfl) (Steps.refl _) (a := a1) (by rw [e0]; exact q3) q3' (argsL := []) (rest := []) (lenOf pd_6 rfl) rfl (by show 2 * 0 + _ ≤ _; exact Nat.le_of_eq rfl) (hb hby d11_7) (fun _ _ => ⟨rfl, e0, (by decide : 0 + 1 ≤ _), (by decide : 0 + 10 ≤ _)⟩)
  dsimp only [Pt.U, Pt.locs, Pt.cells, Pt.slots] at X3 l3 y3 z3 st3 hQ3
  subst l3 y3 z3
  obtain ⟨y3b, y3k, rfl, N3q, Kc3, lo3, hi3, Ec3, Fm3, Fs3, Fe3, Ov3, Vc3⟩ := hQ3
  have N3 := Fr.app N0 N3q
  have sz3 : h0.size ≤ T3.heap.size := Kc3.1
  have Z3 : n0 ≤ T3.heap.size := Nat.le_trans Z0 sz3
  have K3 : Keep h0 T3.heap [a1] := K0.trans Kc3 (allS (Or.inl (by simp)) all0)
  have O3 : Old Z n0 T3.heap := O0.keep Kc3 (allS (show n0 ≤ a1 by omega) all0)
  have f5 := (E2.keep Kc3)
  obtain ⟨cl4, Ar4, q4, S4, M4, H4, G4⟩ := Vc3
  have hin4 : ¬ ((0 : Int32) < 0 ∨ cl4.slots.size ≤ ((0 : Int32)).toNatClampNeg) := inb_of S4 ⟨by decide, by decide⟩
  obtain ⟨T6, h6, X6, e6, W6, st6⟩ := stR X3 hx hZ rfl Ar4 (j := (0 : Int32)) hin4 rfl (Sto.ofV Ar4 q4 Ov3 (Ins.of_exa f5 hw_135)) (g := (mkF m 14 #[.val (.ref a1), .val (.ref a2), .val (.ref y3b), .val (.int (0 : Int32))] [(.ref a2), (.int (0 : Int32)), (.ref y3b)])) rfl rfl (hb hby d11_14)
  have V6 : Arv Z h6 y3b y3k (.object "java/lang/Object") (10 : Int32) [(.ref a2), .null, .null, .null, .null, .null, .null, .null, .null, .null] .null := Arv.set Ar4 q4 S4 M4 H4 G4 rfl W6 0 rfl (Nat.le_of_ble_eq_true rfl)
  have N6 := Fr.snoc X6 N3 (show n0 ≤ y3b by omega)
  have sz6 : T3.heap.size ≤ h6.size := Nat.le_of_eq W6.size.symm
  have Z6 : n0 ≤ h6.size := Nat.le_trans Z3 sz6
  have K6 : Keep h0 h6 [a1] := K3.wr W6 (Or.inr (by omega))
  have O6 : Old Z n0 h6 := O3.wr W6 (by omega)
  have f7 := (Fs3.other W6 (Or.inl (show a1 ≠ y3b by omega)))
  have f8 := (Ec3.wr W6)
  obtain ⟨T9, h9, X9, e9, W9, st9⟩ := putF X6 hx hZ hown (host := "") (Or.inl hw_112) Via.refl e6 f7 f8 (Or.inl hw_113) hw_78 (ty := .int) (by decide) rfl rfl (g := (mkF m 19 #[.val (.ref a1), .val (.ref a2), .val (.ref y3b), .val (.int (0 : Int32))] [(.int (1 : Int32)), (.ref a1)])) rfl rfl (hb hby d11_19)
  have Fw9 := f7.same W9
  have N9 := Fr.snoc X9 N6 (show n0 ≤ a1 by omega)
  have sz9 : h6.size ≤ h9.size := Nat.le_of_eq W9.size.symm
  have Z9 : n0 ≤ h9.size := Nat.le_trans Z6 sz9
  have K9 : Keep h0 h9 [a1] := K6.wr W9 (Or.inl (by simp))
  have O9 : Old Z n0 h9 := O6.wr W9 (by omega)
  have go10 : ∀ t_, Steps p.tables e below (T9.setTop (mkF m 22 #[.val (.ref a1), .val (.ref a2), .val (.ref y3b), .val (.int (0 : Int32))] [])) t_ → Steps p.tables e below (s₁.setTop (entryFrame m #[(.ref a1), (.ref a2), (.ref ed), (.int (0 : Int32))] 4)) t_ := by
    intro t_ k_
    refine pre0 t_ ?_
    show Steps p.tables e below (s₁.setTop (mkF m 0 #[.val (.ref a1), .val (.ref a2), .val (.ref ed), .val (.int (0 : Int32))] [])) _
    refine XS.iloadN X0.here hx rfl (hb hby d11_0) rfl ?_
    show Steps p.tables e below (s₁.setTop (mkF m 1 #[.val (.ref a1), .val (.ref a2), .val (.ref ed), .val (.int (0 : Int32))] [(.int (0 : Int32))])) _
    refine XS.aloadN X0.here hx rfl (hb hby d11_1) rfl rfl ?_
    show Steps p.tables e below (s₁.setTop (mkF m 2 #[.val (.ref a1), .val (.ref a2), .val (.ref ed), .val (.int (0 : Int32))] [(.ref ed), (.int (0 : Int32))])) _
    refine X0.arraylength hx (by rw [e0]; exact Ar1.1) (State.isArrayOf_alike hZ.alike Ar1.2.1) (g := (mkF m 2 #[.val (.ref a1), .val (.ref a2), .val (.ref ed), .val (.int (0 : Int32))] [(.ref ed), (.int (0 : Int32))])) rfl rfl (hb hby d11_2) _ ?_
    rw [len_of S1 M1]
    show Steps p.tables e below (s₁.setTop (mkF m 3 #[.val (.ref a1), .val (.ref a2), .val (.ref ed), .val (.int (0 : Int32))] [(.int (0 : Int32)), (.int (0 : Int32))])) _
    refine XS.icmpNo X0.here hx rfl (hb hby d11_3) rfl (teq (by decide : (0 : Int32) = (0 : Int32))).2 ?_
    show Steps p.tables e below (s₁.setTop (mkF m 6 #[.val (.ref a1), .val (.ref a2), .val (.ref ed), .val (.int (0 : Int32))] [])) _
    refine XS.aloadN X0.here hx rfl (hb hby d11_6) rfl rfl ?_
    show Steps p.tables e below (s₁.setTop (mkF m 7 #[.val (.ref a1), .val (.ref a2), .val (.ref ed), .val (.int (0 : Int32))] [(.ref a1)])) _
    refine st3.trans ?_
    show Steps p.tables e below (T3.setTop (mkF m 10 #[.val (.ref a1), .val (.ref a2), .val (.ref ed), .val (.int (0 : Int32))] [(.ref y3b)])) _
    refine XS.astoreN X3.here hx rfl (hb hby d11_10) rfl rfl (l' := #[.val (.ref a1), .val (.ref a2), .val (.ref y3b), .val (.int (0 : Int32))]) rfl ?_
    show Steps p.tables e below (T3.setTop (mkF m 11 #[.val (.ref a1), .val (.ref a2), .val (.ref y3b), .val (.int (0 : Int32))] [])) _
    refine XS.aloadN X3.here hx rfl (hb hby d11_11) rfl rfl ?_
    show Steps p.tables e below (T3.setTop (mkF m 12 #[.val (.ref a1), .val (.ref a2), .val (.ref y3b), .val (.int (0 : Int32))] [(.ref y3b)])) _
    refine XS.iloadN X3.here hx rfl (hb hby d11_12) rfl ?_
    show Steps p.tables e below (T3.setTop (mkF m 13 #[.val (.ref a1), .val (.ref a2), .val (.ref y3b), .val (.int (0 : Int32))] [(.int (0 : Int32)), (.ref y3b)])) _
    refine XS.aloadN X3.here hx rfl (hb hby d11_13) rfl rfl ?_
    show Steps p.tables e below (T3.setTop (mkF m 14 #[.val (.ref a1), .val (.ref a2), .val (.ref y3b), .val (.int (0 : Int32))] [(.ref a2), (.int (0 : Int32)), (.ref y3b)])) _
    refine st6 _ ?_
    show Steps p.tables e below (T6.setTop (mkF m 15 #[.val (.ref a1), .val (.ref a2), .val (.ref y3b), .val (.int (0 : Int32))] [])) _
    refine XS.aloadN X6.here hx rfl (hb hby d11_15) rfl rfl ?_
    show Steps p.tables e below (T6.setTop (mkF m 16 #[.val (.ref a1), .val (.ref a2), .val (.ref y3b), .val (.int (0 : Int32))] [(.ref a1)])) _
    refine XS.iloadN X6.here hx rfl (hb hby d11_16) rfl ?_
    show Steps p.tables e below (T6.setTop (mkF m 17 #[.val (.ref a1), .val (.ref a2), .val (.ref y3b), .val (.int (0 : Int32))] [(.int (0 : Int32)), (.ref a1)])) _
    refine XS.iconst X6.here hx rfl (hb hby d11_17) ?_
    show Steps p.tables e below (T6.setTop (mkF m 18 #[.val (.ref a1), .val (.ref a2), .val (.ref y3b), .val (.int (0 : Int32))] [(.int (1 : Int32)), (.int (0 : Int32)), (.ref a1)])) _
    refine XS.iadd X6.here hx rfl (hb hby d11_18) rfl ?_
    show Steps p.tables e below (T6.setTop (mkF m 19 #[.val (.ref a1), .val (.ref a2), .val (.ref y3b), .val (.int (0 : Int32))] [(.int (1 : Int32)), (.ref a1)])) _
    refine st9 _ ?_
    exact k_
  obtain ⟨fs, hr, hrun, hended, hW, hsame⟩ := X9.leave (v := none) (fun _ => rfl)
  have f11 := (f8.wr W9)
  have f12 := (Fm3.other W6 (Or.inl (show a1 ≠ y3b by omega)))
  have f13 := (f12.other W9 (Or.inr (slot_ne (Or.inl hw_97) (Or.inl hw_113) (by decide) (t := .int) (t' := .int) (by decide) (by decide))))
  have f14 := (Fe3.other W6 (Or.inl (show a1 ≠ y3b by omega)))
  have f15 := (f14.other W9 (Or.inr (slot_ne (Or.inl hw_100) (Or.inl hw_113) (by decide) (t := (.array (.object "java/lang/Object"))) (t' := .int) (by decide) (by decide))))
  have f16 := (V6.other W9 (show y3b ≠ a1 by omega))
  refine ⟨_, _, go10 _ ?_, hrun, hended, _, _, rfl, ?_, ⟨_, rfl⟩, hW, hsame.mono (by decide) (by decide)⟩
  · skip
    show Steps p.tables e below (T9.setTop (mkF m 22 #[.val (.ref a1), .val (.ref a2), .val (.ref y3b), .val (.int (0 : Int32))] [])) _
    exact X9.returnOut hx Bd.returns (hb hby d11_22) hr
  · show Q_rmAh0 Z a1 a2 ed kd m_ h0 n0 _ T9.heap _
    rw [e9]
    exact ⟨y3b, y3k, rfl, N9, K9, by omega, by omega, f11, f13, Fw9, f15, Ov3, f16⟩
theorem ef_10 (m : MethodId) (x0 : Addr) (x1 : Addr) : entryFrame m #[(.ref x0), (.ref x1)] 2 = mkF m 0 #[.val (.ref x0), .val (.ref x1)] [] := by first | (simp [entryFrame, mkF, argsToLocals, Value.category]; done) | rfl
theorem d10_0 : decode jdk_38_method_25_code 0 = .ok (.aload_n 0, 1) := by decide +kernel
theorem d10_1 : decode jdk_38_method_25_code 1 = .ok (.dup, 1) := by decide +kernel
theorem d10_2 : decode jdk_38_method_25_code 2 = .ok (.getfield 63, 3) := by decide +kernel
theorem d10_5 : decode jdk_38_method_25_code 5 = .ok (.iconst 1, 1) := by decide +kernel
theorem d10_6 : decode jdk_38_method_25_code 6 = .ok (.iadd, 1) := by decide +kernel
theorem d10_7 : decode jdk_38_method_25_code 7 = .ok (.putfield 63, 3) := by decide +kernel
theorem d10_10 : decode jdk_38_method_25_code 10 = .ok (.aload_n 0, 1) := by decide +kernel
theorem d10_11 : decode jdk_38_method_25_code 11 = .ok (.aload_n 1, 1) := by decide +kernel
theorem d10_12 : decode jdk_38_method_25_code 12 = .ok (.aload_n 0, 1) := by decide +kernel
theorem d10_13 : decode jdk_38_method_25_code 13 = .ok (.getfield 9, 3) := by decide +kernel
theorem d10_16 : decode jdk_38_method_25_code 16 = .ok (.aload_n 0, 1) := by decide +kernel
theorem d10_17 : decode jdk_38_method_25_code 17 = .ok (.getfield 48, 3) := by decide +kernel
theorem d10_20 : decode jdk_38_method_25_code 20 = .ok (.invokevirtual 131, 3) := by decide +kernel
theorem pd_7 : parseMethodDescriptor "(Ljava/lang/Object;[Ljava/lang/Object;I)V" = some ⟨[(.object "java/lang/Object"), (.array (.object "java/lang/Object")), .int], none⟩ := by decide +kernel
theorem d10_23 : decode jdk_38_method_25_code 23 = .ok (.iconst 1, 1) := by decide +kernel
theorem d10_24 : decode jdk_38_method_25_code 24 = .ok (.ireturn, 1) := by decide +kernel
def Q_rmAd0 (Z : State) (a1 : Nat) (a2 : Nat) (ed : Nat) (kd : ClassId) (m_ : Int32) (h0 : Heap) (n0 : Nat) (v : Option Value) (h : Heap) (L : List Loc) : Prop := ∃ (b : Nat) (kb : ClassId), v = some (.int (1 : Int32)) ∧ Fr n0 L ∧ Keep h0 h [a1] ∧ h0.size ≤ b ∧ b < h.size ∧ Exa Z h a1 "java/util/ArrayList" ∧ Fld Z h a1 "java/util/AbstractList" "modCount" "I" (.int (m_ + (1 : Int32))) ∧ Fld Z h a1 "java/util/ArrayList" "size" "I" (.int (1 : Int32)) ∧ Fld Z h a1 "java/util/ArrayList" "elementData" "[Ljava/lang/Object;" (.ref b) ∧ Ovr Z kb "java/lang/Object" ∧ Arv Z h b kb (.object "java/lang/Object") (10 : Int32) [(.ref a2), .null, .null, .null, .null, .null, .null, .null, .null, .null] .null
set_option maxRecDepth 65536 in
set_option maxHeartbeats 40000000 in
theorem rmAd0 (l : Launch) (Z : State) (a0 : Array Value) (hw : ∀ d ∈ tables_1, d.before a0 Z = true) (ws : List Jvm.Cond) (a1 : Nat) (a2 : Nat) (ed : Nat) (kd : ClassId) (m_ : Int32) (h0 : Heap) (n0 : Nat) (Z0 : n0 ≤ h0.size) (E1 : Exa Z h0 a1 "java/util/ArrayList") (Fm : Fld Z h0 a1 "java/util/AbstractList" "modCount" "I" (.int m_)) (Fs : Fld Z h0 a1 "java/util/ArrayList" "size" "I" (.int (0 : Int32))) (Fe : Fld Z h0 a1 "java/util/ArrayList" "elementData" "[Ljava/lang/Object;" (.ref ed)) (ga : n0 ≤ a1) (la : a1 < h0.size) (S_D : Sta Z Z.heap "java/util/ArrayList" "DEFAULTCAPACITY_EMPTY_ELEMENTDATA" "[Ljava/lang/Object;" (.ref ed)) (V_D : Arv Z Z.heap ed kd (.object "java/lang/Object") (0 : Int32) [] .null) (E2 : Exa Z h0 a2 "com/example/maksu/maksu/catalog/Phase") (n12 : a1 ≠ a2) (O0 : Old Z n0 h0) :
    MetFree l (⟨"java/util/ArrayList", "add", "(Ljava/lang/Object;)Z"⟩ : MethodName) (head1 (Jvm.Cond.code (⟨"java/util/ArrayList", "add", "(Ljava/lang/Object;)Z"⟩ : MethodName) jdk_38_method_25_code 2 (some .boolean) :: ws) ({ frames := 4, cells := 1, slots := 10, locals := 56 } : Room)) (fun a U => a = #[(.ref a1), (.ref a2)] ∧ Z.Warmed39 U.vm ∧ U.heap = h0) (fun _ _ _ _ _ => True) (fun _ U o U' => ∃ v L, o = .returned v ∧ Q_rmAd0 Z a1 a2 ed kd m_ h0 n0 v U'.heap L ∧ FrameEnd U o U' L ({ frames := 4, cells := 1, slots := 10, locals := 56 } : Room).cells ({ frames := 4, cells := 1, slots := 10, locals := 56 } : Room).slots) := by
  have hw_78 := hw _ (List.mem_of_getElem? (i := 78) rfl)
  have hw_79 := hw _ (List.mem_of_getElem? (i := 79) rfl)
  have hw_97 := hw _ (List.mem_of_getElem? (i := 97) rfl)
  have hw_99 := hw _ (List.mem_of_getElem? (i := 99) rfl)
  have hw_100 := hw _ (List.mem_of_getElem? (i := 100) rfl)
  have hw_110 := hw _ (List.mem_of_getElem? (i := 110) rfl)
  have hw_111 := hw _ (List.mem_of_getElem? (i := 111) rfl)
  have hw_112 := hw _ (List.mem_of_getElem? (i := 112) rfl)
  have hw_113 := hw _ (List.mem_of_getElem? (i := 113) rfl)
  have hw_114 := hw _ (List.mem_of_getElem? (i := 114) rfl)
  have hw_115 := hw _ (List.mem_of_getElem? (i := 115) rfl)
  have hw_116 := hw _ (List.mem_of_getElem? (i := 116) rfl)
  have hw_117 := hw _ (List.mem_of_getElem? (i := 117) rfl)
  have hw_118 := hw _ (List.mem_of_getElem? (i := 118) rfl)
  refine MetFree.of_bodySF (plainFor_of_name pn_ArrayList) hisR ?_
  intro p e s m args below meth c s₁ Bd hml0 hP hK
  obtain ⟨rfl, hZ, hh⟩ := hP
  have hx := Bd.exec
  have hby := Bd.bytes
  have hml : c.maxLocals = 2 := hml0
  have hown : s.vm.findClass "java/util/ArrayList" = some m.cls := findClass_of_methodNamed Bd.named
  have hnm := (name_of_methodNamed Bd.named Bd.method).1
  have X0 : Stand p l e ({ frames := 4, cells := 1, slots := 10, locals := 56 } : Room) s m #[(.ref a1), (.ref a2)] below meth c s₁ [] 0 0 := Stand.of_body Bd
  have e0 : s₁.heap = h0 := by rw [← hh, Bd.state]; rfl
  have N0 := Fr.nil n0
  have pre0 : ∀ t_, Steps p.tables e below (s₁.setTop (mkF m 0 #[.val (.ref a1), .val (.ref a2)] [])) t_ → Steps p.tables e below (s₁.setTop (entryFrame m #[(.ref a1), (.ref a2)] 2)) t_ := fun t_ k_ => castTop (ef_10 m a1 a2) k_
  have K0 : Keep h0 h0 [a1] := Keep.refl h0 _
  obtain ⟨T1, X1, e1, st1⟩ := getF X0 hx hZ hown (host := "") (Or.inl hw_110) (Via.of hw_111) e0 Fm (g := (mkF m 2 #[.val (.ref a1), .val (.ref a2)] [(.ref a1), (.ref a1)])) rfl rfl (hb hby d10_2)
  obtain ⟨T2, h2, X2, e2, W2, st2⟩ := putF X1 hx hZ hown (host := "") (Or.inl hw_110) (Via.of hw_111) e1 Fm E1 (Or.inl hw_97) hw_78 (ty := .int) (by decide) rfl rfl (g := (mkF m 7 #[.val (.ref a1), .val (.ref a2)] [(.int (m_ + (1 : Int32))), (.ref a1)])) rfl rfl (hb hby d10_7)
  have Fw2 := Fm.same W2
  have N2 := Fr.snoc X2 N0 (show n0 ≤ a1 by omega)
  have sz2 : h0.size ≤ h2.size := Nat.le_of_eq W2.size.symm
  have Z2 : n0 ≤ h2.size := Nat.le_trans Z0 sz2
  have K2 : Keep h0 h2 [a1] := K0.wr W2 (Or.inl (by simp))
  have O2 : Old Z n0 h2 := O0.wr W2 (by omega)
  have f3 := (Fe.other W2 (Or.inr (slot_ne (Or.inl hw_100) (Or.inl hw_97) (by decide) (t := (.array (.object "java/lang/Object"))) (t' := .int) (by decide) (by decide))))
  obtain ⟨T4, X4, e4, st4⟩ := getF X2 hx hZ hown (host := "") (Or.inl hw_99) Via.refl e2 f3 (g := (mkF m 13 #[.val (.ref a1), .val (.ref a2)] [(.ref a1), (.ref a2), (.ref a1)])) rfl rfl (hb hby d10_13)
  have f5 := (Fs.other W2 (Or.inr (slot_ne (Or.inl hw_113) (Or.inl hw_97) (by decide) (t := .int) (t' := .int) (by decide) (by decide))))
  obtain ⟨T6, X6, e6, st6⟩ := getF X4 hx hZ hown (host := "") (Or.inl hw_112) Via.refl e4 f5 (g := (mkF m 17 #[.val (.ref a1), .val (.ref a2)] [(.ref a1), (.ref ed), (.ref a2), (.ref a1)])) rfl rfl (hb hby d10_17)
  have f8 := (E1.wr W2)
  have f9 := (E2.wr W2)
  obtain ⟨cq7, q7, q7'⟩ := f8.cell
  obtain ⟨_, _, ⟨T7, L7, k7, n7⟩, -, X7, ⟨Lc7, hQ7, l7, y7, z7⟩, st7⟩ := X6.privateBack hx (y := (⟨"java/util/ArrayList", "add", "(Ljava/lang/Object;[Ljava/lang/Object;I)V"⟩ : MethodName)) hown (mvT hZ hw_114) (mvT hZ hw_115) (mvT hZ hw_117) (Cond.privateMethod_at (mvP hZ hw_116 (args := #[]))) (mvT hZ hw_118) (by decide) (backOf (W := 0) (rmAh0 l Z a0 hw [] a1 a2 ed kd (m_ + (1 : Int32)) h2 n0 Z2 f8 Fw2 f5 f3 (by omega) (by omega) S_D V_D f9 (by omega) O2) hZ hw_118 hw_79 (by decide) (by decide)) (g := (mkF m 20 #[.val (.ref a1), .val (.ref a2)] [(.int (0 : Int32)), (.ref ed), (.ref a2), (.ref a1)])) rfl (by rw [hml]; rfl) (Steps.refl _) (a := a1) (by rw [e6]; exact q7) q7' (argsL := [(.ref a2), (.ref ed), (.int (0 : Int32))]) (rest := []) (lenOf pd_7 rfl) rfl (by show 2 * 0 + _ ≤ _; exact Nat.le_of_eq rfl) (hb hby d10_20) (fun _ _ => ⟨rfl, e6, (by decide : 0 + 1 ≤ _), (by decide : 0 + 10 ≤ _)⟩)
  dsimp only [Pt.U, Pt.locs, Pt.cells, Pt.slots] at X7 l7 y7 z7 st7 hQ7
  subst l7 y7 z7
  obtain ⟨y7b, y7k, rfl, N7q, Kc7, lo7, hi7, Ec7, Fm7, Fs7, Fe7, Ov7, Vc7⟩ := hQ7
  have N7 := Fr.app N2 N7q
  have sz7 : h2.size ≤ T7.heap.size := Kc7.1
  have Z7 : n0 ≤ T7.heap.size := Nat.le_trans Z2 sz7
  have K7 : Keep h0 T7.heap [a1] := K2.trans Kc7 (allS (Or.inl (by simp)) all0)
  have O7 : Old Z n0 T7.heap := O2.keep Kc7 (allS (show n0 ≤ a1 by omega) all0)
  have go10 : ∀ t_, Steps p.tables e below (T7.setTop (mkF m 24 #[.val (.ref a1), .val (.ref a2)] [(.int (1 : Int32))])) t_ → Steps p.tables e below (s₁.setTop (entryFrame m #[(.ref a1), (.ref a2)] 2)) t_ := by
    intro t_ k_
    refine pre0 t_ ?_
    show Steps p.tables e below (s₁.setTop (mkF m 0 #[.val (.ref a1), .val (.ref a2)] [])) _
    refine XS.aloadN X0.here hx rfl (hb hby d10_0) rfl rfl ?_
    show Steps p.tables e below (s₁.setTop (mkF m 1 #[.val (.ref a1), .val (.ref a2)] [(.ref a1)])) _
    refine XS.dup X0.here hx rfl (hb hby d10_1) rfl rfl ?_
    show Steps p.tables e below (s₁.setTop (mkF m 2 #[.val (.ref a1), .val (.ref a2)] [(.ref a1), (.ref a1)])) _
    refine st1 _ ?_
    show Steps p.tables e below (T1.setTop (mkF m 5 #[.val (.ref a1), .val (.ref a2)] [(.int m_), (.ref a1)])) _
    refine XS.iconst X1.here hx rfl (hb hby d10_5) ?_
    show Steps p.tables e below (T1.setTop (mkF m 6 #[.val (.ref a1), .val (.ref a2)] [(.int (1 : Int32)), (.int m_), (.ref a1)])) _
    refine XS.iadd X1.here hx rfl (hb hby d10_6) rfl ?_
    show Steps p.tables e below (T1.setTop (mkF m 7 #[.val (.ref a1), .val (.ref a2)] [(.int (m_ + (1 : Int32))), (.ref a1)])) _
    refine st2 _ ?_
    show Steps p.tables e below (T2.setTop (mkF m 10 #[.val (.ref a1), .val (.ref a2)] [])) _
    refine XS.aloadN X2.here hx rfl (hb hby d10_10) rfl rfl ?_
    show Steps p.tables e below (T2.setTop (mkF m 11 #[.val (.ref a1), .val (.ref a2)] [(.ref a1)])) _
    refine XS.aloadN X2.here hx rfl (hb hby d10_11) rfl rfl ?_
    show Steps p.tables e below (T2.setTop (mkF m 12 #[.val (.ref a1), .val (.ref a2)] [(.ref a2), (.ref a1)])) _
    refine XS.aloadN X2.here hx rfl (hb hby d10_12) rfl rfl ?_
    show Steps p.tables e below (T2.setTop (mkF m 13 #[.val (.ref a1), .val (.ref a2)] [(.ref a1), (.ref a2), (.ref a1)])) _
    refine st4 _ ?_
    show Steps p.tables e below (T4.setTop (mkF m 16 #[.val (.ref a1), .val (.ref a2)] [(.ref ed), (.ref a2), (.ref a1)])) _
    refine XS.aloadN X4.here hx rfl (hb hby d10_16) rfl rfl ?_
    show Steps p.tables e below (T4.setTop (mkF m 17 #[.val (.ref a1), .val (.ref a2)] [(.ref a1), (.ref ed), (.ref a2), (.ref a1)])) _
    refine st6 _ ?_
    show Steps p.tables e below (T6.setTop (mkF m 20 #[.val (.ref a1), .val (.ref a2)] [(.int (0 : Int32)), (.ref ed), (.ref a2), (.ref a1)])) _
    refine st7.trans ?_
    show Steps p.tables e below (T7.setTop (mkF m 23 #[.val (.ref a1), .val (.ref a2)] [])) _
    refine XS.iconst X7.here hx rfl (hb hby d10_23) ?_
    exact k_
  obtain ⟨fs, hr, hrun, hended, hW, hsame⟩ := X7.leave (v := some (.int (1 : Int32))) (fun h => by rw [Bd.returns] at h; cases h)
  refine ⟨_, _, go10 _ ?_, hrun, hended, _, _, rfl, ?_, ⟨_, rfl⟩, hW, hsame.mono (by decide) (by decide)⟩
  · skip
    show Steps p.tables e below (T7.setTop (mkF m 24 #[.val (.ref a1), .val (.ref a2)] [(.int (1 : Int32))])) _
    exact retN X7 hx (t := .boolean) Bd.returns (by simp) (hb hby d10_24) hr
  · show Q_rmAd0 Z a1 a2 ed kd m_ h0 n0 _ T7.heap _
    exact ⟨y7b, y7k, rfl, N7, K7, by omega, by omega, Ec7, Fm7, Fs7, Fe7, Ov7, Vc7⟩
def Q_rmAh1 (Z : State) (a1 : Nat) (a2 : Nat) (b : Nat) (kb : ClassId) (m_ : Int32) (x0 : Nat) (h0 : Heap) (n0 : Nat) (v : Option Value) (h : Heap) (L : List Loc) : Prop := v = none ∧ Fr n0 L ∧ Keep h0 h [a1, b] ∧ Exa Z h a1 "java/util/ArrayList" ∧ Fld Z h a1 "java/util/AbstractList" "modCount" "I" (.int m_) ∧ Fld Z h a1 "java/util/ArrayList" "size" "I" (.int (2 : Int32)) ∧ Fld Z h a1 "java/util/ArrayList" "elementData" "[Ljava/lang/Object;" (.ref b) ∧ Arv Z h b kb (.object "java/lang/Object") (10 : Int32) [(.ref x0), (.ref a2), .null, .null, .null, .null, .null, .null, .null, .null] .null
set_option maxRecDepth 65536 in
set_option maxHeartbeats 40000000 in
theorem rmAh1 (l : Launch) (Z : State) (a0 : Array Value) (hw : ∀ d ∈ tables_1, d.before a0 Z = true) (ws : List Jvm.Cond) (a1 : Nat) (a2 : Nat) (b : Nat) (kb : ClassId) (m_ : Int32) (x0 : Nat) (h0 : Heap) (n0 : Nat) (Z0 : n0 ≤ h0.size) (E1 : Exa Z h0 a1 "java/util/ArrayList") (Fm : Fld Z h0 a1 "java/util/AbstractList" "modCount" "I" (.int m_)) (Fs : Fld Z h0 a1 "java/util/ArrayList" "size" "I" (.int (1 : Int32))) (Fe : Fld Z h0 a1 "java/util/ArrayList" "elementData" "[Ljava/lang/Object;" (.ref b)) (ga : n0 ≤ a1) (gb : n0 ≤ b) (nab : a1 ≠ b) (Ov : Ovr Z kb "java/lang/Object") (Vb : Arv Z h0 b kb (.object "java/lang/Object") (10 : Int32) [(.ref x0), .null, .null, .null, .null, .null, .null, .null, .null, .null] .null) (E2 : Exa Z h0 a2 "com/example/maksu/maksu/catalog/Phase") :
    MetFree l (⟨"java/util/ArrayList", "add", "(Ljava/lang/Object;[Ljava/lang/Object;I)V"⟩ : MethodName) (head1 (Jvm.Cond.code (⟨"java/util/ArrayList", "add", "(Ljava/lang/Object;[Ljava/lang/Object;I)V"⟩ : MethodName) jdk_38_method_24_code 4 none :: ws) ({ frames := 0, cells := 0, slots := 0, locals := 0 } : Room)) (fun a U => a = #[(.ref a1), (.ref a2), (.ref b), (.int (1 : Int32))] ∧ Z.Warmed39 U.vm ∧ U.heap = h0) (fun _ _ _ _ _ => True) (fun _ U o U' => ∃ v L, o = .returned v ∧ Q_rmAh1 Z a1 a2 b kb m_ x0 h0 n0 v U'.heap L ∧ FrameEnd U o U' L ({ frames := 0, cells := 0, slots := 0, locals := 0 } : Room).cells ({ frames := 0, cells := 0, slots := 0, locals := 0 } : Room).slots) := by
  have hw_78 := hw _ (List.mem_of_getElem? (i := 78) rfl)
  have hw_97 := hw _ (List.mem_of_getElem? (i := 97) rfl)
  have hw_100 := hw _ (List.mem_of_getElem? (i := 100) rfl)
  have hw_112 := hw _ (List.mem_of_getElem? (i := 112) rfl)
  have hw_113 := hw _ (List.mem_of_getElem? (i := 113) rfl)
  have hw_135 := hw _ (List.mem_of_getElem? (i := 135) rfl)
  refine MetFree.of_bodySF (plainFor_of_name pn_ArrayList) hisR ?_
  intro p e s m args below meth c s₁ Bd hml0 hP hK
  obtain ⟨rfl, hZ, hh⟩ := hP
  have hx := Bd.exec
  have hby := Bd.bytes
  have hml : c.maxLocals = 4 := hml0
  have hown : s.vm.findClass "java/util/ArrayList" = some m.cls := findClass_of_methodNamed Bd.named
  have hnm := (name_of_methodNamed Bd.named Bd.method).1
  have X0 : Stand p l e ({ frames := 0, cells := 0, slots := 0, locals := 0 } : Room) s m #[(.ref a1), (.ref a2), (.ref b), (.int (1 : Int32))] below meth c s₁ [] 0 0 := Stand.of_body Bd
  have e0 : s₁.heap = h0 := by rw [← hh, Bd.state]; rfl
  have N0 := Fr.nil n0
  have pre0 : ∀ t_, Steps p.tables e below (s₁.setTop (mkF m 0 #[.val (.ref a1), .val (.ref a2), .val (.ref b), .val (.int (1 : Int32))] [])) t_ → Steps p.tables e below (s₁.setTop (entryFrame m #[(.ref a1), (.ref a2), (.ref b), (.int (1 : Int32))] 4)) t_ := fun t_ k_ => castTop (ef_11 m a1 a2 b (1 : Int32)) k_
  have K0 : Keep h0 h0 [a1, b] := Keep.refl h0 _
  obtain ⟨cl1, Ar1, q1, S1, M1, H1, G1⟩ := Vb
  have f2 : Arv Z h0 b kb (.object "java/lang/Object") (10 : Int32) [(.ref x0), .null, .null, .null, .null, .null, .null, .null, .null, .null] .null := ⟨cl1, Ar1, q1, S1, M1, H1, G1⟩
  obtain ⟨cl3, Ar3, q3, S3, M3, H3, G3⟩ := f2
  have hin3 : ¬ ((1 : Int32) < 0 ∨ cl3.slots.size ≤ ((1 : Int32)).toNatClampNeg) := inb_of S3 ⟨by decide, by decide⟩
  obtain ⟨T4, h4, X4, e4, W4, st4⟩ := stR X0 hx hZ e0 Ar3 (j := (1 : Int32)) hin3 rfl (Sto.ofV Ar3 q3 Ov (Ins.of_exa E2 hw_135)) (g := (mkF m 14 #[.val (.ref a1), .val (.ref a2), .val (.ref b), .val (.int (1 : Int32))] [(.ref a2), (.int (1 : Int32)), (.ref b)])) rfl rfl (hb hby d11_14)
  have V4 : Arv Z h4 b kb (.object "java/lang/Object") (10 : Int32) [(.ref x0), (.ref a2), .null, .null, .null, .null, .null, .null, .null, .null] .null := Arv.set Ar3 q3 S3 M3 H3 G3 rfl W4 1 rfl (Nat.le_of_ble_eq_true rfl)
  have N4 := Fr.snoc X4 N0 (show n0 ≤ b by omega)
  have sz4 : h0.size ≤ h4.size := Nat.le_of_eq W4.size.symm
  have Z4 : n0 ≤ h4.size := Nat.le_trans Z0 sz4
  have K4 : Keep h0 h4 [a1, b] := K0.wr W4 (Or.inl (by simp))
  have f5 := (Fs.other W4 (Or.inl (show a1 ≠ b by omega)))
  have f6 := (E1.wr W4)
  obtain ⟨T7, h7, X7, e7, W7, st7⟩ := putF X4 hx hZ hown (host := "") (Or.inl hw_112) Via.refl e4 f5 f6 (Or.inl hw_113) hw_78 (ty := .int) (by decide) rfl rfl (g := (mkF m 19 #[.val (.ref a1), .val (.ref a2), .val (.ref b), .val (.int (1 : Int32))] [(.int (2 : Int32)), (.ref a1)])) rfl rfl (hb hby d11_19)
  have Fw7 := f5.same W7
  have N7 := Fr.snoc X7 N4 (show n0 ≤ a1 by omega)
  have sz7 : h4.size ≤ h7.size := Nat.le_of_eq W7.size.symm
  have Z7 : n0 ≤ h7.size := Nat.le_trans Z4 sz7
  have K7 : Keep h0 h7 [a1, b] := K4.wr W7 (Or.inl (by simp))
  have go8 : ∀ t_, Steps p.tables e below (T7.setTop (mkF m 22 #[.val (.ref a1), .val (.ref a2), .val (.ref b), .val (.int (1 : Int32))] [])) t_ → Steps p.tables e below (s₁.setTop (entryFrame m #[(.ref a1), (.ref a2), (.ref b), (.int (1 : Int32))] 4)) t_ := by
    intro t_ k_
    refine pre0 t_ ?_
    show Steps p.tables e below (s₁.setTop (mkF m 0 #[.val (.ref a1), .val (.ref a2), .val (.ref b), .val (.int (1 : Int32))] [])) _
    refine XS.iloadN X0.here hx rfl (hb hby d11_0) rfl ?_
    show Steps p.tables e below (s₁.setTop (mkF m 1 #[.val (.ref a1), .val (.ref a2), .val (.ref b), .val (.int (1 : Int32))] [(.int (1 : Int32))])) _
    refine XS.aloadN X0.here hx rfl (hb hby d11_1) rfl rfl ?_
    show Steps p.tables e below (s₁.setTop (mkF m 2 #[.val (.ref a1), .val (.ref a2), .val (.ref b), .val (.int (1 : Int32))] [(.ref b), (.int (1 : Int32))])) _
    refine X0.arraylength hx (by rw [e0]; exact Ar1.1) (State.isArrayOf_alike hZ.alike Ar1.2.1) (g := (mkF m 2 #[.val (.ref a1), .val (.ref a2), .val (.ref b), .val (.int (1 : Int32))] [(.ref b), (.int (1 : Int32))])) rfl rfl (hb hby d11_2) _ ?_
    rw [len_of S1 M1]
    show Steps p.tables e below (s₁.setTop (mkF m 3 #[.val (.ref a1), .val (.ref a2), .val (.ref b), .val (.int (1 : Int32))] [(.int (10 : Int32)), (.int (1 : Int32))])) _
    refine XS.icmpYes X0.here hx rfl (pc0 := 3) (pc' := 11) rfl (hb hby d11_3) rfl (feq (by decide : ¬ ((1 : Int32) = (10 : Int32)))).2 (by decide) (by decide) ?_
    show Steps p.tables e below (s₁.setTop (mkF m 11 #[.val (.ref a1), .val (.ref a2), .val (.ref b), .val (.int (1 : Int32))] [])) _
    refine XS.aloadN X0.here hx rfl (hb hby d11_11) rfl rfl ?_
    show Steps p.tables e below (s₁.setTop (mkF m 12 #[.val (.ref a1), .val (.ref a2), .val (.ref b), .val (.int (1 : Int32))] [(.ref b)])) _
    refine XS.iloadN X0.here hx rfl (hb hby d11_12) rfl ?_
    show Steps p.tables e below (s₁.setTop (mkF m 13 #[.val (.ref a1), .val (.ref a2), .val (.ref b), .val (.int (1 : Int32))] [(.int (1 : Int32)), (.ref b)])) _
    refine XS.aloadN X0.here hx rfl (hb hby d11_13) rfl rfl ?_
    show Steps p.tables e below (s₁.setTop (mkF m 14 #[.val (.ref a1), .val (.ref a2), .val (.ref b), .val (.int (1 : Int32))] [(.ref a2), (.int (1 : Int32)), (.ref b)])) _
    refine st4 _ ?_
    show Steps p.tables e below (T4.setTop (mkF m 15 #[.val (.ref a1), .val (.ref a2), .val (.ref b), .val (.int (1 : Int32))] [])) _
    refine XS.aloadN X4.here hx rfl (hb hby d11_15) rfl rfl ?_
    show Steps p.tables e below (T4.setTop (mkF m 16 #[.val (.ref a1), .val (.ref a2), .val (.ref b), .val (.int (1 : Int32))] [(.ref a1)])) _
    refine XS.iloadN X4.here hx rfl (hb hby d11_16) rfl ?_
    show Steps p.tables e below (T4.setTop (mkF m 17 #[.val (.ref a1), .val (.ref a2), .val (.ref b), .val (.int (1 : Int32))] [(.int (1 : Int32)), (.ref a1)])) _
    refine XS.iconst X4.here hx rfl (hb hby d11_17) ?_
    show Steps p.tables e below (T4.setTop (mkF m 18 #[.val (.ref a1), .val (.ref a2), .val (.ref b), .val (.int (1 : Int32))] [(.int (1 : Int32)), (.int (1 : Int32)), (.ref a1)])) _
    refine XS.iadd X4.here hx rfl (hb hby d11_18) rfl ?_
    show Steps p.tables e below (T4.setTop (mkF m 19 #[.val (.ref a1), .val (.ref a2), .val (.ref b), .val (.int (1 : Int32))] [(.int (2 : Int32)), (.ref a1)])) _
    refine st7 _ ?_
    exact k_
  obtain ⟨fs, hr, hrun, hended, hW, hsame⟩ := X7.leave (v := none) (fun _ => rfl)
  have f9 := (f6.wr W7)
  have f10 := (Fm.other W4 (Or.inl (show a1 ≠ b by omega)))
  have f11 := (f10.other W7 (Or.inr (slot_ne (Or.inl hw_97) (Or.inl hw_113) (by decide) (t := .int) (t' := .int) (by decide) (by decide))))
  have f12 := (Fe.other W4 (Or.inl (show a1 ≠ b by omega)))
  have f13 := (f12.other W7 (Or.inr (slot_ne (Or.inl hw_100) (Or.inl hw_113) (by decide) (t := (.array (.object "java/lang/Object"))) (t' := .int) (by decide) (by decide))))
  have f14 := (V4.other W7 (show b ≠ a1 by omega))
  refine ⟨_, _, go8 _ ?_, hrun, hended, _, _, rfl, ?_, ⟨_, rfl⟩, hW, hsame.mono (by decide) (by decide)⟩
  · skip
    show Steps p.tables e below (T7.setTop (mkF m 22 #[.val (.ref a1), .val (.ref a2), .val (.ref b), .val (.int (1 : Int32))] [])) _
    exact X7.returnOut hx Bd.returns (hb hby d11_22) hr
  · show Q_rmAh1 Z a1 a2 b kb m_ x0 h0 n0 _ T7.heap _
    rw [e7]
    exact ⟨rfl, N7, K7, f9, f11, Fw7, f13, f14⟩
def Q_rmAd1 (Z : State) (a1 : Nat) (a2 : Nat) (b : Nat) (kb : ClassId) (m_ : Int32) (x0 : Nat) (h0 : Heap) (n0 : Nat) (v : Option Value) (h : Heap) (L : List Loc) : Prop := v = some (.int (1 : Int32)) ∧ Fr n0 L ∧ Keep h0 h [a1, b] ∧ Exa Z h a1 "java/util/ArrayList" ∧ Fld Z h a1 "java/util/AbstractList" "modCount" "I" (.int (m_ + (1 : Int32))) ∧ Fld Z h a1 "java/util/ArrayList" "size" "I" (.int (2 : Int32)) ∧ Fld Z h a1 "java/util/ArrayList" "elementData" "[Ljava/lang/Object;" (.ref b) ∧ Arv Z h b kb (.object "java/lang/Object") (10 : Int32) [(.ref x0), (.ref a2), .null, .null, .null, .null, .null, .null, .null, .null] .null
set_option maxRecDepth 65536 in
set_option maxHeartbeats 40000000 in
theorem rmAd1 (l : Launch) (Z : State) (a0 : Array Value) (hw : ∀ d ∈ tables_1, d.before a0 Z = true) (ws : List Jvm.Cond) (a1 : Nat) (a2 : Nat) (b : Nat) (kb : ClassId) (m_ : Int32) (x0 : Nat) (h0 : Heap) (n0 : Nat) (Z0 : n0 ≤ h0.size) (E1 : Exa Z h0 a1 "java/util/ArrayList") (Fm : Fld Z h0 a1 "java/util/AbstractList" "modCount" "I" (.int m_)) (Fs : Fld Z h0 a1 "java/util/ArrayList" "size" "I" (.int (1 : Int32))) (Fe : Fld Z h0 a1 "java/util/ArrayList" "elementData" "[Ljava/lang/Object;" (.ref b)) (ga : n0 ≤ a1) (gb : n0 ≤ b) (nab : a1 ≠ b) (Ov : Ovr Z kb "java/lang/Object") (Vb : Arv Z h0 b kb (.object "java/lang/Object") (10 : Int32) [(.ref x0), .null, .null, .null, .null, .null, .null, .null, .null, .null] .null) (E2 : Exa Z h0 a2 "com/example/maksu/maksu/catalog/Phase") :
    MetFree l (⟨"java/util/ArrayList", "add", "(Ljava/lang/Object;)Z"⟩ : MethodName) (head1 (Jvm.Cond.code (⟨"java/util/ArrayList", "add", "(Ljava/lang/Object;)Z"⟩ : MethodName) jdk_38_method_25_code 2 (some .boolean) :: ws) ({ frames := 1, cells := 0, slots := 0, locals := 15 } : Room)) (fun a U => a = #[(.ref a1), (.ref a2)] ∧ Z.Warmed39 U.vm ∧ U.heap = h0) (fun _ _ _ _ _ => True) (fun _ U o U' => ∃ v L, o = .returned v ∧ Q_rmAd1 Z a1 a2 b kb m_ x0 h0 n0 v U'.heap L ∧ FrameEnd U o U' L ({ frames := 1, cells := 0, slots := 0, locals := 15 } : Room).cells ({ frames := 1, cells := 0, slots := 0, locals := 15 } : Room).slots) := by
  have hw_78 := hw _ (List.mem_of_getElem? (i := 78) rfl)
  have hw_79 := hw _ (List.mem_of_getElem? (i := 79) rfl)
  have hw_97 := hw _ (List.mem_of_getElem? (i := 97) rfl)
  have hw_99 := hw _ (List.mem_of_getElem? (i := 99) rfl)
  have hw_100 := hw _ (List.mem_of_getElem? (i := 100) rfl)
  have hw_110 := hw _ (List.mem_of_getElem? (i := 110) rfl)
  have hw_111 := hw _ (List.mem_of_getElem? (i := 111) rfl)
  have hw_112 := hw _ (List.mem_of_getElem? (i := 112) rfl)
  have hw_113 := hw _ (List.mem_of_getElem? (i := 113) rfl)
  have hw_114 := hw _ (List.mem_of_getElem? (i := 114) rfl)
  have hw_115 := hw _ (List.mem_of_getElem? (i := 115) rfl)
  have hw_116 := hw _ (List.mem_of_getElem? (i := 116) rfl)
  have hw_117 := hw _ (List.mem_of_getElem? (i := 117) rfl)
  have hw_118 := hw _ (List.mem_of_getElem? (i := 118) rfl)
  refine MetFree.of_bodySF (plainFor_of_name pn_ArrayList) hisR ?_
  intro p e s m args below meth c s₁ Bd hml0 hP hK
  obtain ⟨rfl, hZ, hh⟩ := hP
  have hx := Bd.exec
  have hby := Bd.bytes
  have hml : c.maxLocals = 2 := hml0
  have hown : s.vm.findClass "java/util/ArrayList" = some m.cls := findClass_of_methodNamed Bd.named
  have hnm := (name_of_methodNamed Bd.named Bd.method).1
  have X0 : Stand p l e ({ frames := 1, cells := 0, slots := 0, locals := 15 } : Room) s m #[(.ref a1), (.ref a2)] below meth c s₁ [] 0 0 := Stand.of_body Bd
  have e0 : s₁.heap = h0 := by rw [← hh, Bd.state]; rfl
  have N0 := Fr.nil n0
  have pre0 : ∀ t_, Steps p.tables e below (s₁.setTop (mkF m 0 #[.val (.ref a1), .val (.ref a2)] [])) t_ → Steps p.tables e below (s₁.setTop (entryFrame m #[(.ref a1), (.ref a2)] 2)) t_ := fun t_ k_ => castTop (ef_10 m a1 a2) k_
  have K0 : Keep h0 h0 [a1, b] := Keep.refl h0 _
  obtain ⟨T1, X1, e1, st1⟩ := getF X0 hx hZ hown (host := "") (Or.inl hw_110) (Via.of hw_111) e0 Fm (g := (mkF m 2 #[.val (.ref a1), .val (.ref a2)] [(.ref a1), (.ref a1)])) rfl rfl (hb hby d10_2)
  obtain ⟨T2, h2, X2, e2, W2, st2⟩ := putF X1 hx hZ hown (host := "") (Or.inl hw_110) (Via.of hw_111) e1 Fm E1 (Or.inl hw_97) hw_78 (ty := .int) (by decide) rfl rfl (g := (mkF m 7 #[.val (.ref a1), .val (.ref a2)] [(.int (m_ + (1 : Int32))), (.ref a1)])) rfl rfl (hb hby d10_7)
  have Fw2 := Fm.same W2
  have N2 := Fr.snoc X2 N0 (show n0 ≤ a1 by omega)
  have sz2 : h0.size ≤ h2.size := Nat.le_of_eq W2.size.symm
  have Z2 : n0 ≤ h2.size := Nat.le_trans Z0 sz2
  have K2 : Keep h0 h2 [a1, b] := K0.wr W2 (Or.inl (by simp))
  have f3 := (Fe.other W2 (Or.inr (slot_ne (Or.inl hw_100) (Or.inl hw_97) (by decide) (t := (.array (.object "java/lang/Object"))) (t' := .int) (by decide) (by decide))))
  obtain ⟨T4, X4, e4, st4⟩ := getF X2 hx hZ hown (host := "") (Or.inl hw_99) Via.refl e2 f3 (g := (mkF m 13 #[.val (.ref a1), .val (.ref a2)] [(.ref a1), (.ref a2), (.ref a1)])) rfl rfl (hb hby d10_13)
  have f5 := (Fs.other W2 (Or.inr (slot_ne (Or.inl hw_113) (Or.inl hw_97) (by decide) (t := .int) (t' := .int) (by decide) (by decide))))
  obtain ⟨T6, X6, e6, st6⟩ := getF X4 hx hZ hown (host := "") (Or.inl hw_112) Via.refl e4 f5 (g := (mkF m 17 #[.val (.ref a1), .val (.ref a2)] [(.ref a1), (.ref b), (.ref a2), (.ref a1)])) rfl rfl (hb hby d10_17)
  have f8 := (E1.wr W2)
  have f9 := (Vb.other W2 (show b ≠ a1 by omega))
  have f10 := (E2.wr W2)
  obtain ⟨cq7, q7, q7'⟩ := f8.cell
  obtain ⟨_, _, ⟨T7, L7, k7, n7⟩, -, X7, ⟨Lc7, hQ7, l7, y7, z7⟩, st7⟩ := X6.privateBack hx (y := (⟨"java/util/ArrayList", "add", "(Ljava/lang/Object;[Ljava/lang/Object;I)V"⟩ : MethodName)) hown (mvT hZ hw_114) (mvT hZ hw_115) (mvT hZ hw_117) (Cond.privateMethod_at (mvP hZ hw_116 (args := #[]))) (mvT hZ hw_118) (by decide) (backOf (W := 0) (rmAh1 l Z a0 hw [] a1 a2 b kb (m_ + (1 : Int32)) x0 h2 n0 Z2 f8 Fw2 f5 f3 (by omega) (by omega) (show a1 ≠ b by omega) Ov f9 f10) hZ hw_118 hw_79 (by decide) (by decide)) (g := (mkF m 20 #[.val (.ref a1), .val (.ref a2)] [(.int (1 : Int32)), (.ref b), (.ref a2), (.ref a1)])) rfl (by rw [hml]; rfl) (Steps.refl _) (a := a1) (by rw [e6]; exact q7) q7' (argsL := [(.ref a2), (.ref b), (.int (1 : Int32))]) (rest := []) (lenOf pd_7 rfl) rfl (by show 2 * 0 + _ ≤ _; exact Nat.le_of_eq rfl) (hb hby d10_20) (fun _ _ => ⟨rfl, e6, (by decide : 0 + 0 ≤ _), (by decide : 0 + 0 ≤ _)⟩)
  dsimp only [Pt.U, Pt.locs, Pt.cells, Pt.slots] at X7 l7 y7 z7 st7 hQ7
  subst l7 y7 z7
  obtain ⟨rfl, N7q, Kc7, Ec7, Fm7, Fs7, Fe7, Vc7⟩ := hQ7
  have N7 := Fr.app N2 N7q
  have sz7 : h2.size ≤ T7.heap.size := Kc7.1
  have Z7 : n0 ≤ T7.heap.size := Nat.le_trans Z2 sz7
  have K7 : Keep h0 T7.heap [a1, b] := K2.trans Kc7 (allS (Or.inl (by simp)) (allS (Or.inl (by simp)) all0))
  have go11 : ∀ t_, Steps p.tables e below (T7.setTop (mkF m 24 #[.val (.ref a1), .val (.ref a2)] [(.int (1 : Int32))])) t_ → Steps p.tables e below (s₁.setTop (entryFrame m #[(.ref a1), (.ref a2)] 2)) t_ := by
    intro t_ k_
    refine pre0 t_ ?_
    show Steps p.tables e below (s₁.setTop (mkF m 0 #[.val (.ref a1), .val (.ref a2)] [])) _
    refine XS.aloadN X0.here hx rfl (hb hby d10_0) rfl rfl ?_
    show Steps p.tables e below (s₁.setTop (mkF m 1 #[.val (.ref a1), .val (.ref a2)] [(.ref a1)])) _
    refine XS.dup X0.here hx rfl (hb hby d10_1) rfl rfl ?_
    show Steps p.tables e below (s₁.setTop (mkF m 2 #[.val (.ref a1), .val (.ref a2)] [(.ref a1), (.ref a1)])) _
    refine st1 _ ?_
    show Steps p.tables e below (T1.setTop (mkF m 5 #[.val (.ref a1), .val (.ref a2)] [(.int m_), (.ref a1)])) _
    refine XS.iconst X1.here hx rfl (hb hby d10_5) ?_
    show Steps p.tables e below (T1.setTop (mkF m 6 #[.val (.ref a1), .val (.ref a2)] [(.int (1 : Int32)), (.int m_), (.ref a1)])) _
    refine XS.iadd X1.here hx rfl (hb hby d10_6) rfl ?_
    show Steps p.tables e below (T1.setTop (mkF m 7 #[.val (.ref a1), .val (.ref a2)] [(.int (m_ + (1 : Int32))), (.ref a1)])) _
    refine st2 _ ?_
    show Steps p.tables e below (T2.setTop (mkF m 10 #[.val (.ref a1), .val (.ref a2)] [])) _
    refine XS.aloadN X2.here hx rfl (hb hby d10_10) rfl rfl ?_
    show Steps p.tables e below (T2.setTop (mkF m 11 #[.val (.ref a1), .val (.ref a2)] [(.ref a1)])) _
    refine XS.aloadN X2.here hx rfl (hb hby d10_11) rfl rfl ?_
    show Steps p.tables e below (T2.setTop (mkF m 12 #[.val (.ref a1), .val (.ref a2)] [(.ref a2), (.ref a1)])) _
    refine XS.aloadN X2.here hx rfl (hb hby d10_12) rfl rfl ?_
    show Steps p.tables e below (T2.setTop (mkF m 13 #[.val (.ref a1), .val (.ref a2)] [(.ref a1), (.ref a2), (.ref a1)])) _
    refine st4 _ ?_
    show Steps p.tables e below (T4.setTop (mkF m 16 #[.val (.ref a1), .val (.ref a2)] [(.ref b), (.ref a2), (.ref a1)])) _
    refine XS.aloadN X4.here hx rfl (hb hby d10_16) rfl rfl ?_
    show Steps p.tables e below (T4.setTop (mkF m 17 #[.val (.ref a1), .val (.ref a2)] [(.ref a1), (.ref b), (.ref a2), (.ref a1)])) _
    refine st6 _ ?_
    show Steps p.tables e below (T6.setTop (mkF m 20 #[.val (.ref a1), .val (.ref a2)] [(.int (1 : Int32)), (.ref b), (.ref a2), (.ref a1)])) _
    refine st7.trans ?_
    show Steps p.tables e below (T7.setTop (mkF m 23 #[.val (.ref a1), .val (.ref a2)] [])) _
    refine XS.iconst X7.here hx rfl (hb hby d10_23) ?_
    exact k_
  obtain ⟨fs, hr, hrun, hended, hW, hsame⟩ := X7.leave (v := some (.int (1 : Int32))) (fun h => by rw [Bd.returns] at h; cases h)
  refine ⟨_, _, go11 _ ?_, hrun, hended, _, _, rfl, ?_, ⟨_, rfl⟩, hW, hsame.mono (by decide) (by decide)⟩
  · skip
    show Steps p.tables e below (T7.setTop (mkF m 24 #[.val (.ref a1), .val (.ref a2)] [(.int (1 : Int32))])) _
    exact retN X7 hx (t := .boolean) Bd.returns (by simp) (hb hby d10_24) hr
  · show Q_rmAd1 Z a1 a2 b kb m_ x0 h0 n0 _ T7.heap _
    exact ⟨rfl, N7, K7, Ec7, Fm7, Fs7, Fe7, Vc7⟩
def Q_rmAh2 (Z : State) (a1 : Nat) (a2 : Nat) (b : Nat) (kb : ClassId) (m_ : Int32) (x0 : Nat) (x1 : Nat) (h0 : Heap) (n0 : Nat) (v : Option Value) (h : Heap) (L : List Loc) : Prop := v = none ∧ Fr n0 L ∧ Keep h0 h [a1, b] ∧ Exa Z h a1 "java/util/ArrayList" ∧ Fld Z h a1 "java/util/AbstractList" "modCount" "I" (.int m_) ∧ Fld Z h a1 "java/util/ArrayList" "size" "I" (.int (3 : Int32)) ∧ Fld Z h a1 "java/util/ArrayList" "elementData" "[Ljava/lang/Object;" (.ref b) ∧ Arv Z h b kb (.object "java/lang/Object") (10 : Int32) [(.ref x0), (.ref x1), (.ref a2), .null, .null, .null, .null, .null, .null, .null] .null
set_option maxRecDepth 65536 in
set_option maxHeartbeats 40000000 in
theorem rmAh2 (l : Launch) (Z : State) (a0 : Array Value) (hw : ∀ d ∈ tables_1, d.before a0 Z = true) (ws : List Jvm.Cond) (a1 : Nat) (a2 : Nat) (b : Nat) (kb : ClassId) (m_ : Int32) (x0 : Nat) (x1 : Nat) (h0 : Heap) (n0 : Nat) (Z0 : n0 ≤ h0.size) (E1 : Exa Z h0 a1 "java/util/ArrayList") (Fm : Fld Z h0 a1 "java/util/AbstractList" "modCount" "I" (.int m_)) (Fs : Fld Z h0 a1 "java/util/ArrayList" "size" "I" (.int (2 : Int32))) (Fe : Fld Z h0 a1 "java/util/ArrayList" "elementData" "[Ljava/lang/Object;" (.ref b)) (ga : n0 ≤ a1) (gb : n0 ≤ b) (nab : a1 ≠ b) (Ov : Ovr Z kb "java/lang/Object") (Vb : Arv Z h0 b kb (.object "java/lang/Object") (10 : Int32) [(.ref x0), (.ref x1), .null, .null, .null, .null, .null, .null, .null, .null] .null) (E2 : Exa Z h0 a2 "com/example/maksu/maksu/catalog/Phase") :
    MetFree l (⟨"java/util/ArrayList", "add", "(Ljava/lang/Object;[Ljava/lang/Object;I)V"⟩ : MethodName) (head1 (Jvm.Cond.code (⟨"java/util/ArrayList", "add", "(Ljava/lang/Object;[Ljava/lang/Object;I)V"⟩ : MethodName) jdk_38_method_24_code 4 none :: ws) ({ frames := 0, cells := 0, slots := 0, locals := 0 } : Room)) (fun a U => a = #[(.ref a1), (.ref a2), (.ref b), (.int (2 : Int32))] ∧ Z.Warmed39 U.vm ∧ U.heap = h0) (fun _ _ _ _ _ => True) (fun _ U o U' => ∃ v L, o = .returned v ∧ Q_rmAh2 Z a1 a2 b kb m_ x0 x1 h0 n0 v U'.heap L ∧ FrameEnd U o U' L ({ frames := 0, cells := 0, slots := 0, locals := 0 } : Room).cells ({ frames := 0, cells := 0, slots := 0, locals := 0 } : Room).slots) := by
  have hw_78 := hw _ (List.mem_of_getElem? (i := 78) rfl)
  have hw_97 := hw _ (List.mem_of_getElem? (i := 97) rfl)
  have hw_100 := hw _ (List.mem_of_getElem? (i := 100) rfl)
  have hw_112 := hw _ (List.mem_of_getElem? (i := 112) rfl)
  have hw_113 := hw _ (List.mem_of_getElem? (i := 113) rfl)
  have hw_135 := hw _ (List.mem_of_getElem? (i := 135) rfl)
  refine MetFree.of_bodySF (plainFor_of_name pn_ArrayList) hisR ?_
  intro p e s m args below meth c s₁ Bd hml0 hP hK
  obtain ⟨rfl, hZ, hh⟩ := hP
  have hx := Bd.exec
  have hby := Bd.bytes
  have hml : c.maxLocals = 4 := hml0
  have hown : s.vm.findClass "java/util/ArrayList" = some m.cls := findClass_of_methodNamed Bd.named
  have hnm := (name_of_methodNamed Bd.named Bd.method).1
  have X0 : Stand p l e ({ frames := 0, cells := 0, slots := 0, locals := 0 } : Room) s m #[(.ref a1), (.ref a2), (.ref b), (.int (2 : Int32))] below meth c s₁ [] 0 0 := Stand.of_body Bd
  have e0 : s₁.heap = h0 := by rw [← hh, Bd.state]; rfl
  have N0 := Fr.nil n0
  have pre0 : ∀ t_, Steps p.tables e below (s₁.setTop (mkF m 0 #[.val (.ref a1), .val (.ref a2), .val (.ref b), .val (.int (2 : Int32))] [])) t_ → Steps p.tables e below (s₁.setTop (entryFrame m #[(.ref a1), (.ref a2), (.ref b), (.int (2 : Int32))] 4)) t_ := fun t_ k_ => castTop (ef_11 m a1 a2 b (2 : Int32)) k_
  have K0 : Keep h0 h0 [a1, b] := Keep.refl h0 _
  obtain ⟨cl1, Ar1, q1, S1, M1, H1, G1⟩ := Vb
  have f2 : Arv Z h0 b kb (.object "java/lang/Object") (10 : Int32) [(.ref x0), (.ref x1), .null, .null, .null, .null, .null, .null, .null, .null] .null := ⟨cl1, Ar1, q1, S1, M1, H1, G1⟩
  obtain ⟨cl3, Ar3, q3, S3, M3, H3, G3⟩ := f2
  have hin3 : ¬ ((2 : Int32) < 0 ∨ cl3.slots.size ≤ ((2 : Int32)).toNatClampNeg) := inb_of S3 ⟨by decide, by decide⟩
  obtain ⟨T4, h4, X4, e4, W4, st4⟩ := stR X0 hx hZ e0 Ar3 (j := (2 : Int32)) hin3 rfl (Sto.ofV Ar3 q3 Ov (Ins.of_exa E2 hw_135)) (g := (mkF m 14 #[.val (.ref a1), .val (.ref a2), .val (.ref b), .val (.int (2 : Int32))] [(.ref a2), (.int (2 : Int32)), (.ref b)])) rfl rfl (hb hby d11_14)
  have V4 : Arv Z h4 b kb (.object "java/lang/Object") (10 : Int32) [(.ref x0), (.ref x1), (.ref a2), .null, .null, .null, .null, .null, .null, .null] .null := Arv.set Ar3 q3 S3 M3 H3 G3 rfl W4 2 rfl (Nat.le_of_ble_eq_true rfl)
  have N4 := Fr.snoc X4 N0 (show n0 ≤ b by omega)
  have sz4 : h0.size ≤ h4.size := Nat.le_of_eq W4.size.symm
  have Z4 : n0 ≤ h4.size := Nat.le_trans Z0 sz4
  have K4 : Keep h0 h4 [a1, b] := K0.wr W4 (Or.inl (by simp))
  have f5 := (Fs.other W4 (Or.inl (show a1 ≠ b by omega)))
  have f6 := (E1.wr W4)
  obtain ⟨T7, h7, X7, e7, W7, st7⟩ := putF X4 hx hZ hown (host := "") (Or.inl hw_112) Via.refl e4 f5 f6 (Or.inl hw_113) hw_78 (ty := .int) (by decide) rfl rfl (g := (mkF m 19 #[.val (.ref a1), .val (.ref a2), .val (.ref b), .val (.int (2 : Int32))] [(.int (3 : Int32)), (.ref a1)])) rfl rfl (hb hby d11_19)
  have Fw7 := f5.same W7
  have N7 := Fr.snoc X7 N4 (show n0 ≤ a1 by omega)
  have sz7 : h4.size ≤ h7.size := Nat.le_of_eq W7.size.symm
  have Z7 : n0 ≤ h7.size := Nat.le_trans Z4 sz7
  have K7 : Keep h0 h7 [a1, b] := K4.wr W7 (Or.inl (by simp))
  have go8 : ∀ t_, Steps p.tables e below (T7.setTop (mkF m 22 #[.val (.ref a1), .val (.ref a2), .val (.ref b), .val (.int (2 : Int32))] [])) t_ → Steps p.tables e below (s₁.setTop (entryFrame m #[(.ref a1), (.ref a2), (.ref b), (.int (2 : Int32))] 4)) t_ := by
    intro t_ k_
    refine pre0 t_ ?_
    show Steps p.tables e below (s₁.setTop (mkF m 0 #[.val (.ref a1), .val (.ref a2), .val (.ref b), .val (.int (2 : Int32))] [])) _
    refine XS.iloadN X0.here hx rfl (hb hby d11_0) rfl ?_
    show Steps p.tables e below (s₁.setTop (mkF m 1 #[.val (.ref a1), .val (.ref a2), .val (.ref b), .val (.int (2 : Int32))] [(.int (2 : Int32))])) _
    refine XS.aloadN X0.here hx rfl (hb hby d11_1) rfl rfl ?_
    show Steps p.tables e below (s₁.setTop (mkF m 2 #[.val (.ref a1), .val (.ref a2), .val (.ref b), .val (.int (2 : Int32))] [(.ref b), (.int (2 : Int32))])) _
    refine X0.arraylength hx (by rw [e0]; exact Ar1.1) (State.isArrayOf_alike hZ.alike Ar1.2.1) (g := (mkF m 2 #[.val (.ref a1), .val (.ref a2), .val (.ref b), .val (.int (2 : Int32))] [(.ref b), (.int (2 : Int32))])) rfl rfl (hb hby d11_2) _ ?_
    rw [len_of S1 M1]
    show Steps p.tables e below (s₁.setTop (mkF m 3 #[.val (.ref a1), .val (.ref a2), .val (.ref b), .val (.int (2 : Int32))] [(.int (10 : Int32)), (.int (2 : Int32))])) _
    refine XS.icmpYes X0.here hx rfl (pc0 := 3) (pc' := 11) rfl (hb hby d11_3) rfl (feq (by decide : ¬ ((2 : Int32) = (10 : Int32)))).2 (by decide) (by decide) ?_
    show Steps p.tables e below (s₁.setTop (mkF m 11 #[.val (.ref a1), .val (.ref a2), .val (.ref b), .val (.int (2 : Int32))] [])) _
    refine XS.aloadN X0.here hx rfl (hb hby d11_11) rfl rfl ?_
    show Steps p.tables e below (s₁.setTop (mkF m 12 #[.val (.ref a1), .val (.ref a2), .val (.ref b), .val (.int (2 : Int32))] [(.ref b)])) _
    refine XS.iloadN X0.here hx rfl (hb hby d11_12) rfl ?_
    show Steps p.tables e below (s₁.setTop (mkF m 13 #[.val (.ref a1), .val (.ref a2), .val (.ref b), .val (.int (2 : Int32))] [(.int (2 : Int32)), (.ref b)])) _
    refine XS.aloadN X0.here hx rfl (hb hby d11_13) rfl rfl ?_
    show Steps p.tables e below (s₁.setTop (mkF m 14 #[.val (.ref a1), .val (.ref a2), .val (.ref b), .val (.int (2 : Int32))] [(.ref a2), (.int (2 : Int32)), (.ref b)])) _
    refine st4 _ ?_
    show Steps p.tables e below (T4.setTop (mkF m 15 #[.val (.ref a1), .val (.ref a2), .val (.ref b), .val (.int (2 : Int32))] [])) _
    refine XS.aloadN X4.here hx rfl (hb hby d11_15) rfl rfl ?_
    show Steps p.tables e below (T4.setTop (mkF m 16 #[.val (.ref a1), .val (.ref a2), .val (.ref b), .val (.int (2 : Int32))] [(.ref a1)])) _
    refine XS.iloadN X4.here hx rfl (hb hby d11_16) rfl ?_
    show Steps p.tables e below (T4.setTop (mkF m 17 #[.val (.ref a1), .val (.ref a2), .val (.ref b), .val (.int (2 : Int32))] [(.int (2 : Int32)), (.ref a1)])) _
    refine XS.iconst X4.here hx rfl (hb hby d11_17) ?_
    show Steps p.tables e below (T4.setTop (mkF m 18 #[.val (.ref a1), .val (.ref a2), .val (.ref b), .val (.int (2 : Int32))] [(.int (1 : Int32)), (.int (2 : Int32)), (.ref a1)])) _
    refine XS.iadd X4.here hx rfl (hb hby d11_18) rfl ?_
    show Steps p.tables e below (T4.setTop (mkF m 19 #[.val (.ref a1), .val (.ref a2), .val (.ref b), .val (.int (2 : Int32))] [(.int (3 : Int32)), (.ref a1)])) _
    refine st7 _ ?_
    exact k_
  obtain ⟨fs, hr, hrun, hended, hW, hsame⟩ := X7.leave (v := none) (fun _ => rfl)
  have f9 := (f6.wr W7)
  have f10 := (Fm.other W4 (Or.inl (show a1 ≠ b by omega)))
  have f11 := (f10.other W7 (Or.inr (slot_ne (Or.inl hw_97) (Or.inl hw_113) (by decide) (t := .int) (t' := .int) (by decide) (by decide))))
  have f12 := (Fe.other W4 (Or.inl (show a1 ≠ b by omega)))
  have f13 := (f12.other W7 (Or.inr (slot_ne (Or.inl hw_100) (Or.inl hw_113) (by decide) (t := (.array (.object "java/lang/Object"))) (t' := .int) (by decide) (by decide))))
  have f14 := (V4.other W7 (show b ≠ a1 by omega))
  refine ⟨_, _, go8 _ ?_, hrun, hended, _, _, rfl, ?_, ⟨_, rfl⟩, hW, hsame.mono (by decide) (by decide)⟩
  · skip
    show Steps p.tables e below (T7.setTop (mkF m 22 #[.val (.ref a1), .val (.ref a2), .val (.ref b), .val (.int (2 : Int32))] [])) _
    exact X7.returnOut hx Bd.returns (hb hby d11_22) hr
  · show Q_rmAh2 Z a1 a2 b kb m_ x0 x1 h0 n0 _ T7.heap _
    rw [e7]
    exact ⟨rfl, N7, K7, f9, f11, Fw7, f13, f14⟩
def Q_rmAd2 (Z : State) (a1 : Nat) (a2 : Nat) (b : Nat) (kb : ClassId) (m_ : Int32) (x0 : Nat) (x1 : Nat) (h0 : Heap) (n0 : Nat) (v : Option Value) (h : Heap) (L : List Loc) : Prop := v = some (.int (1 : Int32)) ∧ Fr n0 L ∧ Keep h0 h [a1, b] ∧ Exa Z h a1 "java/util/ArrayList" ∧ Fld Z h a1 "java/util/AbstractList" "modCount" "I" (.int (m_ + (1 : Int32))) ∧ Fld Z h a1 "java/util/ArrayList" "size" "I" (.int (3 : Int32)) ∧ Fld Z h a1 "java/util/ArrayList" "elementData" "[Ljava/lang/Object;" (.ref b) ∧ Arv Z h b kb (.object "java/lang/Object") (10 : Int32) [(.ref x0), (.ref x1), (.ref a2), .null, .null, .null, .null, .null, .null, .null] .null
set_option maxRecDepth 65536 in
set_option maxHeartbeats 40000000 in
theorem rmAd2 (l : Launch) (Z : State) (a0 : Array Value) (hw : ∀ d ∈ tables_1, d.before a0 Z = true) (ws : List Jvm.Cond) (a1 : Nat) (a2 : Nat) (b : Nat) (kb : ClassId) (m_ : Int32) (x0 : Nat) (x1 : Nat) (h0 : Heap) (n0 : Nat) (Z0 : n0 ≤ h0.size) (E1 : Exa Z h0 a1 "java/util/ArrayList") (Fm : Fld Z h0 a1 "java/util/AbstractList" "modCount" "I" (.int m_)) (Fs : Fld Z h0 a1 "java/util/ArrayList" "size" "I" (.int (2 : Int32))) (Fe : Fld Z h0 a1 "java/util/ArrayList" "elementData" "[Ljava/lang/Object;" (.ref b)) (ga : n0 ≤ a1) (gb : n0 ≤ b) (nab : a1 ≠ b) (Ov : Ovr Z kb "java/lang/Object") (Vb : Arv Z h0 b kb (.object "java/lang/Object") (10 : Int32) [(.ref x0), (.ref x1), .null, .null, .null, .null, .null, .null, .null, .null] .null) (E2 : Exa Z h0 a2 "com/example/maksu/maksu/catalog/Phase") :
    MetFree l (⟨"java/util/ArrayList", "add", "(Ljava/lang/Object;)Z"⟩ : MethodName) (head1 (Jvm.Cond.code (⟨"java/util/ArrayList", "add", "(Ljava/lang/Object;)Z"⟩ : MethodName) jdk_38_method_25_code 2 (some .boolean) :: ws) ({ frames := 1, cells := 0, slots := 0, locals := 15 } : Room)) (fun a U => a = #[(.ref a1), (.ref a2)] ∧ Z.Warmed39 U.vm ∧ U.heap = h0) (fun _ _ _ _ _ => True) (fun _ U o U' => ∃ v L, o = .returned v ∧ Q_rmAd2 Z a1 a2 b kb m_ x0 x1 h0 n0 v U'.heap L ∧ FrameEnd U o U' L ({ frames := 1, cells := 0, slots := 0, locals := 15 } : Room).cells ({ frames := 1, cells := 0, slots := 0, locals := 15 } : Room).slots) := by
  have hw_78 := hw _ (List.mem_of_getElem? (i := 78) rfl)
  have hw_79 := hw _ (List.mem_of_getElem? (i := 79) rfl)
  have hw_97 := hw _ (List.mem_of_getElem? (i := 97) rfl)
  have hw_99 := hw _ (List.mem_of_getElem? (i := 99) rfl)
  have hw_100 := hw _ (List.mem_of_getElem? (i := 100) rfl)
  have hw_110 := hw _ (List.mem_of_getElem? (i := 110) rfl)
  have hw_111 := hw _ (List.mem_of_getElem? (i := 111) rfl)
  have hw_112 := hw _ (List.mem_of_getElem? (i := 112) rfl)
  have hw_113 := hw _ (List.mem_of_getElem? (i := 113) rfl)
  have hw_114 := hw _ (List.mem_of_getElem? (i := 114) rfl)
  have hw_115 := hw _ (List.mem_of_getElem? (i := 115) rfl)
  have hw_116 := hw _ (List.mem_of_getElem? (i := 116) rfl)
  have hw_117 := hw _ (List.mem_of_getElem? (i := 117) rfl)
  have hw_118 := hw _ (List.mem_of_getElem? (i := 118) rfl)
  refine MetFree.of_bodySF (plainFor_of_name pn_ArrayList) hisR ?_
  intro p e s m args below meth c s₁ Bd hml0 hP hK
  obtain ⟨rfl, hZ, hh⟩ := hP
  have hx := Bd.exec
  have hby := Bd.bytes
  have hml : c.maxLocals = 2 := hml0
  have hown : s.vm.findClass "java/util/ArrayList" = some m.cls := findClass_of_methodNamed Bd.named
  have hnm := (name_of_methodNamed Bd.named Bd.method).1
  have X0 : Stand p l e ({ frames := 1, cells := 0, slots := 0, locals := 15 } : Room) s m #[(.ref a1), (.ref a2)] below meth c s₁ [] 0 0 := Stand.of_body Bd
  have e0 : s₁.heap = h0 := by rw [← hh, Bd.state]; rfl
  have N0 := Fr.nil n0
  have pre0 : ∀ t_, Steps p.tables e below (s₁.setTop (mkF m 0 #[.val (.ref a1), .val (.ref a2)] [])) t_ → Steps p.tables e below (s₁.setTop (entryFrame m #[(.ref a1), (.ref a2)] 2)) t_ := fun t_ k_ => castTop (ef_10 m a1 a2) k_
  have K0 : Keep h0 h0 [a1, b] := Keep.refl h0 _
  obtain ⟨T1, X1, e1, st1⟩ := getF X0 hx hZ hown (host := "") (Or.inl hw_110) (Via.of hw_111) e0 Fm (g := (mkF m 2 #[.val (.ref a1), .val (.ref a2)] [(.ref a1), (.ref a1)])) rfl rfl (hb hby d10_2)
  obtain ⟨T2, h2, X2, e2, W2, st2⟩ := putF X1 hx hZ hown (host := "") (Or.inl hw_110) (Via.of hw_111) e1 Fm E1 (Or.inl hw_97) hw_78 (ty := .int) (by decide) rfl rfl (g := (mkF m 7 #[.val (.ref a1), .val (.ref a2)] [(.int (m_ + (1 : Int32))), (.ref a1)])) rfl rfl (hb hby d10_7)
  have Fw2 := Fm.same W2
  have N2 := Fr.snoc X2 N0 (show n0 ≤ a1 by omega)
  have sz2 : h0.size ≤ h2.size := Nat.le_of_eq W2.size.symm
  have Z2 : n0 ≤ h2.size := Nat.le_trans Z0 sz2
  have K2 : Keep h0 h2 [a1, b] := K0.wr W2 (Or.inl (by simp))
  have f3 := (Fe.other W2 (Or.inr (slot_ne (Or.inl hw_100) (Or.inl hw_97) (by decide) (t := (.array (.object "java/lang/Object"))) (t' := .int) (by decide) (by decide))))
  obtain ⟨T4, X4, e4, st4⟩ := getF X2 hx hZ hown (host := "") (Or.inl hw_99) Via.refl e2 f3 (g := (mkF m 13 #[.val (.ref a1), .val (.ref a2)] [(.ref a1), (.ref a2), (.ref a1)])) rfl rfl (hb hby d10_13)
  have f5 := (Fs.other W2 (Or.inr (slot_ne (Or.inl hw_113) (Or.inl hw_97) (by decide) (t := .int) (t' := .int) (by decide) (by decide))))
  obtain ⟨T6, X6, e6, st6⟩ := getF X4 hx hZ hown (host := "") (Or.inl hw_112) Via.refl e4 f5 (g := (mkF m 17 #[.val (.ref a1), .val (.ref a2)] [(.ref a1), (.ref b), (.ref a2), (.ref a1)])) rfl rfl (hb hby d10_17)
  have f8 := (E1.wr W2)
  have f9 := (Vb.other W2 (show b ≠ a1 by omega))
  have f10 := (E2.wr W2)
  obtain ⟨cq7, q7, q7'⟩ := f8.cell
  obtain ⟨_, _, ⟨T7, L7, k7, n7⟩, -, X7, ⟨Lc7, hQ7, l7, y7, z7⟩, st7⟩ := X6.privateBack hx (y := (⟨"java/util/ArrayList", "add", "(Ljava/lang/Object;[Ljava/lang/Object;I)V"⟩ : MethodName)) hown (mvT hZ hw_114) (mvT hZ hw_115) (mvT hZ hw_117) (Cond.privateMethod_at (mvP hZ hw_116 (args := #[]))) (mvT hZ hw_118) (by decide) (backOf (W := 0) (rmAh2 l Z a0 hw [] a1 a2 b kb (m_ + (1 : Int32)) x0 x1 h2 n0 Z2 f8 Fw2 f5 f3 (by omega) (by omega) (show a1 ≠ b by omega) Ov f9 f10) hZ hw_118 hw_79 (by decide) (by decide)) (g := (mkF m 20 #[.val (.ref a1), .val (.ref a2)] [(.int (2 : Int32)), (.ref b), (.ref a2), (.ref a1)])) rfl (by rw [hml]; rfl) (Steps.refl _) (a := a1) (by rw [e6]; exact q7) q7' (argsL := [(.ref a2), (.ref b), (.int (2 : Int32))]) (rest := []) (lenOf pd_7 rfl) rfl (by show 2 * 0 + _ ≤ _; exact Nat.le_of_eq rfl) (hb hby d10_20) (fun _ _ => ⟨rfl, e6, (by decide : 0 + 0 ≤ _), (by decide : 0 + 0 ≤ _)⟩)
  dsimp only [Pt.U, Pt.locs, Pt.cells, Pt.slots] at X7 l7 y7 z7 st7 hQ7
  subst l7 y7 z7
  obtain ⟨rfl, N7q, Kc7, Ec7, Fm7, Fs7, Fe7, Vc7⟩ := hQ7
  have N7 := Fr.app N2 N7q
  have sz7 : h2.size ≤ T7.heap.size := Kc7.1
  have Z7 : n0 ≤ T7.heap.size := Nat.le_trans Z2 sz7
  have K7 : Keep h0 T7.heap [a1, b] := K2.trans Kc7 (allS (Or.inl (by simp)) (allS (Or.inl (by simp)) all0))
  have go11 : ∀ t_, Steps p.tables e below (T7.setTop (mkF m 24 #[.val (.ref a1), .val (.ref a2)] [(.int (1 : Int32))])) t_ → Steps p.tables e below (s₁.setTop (entryFrame m #[(.ref a1), (.ref a2)] 2)) t_ := by
    intro t_ k_
    refine pre0 t_ ?_
    show Steps p.tables e below (s₁.setTop (mkF m 0 #[.val (.ref a1), .val (.ref a2)] [])) _
    refine XS.aloadN X0.here hx rfl (hb hby d10_0) rfl rfl ?_
    show Steps p.tables e below (s₁.setTop (mkF m 1 #[.val (.ref a1), .val (.ref a2)] [(.ref a1)])) _
    refine XS.dup X0.here hx rfl (hb hby d10_1) rfl rfl ?_
    show Steps p.tables e below (s₁.setTop (mkF m 2 #[.val (.ref a1), .val (.ref a2)] [(.ref a1), (.ref a1)])) _
    refine st1 _ ?_
    show Steps p.tables e below (T1.setTop (mkF m 5 #[.val (.ref a1), .val (.ref a2)] [(.int m_), (.ref a1)])) _
    refine XS.iconst X1.here hx rfl (hb hby d10_5) ?_
    show Steps p.tables e below (T1.setTop (mkF m 6 #[.val (.ref a1), .val (.ref a2)] [(.int (1 : Int32)), (.int m_), (.ref a1)])) _
    refine XS.iadd X1.here hx rfl (hb hby d10_6) rfl ?_
    show Steps p.tables e below (T1.setTop (mkF m 7 #[.val (.ref a1), .val (.ref a2)] [(.int (m_ + (1 : Int32))), (.ref a1)])) _
    refine st2 _ ?_
    show Steps p.tables e below (T2.setTop (mkF m 10 #[.val (.ref a1), .val (.ref a2)] [])) _
    refine XS.aloadN X2.here hx rfl (hb hby d10_10) rfl rfl ?_
    show Steps p.tables e below (T2.setTop (mkF m 11 #[.val (.ref a1), .val (.ref a2)] [(.ref a1)])) _
    refine XS.aloadN X2.here hx rfl (hb hby d10_11) rfl rfl ?_
    show Steps p.tables e below (T2.setTop (mkF m 12 #[.val (.ref a1), .val (.ref a2)] [(.ref a2), (.ref a1)])) _
    refine XS.aloadN X2.here hx rfl (hb hby d10_12) rfl rfl ?_
    show Steps p.tables e below (T2.setTop (mkF m 13 #[.val (.ref a1), .val (.ref a2)] [(.ref a1), (.ref a2), (.ref a1)])) _
    refine st4 _ ?_
    show Steps p.tables e below (T4.setTop (mkF m 16 #[.val (.ref a1), .val (.ref a2)] [(.ref b), (.ref a2), (.ref a1)])) _
    refine XS.aloadN X4.here hx rfl (hb hby d10_16) rfl rfl ?_
    show Steps p.tables e below (T4.setTop (mkF m 17 #[.val (.ref a1), .val (.ref a2)] [(.ref a1), (.ref b), (.ref a2), (.ref a1)])) _
    refine st6 _ ?_
    show Steps p.tables e below (T6.setTop (mkF m 20 #[.val (.ref a1), .val (.ref a2)] [(.int (2 : Int32)), (.ref b), (.ref a2), (.ref a1)])) _
    refine st7.trans ?_
    show Steps p.tables e below (T7.setTop (mkF m 23 #[.val (.ref a1), .val (.ref a2)] [])) _
    refine XS.iconst X7.here hx rfl (hb hby d10_23) ?_
    exact k_
  obtain ⟨fs, hr, hrun, hended, hW, hsame⟩ := X7.leave (v := some (.int (1 : Int32))) (fun h => by rw [Bd.returns] at h; cases h)
  refine ⟨_, _, go11 _ ?_, hrun, hended, _, _, rfl, ?_, ⟨_, rfl⟩, hW, hsame.mono (by decide) (by decide)⟩
  · skip
    show Steps p.tables e below (T7.setTop (mkF m 24 #[.val (.ref a1), .val (.ref a2)] [(.int (1 : Int32))])) _
    exact retN X7 hx (t := .boolean) Bd.returns (by simp) (hb hby d10_24) hr
  · show Q_rmAd2 Z a1 a2 b kb m_ x0 x1 h0 n0 _ T7.heap _
    exact ⟨rfl, N7, K7, Ec7, Fm7, Fs7, Fe7, Vc7⟩
theorem ef_15 (m : MethodId) (x0 : Addr) (x1 : Addr) (x2 : Addr) (x3 : Addr) : entryFrame m #[(.ref x0), (.ref x1), (.ref x2), (.ref x3)] 4 = mkF m 0 #[.val (.ref x0), .val (.ref x1), .val (.ref x2), .val (.ref x3)] [] := by first | (simp [entryFrame, mkF, argsToLocals, Value.category]; done) | rfl
theorem pn_Plan : plainName "com/example/maksu/maksu/catalog/Plan" = true := by first | (simp [plainName, overriddenIn]; done) | decide +kernel
theorem d15_0 : decode prog_8_method_1_code 0 = .ok (.aload_n 0, 1) := by decide +kernel
theorem d15_1 : decode prog_8_method_1_code 1 = .ok (.invokespecial 1, 3) := by decide +kernel
theorem d15_4 : decode prog_8_method_1_code 4 = .ok (.aload_n 0, 1) := by decide +kernel
theorem d15_5 : decode prog_8_method_1_code 5 = .ok (.aload_n 1, 1) := by decide +kernel
theorem d15_6 : decode prog_8_method_1_code 6 = .ok (.putfield 7, 3) := by decide +kernel
theorem d15_9 : decode prog_8_method_1_code 9 = .ok (.aload_n 0, 1) := by decide +kernel
theorem d15_10 : decode prog_8_method_1_code 10 = .ok (.aload_n 2, 1) := by decide +kernel
theorem d15_11 : decode prog_8_method_1_code 11 = .ok (.putfield 13, 3) := by decide +kernel
theorem d15_14 : decode prog_8_method_1_code 14 = .ok (.aload_n 0, 1) := by decide +kernel
theorem d15_15 : decode prog_8_method_1_code 15 = .ok (.aload_n 3, 1) := by decide +kernel
theorem d15_16 : decode prog_8_method_1_code 16 = .ok (.putfield 16, 3) := by decide +kernel
theorem d15_19 : decode prog_8_method_1_code 19 = .ok (.return_, 1) := by decide +kernel
def Q_rmPln (Z : State) (a1 : Nat) (a2 : Nat) (a3 : Nat) (a4 : Nat) (h0 : Heap) (n0 : Nat) (v : Option Value) (h : Heap) (L : List Loc) : Prop := v = none ∧ Fr n0 L ∧ Keep h0 h [a1] ∧ Exa Z h a1 "com/example/maksu/maksu/catalog/Plan" ∧ Fld Z h a1 "com/example/maksu/maksu/catalog/Plan" "phases" "Ljava/util/List;" (.ref a4)
set_option maxRecDepth 65536 in
set_option maxHeartbeats 40000000 in
theorem rmPln (l : Launch) (Z : State) (a0 : Array Value) (hw : ∀ d ∈ tables_1, d.before a0 Z = true) (ws : List Jvm.Cond) (a1 : Nat) (a2 : Nat) (a3 : Nat) (a4 : Nat) (h0 : Heap) (n0 : Nat) (Z0 : n0 ≤ h0.size) (E1 : Exa Z h0 a1 "com/example/maksu/maksu/catalog/Plan") (F_name : Fld Z h0 a1 "com/example/maksu/maksu/catalog/Plan" "name" "Ljava/lang/String;" .null) (F_product : Fld Z h0 a1 "com/example/maksu/maksu/catalog/Plan" "product" "Ljava/lang/String;" .null) (F_phases : Fld Z h0 a1 "com/example/maksu/maksu/catalog/Plan" "phases" "Ljava/util/List;" .null) (ga : n0 ≤ a1) :
    MetFree l (⟨"com/example/maksu/maksu/catalog/Plan", "<init>", "(Ljava/lang/String;Ljava/lang/String;Ljava/util/List;)V"⟩ : MethodName) (head1 (Jvm.Cond.code (⟨"com/example/maksu/maksu/catalog/Plan", "<init>", "(Ljava/lang/String;Ljava/lang/String;Ljava/util/List;)V"⟩ : MethodName) prog_8_method_1_code 4 none :: ws) ({ frames := 2, cells := 0, slots := 0, locals := 24 } : Room)) (fun a U => a = #[(.ref a1), (.ref a2), (.ref a3), (.ref a4)] ∧ Z.Warmed39 U.vm ∧ U.heap = h0) (fun _ _ _ _ _ => True) (fun _ U o U' => ∃ v L, o = .returned v ∧ Q_rmPln Z a1 a2 a3 a4 h0 n0 v U'.heap L ∧ FrameEnd U o U' L ({ frames := 2, cells := 0, slots := 0, locals := 24 } : Room).cells ({ frames := 2, cells := 0, slots := 0, locals := 24 } : Room).slots) := by
  have hw_51 := hw _ (List.mem_of_getElem? (i := 51) rfl)
  have hw_53 := hw _ (List.mem_of_getElem? (i := 53) rfl)
  have hw_54 := hw _ (List.mem_of_getElem? (i := 54) rfl)
  have hw_137 := hw _ (List.mem_of_getElem? (i := 137) rfl)
  have hw_151 := hw _ (List.mem_of_getElem? (i := 151) rfl)
  have hw_152 := hw _ (List.mem_of_getElem? (i := 152) rfl)
  have hw_153 := hw _ (List.mem_of_getElem? (i := 153) rfl)
  have hw_154 := hw _ (List.mem_of_getElem? (i := 154) rfl)
  have hw_155 := hw _ (List.mem_of_getElem? (i := 155) rfl)
  have hw_156 := hw _ (List.mem_of_getElem? (i := 156) rfl)
  have hw_157 := hw _ (List.mem_of_getElem? (i := 157) rfl)
  refine MetFree.of_bodySF (plainFor_of_name pn_Plan) hisR ?_
  intro p e s m args below meth c s₁ Bd hml0 hP hK
  obtain ⟨rfl, hZ, hh⟩ := hP
  have hx := Bd.exec
  have hby := Bd.bytes
  have hml : c.maxLocals = 4 := hml0
  have hown : s.vm.findClass "com/example/maksu/maksu/catalog/Plan" = some m.cls := findClass_of_methodNamed Bd.named
  have hnm := (name_of_methodNamed Bd.named Bd.method).1
  have X0 : Stand p l e ({ frames := 2, cells := 0, slots := 0, locals := 24 } : Room) s m #[(.ref a1), (.ref a2), (.ref a3), (.ref a4)] below meth c s₁ [] 0 0 := Stand.of_body Bd
  have e0 : s₁.heap = h0 := by rw [← hh, Bd.state]; rfl
  have N0 := Fr.nil n0
  have pre0 : ∀ t_, Steps p.tables e below (s₁.setTop (mkF m 0 #[.val (.ref a1), .val (.ref a2), .val (.ref a3), .val (.ref a4)] [])) t_ → Steps p.tables e below (s₁.setTop (entryFrame m #[(.ref a1), (.ref a2), (.ref a3), (.ref a4)] 4)) t_ := fun t_ k_ => castTop (ef_15 m a1 a2 a3 a4) k_
  have K0 : Keep h0 h0 [a1] := Keep.refl h0 _
  obtain ⟨_, _, ⟨T1, L1, k1, n1⟩, -, X1, ⟨Lc1, hQ1, l1, y1, z1⟩, st1⟩ := X0.specialBack hx (y := (⟨"java/lang/Record", "<init>", "()V"⟩ : MethodName)) rfl hown (mvT hZ hw_151) (mvT hZ hw_51) (mvT hZ hw_54) (by decide) (backOf (W := 0) (rmRec l Z a0 hw [] a1 h0 n0 Z0) hZ hw_54 hw_53 (by decide) (by decide)) (g := (mkF m 1 #[.val (.ref a1), .val (.ref a2), .val (.ref a3), .val (.ref a4)] [(.ref a1)])) rfl (by rw [hml]; rfl) (Steps.refl _) (a := a1) (argsL := []) (rest := []) (lenOf pd_0 rfl) rfl (by show 2 * 0 + _ ≤ _; exact Nat.le_of_eq rfl) (hb hby d15_1) (fun _ _ => ⟨rfl, e0, (by decide : 0 + 0 ≤ _), (by decide : 0 + 0 ≤ _)⟩)
  dsimp only [Pt.U, Pt.locs, Pt.cells, Pt.slots] at X1 l1 y1 z1 st1 hQ1
  subst l1 y1 z1
  obtain ⟨rfl, N1q, e1⟩ := hQ1
  have N1 := Fr.app N0 N1q
  obtain ⟨T2, h2, X2, e2, W2, st2⟩ := putF X1 hx hZ hown (host := "") (Or.inl hw_152) Via.refl e1 F_name E1 (Or.inr ⟨hw_153, rfl, hnm⟩) hw_137 (ty := (.object "java/lang/String")) (by decide) rfl rfl (g := (mkF m 6 #[.val (.ref a1), .val (.ref a2), .val (.ref a3), .val (.ref a4)] [(.ref a2), (.ref a1)])) rfl rfl (hb hby d15_6)
  have Fw2 := F_name.same W2
  have N2 := Fr.snoc X2 N1 (show n0 ≤ a1 by omega)
  have sz2 : h0.size ≤ h2.size := Nat.le_of_eq W2.size.symm
  have Z2 : n0 ≤ h2.size := Nat.le_trans Z0 sz2
  have K2 : Keep h0 h2 [a1] := K0.wr W2 (Or.inl (by simp))
  have f3 := (F_product.other W2 (Or.inr (slot_ne (Or.inr hw_155) (Or.inr hw_153) (by decide) (t := (.object "java/lang/String")) (t' := (.object "java/lang/String")) (by decide) (by decide))))
  have f4 := (E1.wr W2)
  obtain ⟨T5, h5, X5, e5, W5, st5⟩ := putF X2 hx hZ hown (host := "") (Or.inl hw_154) Via.refl e2 f3 f4 (Or.inr ⟨hw_155, rfl, hnm⟩) hw_137 (ty := (.object "java/lang/String")) (by decide) rfl rfl (g := (mkF m 11 #[.val (.ref a1), .val (.ref a2), .val (.ref a3), .val (.ref a4)] [(.ref a3), (.ref a1)])) rfl rfl (hb hby d15_11)
  have Fw5 := f3.same W5
  have N5 := Fr.snoc X5 N2 (show n0 ≤ a1 by omega)
  have sz5 : h2.size ≤ h5.size := Nat.le_of_eq W5.size.symm
  have Z5 : n0 ≤ h5.size := Nat.le_trans Z2 sz5
  have K5 : Keep h0 h5 [a1] := K2.wr W5 (Or.inl (by simp))
  have f6 := (F_phases.other W2 (Or.inr (slot_ne (Or.inr hw_157) (Or.inr hw_153) (by decide) (t := (.object "java/util/List")) (t' := (.object "java/lang/String")) (by decide) (by decide))))
  have f7 := (f6.other W5 (Or.inr (slot_ne (Or.inr hw_157) (Or.inr hw_155) (by decide) (t := (.object "java/util/List")) (t' := (.object "java/lang/String")) (by decide) (by decide))))
  have f8 := (f4.wr W5)
  obtain ⟨T9, h9, X9, e9, W9, st9⟩ := putF X5 hx hZ hown (host := "") (Or.inl hw_156) Via.refl e5 f7 f8 (Or.inr ⟨hw_157, rfl, hnm⟩) hw_137 (ty := (.object "java/util/List")) (by decide) rfl rfl (g := (mkF m 16 #[.val (.ref a1), .val (.ref a2), .val (.ref a3), .val (.ref a4)] [(.ref a4), (.ref a1)])) rfl rfl (hb hby d15_16)
  have Fw9 := f7.same W9
  have N9 := Fr.snoc X9 N5 (show n0 ≤ a1 by omega)
  have sz9 : h5.size ≤ h9.size := Nat.le_of_eq W9.size.symm
  have Z9 : n0 ≤ h9.size := Nat.le_trans Z5 sz9
  have K9 : Keep h0 h9 [a1] := K5.wr W9 (Or.inl (by simp))
  have go10 : ∀ t_, Steps p.tables e below (T9.setTop (mkF m 19 #[.val (.ref a1), .val (.ref a2), .val (.ref a3), .val (.ref a4)] [])) t_ → Steps p.tables e below (s₁.setTop (entryFrame m #[(.ref a1), (.ref a2), (.ref a3), (.ref a4)] 4)) t_ := by
    intro t_ k_
    refine pre0 t_ ?_
    show Steps p.tables e below (s₁.setTop (mkF m 0 #[.val (.ref a1), .val (.ref a2), .val (.ref a3), .val (.ref a4)] [])) _
    refine XS.aloadN X0.here hx rfl (hb hby d15_0) rfl rfl ?_
    show Steps p.tables e below (s₁.setTop (mkF m 1 #[.val (.ref a1), .val (.ref a2), .val (.ref a3), .val (.ref a4)] [(.ref a1)])) _
    refine st1.trans ?_
    show Steps p.tables e below (T1.setTop (mkF m 4 #[.val (.ref a1), .val (.ref a2), .val (.ref a3), .val (.ref a4)] [])) _
    refine XS.aloadN X1.here hx rfl (hb hby d15_4) rfl rfl ?_
    show Steps p.tables e below (T1.setTop (mkF m 5 #[.val (.ref a1), .val (.ref a2), .val (.ref a3), .val (.ref a4)] [(.ref a1)])) _
    refine XS.aloadN X1.here hx rfl (hb hby d15_5) rfl rfl ?_
    show Steps p.tables e below (T1.setTop (mkF m 6 #[.val (.ref a1), .val (.ref a2), .val (.ref a3), .val (.ref a4)] [(.ref a2), (.ref a1)])) _
    refine st2 _ ?_
    show Steps p.tables e below (T2.setTop (mkF m 9 #[.val (.ref a1), .val (.ref a2), .val (.ref a3), .val (.ref a4)] [])) _
    refine XS.aloadN X2.here hx rfl (hb hby d15_9) rfl rfl ?_
    show Steps p.tables e below (T2.setTop (mkF m 10 #[.val (.ref a1), .val (.ref a2), .val (.ref a3), .val (.ref a4)] [(.ref a1)])) _
    refine XS.aloadN X2.here hx rfl (hb hby d15_10) rfl rfl ?_
    show Steps p.tables e below (T2.setTop (mkF m 11 #[.val (.ref a1), .val (.ref a2), .val (.ref a3), .val (.ref a4)] [(.ref a3), (.ref a1)])) _
    refine st5 _ ?_
    show Steps p.tables e below (T5.setTop (mkF m 14 #[.val (.ref a1), .val (.ref a2), .val (.ref a3), .val (.ref a4)] [])) _
    refine XS.aloadN X5.here hx rfl (hb hby d15_14) rfl rfl ?_
    show Steps p.tables e below (T5.setTop (mkF m 15 #[.val (.ref a1), .val (.ref a2), .val (.ref a3), .val (.ref a4)] [(.ref a1)])) _
    refine XS.aloadN X5.here hx rfl (hb hby d15_15) rfl rfl ?_
    show Steps p.tables e below (T5.setTop (mkF m 16 #[.val (.ref a1), .val (.ref a2), .val (.ref a3), .val (.ref a4)] [(.ref a4), (.ref a1)])) _
    refine st9 _ ?_
    exact k_
  obtain ⟨fs, hr, hrun, hended, hW, hsame⟩ := X9.leave (v := none) (fun _ => rfl)
  have f11 := (f8.wr W9)
  refine ⟨_, _, go10 _ ?_, hrun, hended, _, _, rfl, ?_, ⟨_, rfl⟩, hW, hsame.mono (by decide) (by decide)⟩
  · skip
    show Steps p.tables e below (T9.setTop (mkF m 19 #[.val (.ref a1), .val (.ref a2), .val (.ref a3), .val (.ref a4)] [])) _
    exact X9.returnOut hx Bd.returns (hb hby d15_19) hr
  · show Q_rmPln Z a1 a2 a3 a4 h0 n0 _ T9.heap _
    rw [e9]
    exact ⟨rfl, N9, K9, f11, Fw9⟩
theorem ef_17 (m : MethodId) (x0 : Addr) : entryFrame m #[(.ref x0)] 1 = mkF m 0 #[.val (.ref x0)] [] := by first | (simp [entryFrame, mkF, argsToLocals, Value.category]; done) | rfl
theorem d17_0 : decode jdk_38_method_8_code 0 = .ok (.aload_n 0, 1) := by decide +kernel
theorem d17_1 : decode jdk_38_method_8_code 1 = .ok (.getfield 48, 3) := by decide +kernel
theorem d17_4 : decode jdk_38_method_8_code 4 = .ok (.ireturn, 1) := by decide +kernel
def Q_rmSiz (Z : State) (a1 : Nat) (k : Int32) (h0 : Heap) (n0 : Nat) (v : Option Value) (h : Heap) (L : List Loc) : Prop := v = some (.int k) ∧ Fr n0 L ∧ h = h0
set_option maxRecDepth 65536 in
set_option maxHeartbeats 40000000 in
theorem rmSiz (l : Launch) (Z : State) (a0 : Array Value) (hw : ∀ d ∈ tables_1, d.before a0 Z = true) (ws : List Jvm.Cond) (a1 : Nat) (k : Int32) (h0 : Heap) (n0 : Nat) (Z0 : n0 ≤ h0.size) (Fs : Fld Z h0 a1 "java/util/ArrayList" "size" "I" (.int k)) :
    MetFree l (⟨"java/util/ArrayList", "size", "()I"⟩ : MethodName) (head1 (Jvm.Cond.code (⟨"java/util/ArrayList", "size", "()I"⟩ : MethodName) jdk_38_method_8_code 1 (some .int) :: ws) ({ frames := 0, cells := 0, slots := 0, locals := 0 } : Room)) (fun a U => a = #[(.ref a1)] ∧ Z.Warmed39 U.vm ∧ U.heap = h0) (fun _ _ _ _ _ => True) (fun _ U o U' => ∃ v L, o = .returned v ∧ Q_rmSiz Z a1 k h0 n0 v U'.heap L ∧ FrameEnd U o U' L ({ frames := 0, cells := 0, slots := 0, locals := 0 } : Room).cells ({ frames := 0, cells := 0, slots := 0, locals := 0 } : Room).slots) := by
  have hw_112 := hw _ (List.mem_of_getElem? (i := 112) rfl)
  refine MetFree.of_bodySF (plainFor_of_name pn_ArrayList) hisR ?_
  intro p e s m args below meth c s₁ Bd hml0 hP hK
  obtain ⟨rfl, hZ, hh⟩ := hP
  have hx := Bd.exec
  have hby := Bd.bytes
  have hml : c.maxLocals = 1 := hml0
  have hown : s.vm.findClass "java/util/ArrayList" = some m.cls := findClass_of_methodNamed Bd.named
  have hnm := (name_of_methodNamed Bd.named Bd.method).1
  have X0 : Stand p l e ({ frames := 0, cells := 0, slots := 0, locals := 0 } : Room) s m #[(.ref a1)] below meth c s₁ [] 0 0 := Stand.of_body Bd
  have e0 : s₁.heap = h0 := by rw [← hh, Bd.state]; rfl
  have N0 := Fr.nil n0
  have pre0 : ∀ t_, Steps p.tables e below (s₁.setTop (mkF m 0 #[.val (.ref a1)] [])) t_ → Steps p.tables e below (s₁.setTop (entryFrame m #[(.ref a1)] 1)) t_ := fun t_ k_ => castTop (ef_17 m a1) k_
  obtain ⟨T1, X1, e1, st1⟩ := getF X0 hx hZ hown (host := "") (Or.inl hw_112) Via.refl e0 Fs (g := (mkF m 1 #[.val (.ref a1)] [(.ref a1)])) rfl rfl (hb hby d17_1)
  have go2 : ∀ t_, Steps p.tables e below (T1.setTop (mkF m 4 #[.val (.ref a1)] [(.int k)])) t_ → Steps p.tables e below (s₁.setTop (entryFrame m #[(.ref a1)] 1)) t_ := by
    intro t_ k_
    refine pre0 t_ ?_
    show Steps p.tables e below (s₁.setTop (mkF m 0 #[.val (.ref a1)] [])) _
    refine XS.aloadN X0.here hx rfl (hb hby d17_0) rfl rfl ?_
    show Steps p.tables e below (s₁.setTop (mkF m 1 #[.val (.ref a1)] [(.ref a1)])) _
    refine st1 _ ?_
    exact k_
  obtain ⟨fs, hr, hrun, hended, hW, hsame⟩ := X1.leave (v := some (.int k)) (fun h => by rw [Bd.returns] at h; cases h)
  refine ⟨_, _, go2 _ ?_, hrun, hended, _, _, rfl, ?_, ⟨_, rfl⟩, hW, hsame.mono (by decide) (by decide)⟩
  · skip
    show Steps p.tables e below (T1.setTop (mkF m 4 #[.val (.ref a1)] [(.int k)])) _
    exact retI X1 hx Bd.returns (hb hby d17_4) hr
  · show Q_rmSiz Z a1 k h0 n0 _ T1.heap _
    rw [e1]
    exact ⟨rfl, N0, rfl⟩
theorem ef_20n2 (m : MethodId) (x0 : Int32) (x1 : Int32) : entryFrame m #[(.int x0), (.int x1), .null] 3 = mkF m 0 #[.val (.int x0), .val (.int x1), .val .null] [] := by first | (simp [entryFrame, mkF, argsToLocals, Value.category]; done) | rfl
theorem pn_Preconditions : plainName "jdk/internal/util/Preconditions" = true := by first | (simp [plainName, overriddenIn]; done) | decide +kernel
theorem d20_0 : decode jdk_41_method_11_code 0 = .ok (.iload_n 0, 1) := by decide +kernel
theorem d20_1 : decode jdk_41_method_11_code 1 = .ok (.ifCond .lt 8, 3) := by decide +kernel
theorem d20_4 : decode jdk_41_method_11_code 4 = .ok (.iload_n 0, 1) := by decide +kernel
theorem d20_5 : decode jdk_41_method_11_code 5 = .ok (.iload_n 1, 1) := by decide +kernel
theorem d20_6 : decode jdk_41_method_11_code 6 = .ok (.if_icmp .lt 10, 3) := by decide +kernel
theorem d20_16 : decode jdk_41_method_11_code 16 = .ok (.iload_n 0, 1) := by decide +kernel
theorem d20_17 : decode jdk_41_method_11_code 17 = .ok (.ireturn, 1) := by decide +kernel
def Q_rmPCI (Z : State) (p1 : Int32) (p2 : Int32) (h0 : Heap) (n0 : Nat) (v : Option Value) (h : Heap) (L : List Loc) : Prop := v = some (.int p1) ∧ Fr n0 L ∧ h = h0
set_option maxRecDepth 65536 in
set_option maxHeartbeats 40000000 in
theorem rmPCI (l : Launch) (Z : State) (a0 : Array Value) (hw : ∀ d ∈ tables_1, d.before a0 Z = true) (ws : List Jvm.Cond) (p1 : Int32) (p2 : Int32) (h0 : Heap) (n0 : Nat) (Z0 : n0 ≤ h0.size) (hi0 : ¬ (p1 < (0 : Int32))) (hik : p1 < p2) :
    MetFree l (⟨"jdk/internal/util/Preconditions", "checkIndex", "(IILjava/util/function/BiFunction;)I"⟩ : MethodName) (head1 (Jvm.Cond.code (⟨"jdk/internal/util/Preconditions", "checkIndex", "(IILjava/util/function/BiFunction;)I"⟩ : MethodName) jdk_41_method_11_code 3 (some .int) :: ws) ({ frames := 0, cells := 0, slots := 0, locals := 0 } : Room)) (fun a U => a = #[(.int p1), (.int p2), .null] ∧ Z.Warmed39 U.vm ∧ U.heap = h0) (fun _ _ _ _ _ => True) (fun _ U o U' => ∃ v L, o = .returned v ∧ Q_rmPCI Z p1 p2 h0 n0 v U'.heap L ∧ FrameEnd U o U' L ({ frames := 0, cells := 0, slots := 0, locals := 0 } : Room).cells ({ frames := 0, cells := 0, slots := 0, locals := 0 } : Room).slots) := by
  refine MetFree.of_bodySF (plainFor_of_name pn_Preconditions) hisR ?_
  intro p e s m args below meth c s₁ Bd hml0 hP hK
  obtain ⟨rfl, hZ, hh⟩ := hP
  have hx := Bd.exec
  have hby := Bd.bytes
  have hml : c.maxLocals = 3 := hml0
  have hown : s.vm.findClass "jdk/internal/util/Preconditions" = some m.cls := findClass_of_methodNamed Bd.named
  have hnm := (name_of_methodNamed Bd.named Bd.method).1
  have X0 : Stand p l e ({ frames := 0, cells := 0, slots := 0, locals := 0 } : Room) s m #[(.int p1), (.int p2), .null] below meth c s₁ [] 0 0 := Stand.of_body Bd
  have e0 : s₁.heap = h0 := by rw [← hh, Bd.state]; rfl
  have N0 := Fr.nil n0
  have pre0 : ∀ t_, Steps p.tables e below (s₁.setTop (mkF m 0 #[.val (.int p1), .val (.int p2), .val .null] [])) t_ → Steps p.tables e below (s₁.setTop (entryFrame m #[(.int p1), (.int p2), .null] 3)) t_ := fun t_ k_ => castTop (ef_20n2 m p1 p2) k_
  have go1 : ∀ t_, Steps p.tables e below (s₁.setTop (mkF m 17 #[.val (.int p1), .val (.int p2), .val .null] [(.int p1)])) t_ → Steps p.tables e below (s₁.setTop (entryFrame m #[(.int p1), (.int p2), .null] 3)) t_ := by
    intro t_ k_
    refine pre0 t_ ?_
    show Steps p.tables e below (s₁.setTop (mkF m 0 #[.val (.int p1), .val (.int p2), .val .null] [])) _
    refine XS.iloadN X0.here hx rfl (hb hby d20_0) rfl ?_
    show Steps p.tables e below (s₁.setTop (mkF m 1 #[.val (.int p1), .val (.int p2), .val .null] [(.int p1)])) _
    refine XS.ifNo X0.here hx rfl (hb hby d20_1) rfl ((if0 _ _).trans (flt hi0).1) ?_
    show Steps p.tables e below (s₁.setTop (mkF m 4 #[.val (.int p1), .val (.int p2), .val .null] [])) _
    refine XS.iloadN X0.here hx rfl (hb hby d20_4) rfl ?_
    show Steps p.tables e below (s₁.setTop (mkF m 5 #[.val (.int p1), .val (.int p2), .val .null] [(.int p1)])) _
    refine XS.iloadN X0.here hx rfl (hb hby d20_5) rfl ?_
    show Steps p.tables e below (s₁.setTop (mkF m 6 #[.val (.int p1), .val (.int p2), .val .null] [(.int p2), (.int p1)])) _
    refine XS.icmpYes X0.here hx rfl (pc0 := 6) (pc' := 16) rfl (hb hby d20_6) rfl (tlt hik).1 (by decide) (by decide) ?_
    show Steps p.tables e below (s₁.setTop (mkF m 16 #[.val (.int p1), .val (.int p2), .val .null] [])) _
    refine XS.iloadN X0.here hx rfl (hb hby d20_16) rfl ?_
    exact k_
  obtain ⟨fs, hr, hrun, hended, hW, hsame⟩ := X0.leave (v := some (.int p1)) (fun h => by rw [Bd.returns] at h; cases h)
  refine ⟨_, _, go1 _ ?_, hrun, hended, _, _, rfl, ?_, ⟨_, rfl⟩, hW, hsame.mono (by decide) (by decide)⟩
  · skip
    show Steps p.tables e below (s₁.setTop (mkF m 17 #[.val (.int p1), .val (.int p2), .val .null] [(.int p1)])) _
    exact retI X0 hx Bd.returns (hb hby d20_17) hr
  · show Q_rmPCI Z p1 p2 h0 n0 _ s₁.heap _
    rw [e0]
    exact ⟨rfl, N0, rfl⟩
theorem ef_19 (m : MethodId) (x0 : Int32) (x1 : Int32) : entryFrame m #[(.int x0), (.int x1)] 2 = mkF m 0 #[.val (.int x0), .val (.int x1)] [] := by first | (simp [entryFrame, mkF, argsToLocals, Value.category]; done) | rfl
theorem pn_Objects : plainName "java/util/Objects" = true := by first | (simp [plainName, overriddenIn]; done) | decide +kernel
theorem d19_0 : decode jdk_31_method_17_code 0 = .ok (.iload_n 0, 1) := by decide +kernel
theorem d19_1 : decode jdk_31_method_17_code 1 = .ok (.iload_n 1, 1) := by decide +kernel
theorem d19_2 : decode jdk_31_method_17_code 2 = .ok (.aconst_null, 1) := by decide +kernel
theorem d19_3 : decode jdk_31_method_17_code 3 = .ok (.invokestatic 105, 3) := by decide +kernel
theorem pd_8 : parseMethodDescriptor "(IILjava/util/function/BiFunction;)I" = some ⟨[.int, .int, (.object "java/util/function/BiFunction")], some .int⟩ := by decide +kernel
theorem d19_6 : decode jdk_31_method_17_code 6 = .ok (.ireturn, 1) := by decide +kernel
def Q_rmOCI (Z : State) (p1 : Int32) (p2 : Int32) (h0 : Heap) (n0 : Nat) (v : Option Value) (h : Heap) (L : List Loc) : Prop := v = some (.int p1) ∧ Fr n0 L ∧ h = h0
set_option maxRecDepth 65536 in
set_option maxHeartbeats 40000000 in
theorem rmOCI (l : Launch) (Z : State) (a0 : Array Value) (hw : ∀ d ∈ tables_1, d.before a0 Z = true) (ws : List Jvm.Cond) (p1 : Int32) (p2 : Int32) (h0 : Heap) (n0 : Nat) (Z0 : n0 ≤ h0.size) (hi0 : ¬ (p1 < (0 : Int32))) (hik : p1 < p2) :
    MetFree l (⟨"java/util/Objects", "checkIndex", "(II)I"⟩ : MethodName) (head1 (Jvm.Cond.code (⟨"java/util/Objects", "checkIndex", "(II)I"⟩ : MethodName) jdk_31_method_17_code 2 (some .int) :: ws) ({ frames := 1, cells := 0, slots := 0, locals := 14 } : Room)) (fun a U => a = #[(.int p1), (.int p2)] ∧ Z.Warmed39 U.vm ∧ U.heap = h0) (fun _ _ _ _ _ => True) (fun _ U o U' => ∃ v L, o = .returned v ∧ Q_rmOCI Z p1 p2 h0 n0 v U'.heap L ∧ FrameEnd U o U' L ({ frames := 1, cells := 0, slots := 0, locals := 14 } : Room).cells ({ frames := 1, cells := 0, slots := 0, locals := 14 } : Room).slots) := by
  have hw_183 := hw _ (List.mem_of_getElem? (i := 183) rfl)
  have hw_184 := hw _ (List.mem_of_getElem? (i := 184) rfl)
  have hw_185 := hw _ (List.mem_of_getElem? (i := 185) rfl)
  have hw_186 := hw _ (List.mem_of_getElem? (i := 186) rfl)
  refine MetFree.of_bodySF (plainFor_of_name pn_Objects) hisR ?_
  intro p e s m args below meth c s₁ Bd hml0 hP hK
  obtain ⟨rfl, hZ, hh⟩ := hP
  have hx := Bd.exec
  have hby := Bd.bytes
  have hml : c.maxLocals = 2 := hml0
  have hown : s.vm.findClass "java/util/Objects" = some m.cls := findClass_of_methodNamed Bd.named
  have hnm := (name_of_methodNamed Bd.named Bd.method).1
  have X0 : Stand p l e ({ frames := 1, cells := 0, slots := 0, locals := 14 } : Room) s m #[(.int p1), (.int p2)] below meth c s₁ [] 0 0 := Stand.of_body Bd
  have e0 : s₁.heap = h0 := by rw [← hh, Bd.state]; rfl
  have N0 := Fr.nil n0
  have pre0 : ∀ t_, Steps p.tables e below (s₁.setTop (mkF m 0 #[.val (.int p1), .val (.int p2)] [])) t_ → Steps p.tables e below (s₁.setTop (entryFrame m #[(.int p1), (.int p2)] 2)) t_ := fun t_ k_ => castTop (ef_19 m p1 p2) k_
  obtain ⟨_, _, ⟨T1, L1, k1, n1⟩, -, X1, ⟨Lc1, hQ1, l1, y1, z1⟩, st1⟩ := Jvm.LawKit.callS X0 hx (y := (⟨"jdk/internal/util/Preconditions", "checkIndex", "(IILjava/util/function/BiFunction;)I"⟩ : MethodName)) hown (mvT hZ hw_183) (mvT hZ hw_184) (mvT hZ hw_185) (mvT hZ hw_186) (by decide) (backOf (W := 0) (rmPCI l Z a0 hw [] p1 p2 h0 n0 Z0 hi0 hik) hZ hw_186 hw_185 (by decide) (by decide)) (g := (mkF m 3 #[.val (.int p1), .val (.int p2)] [.null, (.int p2), (.int p1)])) rfl (by rw [hml]; rfl) (argsL := [(.int p1), (.int p2), .null]) (rest := []) (lenOf pd_8 rfl) rfl (by show 2 * 0 + _ ≤ _; exact Nat.le_of_eq rfl) (hb hby d19_3) (fun _ _ => ⟨rfl, e0, (by decide : 0 + 0 ≤ _), (by decide : 0 + 0 ≤ _)⟩)
  dsimp only [Pt.U, Pt.locs, Pt.cells, Pt.slots] at X1 l1 y1 z1 st1 hQ1
  subst l1 y1 z1
  obtain ⟨rfl, N1q, e1⟩ := hQ1
  have N1 := Fr.app N0 N1q
  have go2 : ∀ t_, Steps p.tables e below (T1.setTop (mkF m 6 #[.val (.int p1), .val (.int p2)] [(.int p1)])) t_ → Steps p.tables e below (s₁.setTop (entryFrame m #[(.int p1), (.int p2)] 2)) t_ := by
    intro t_ k_
    refine pre0 t_ ?_
    show Steps p.tables e below (s₁.setTop (mkF m 0 #[.val (.int p1), .val (.int p2)] [])) _
    refine XS.iloadN X0.here hx rfl (hb hby d19_0) rfl ?_
    show Steps p.tables e below (s₁.setTop (mkF m 1 #[.val (.int p1), .val (.int p2)] [(.int p1)])) _
    refine XS.iloadN X0.here hx rfl (hb hby d19_1) rfl ?_
    show Steps p.tables e below (s₁.setTop (mkF m 2 #[.val (.int p1), .val (.int p2)] [(.int p2), (.int p1)])) _
    refine XS.aconstNull X0.here hx rfl (hb hby d19_2) ?_
    show Steps p.tables e below (s₁.setTop (mkF m 3 #[.val (.int p1), .val (.int p2)] [.null, (.int p2), (.int p1)])) _
    refine st1 _ ?_
    exact k_
  obtain ⟨fs, hr, hrun, hended, hW, hsame⟩ := X1.leave (v := some (.int p1)) (fun h => by rw [Bd.returns] at h; cases h)
  refine ⟨_, _, go2 _ ?_, hrun, hended, _, _, rfl, ?_, ⟨_, rfl⟩, hW, hsame.mono (by decide) (by decide)⟩
  · skip
    show Steps p.tables e below (T1.setTop (mkF m 6 #[.val (.int p1), .val (.int p2)] [(.int p1)])) _
    exact retI X1 hx Bd.returns (hb hby d19_6) hr
  · show Q_rmOCI Z p1 p2 h0 n0 _ T1.heap _
    rw [e1]
    exact ⟨rfl, N1, rfl⟩
theorem ef_21 (m : MethodId) (x0 : Addr) (x1 : Int32) : entryFrame m #[(.ref x0), (.int x1)] 2 = mkF m 0 #[.val (.ref x0), .val (.int x1)] [] := by first | (simp [entryFrame, mkF, argsToLocals, Value.category]; done) | rfl
theorem d21_0 : decode jdk_38_method_18_code 0 = .ok (.aload_n 0, 1) := by decide +kernel
theorem d21_1 : decode jdk_38_method_18_code 1 = .ok (.getfield 9, 3) := by decide +kernel
theorem d21_4 : decode jdk_38_method_18_code 4 = .ok (.iload_n 1, 1) := by decide +kernel
theorem d21_5 : decode jdk_38_method_18_code 5 = .ok (.aaload, 1) := by decide +kernel
theorem d21_6 : decode jdk_38_method_18_code 6 = .ok (.areturn, 1) := by decide +kernel
def Q_rmEld (Z : State) (a1 : Nat) (p1 : Int32) (b : Nat) (kb : ClassId) (es : List Value) (x : Nat) (h0 : Heap) (n0 : Nat) (v : Option Value) (h : Heap) (L : List Loc) : Prop := v = some (.ref x) ∧ Fr n0 L ∧ h = h0
set_option maxRecDepth 65536 in
set_option maxHeartbeats 40000000 in
theorem rmEld (l : Launch) (Z : State) (a0 : Array Value) (hw : ∀ d ∈ tables_1, d.before a0 Z = true) (ws : List Jvm.Cond) (a1 : Nat) (p1 : Int32) (b : Nat) (kb : ClassId) (es : List Value) (x : Nat) (h0 : Heap) (n0 : Nat) (Z0 : n0 ≤ h0.size) (Fe : Fld Z h0 a1 "java/util/ArrayList" "elementData" "[Ljava/lang/Object;" (.ref b)) (Vb : Arv Z h0 b kb (.object "java/lang/Object") (10 : Int32) es .null) (ib_i : ¬ p1 < 0 ∧ p1 < (10 : Int32)) (hev : es.getD p1.toNatClampNeg .null = .ref x) :
    MetFree l (⟨"java/util/ArrayList", "elementData", "(I)Ljava/lang/Object;"⟩ : MethodName) (head1 (Jvm.Cond.code (⟨"java/util/ArrayList", "elementData", "(I)Ljava/lang/Object;"⟩ : MethodName) jdk_38_method_18_code 2 (some (.object "java/lang/Object")) :: ws) ({ frames := 0, cells := 0, slots := 0, locals := 0 } : Room)) (fun a U => a = #[(.ref a1), (.int p1)] ∧ Z.Warmed39 U.vm ∧ U.heap = h0) (fun _ _ _ _ _ => True) (fun _ U o U' => ∃ v L, o = .returned v ∧ Q_rmEld Z a1 p1 b kb es x h0 n0 v U'.heap L ∧ FrameEnd U o U' L ({ frames := 0, cells := 0, slots := 0, locals := 0 } : Room).cells ({ frames := 0, cells := 0, slots := 0, locals := 0 } : Room).slots) := by
  have hw_99 := hw _ (List.mem_of_getElem? (i := 99) rfl)
  refine MetFree.of_bodySF (plainFor_of_name pn_ArrayList) hisR ?_
  intro p e s m args below meth c s₁ Bd hml0 hP hK
  obtain ⟨rfl, hZ, hh⟩ := hP
  have hx := Bd.exec
  have hby := Bd.bytes
  have hml : c.maxLocals = 2 := hml0
  have hown : s.vm.findClass "java/util/ArrayList" = some m.cls := findClass_of_methodNamed Bd.named
  have hnm := (name_of_methodNamed Bd.named Bd.method).1
  have X0 : Stand p l e ({ frames := 0, cells := 0, slots := 0, locals := 0 } : Room) s m #[(.ref a1), (.int p1)] below meth c s₁ [] 0 0 := Stand.of_body Bd
  have e0 : s₁.heap = h0 := by rw [← hh, Bd.state]; rfl
  have N0 := Fr.nil n0
  have pre0 : ∀ t_, Steps p.tables e below (s₁.setTop (mkF m 0 #[.val (.ref a1), .val (.int p1)] [])) t_ → Steps p.tables e below (s₁.setTop (entryFrame m #[(.ref a1), (.int p1)] 2)) t_ := fun t_ k_ => castTop (ef_21 m a1 p1) k_
  obtain ⟨T1, X1, e1, st1⟩ := getF X0 hx hZ hown (host := "") (Or.inl hw_99) Via.refl e0 Fe (g := (mkF m 1 #[.val (.ref a1), .val (.int p1)] [(.ref a1)])) rfl rfl (hb hby d21_1)
  obtain ⟨cl2, Ar2, q2, S2, M2, H2, G2⟩ := Vb
  have f3 : Arv Z h0 b kb (.object "java/lang/Object") (10 : Int32) es .null := ⟨cl2, Ar2, q2, S2, M2, H2, G2⟩
  have hin2 : ¬ (p1 < 0 ∨ cl2.slots.size ≤ (p1).toNatClampNeg) := inb_of S2 ib_i
  have hat2 : cl2.slots[(p1).toNatClampNeg]? = some (.ref x) := Has.at H2 hin2 hev
  have go4 : ∀ t_, Steps p.tables e below (T1.setTop (mkF m 6 #[.val (.ref a1), .val (.int p1)] [(.ref x)])) t_ → Steps p.tables e below (s₁.setTop (entryFrame m #[(.ref a1), (.int p1)] 2)) t_ := by
    intro t_ k_
    refine pre0 t_ ?_
    show Steps p.tables e below (s₁.setTop (mkF m 0 #[.val (.ref a1), .val (.int p1)] [])) _
    refine XS.aloadN X0.here hx rfl (hb hby d21_0) rfl rfl ?_
    show Steps p.tables e below (s₁.setTop (mkF m 1 #[.val (.ref a1), .val (.int p1)] [(.ref a1)])) _
    refine st1 _ ?_
    show Steps p.tables e below (T1.setTop (mkF m 4 #[.val (.ref a1), .val (.int p1)] [(.ref b)])) _
    refine XS.iloadN X1.here hx rfl (hb hby d21_4) rfl ?_
    show Steps p.tables e below (T1.setTop (mkF m 5 #[.val (.ref a1), .val (.int p1)] [(.int p1), (.ref b)])) _
    refine X1.aaload hx (j := p1) (v := (.ref x)) (by rw [e1]; exact Ar2.1) (State.isArrayOf_alike hZ.alike Ar2.2.1) rfl Ar2.2.2 hin2 hat2 (g := (mkF m 5 #[.val (.ref a1), .val (.int p1)] [(.int p1), (.ref b)])) rfl rfl (hb hby d21_5) _ ?_
    exact k_
  obtain ⟨fs, hr, hrun, hended, hW, hsame⟩ := X1.leave (v := some (.ref x)) (fun h => by rw [Bd.returns] at h; cases h)
  refine ⟨_, _, go4 _ ?_, hrun, hended, _, _, rfl, ?_, ⟨_, rfl⟩, hW, hsame.mono (by decide) (by decide)⟩
  · skip
    show Steps p.tables e below (T1.setTop (mkF m 6 #[.val (.ref a1), .val (.int p1)] [(.ref x)])) _
    jvm_step X1.here [X1.here.top, hx, (hb hby d21_6), X1.method', Bd.returns, Value.isRef, FieldType.isReference]
    first | (intro acts; rw [hr _ acts rfl rfl rfl]) | rw [hr _ _ rfl rfl rfl]
    exact Steps.refl _
  · show Q_rmEld Z a1 p1 b kb es x h0 n0 _ T1.heap _
    rw [e1]
    exact ⟨rfl, N0, rfl⟩
theorem ef_18 (m : MethodId) (x0 : Addr) (x1 : Int32) : entryFrame m #[(.ref x0), (.int x1)] 2 = mkF m 0 #[.val (.ref x0), .val (.int x1)] [] := by first | (simp [entryFrame, mkF, argsToLocals, Value.category]; done) | rfl
theorem d18_0 : decode jdk_38_method_20_code 0 = .ok (.iload_n 1, 1) := by decide +kernel
theorem d18_1 : decode jdk_38_method_20_code 1 = .ok (.aload_n 0, 1) := by decide +kernel
theorem d18_2 : decode jdk_38_method_20_code 2 = .ok (.getfield 48, 3) := by decide +kernel
theorem d18_5 : decode jdk_38_method_20_code 5 = .ok (.invokestatic 118, 3) := by decide +kernel
theorem d18_8 : decode jdk_38_method_20_code 8 = .ok (.pop, 1) := by decide +kernel
theorem d18_9 : decode jdk_38_method_20_code 9 = .ok (.aload_n 0, 1) := by decide +kernel
theorem d18_10 : decode jdk_38_method_20_code 10 = .ok (.iload_n 1, 1) := by decide +kernel
theorem d18_11 : decode jdk_38_method_20_code 11 = .ok (.invokevirtual 123, 3) := by decide +kernel
theorem pd_9 : parseMethodDescriptor "(I)Ljava/lang/Object;" = some ⟨[.int], some (.object "java/lang/Object")⟩ := by decide +kernel
theorem d18_14 : decode jdk_38_method_20_code 14 = .ok (.areturn, 1) := by decide +kernel
def Q_rmGet (Z : State) (a1 : Nat) (p1 : Int32) (p2 : Int32) (b : Nat) (kb : ClassId) (es : List Value) (x : Nat) (h0 : Heap) (n0 : Nat) (v : Option Value) (h : Heap) (L : List Loc) : Prop := v = some (.ref x) ∧ Fr n0 L ∧ h = h0
set_option maxRecDepth 65536 in
set_option maxHeartbeats 40000000 in
theorem rmGet (l : Launch) (Z : State) (a0 : Array Value) (hw : ∀ d ∈ tables_1, d.before a0 Z = true) (ws : List Jvm.Cond) (a1 : Nat) (p1 : Int32) (p2 : Int32) (b : Nat) (kb : ClassId) (es : List Value) (x : Nat) (h0 : Heap) (n0 : Nat) (Z0 : n0 ≤ h0.size) (Fe : Fld Z h0 a1 "java/util/ArrayList" "elementData" "[Ljava/lang/Object;" (.ref b)) (Vb : Arv Z h0 b kb (.object "java/lang/Object") (10 : Int32) es .null) (ib_i : ¬ p1 < 0 ∧ p1 < (10 : Int32)) (hev : es.getD p1.toNatClampNeg .null = .ref x) (Fs : Fld Z h0 a1 "java/util/ArrayList" "size" "I" (.int p2)) (E1 : Exa Z h0 a1 "java/util/ArrayList") (hi0 : ¬ (p1 < (0 : Int32))) (hik : p1 < p2) :
    MetFree l (⟨"java/util/ArrayList", "get", "(I)Ljava/lang/Object;"⟩ : MethodName) (head1 (Jvm.Cond.code (⟨"java/util/ArrayList", "get", "(I)Ljava/lang/Object;"⟩ : MethodName) jdk_38_method_20_code 2 (some (.object "java/lang/Object")) :: ws) ({ frames := 2, cells := 0, slots := 0, locals := 27 } : Room)) (fun a U => a = #[(.ref a1), (.int p1)] ∧ Z.Warmed39 U.vm ∧ U.heap = h0) (fun _ _ _ _ _ => True) (fun _ U o U' => ∃ v L, o = .returned v ∧ Q_rmGet Z a1 p1 p2 b kb es x h0 n0 v U'.heap L ∧ FrameEnd U o U' L ({ frames := 2, cells := 0, slots := 0, locals := 27 } : Room).cells ({ frames := 2, cells := 0, slots := 0, locals := 27 } : Room).slots) := by
  have hw_79 := hw _ (List.mem_of_getElem? (i := 79) rfl)
  have hw_112 := hw _ (List.mem_of_getElem? (i := 112) rfl)
  have hw_179 := hw _ (List.mem_of_getElem? (i := 179) rfl)
  have hw_180 := hw _ (List.mem_of_getElem? (i := 180) rfl)
  have hw_181 := hw _ (List.mem_of_getElem? (i := 181) rfl)
  have hw_182 := hw _ (List.mem_of_getElem? (i := 182) rfl)
  have hw_187 := hw _ (List.mem_of_getElem? (i := 187) rfl)
  have hw_188 := hw _ (List.mem_of_getElem? (i := 188) rfl)
  have hw_189 := hw _ (List.mem_of_getElem? (i := 189) rfl)
  have hw_190 := hw _ (List.mem_of_getElem? (i := 190) rfl)
  have hw_191 := hw _ (List.mem_of_getElem? (i := 191) rfl)
  refine MetFree.of_bodySF (plainFor_of_name pn_ArrayList) hisR ?_
  intro p e s m args below meth c s₁ Bd hml0 hP hK
  obtain ⟨rfl, hZ, hh⟩ := hP
  have hx := Bd.exec
  have hby := Bd.bytes
  have hml : c.maxLocals = 2 := hml0
  have hown : s.vm.findClass "java/util/ArrayList" = some m.cls := findClass_of_methodNamed Bd.named
  have hnm := (name_of_methodNamed Bd.named Bd.method).1
  have X0 : Stand p l e ({ frames := 2, cells := 0, slots := 0, locals := 27 } : Room) s m #[(.ref a1), (.int p1)] below meth c s₁ [] 0 0 := Stand.of_body Bd
  have e0 : s₁.heap = h0 := by rw [← hh, Bd.state]; rfl
  have N0 := Fr.nil n0
  have pre0 : ∀ t_, Steps p.tables e below (s₁.setTop (mkF m 0 #[.val (.ref a1), .val (.int p1)] [])) t_ → Steps p.tables e below (s₁.setTop (entryFrame m #[(.ref a1), (.int p1)] 2)) t_ := fun t_ k_ => castTop (ef_18 m a1 p1) k_
  obtain ⟨T1, X1, e1, st1⟩ := getF X0 hx hZ hown (host := "") (Or.inl hw_112) Via.refl e0 Fs (g := (mkF m 2 #[.val (.ref a1), .val (.int p1)] [(.ref a1), (.int p1)])) rfl rfl (hb hby d18_2)
  obtain ⟨_, _, ⟨T2, L2, k2, n2⟩, -, X2, ⟨Lc2, hQ2, l2, y2, z2⟩, st2⟩ := Jvm.LawKit.callS X1 hx (y := (⟨"java/util/Objects", "checkIndex", "(II)I"⟩ : MethodName)) hown (mvT hZ hw_179) (mvT hZ hw_180) (mvT hZ hw_181) (mvT hZ hw_182) (by decide) (backOf (W := 0) (rmOCI l Z a0 hw [] p1 p2 h0 n0 Z0 hi0 hik) hZ hw_182 hw_181 (by decide) (by decide)) (g := (mkF m 5 #[.val (.ref a1), .val (.int p1)] [(.int p2), (.int p1)])) rfl (by rw [hml]; rfl) (argsL := [(.int p1), (.int p2)]) (rest := []) (lenOf pd_4 rfl) rfl (by show 2 * 0 + _ ≤ _; exact Nat.le_of_eq rfl) (hb hby d18_5) (fun _ _ => ⟨rfl, e1, (by decide : 0 + 0 ≤ _), (by decide : 0 + 0 ≤ _)⟩)
  dsimp only [Pt.U, Pt.locs, Pt.cells, Pt.slots] at X2 l2 y2 z2 st2 hQ2
  subst l2 y2 z2
  obtain ⟨rfl, N2q, e2⟩ := hQ2
  have N2 := Fr.app N0 N2q
  obtain ⟨cq3, kq3, q3a, q3b, q3c⟩ := isOf hZ e2 E1
  obtain ⟨_, _, ⟨T3, L3, k3, n3⟩, -, X3, ⟨Lc3, hQ3, l3, y3, z3⟩, st3⟩ := X2.virtualBack hx (y := (⟨"java/util/ArrayList", "elementData", "(I)Ljava/lang/Object;"⟩ : MethodName)) (z := (⟨"java/util/ArrayList", "elementData", "(I)Ljava/lang/Object;"⟩ : MethodName)) hown (mvT hZ hw_187) (mvT hZ hw_188) (notFace_of_selects (args := #[]) (mvT hZ hw_190)) (mvT hZ hw_190) (mvT hZ hw_189) (by decide) (backOf (W := 0) (rmEld l Z a0 hw [] a1 p1 b kb es x h0 n0 Z0 Fe Vb ib_i hev) hZ hw_191 hw_79 (by decide) (by decide)) q3a q3c (g := (mkF m 11 #[.val (.ref a1), .val (.int p1)] [(.int p1), (.ref a1)])) rfl (by rw [hml]; rfl) (Steps.refl _) (argsL := [(.int p1)]) (rest := []) (lenOf pd_9 rfl) rfl (by show 2 * 0 + _ ≤ _; exact Nat.le_of_eq rfl) (hb hby d18_11) (fun _ _ => ⟨rfl, e2, (by decide : 0 + 0 ≤ _), (by decide : 0 + 0 ≤ _)⟩)
  dsimp only [Pt.U, Pt.locs, Pt.cells, Pt.slots] at X3 l3 y3 z3 st3 hQ3
  subst l3 y3 z3
  obtain ⟨rfl, N3q, e3⟩ := hQ3
  have N3 := Fr.app N2 N3q
  have go4 : ∀ t_, Steps p.tables e below (T3.setTop (mkF m 14 #[.val (.ref a1), .val (.int p1)] [(.ref x)])) t_ → Steps p.tables e below (s₁.setTop (entryFrame m #[(.ref a1), (.int p1)] 2)) t_ := by
    intro t_ k_
    refine pre0 t_ ?_
    show Steps p.tables e below (s₁.setTop (mkF m 0 #[.val (.ref a1), .val (.int p1)] [])) _
    refine XS.iloadN X0.here hx rfl (hb hby d18_0) rfl ?_
    show Steps p.tables e below (s₁.setTop (mkF m 1 #[.val (.ref a1), .val (.int p1)] [(.int p1)])) _
    refine XS.aloadN X0.here hx rfl (hb hby d18_1) rfl rfl ?_
    show Steps p.tables e below (s₁.setTop (mkF m 2 #[.val (.ref a1), .val (.int p1)] [(.ref a1), (.int p1)])) _
    refine st1 _ ?_
    show Steps p.tables e below (T1.setTop (mkF m 5 #[.val (.ref a1), .val (.int p1)] [(.int p2), (.int p1)])) _
    refine st2 _ ?_
    show Steps p.tables e below (T2.setTop (mkF m 8 #[.val (.ref a1), .val (.int p1)] [(.int p1)])) _
    refine XS.pop X2.here hx rfl (hb hby d18_8) rfl rfl ?_
    show Steps p.tables e below (T2.setTop (mkF m 9 #[.val (.ref a1), .val (.int p1)] [])) _
    refine XS.aloadN X2.here hx rfl (hb hby d18_9) rfl rfl ?_
    show Steps p.tables e below (T2.setTop (mkF m 10 #[.val (.ref a1), .val (.int p1)] [(.ref a1)])) _
    refine XS.iloadN X2.here hx rfl (hb hby d18_10) rfl ?_
    show Steps p.tables e below (T2.setTop (mkF m 11 #[.val (.ref a1), .val (.int p1)] [(.int p1), (.ref a1)])) _
    refine st3.trans ?_
    exact k_
  obtain ⟨fs, hr, hrun, hended, hW, hsame⟩ := X3.leave (v := some (.ref x)) (fun h => by rw [Bd.returns] at h; cases h)
  refine ⟨_, _, go4 _ ?_, hrun, hended, _, _, rfl, ?_, ⟨_, rfl⟩, hW, hsame.mono (by decide) (by decide)⟩
  · skip
    show Steps p.tables e below (T3.setTop (mkF m 14 #[.val (.ref a1), .val (.int p1)] [(.ref x)])) _
    jvm_step X3.here [X3.here.top, hx, (hb hby d18_14), X3.method', Bd.returns, Value.isRef, FieldType.isReference]
    first | (intro acts; rw [hr _ acts rfl rfl rfl]) | rw [hr _ _ rfl rfl rfl]
    exact Steps.refl _
  · show Q_rmGet Z a1 p1 p2 b kb es x h0 n0 _ T3.heap _
    rw [e3]
    exact ⟨rfl, N3, rfl⟩
theorem ef_22 (m : MethodId) (x0 : Addr) : entryFrame m #[(.ref x0)] 1 = mkF m 0 #[.val (.ref x0)] [] := by first | (simp [entryFrame, mkF, argsToLocals, Value.category]; done) | rfl
theorem d22_0 : decode prog_3_method_8_code 0 = .ok (.aload_n 0, 1) := by decide +kernel
theorem d22_1 : decode prog_3_method_8_code 1 = .ok (.getfield 21, 3) := by decide +kernel
theorem d22_4 : decode prog_3_method_8_code 4 = .ok (.areturn, 1) := by decide +kernel
def Q_rmRc0 (Z : State) (a1 : Nat) (h0 : Heap) (n0 : Nat) (v : Option Value) (h : Heap) (L : List Loc) : Prop := v = some .null ∧ Fr n0 L ∧ h = h0
set_option maxRecDepth 65536 in
set_option maxHeartbeats 40000000 in
theorem rmRc0 (l : Launch) (Z : State) (a0 : Array Value) (hw : ∀ d ∈ tables_1, d.before a0 Z = true) (ws : List Jvm.Cond) (a1 : Nat) (h0 : Heap) (n0 : Nat) (Z0 : n0 ≤ h0.size) (Fr_ : Fld Z h0 a1 "com/example/maksu/maksu/catalog/Phase" "recurring" "Lcom/example/maksu/maksu/catalog/Phase$Recurring;" .null) :
    MetFree l (⟨"com/example/maksu/maksu/catalog/Phase", "recurring", "()Lcom/example/maksu/maksu/catalog/Phase$Recurring;"⟩ : MethodName) (head1 (Jvm.Cond.code (⟨"com/example/maksu/maksu/catalog/Phase", "recurring", "()Lcom/example/maksu/maksu/catalog/Phase$Recurring;"⟩ : MethodName) prog_3_method_8_code 1 (some (.object "com/example/maksu/maksu/catalog/Phase$Recurring")) :: ws) ({ frames := 0, cells := 0, slots := 0, locals := 0 } : Room)) (fun a U => a = #[(.ref a1)] ∧ Z.Warmed39 U.vm ∧ U.heap = h0) (fun _ _ _ _ _ => True) (fun _ U o U' => ∃ v L, o = .returned v ∧ Q_rmRc0 Z a1 h0 n0 v U'.heap L ∧ FrameEnd U o U' L ({ frames := 0, cells := 0, slots := 0, locals := 0 } : Room).cells ({ frames := 0, cells := 0, slots := 0, locals := 0 } : Room).slots) := by
  have hw_75 := hw _ (List.mem_of_getElem? (i := 75) rfl)
  refine MetFree.of_bodySF (plainFor_of_name pn_Phase) hisR ?_
  intro p e s m args below meth c s₁ Bd hml0 hP hK
  obtain ⟨rfl, hZ, hh⟩ := hP
  have hx := Bd.exec
  have hby := Bd.bytes
  have hml : c.maxLocals = 1 := hml0
  have hown : s.vm.findClass "com/example/maksu/maksu/catalog/Phase" = some m.cls := findClass_of_methodNamed Bd.named
  have hnm := (name_of_methodNamed Bd.named Bd.method).1
  have X0 : Stand p l e ({ frames := 0, cells := 0, slots := 0, locals := 0 } : Room) s m #[(.ref a1)] below meth c s₁ [] 0 0 := Stand.of_body Bd
  have e0 : s₁.heap = h0 := by rw [← hh, Bd.state]; rfl
  have N0 := Fr.nil n0
  have pre0 : ∀ t_, Steps p.tables e below (s₁.setTop (mkF m 0 #[.val (.ref a1)] [])) t_ → Steps p.tables e below (s₁.setTop (entryFrame m #[(.ref a1)] 1)) t_ := fun t_ k_ => castTop (ef_22 m a1) k_
  obtain ⟨T1, X1, e1, st1⟩ := getF X0 hx hZ hown (host := "") (Or.inl hw_75) Via.refl e0 Fr_ (g := (mkF m 1 #[.val (.ref a1)] [(.ref a1)])) rfl rfl (hb hby d22_1)
  have go2 : ∀ t_, Steps p.tables e below (T1.setTop (mkF m 4 #[.val (.ref a1)] [.null])) t_ → Steps p.tables e below (s₁.setTop (entryFrame m #[(.ref a1)] 1)) t_ := by
    intro t_ k_
    refine pre0 t_ ?_
    show Steps p.tables e below (s₁.setTop (mkF m 0 #[.val (.ref a1)] [])) _
    refine XS.aloadN X0.here hx rfl (hb hby d22_0) rfl rfl ?_
    show Steps p.tables e below (s₁.setTop (mkF m 1 #[.val (.ref a1)] [(.ref a1)])) _
    refine st1 _ ?_
    exact k_
  obtain ⟨fs, hr, hrun, hended, hW, hsame⟩ := X1.leave (v := some .null) (fun h => by rw [Bd.returns] at h; cases h)
  refine ⟨_, _, go2 _ ?_, hrun, hended, _, _, rfl, ?_, ⟨_, rfl⟩, hW, hsame.mono (by decide) (by decide)⟩
  · skip
    show Steps p.tables e below (T1.setTop (mkF m 4 #[.val (.ref a1)] [.null])) _
    jvm_step X1.here [X1.here.top, hx, (hb hby d22_4), X1.method', Bd.returns, Value.isRef, FieldType.isReference]
    first | (intro acts; rw [hr _ acts rfl rfl rfl]) | rw [hr _ _ rfl rfl rfl]
    exact Steps.refl _
  · show Q_rmRc0 Z a1 h0 n0 _ T1.heap _
    rw [e1]
    exact ⟨rfl, N0, rfl⟩
def Q_rmRc1 (Z : State) (a1 : Nat) (r : Nat) (h0 : Heap) (n0 : Nat) (v : Option Value) (h : Heap) (L : List Loc) : Prop := v = some (.ref r) ∧ Fr n0 L ∧ h = h0
set_option maxRecDepth 65536 in
set_option maxHeartbeats 40000000 in
theorem rmRc1 (l : Launch) (Z : State) (a0 : Array Value) (hw : ∀ d ∈ tables_1, d.before a0 Z = true) (ws : List Jvm.Cond) (a1 : Nat) (r : Nat) (h0 : Heap) (n0 : Nat) (Z0 : n0 ≤ h0.size) (Fr_ : Fld Z h0 a1 "com/example/maksu/maksu/catalog/Phase" "recurring" "Lcom/example/maksu/maksu/catalog/Phase$Recurring;" (.ref r)) :
    MetFree l (⟨"com/example/maksu/maksu/catalog/Phase", "recurring", "()Lcom/example/maksu/maksu/catalog/Phase$Recurring;"⟩ : MethodName) (head1 (Jvm.Cond.code (⟨"com/example/maksu/maksu/catalog/Phase", "recurring", "()Lcom/example/maksu/maksu/catalog/Phase$Recurring;"⟩ : MethodName) prog_3_method_8_code 1 (some (.object "com/example/maksu/maksu/catalog/Phase$Recurring")) :: ws) ({ frames := 0, cells := 0, slots := 0, locals := 0 } : Room)) (fun a U => a = #[(.ref a1)] ∧ Z.Warmed39 U.vm ∧ U.heap = h0) (fun _ _ _ _ _ => True) (fun _ U o U' => ∃ v L, o = .returned v ∧ Q_rmRc1 Z a1 r h0 n0 v U'.heap L ∧ FrameEnd U o U' L ({ frames := 0, cells := 0, slots := 0, locals := 0 } : Room).cells ({ frames := 0, cells := 0, slots := 0, locals := 0 } : Room).slots) := by
  have hw_75 := hw _ (List.mem_of_getElem? (i := 75) rfl)
  refine MetFree.of_bodySF (plainFor_of_name pn_Phase) hisR ?_
  intro p e s m args below meth c s₁ Bd hml0 hP hK
  obtain ⟨rfl, hZ, hh⟩ := hP
  have hx := Bd.exec
  have hby := Bd.bytes
  have hml : c.maxLocals = 1 := hml0
  have hown : s.vm.findClass "com/example/maksu/maksu/catalog/Phase" = some m.cls := findClass_of_methodNamed Bd.named
  have hnm := (name_of_methodNamed Bd.named Bd.method).1
  have X0 : Stand p l e ({ frames := 0, cells := 0, slots := 0, locals := 0 } : Room) s m #[(.ref a1)] below meth c s₁ [] 0 0 := Stand.of_body Bd
  have e0 : s₁.heap = h0 := by rw [← hh, Bd.state]; rfl
  have N0 := Fr.nil n0
  have pre0 : ∀ t_, Steps p.tables e below (s₁.setTop (mkF m 0 #[.val (.ref a1)] [])) t_ → Steps p.tables e below (s₁.setTop (entryFrame m #[(.ref a1)] 1)) t_ := fun t_ k_ => castTop (ef_22 m a1) k_
  obtain ⟨T1, X1, e1, st1⟩ := getF X0 hx hZ hown (host := "") (Or.inl hw_75) Via.refl e0 Fr_ (g := (mkF m 1 #[.val (.ref a1)] [(.ref a1)])) rfl rfl (hb hby d22_1)
  have go2 : ∀ t_, Steps p.tables e below (T1.setTop (mkF m 4 #[.val (.ref a1)] [(.ref r)])) t_ → Steps p.tables e below (s₁.setTop (entryFrame m #[(.ref a1)] 1)) t_ := by
    intro t_ k_
    refine pre0 t_ ?_
    show Steps p.tables e below (s₁.setTop (mkF m 0 #[.val (.ref a1)] [])) _
    refine XS.aloadN X0.here hx rfl (hb hby d22_0) rfl rfl ?_
    show Steps p.tables e below (s₁.setTop (mkF m 1 #[.val (.ref a1)] [(.ref a1)])) _
    refine st1 _ ?_
    exact k_
  obtain ⟨fs, hr, hrun, hended, hW, hsame⟩ := X1.leave (v := some (.ref r)) (fun h => by rw [Bd.returns] at h; cases h)
  refine ⟨_, _, go2 _ ?_, hrun, hended, _, _, rfl, ?_, ⟨_, rfl⟩, hW, hsame.mono (by decide) (by decide)⟩
  · skip
    show Steps p.tables e below (T1.setTop (mkF m 4 #[.val (.ref a1)] [(.ref r)])) _
    jvm_step X1.here [X1.here.top, hx, (hb hby d22_4), X1.method', Bd.returns, Value.isRef, FieldType.isReference]
    first | (intro acts; rw [hr _ acts rfl rfl rfl]) | rw [hr _ _ rfl rfl rfl]
    exact Steps.refl _
  · show Q_rmRc1 Z a1 r h0 n0 _ T1.heap _
    rw [e1]
    exact ⟨rfl, N0, rfl⟩
theorem ef_23 (m : MethodId) (x0 : Addr) : entryFrame m #[(.ref x0)] 1 = mkF m 0 #[.val (.ref x0)] [] := by first | (simp [entryFrame, mkF, argsToLocals, Value.category]; done) | rfl
theorem d23_0 : decode prog_6_method_5_code 0 = .ok (.aload_n 0, 1) := by decide +kernel
theorem d23_1 : decode prog_6_method_5_code 1 = .ok (.getfield 7, 3) := by decide +kernel
theorem d23_4 : decode prog_6_method_5_code 4 = .ok (.areturn, 1) := by decide +kernel
def Q_rmRbp (Z : State) (a1 : Nat) (x : Nat) (h0 : Heap) (n0 : Nat) (v : Option Value) (h : Heap) (L : List Loc) : Prop := v = some (.ref x) ∧ Fr n0 L ∧ h = h0
set_option maxRecDepth 65536 in
set_option maxHeartbeats 40000000 in
theorem rmRbp (l : Launch) (Z : State) (a0 : Array Value) (hw : ∀ d ∈ tables_1, d.before a0 Z = true) (ws : List Jvm.Cond) (a1 : Nat) (x : Nat) (h0 : Heap) (n0 : Nat) (Z0 : n0 ≤ h0.size) (Fb : Fld Z h0 a1 "com/example/maksu/maksu/catalog/Phase$Recurring" "billingPeriod" "Lcom/example/maksu/maksu/catalog/BillingPeriod;" (.ref x)) :
    MetFree l (⟨"com/example/maksu/maksu/catalog/Phase$Recurring", "billingPeriod", "()Lcom/example/maksu/maksu/catalog/BillingPeriod;"⟩ : MethodName) (head1 (Jvm.Cond.code (⟨"com/example/maksu/maksu/catalog/Phase$Recurring", "billingPeriod", "()Lcom/example/maksu/maksu/catalog/BillingPeriod;"⟩ : MethodName) prog_6_method_5_code 1 (some (.object "com/example/maksu/maksu/catalog/BillingPeriod")) :: ws) ({ frames := 0, cells := 0, slots := 0, locals := 0 } : Room)) (fun a U => a = #[(.ref a1)] ∧ Z.Warmed39 U.vm ∧ U.heap = h0) (fun _ _ _ _ _ => True) (fun _ U o U' => ∃ v L, o = .returned v ∧ Q_rmRbp Z a1 x h0 n0 v U'.heap L ∧ FrameEnd U o U' L ({ frames := 0, cells := 0, slots := 0, locals := 0 } : Room).cells ({ frames := 0, cells := 0, slots := 0, locals := 0 } : Room).slots) := by
  have hw_58 := hw _ (List.mem_of_getElem? (i := 58) rfl)
  refine MetFree.of_bodySF (plainFor_of_name pn_Phase_Recurring) hisR ?_
  intro p e s m args below meth c s₁ Bd hml0 hP hK
  obtain ⟨rfl, hZ, hh⟩ := hP
  have hx := Bd.exec
  have hby := Bd.bytes
  have hml : c.maxLocals = 1 := hml0
  have hown : s.vm.findClass "com/example/maksu/maksu/catalog/Phase$Recurring" = some m.cls := findClass_of_methodNamed Bd.named
  have hnm := (name_of_methodNamed Bd.named Bd.method).1
  have X0 : Stand p l e ({ frames := 0, cells := 0, slots := 0, locals := 0 } : Room) s m #[(.ref a1)] below meth c s₁ [] 0 0 := Stand.of_body Bd
  have e0 : s₁.heap = h0 := by rw [← hh, Bd.state]; rfl
  have N0 := Fr.nil n0
  have pre0 : ∀ t_, Steps p.tables e below (s₁.setTop (mkF m 0 #[.val (.ref a1)] [])) t_ → Steps p.tables e below (s₁.setTop (entryFrame m #[(.ref a1)] 1)) t_ := fun t_ k_ => castTop (ef_23 m a1) k_
  obtain ⟨T1, X1, e1, st1⟩ := getF X0 hx hZ hown (host := "") (Or.inl hw_58) Via.refl e0 Fb (g := (mkF m 1 #[.val (.ref a1)] [(.ref a1)])) rfl rfl (hb hby d23_1)
  have go2 : ∀ t_, Steps p.tables e below (T1.setTop (mkF m 4 #[.val (.ref a1)] [(.ref x)])) t_ → Steps p.tables e below (s₁.setTop (entryFrame m #[(.ref a1)] 1)) t_ := by
    intro t_ k_
    refine pre0 t_ ?_
    show Steps p.tables e below (s₁.setTop (mkF m 0 #[.val (.ref a1)] [])) _
    refine XS.aloadN X0.here hx rfl (hb hby d23_0) rfl rfl ?_
    show Steps p.tables e below (s₁.setTop (mkF m 1 #[.val (.ref a1)] [(.ref a1)])) _
    refine st1 _ ?_
    exact k_
  obtain ⟨fs, hr, hrun, hended, hW, hsame⟩ := X1.leave (v := some (.ref x)) (fun h => by rw [Bd.returns] at h; cases h)
  refine ⟨_, _, go2 _ ?_, hrun, hended, _, _, rfl, ?_, ⟨_, rfl⟩, hW, hsame.mono (by decide) (by decide)⟩
  · skip
    show Steps p.tables e below (T1.setTop (mkF m 4 #[.val (.ref a1)] [(.ref x)])) _
    jvm_step X1.here [X1.here.top, hx, (hb hby d23_4), X1.method', Bd.returns, Value.isRef, FieldType.isReference]
    first | (intro acts; rw [hr _ acts rfl rfl rfl]) | rw [hr _ _ rfl rfl rfl]
    exact Steps.refl _
  · show Q_rmRbp Z a1 x h0 n0 _ T1.heap _
    rw [e1]
    exact ⟨rfl, N0, rfl⟩
theorem ef_25 (m : MethodId) (x0 : Addr) (x1 : Addr) : entryFrame m #[(.ref x0), (.ref x1)] 2 = mkF m 0 #[.val (.ref x0), .val (.ref x1)] [] := by first | (simp [entryFrame, mkF, argsToLocals, Value.category]; done) | rfl
theorem pn_Optional : plainName "java/util/Optional" = true := by first | (simp [plainName, overriddenIn]; done) | decide +kernel
theorem d25_0 : decode jdk_32_method_2_code 0 = .ok (.aload_n 0, 1) := by decide +kernel
theorem d25_1 : decode jdk_32_method_2_code 1 = .ok (.invokespecial 7, 3) := by decide +kernel
theorem d25_4 : decode jdk_32_method_2_code 4 = .ok (.aload_n 0, 1) := by decide +kernel
theorem d25_5 : decode jdk_32_method_2_code 5 = .ok (.aload_n 1, 1) := by decide +kernel
theorem d25_6 : decode jdk_32_method_2_code 6 = .ok (.putfield 13, 3) := by decide +kernel
theorem d25_9 : decode jdk_32_method_2_code 9 = .ok (.return_, 1) := by decide +kernel
def Q_rmOpI (Z : State) (a1 : Nat) (a2 : Nat) (h0 : Heap) (n0 : Nat) (v : Option Value) (h : Heap) (L : List Loc) : Prop := v = none ∧ Fr n0 L ∧ Keep h0 h [a1] ∧ Exa Z h a1 "java/util/Optional" ∧ Fld Z h a1 "java/util/Optional" "value" "Ljava/lang/Object;" (.ref a2)
set_option maxRecDepth 65536 in
set_option maxHeartbeats 40000000 in
theorem rmOpI (l : Launch) (Z : State) (a0 : Array Value) (hw : ∀ d ∈ tables_1, d.before a0 Z = true) (ws : List Jvm.Cond) (a1 : Nat) (a2 : Nat) (h0 : Heap) (n0 : Nat) (Z0 : n0 ≤ h0.size) (E1 : Exa Z h0 a1 "java/util/Optional") (Fv : Fld Z h0 a1 "java/util/Optional" "value" "Ljava/lang/Object;" .null) (ga : n0 ≤ a1) :
    MetFree l (⟨"java/util/Optional", "<init>", "(Ljava/lang/Object;)V"⟩ : MethodName) (head1 (Jvm.Cond.code (⟨"java/util/Optional", "<init>", "(Ljava/lang/Object;)V"⟩ : MethodName) jdk_32_method_2_code 2 none :: ws) ({ frames := 1, cells := 0, slots := 0, locals := 12 } : Room)) (fun a U => a = #[(.ref a1), (.ref a2)] ∧ Z.Warmed39 U.vm ∧ U.heap = h0) (fun _ _ _ _ _ => True) (fun _ U o U' => ∃ v L, o = .returned v ∧ Q_rmOpI Z a1 a2 h0 n0 v U'.heap L ∧ FrameEnd U o U' L ({ frames := 1, cells := 0, slots := 0, locals := 12 } : Room).cells ({ frames := 1, cells := 0, slots := 0, locals := 12 } : Room).slots) := by
  have hw_56 := hw _ (List.mem_of_getElem? (i := 56) rfl)
  have hw_57 := hw _ (List.mem_of_getElem? (i := 57) rfl)
  have hw_209 := hw _ (List.mem_of_getElem? (i := 209) rfl)
  have hw_214 := hw _ (List.mem_of_getElem? (i := 214) rfl)
  have hw_215 := hw _ (List.mem_of_getElem? (i := 215) rfl)
  have hw_216 := hw _ (List.mem_of_getElem? (i := 216) rfl)
  refine MetFree.of_bodySF (plainFor_of_name pn_Optional) hisR ?_
  intro p e s m args below meth c s₁ Bd hml0 hP hK
  obtain ⟨rfl, hZ, hh⟩ := hP
  have hx := Bd.exec
  have hby := Bd.bytes
  have hml : c.maxLocals = 2 := hml0
  have hown : s.vm.findClass "java/util/Optional" = some m.cls := findClass_of_methodNamed Bd.named
  have hnm := (name_of_methodNamed Bd.named Bd.method).1
  have X0 : Stand p l e ({ frames := 1, cells := 0, slots := 0, locals := 12 } : Room) s m #[(.ref a1), (.ref a2)] below meth c s₁ [] 0 0 := Stand.of_body Bd
  have e0 : s₁.heap = h0 := by rw [← hh, Bd.state]; rfl
  have N0 := Fr.nil n0
  have pre0 : ∀ t_, Steps p.tables e below (s₁.setTop (mkF m 0 #[.val (.ref a1), .val (.ref a2)] [])) t_ → Steps p.tables e below (s₁.setTop (entryFrame m #[(.ref a1), (.ref a2)] 2)) t_ := fun t_ k_ => castTop (ef_25 m a1 a2) k_
  have K0 : Keep h0 h0 [a1] := Keep.refl h0 _
  obtain ⟨T1, X1, e1, st1⟩ := initO X0 hx hZ hown hw_214 hw_56 hw_57 e0 (g := (mkF m 1 #[.val (.ref a1), .val (.ref a2)] [(.ref a1)])) rfl (by rw [hml]; rfl) rfl (hb hby d25_1) (by decide) (W := 0) (by show 2 * 0 + _ ≤ _; exact Nat.le_of_eq rfl) (by decide)
  obtain ⟨T2, h2, X2, e2, W2, st2⟩ := putF X1 hx hZ hown (host := "") (Or.inl hw_215) Via.refl e1 Fv E1 (Or.inr ⟨hw_216, rfl, hnm⟩) hw_209 (ty := (.object "java/lang/Object")) (by decide) rfl rfl (g := (mkF m 6 #[.val (.ref a1), .val (.ref a2)] [(.ref a2), (.ref a1)])) rfl rfl (hb hby d25_6)
  have Fw2 := Fv.same W2
  have N2 := Fr.snoc X2 N0 (show n0 ≤ a1 by omega)
  have sz2 : h0.size ≤ h2.size := Nat.le_of_eq W2.size.symm
  have Z2 : n0 ≤ h2.size := Nat.le_trans Z0 sz2
  have K2 : Keep h0 h2 [a1] := K0.wr W2 (Or.inl (by simp))
  have go3 : ∀ t_, Steps p.tables e below (T2.setTop (mkF m 9 #[.val (.ref a1), .val (.ref a2)] [])) t_ → Steps p.tables e below (s₁.setTop (entryFrame m #[(.ref a1), (.ref a2)] 2)) t_ := by
    intro t_ k_
    refine pre0 t_ ?_
    show Steps p.tables e below (s₁.setTop (mkF m 0 #[.val (.ref a1), .val (.ref a2)] [])) _
    refine XS.aloadN X0.here hx rfl (hb hby d25_0) rfl rfl ?_
    show Steps p.tables e below (s₁.setTop (mkF m 1 #[.val (.ref a1), .val (.ref a2)] [(.ref a1)])) _
    refine st1 _ ?_
    show Steps p.tables e below (T1.setTop (mkF m 4 #[.val (.ref a1), .val (.ref a2)] [])) _
    refine XS.aloadN X1.here hx rfl (hb hby d25_4) rfl rfl ?_
    show Steps p.tables e below (T1.setTop (mkF m 5 #[.val (.ref a1), .val (.ref a2)] [(.ref a1)])) _
    refine XS.aloadN X1.here hx rfl (hb hby d25_5) rfl rfl ?_
    show Steps p.tables e below (T1.setTop (mkF m 6 #[.val (.ref a1), .val (.ref a2)] [(.ref a2), (.ref a1)])) _
    refine st2 _ ?_
    exact k_
  obtain ⟨fs, hr, hrun, hended, hW, hsame⟩ := X2.leave (v := none) (fun _ => rfl)
  have f4 := (E1.wr W2)
  refine ⟨_, _, go3 _ ?_, hrun, hended, _, _, rfl, ?_, ⟨_, rfl⟩, hW, hsame.mono (by decide) (by decide)⟩
  · skip
    show Steps p.tables e below (T2.setTop (mkF m 9 #[.val (.ref a1), .val (.ref a2)] [])) _
    exact X2.returnOut hx Bd.returns (hb hby d25_9) hr
  · show Q_rmOpI Z a1 a2 h0 n0 _ T2.heap _
    rw [e2]
    exact ⟨rfl, N2, K2, f4, Fw2⟩
theorem ef_24n0 (m : MethodId)  : entryFrame m #[.null] 1 = mkF m 0 #[.val .null] [] := by first | (simp [entryFrame, mkF, argsToLocals, Value.category]; done) | rfl
theorem d24_0 : decode jdk_32_method_4_code 0 = .ok (.aload_n 0, 1) := by decide +kernel
theorem d24_1 : decode jdk_32_method_4_code 1 = .ok (.ifnonnull 9, 3) := by decide +kernel
theorem d24_4 : decode jdk_32_method_4_code 4 = .ok (.getstatic 1, 3) := by decide +kernel
theorem d24_7 : decode jdk_32_method_4_code 7 = .ok (.goto 11, 3) := by decide +kernel
theorem d24_18 : decode jdk_32_method_4_code 18 = .ok (.areturn, 1) := by decide +kernel
def Q_rmOn0 (Z : State) (wE : Nat) (h0 : Heap) (n0 : Nat) (v : Option Value) (h : Heap) (L : List Loc) : Prop := v = some (.ref wE) ∧ Fr n0 L ∧ h = h0
set_option maxRecDepth 65536 in
set_option maxHeartbeats 40000000 in
theorem rmOn0 (l : Launch) (Z : State) (a0 : Array Value) (hw : ∀ d ∈ tables_1, d.before a0 Z = true) (ws : List Jvm.Cond) (wE : Nat) (h0 : Heap) (n0 : Nat) (Z0 : n0 ≤ h0.size) (S_E : Sta Z Z.heap "java/util/Optional" "EMPTY" "Ljava/util/Optional;" (.ref wE)) (O0 : Old Z n0 h0) :
    MetFree l (⟨"java/util/Optional", "ofNullable", "(Ljava/lang/Object;)Ljava/util/Optional;"⟩ : MethodName) (head1 (Jvm.Cond.code (⟨"java/util/Optional", "ofNullable", "(Ljava/lang/Object;)Ljava/util/Optional;"⟩ : MethodName) jdk_32_method_4_code 1 (some (.object "java/util/Optional")) :: ws) ({ frames := 0, cells := 0, slots := 0, locals := 0 } : Room)) (fun a U => a = #[.null] ∧ Z.Warmed39 U.vm ∧ U.heap = h0) (fun _ _ _ _ _ => True) (fun _ U o U' => ∃ v L, o = .returned v ∧ Q_rmOn0 Z wE h0 n0 v U'.heap L ∧ FrameEnd U o U' L ({ frames := 0, cells := 0, slots := 0, locals := 0 } : Room).cells ({ frames := 0, cells := 0, slots := 0, locals := 0 } : Room).slots) := by
  have hw_222 := hw _ (List.mem_of_getElem? (i := 222) rfl)
  refine MetFree.of_bodySF (plainFor_of_name pn_Optional) hisR ?_
  intro p e s m args below meth c s₁ Bd hml0 hP hK
  obtain ⟨rfl, hZ, hh⟩ := hP
  have hx := Bd.exec
  have hby := Bd.bytes
  have hml : c.maxLocals = 1 := hml0
  have hown : s.vm.findClass "java/util/Optional" = some m.cls := findClass_of_methodNamed Bd.named
  have hnm := (name_of_methodNamed Bd.named Bd.method).1
  have X0 : Stand p l e ({ frames := 0, cells := 0, slots := 0, locals := 0 } : Room) s m #[.null] below meth c s₁ [] 0 0 := Stand.of_body Bd
  have e0 : s₁.heap = h0 := by rw [← hh, Bd.state]; rfl
  have N0 := Fr.nil n0
  have pre0 : ∀ t_, Steps p.tables e below (s₁.setTop (mkF m 0 #[.val .null] [])) t_ → Steps p.tables e below (s₁.setTop (entryFrame m #[.null] 1)) t_ := fun t_ k_ => castTop (ef_24n0 m ) k_
  obtain ⟨T1, X1, e1, st1⟩ := getS2 X0 hx hZ hown (host := "") (Or.inl hw_222) Via.refl e0 (S_E.ext O0.2) (g := (mkF m 4 #[.val .null] [])) rfl (hb hby d24_4)
  have go2 : ∀ t_, Steps p.tables e below (T1.setTop (mkF m 18 #[.val .null] [(.ref wE)])) t_ → Steps p.tables e below (s₁.setTop (entryFrame m #[.null] 1)) t_ := by
    intro t_ k_
    refine pre0 t_ ?_
    show Steps p.tables e below (s₁.setTop (mkF m 0 #[.val .null] [])) _
    refine XS.aloadN X0.here hx rfl (hb hby d24_0) rfl rfl ?_
    show Steps p.tables e below (s₁.setTop (mkF m 1 #[.val .null] [.null])) _
    refine XS.ifnonnullNo X0.here hx rfl (hb hby d24_1) rfl ?_
    show Steps p.tables e below (s₁.setTop (mkF m 4 #[.val .null] [])) _
    refine st1 _ ?_
    show Steps p.tables e below (T1.setTop (mkF m 7 #[.val .null] [(.ref wE)])) _
    refine XS.goto X1.here hx rfl (pc0 := 7) (pc' := 18) rfl (hb hby d24_7) (by decide) (by decide) ?_
    exact k_
  obtain ⟨fs, hr, hrun, hended, hW, hsame⟩ := X1.leave (v := some (.ref wE)) (fun h => by rw [Bd.returns] at h; cases h)
  refine ⟨_, _, go2 _ ?_, hrun, hended, _, _, rfl, ?_, ⟨_, rfl⟩, hW, hsame.mono (by decide) (by decide)⟩
  · skip
    show Steps p.tables e below (T1.setTop (mkF m 18 #[.val .null] [(.ref wE)])) _
    jvm_step X1.here [X1.here.top, hx, (hb hby d24_18), X1.method', Bd.returns, Value.isRef, FieldType.isReference]
    first | (intro acts; rw [hr _ acts rfl rfl rfl]) | rw [hr _ _ rfl rfl rfl]
    exact Steps.refl _
  · show Q_rmOn0 Z wE h0 n0 _ T1.heap _
    rw [e1]
    exact ⟨rfl, N0, rfl⟩
theorem ef_24 (m : MethodId) (x0 : Addr) : entryFrame m #[(.ref x0)] 1 = mkF m 0 #[.val (.ref x0)] [] := by first | (simp [entryFrame, mkF, argsToLocals, Value.category]; done) | rfl
theorem d24_10 : decode jdk_32_method_4_code 10 = .ok (.new 2, 3) := by decide +kernel
theorem d24_13 : decode jdk_32_method_4_code 13 = .ok (.dup, 1) := by decide +kernel
theorem d24_14 : decode jdk_32_method_4_code 14 = .ok (.aload_n 0, 1) := by decide +kernel
theorem d24_15 : decode jdk_32_method_4_code 15 = .ok (.invokespecial 23, 3) := by decide +kernel
theorem pd_10 : parseMethodDescriptor "(Ljava/lang/Object;)V" = some ⟨[(.object "java/lang/Object")], none⟩ := by decide +kernel
def Q_rmOn1 (Z : State) (a1 : Nat) (h0 : Heap) (n0 : Nat) (v : Option Value) (h : Heap) (L : List Loc) : Prop := ∃ b : Nat, v = some (.ref b) ∧ Fr n0 L ∧ Keep h0 h [] ∧ h0.size ≤ b ∧ b < h.size ∧ Exa Z h b "java/util/Optional" ∧ Fld Z h b "java/util/Optional" "value" "Ljava/lang/Object;" (.ref a1)
set_option maxRecDepth 65536 in
set_option maxHeartbeats 40000000 in
theorem rmOn1 (l : Launch) (Z : State) (a0 : Array Value) (hw : ∀ d ∈ tables_1, d.before a0 Z = true) (ws : List Jvm.Cond) (a1 : Nat) (h0 : Heap) (n0 : Nat) (Z0 : n0 ≤ h0.size) :
    MetFree l (⟨"java/util/Optional", "ofNullable", "(Ljava/lang/Object;)Ljava/util/Optional;"⟩ : MethodName) (head1 (Jvm.Cond.code (⟨"java/util/Optional", "ofNullable", "(Ljava/lang/Object;)Ljava/util/Optional;"⟩ : MethodName) jdk_32_method_4_code 1 (some (.object "java/util/Optional")) :: ws) ({ frames := 2, cells := 1, slots := 1, locals := 26 } : Room)) (fun a U => a = #[(.ref a1)] ∧ Z.Warmed39 U.vm ∧ U.heap = h0) (fun _ _ _ _ _ => True) (fun _ U o U' => ∃ v L, o = .returned v ∧ Q_rmOn1 Z a1 h0 n0 v U'.heap L ∧ FrameEnd U o U' L ({ frames := 2, cells := 1, slots := 1, locals := 26 } : Room).cells ({ frames := 2, cells := 1, slots := 1, locals := 26 } : Room).slots) := by
  have hw_206 := hw _ (List.mem_of_getElem? (i := 206) rfl)
  have hw_208 := hw _ (List.mem_of_getElem? (i := 208) rfl)
  have hw_209 := hw _ (List.mem_of_getElem? (i := 209) rfl)
  have hw_210 := hw _ (List.mem_of_getElem? (i := 210) rfl)
  have hw_211 := hw _ (List.mem_of_getElem? (i := 211) rfl)
  have hw_213 := hw _ (List.mem_of_getElem? (i := 213) rfl)
  have hw_216 := hw _ (List.mem_of_getElem? (i := 216) rfl)
  refine MetFree.of_bodySF (plainFor_of_name pn_Optional) hisR ?_
  intro p e s m args below meth c s₁ Bd hml0 hP hK
  obtain ⟨rfl, hZ, hh⟩ := hP
  have hx := Bd.exec
  have hby := Bd.bytes
  have hml : c.maxLocals = 1 := hml0
  have hown : s.vm.findClass "java/util/Optional" = some m.cls := findClass_of_methodNamed Bd.named
  have hnm := (name_of_methodNamed Bd.named Bd.method).1
  have X0 : Stand p l e ({ frames := 2, cells := 1, slots := 1, locals := 26 } : Room) s m #[(.ref a1)] below meth c s₁ [] 0 0 := Stand.of_body Bd
  have e0 : s₁.heap = h0 := by rw [← hh, Bd.state]; rfl
  have N0 := Fr.nil n0
  have pre0 : ∀ t_, Steps p.tables e below (s₁.setTop (mkF m 0 #[.val (.ref a1)] [])) t_ → Steps p.tables e below (s₁.setTop (entryFrame m #[(.ref a1)] 1)) t_ := fun t_ k_ => castTop (ef_24 m a1) k_
  have K0 : Keep h0 h0 [] := Keep.refl h0 _
  obtain ⟨T1, h1, X1, e1, E1, A1, D1, -, st1⟩ := newO X0 hx hZ hown hw_208 hw_209 hw_206 e0 (g := (mkF m 10 #[.val (.ref a1)] [])) rfl (hb hby d24_10) (by decide) (by decide)
  obtain ⟨b1, g1⟩ : ∃ z, z = h0.size := ⟨_, rfl⟩
  rw [← g1] at A1 D1 st1
  have lt1 : b1 < h1.size := A1.lt
  have sz1 : h0.size ≤ h1.size := E1.1
  have Z1 : n0 ≤ h1.size := Nat.le_trans Z0 sz1
  have K1 : Keep h0 h1 [] := K0.ext E1
  have F2 : Fld Z h1 b1 "java/util/Optional" "value" "Ljava/lang/Object;" .null := D1 (Or.inr hw_216) (ty := (.object "java/lang/Object")) (by decide)
  obtain ⟨_, _, ⟨T3, L3, k3, n3⟩, -, X3, ⟨Lc3, hQ3, l3, y3, z3⟩, st3⟩ := X1.specialBack hx (y := (⟨"java/util/Optional", "<init>", "(Ljava/lang/Object;)V"⟩ : MethodName)) rfl hown (mvT hZ hw_210) (mvT hZ hw_211) (mvT hZ hw_213) (by decide) (backOf (W := 1) (rmOpI l Z a0 hw [] b1 a1 h1 n0 Z1 A1 F2 (by omega)) hZ hw_213 hw_206 (by decide) (by decide)) (g := (mkF m 15 #[.val (.ref a1)] [(.ref a1), (.ref b1), (.ref b1)])) rfl (by rw [hml]; rfl) (Steps.refl _) (a := b1) (argsL := [(.ref a1)]) (rest := [(.ref b1)]) (lenOf pd_10 rfl) rfl (by show 2 * 0 + _ ≤ _; exact Nat.le_of_eq rfl) (hb hby d24_15) (fun _ _ => ⟨rfl, e1, (by decide : 1 + 0 ≤ _), (by decide : 1 + 0 ≤ _)⟩)
  dsimp only [Pt.U, Pt.locs, Pt.cells, Pt.slots] at X3 l3 y3 z3 st3 hQ3
  subst l3 y3 z3
  obtain ⟨rfl, N3q, Kc3, Ec3, Fc3⟩ := hQ3
  have N3 := Fr.app N0 N3q
  have sz3 : h1.size ≤ T3.heap.size := Kc3.1
  have Z3 : n0 ≤ T3.heap.size := Nat.le_trans Z1 sz3
  have K3 : Keep h0 T3.heap [] := K1.trans Kc3 (allS (Or.inr (by omega)) all0)
  have go4 : ∀ t_, Steps p.tables e below (T3.setTop (mkF m 18 #[.val (.ref a1)] [(.ref b1)])) t_ → Steps p.tables e below (s₁.setTop (entryFrame m #[(.ref a1)] 1)) t_ := by
    intro t_ k_
    refine pre0 t_ ?_
    show Steps p.tables e below (s₁.setTop (mkF m 0 #[.val (.ref a1)] [])) _
    refine XS.aloadN X0.here hx rfl (hb hby d24_0) rfl rfl ?_
    show Steps p.tables e below (s₁.setTop (mkF m 1 #[.val (.ref a1)] [(.ref a1)])) _
    refine XS.ifnonnullYes X0.here hx rfl (pc0 := 1) (pc' := 10) rfl (hb hby d24_1) rfl (by decide) (by decide) ?_
    show Steps p.tables e below (s₁.setTop (mkF m 10 #[.val (.ref a1)] [])) _
    refine st1 _ ?_
    show Steps p.tables e below (T1.setTop (mkF m 13 #[.val (.ref a1)] [(.ref b1)])) _
    refine XS.dup X1.here hx rfl (hb hby d24_13) rfl rfl ?_
    show Steps p.tables e below (T1.setTop (mkF m 14 #[.val (.ref a1)] [(.ref b1), (.ref b1)])) _
    refine XS.aloadN X1.here hx rfl (hb hby d24_14) rfl rfl ?_
    show Steps p.tables e below (T1.setTop (mkF m 15 #[.val (.ref a1)] [(.ref a1), (.ref b1), (.ref b1)])) _
    refine st3.trans ?_
    exact k_
  obtain ⟨fs, hr, hrun, hended, hW, hsame⟩ := X3.leave (v := some (.ref b1)) (fun h => by rw [Bd.returns] at h; cases h)
  refine ⟨_, _, go4 _ ?_, hrun, hended, _, _, rfl, ?_, ⟨_, rfl⟩, hW, hsame.mono (by decide) (by decide)⟩
  · skip
    show Steps p.tables e below (T3.setTop (mkF m 18 #[.val (.ref a1)] [(.ref b1)])) _
    jvm_step X3.here [X3.here.top, hx, (hb hby d24_18), X3.method', Bd.returns, Value.isRef, FieldType.isReference]
    first | (intro acts; rw [hr _ acts rfl rfl rfl]) | rw [hr _ _ rfl rfl rfl]
    exact Steps.refl _
  · show Q_rmOn1 Z a1 h0 n0 _ T3.heap _
    exact ⟨b1, rfl, N3, K3, by omega, by omega, Ec3, Fc3⟩
theorem ef_26n1 (m : MethodId) (x0 : Addr) : entryFrame m #[(.ref x0), .null] 2 = mkF m 0 #[.val (.ref x0), .val .null] [] := by first | (simp [entryFrame, mkF, argsToLocals, Value.category]; done) | rfl
theorem d26_0 : decode jdk_32_method_15_code 0 = .ok (.aload_n 0, 1) := by decide +kernel
theorem d26_1 : decode jdk_32_method_15_code 1 = .ok (.getfield 13, 3) := by decide +kernel
theorem d26_4 : decode jdk_32_method_15_code 4 = .ok (.ifnull 10, 3) := by decide +kernel
theorem d26_14 : decode jdk_32_method_15_code 14 = .ok (.aload_n 1, 1) := by decide +kernel
theorem d26_15 : decode jdk_32_method_15_code 15 = .ok (.areturn, 1) := by decide +kernel
def Q_rmOr0 (Z : State) (a1 : Nat) (h0 : Heap) (n0 : Nat) (v : Option Value) (h : Heap) (L : List Loc) : Prop := v = some .null ∧ Fr n0 L ∧ h = h0
set_option maxRecDepth 65536 in
set_option maxHeartbeats 40000000 in
theorem rmOr0 (l : Launch) (Z : State) (a0 : Array Value) (hw : ∀ d ∈ tables_1, d.before a0 Z = true) (ws : List Jvm.Cond) (a1 : Nat) (h0 : Heap) (n0 : Nat) (Z0 : n0 ≤ h0.size) (Fv : Fld Z h0 a1 "java/util/Optional" "value" "Ljava/lang/Object;" .null) :
    MetFree l (⟨"java/util/Optional", "orElse", "(Ljava/lang/Object;)Ljava/lang/Object;"⟩ : MethodName) (head1 (Jvm.Cond.code (⟨"java/util/Optional", "orElse", "(Ljava/lang/Object;)Ljava/lang/Object;"⟩ : MethodName) jdk_32_method_15_code 2 (some (.object "java/lang/Object")) :: ws) ({ frames := 0, cells := 0, slots := 0, locals := 0 } : Room)) (fun a U => a = #[(.ref a1), .null] ∧ Z.Warmed39 U.vm ∧ U.heap = h0) (fun _ _ _ _ _ => True) (fun _ U o U' => ∃ v L, o = .returned v ∧ Q_rmOr0 Z a1 h0 n0 v U'.heap L ∧ FrameEnd U o U' L ({ frames := 0, cells := 0, slots := 0, locals := 0 } : Room).cells ({ frames := 0, cells := 0, slots := 0, locals := 0 } : Room).slots) := by
  have hw_215 := hw _ (List.mem_of_getElem? (i := 215) rfl)
  refine MetFree.of_bodySF (plainFor_of_name pn_Optional) hisR ?_
  intro p e s m args below meth c s₁ Bd hml0 hP hK
  obtain ⟨rfl, hZ, hh⟩ := hP
  have hx := Bd.exec
  have hby := Bd.bytes
  have hml : c.maxLocals = 2 := hml0
  have hown : s.vm.findClass "java/util/Optional" = some m.cls := findClass_of_methodNamed Bd.named
  have hnm := (name_of_methodNamed Bd.named Bd.method).1
  have X0 : Stand p l e ({ frames := 0, cells := 0, slots := 0, locals := 0 } : Room) s m #[(.ref a1), .null] below meth c s₁ [] 0 0 := Stand.of_body Bd
  have e0 : s₁.heap = h0 := by rw [← hh, Bd.state]; rfl
  have N0 := Fr.nil n0
  have pre0 : ∀ t_, Steps p.tables e below (s₁.setTop (mkF m 0 #[.val (.ref a1), .val .null] [])) t_ → Steps p.tables e below (s₁.setTop (entryFrame m #[(.ref a1), .null] 2)) t_ := fun t_ k_ => castTop (ef_26n1 m a1) k_
  obtain ⟨T1, X1, e1, st1⟩ := getF X0 hx hZ hown (host := "") (Or.inl hw_215) Via.refl e0 Fv (g := (mkF m 1 #[.val (.ref a1), .val .null] [(.ref a1)])) rfl rfl (hb hby d26_1)
  have go2 : ∀ t_, Steps p.tables e below (T1.setTop (mkF m 15 #[.val (.ref a1), .val .null] [.null])) t_ → Steps p.tables e below (s₁.setTop (entryFrame m #[(.ref a1), .null] 2)) t_ := by
    intro t_ k_
    refine pre0 t_ ?_
    show Steps p.tables e below (s₁.setTop (mkF m 0 #[.val (.ref a1), .val .null] [])) _
    refine XS.aloadN X0.here hx rfl (hb hby d26_0) rfl rfl ?_
    show Steps p.tables e below (s₁.setTop (mkF m 1 #[.val (.ref a1), .val .null] [(.ref a1)])) _
    refine st1 _ ?_
    show Steps p.tables e below (T1.setTop (mkF m 4 #[.val (.ref a1), .val .null] [.null])) _
    refine XS.ifnullYes X1.here hx rfl (pc0 := 4) (pc' := 14) rfl (hb hby d26_4) rfl (by decide) (by decide) ?_
    show Steps p.tables e below (T1.setTop (mkF m 14 #[.val (.ref a1), .val .null] [])) _
    refine XS.aloadN X1.here hx rfl (hb hby d26_14) rfl rfl ?_
    exact k_
  obtain ⟨fs, hr, hrun, hended, hW, hsame⟩ := X1.leave (v := some .null) (fun h => by rw [Bd.returns] at h; cases h)
  refine ⟨_, _, go2 _ ?_, hrun, hended, _, _, rfl, ?_, ⟨_, rfl⟩, hW, hsame.mono (by decide) (by decide)⟩
  · skip
    show Steps p.tables e below (T1.setTop (mkF m 15 #[.val (.ref a1), .val .null] [.null])) _
    jvm_step X1.here [X1.here.top, hx, (hb hby d26_15), X1.method', Bd.returns, Value.isRef, FieldType.isReference]
    first | (intro acts; rw [hr _ acts rfl rfl rfl]) | rw [hr _ _ rfl rfl rfl]
    exact Steps.refl _
  · show Q_rmOr0 Z a1 h0 n0 _ T1.heap _
    rw [e1]
    exact ⟨rfl, N0, rfl⟩
theorem d26_7 : decode jdk_32_method_15_code 7 = .ok (.aload_n 0, 1) := by decide +kernel
theorem d26_8 : decode jdk_32_method_15_code 8 = .ok (.getfield 13, 3) := by decide +kernel
theorem d26_11 : decode jdk_32_method_15_code 11 = .ok (.goto 4, 3) := by decide +kernel
def Q_rmOr1 (Z : State) (a1 : Nat) (x : Nat) (h0 : Heap) (n0 : Nat) (v : Option Value) (h : Heap) (L : List Loc) : Prop := v = some (.ref x) ∧ Fr n0 L ∧ h = h0
set_option maxRecDepth 65536 in
set_option maxHeartbeats 40000000 in
theorem rmOr1 (l : Launch) (Z : State) (a0 : Array Value) (hw : ∀ d ∈ tables_1, d.before a0 Z = true) (ws : List Jvm.Cond) (a1 : Nat) (x : Nat) (h0 : Heap) (n0 : Nat) (Z0 : n0 ≤ h0.size) (Fv : Fld Z h0 a1 "java/util/Optional" "value" "Ljava/lang/Object;" (.ref x)) :
    MetFree l (⟨"java/util/Optional", "orElse", "(Ljava/lang/Object;)Ljava/lang/Object;"⟩ : MethodName) (head1 (Jvm.Cond.code (⟨"java/util/Optional", "orElse", "(Ljava/lang/Object;)Ljava/lang/Object;"⟩ : MethodName) jdk_32_method_15_code 2 (some (.object "java/lang/Object")) :: ws) ({ frames := 0, cells := 0, slots := 0, locals := 0 } : Room)) (fun a U => a = #[(.ref a1), .null] ∧ Z.Warmed39 U.vm ∧ U.heap = h0) (fun _ _ _ _ _ => True) (fun _ U o U' => ∃ v L, o = .returned v ∧ Q_rmOr1 Z a1 x h0 n0 v U'.heap L ∧ FrameEnd U o U' L ({ frames := 0, cells := 0, slots := 0, locals := 0 } : Room).cells ({ frames := 0, cells := 0, slots := 0, locals := 0 } : Room).slots) := by
  have hw_215 := hw _ (List.mem_of_getElem? (i := 215) rfl)
  refine MetFree.of_bodySF (plainFor_of_name pn_Optional) hisR ?_
  intro p e s m args below meth c s₁ Bd hml0 hP hK
  obtain ⟨rfl, hZ, hh⟩ := hP
  have hx := Bd.exec
  have hby := Bd.bytes
  have hml : c.maxLocals = 2 := hml0
  have hown : s.vm.findClass "java/util/Optional" = some m.cls := findClass_of_methodNamed Bd.named
  have hnm := (name_of_methodNamed Bd.named Bd.method).1
  have X0 : Stand p l e ({ frames := 0, cells := 0, slots := 0, locals := 0 } : Room) s m #[(.ref a1), .null] below meth c s₁ [] 0 0 := Stand.of_body Bd
  have e0 : s₁.heap = h0 := by rw [← hh, Bd.state]; rfl
  have N0 := Fr.nil n0
  have pre0 : ∀ t_, Steps p.tables e below (s₁.setTop (mkF m 0 #[.val (.ref a1), .val .null] [])) t_ → Steps p.tables e below (s₁.setTop (entryFrame m #[(.ref a1), .null] 2)) t_ := fun t_ k_ => castTop (ef_26n1 m a1) k_
  obtain ⟨T1, X1, e1, st1⟩ := getF X0 hx hZ hown (host := "") (Or.inl hw_215) Via.refl e0 Fv (g := (mkF m 1 #[.val (.ref a1), .val .null] [(.ref a1)])) rfl rfl (hb hby d26_1)
  obtain ⟨T2, X2, e2, st2⟩ := getF X1 hx hZ hown (host := "") (Or.inl hw_215) Via.refl e1 Fv (g := (mkF m 8 #[.val (.ref a1), .val .null] [(.ref a1)])) rfl rfl (hb hby d26_8)
  have go3 : ∀ t_, Steps p.tables e below (T2.setTop (mkF m 15 #[.val (.ref a1), .val .null] [(.ref x)])) t_ → Steps p.tables e below (s₁.setTop (entryFrame m #[(.ref a1), .null] 2)) t_ := by
    intro t_ k_
    refine pre0 t_ ?_
    show Steps p.tables e below (s₁.setTop (mkF m 0 #[.val (.ref a1), .val .null] [])) _
    refine XS.aloadN X0.here hx rfl (hb hby d26_0) rfl rfl ?_
    show Steps p.tables e below (s₁.setTop (mkF m 1 #[.val (.ref a1), .val .null] [(.ref a1)])) _
    refine st1 _ ?_
    show Steps p.tables e below (T1.setTop (mkF m 4 #[.val (.ref a1), .val .null] [(.ref x)])) _
    refine XS.ifnullNo X1.here hx rfl (hb hby d26_4) rfl ?_
    show Steps p.tables e below (T1.setTop (mkF m 7 #[.val (.ref a1), .val .null] [])) _
    refine XS.aloadN X1.here hx rfl (hb hby d26_7) rfl rfl ?_
    show Steps p.tables e below (T1.setTop (mkF m 8 #[.val (.ref a1), .val .null] [(.ref a1)])) _
    refine st2 _ ?_
    show Steps p.tables e below (T2.setTop (mkF m 11 #[.val (.ref a1), .val .null] [(.ref x)])) _
    refine XS.goto X2.here hx rfl (pc0 := 11) (pc' := 15) rfl (hb hby d26_11) (by decide) (by decide) ?_
    exact k_
  obtain ⟨fs, hr, hrun, hended, hW, hsame⟩ := X2.leave (v := some (.ref x)) (fun h => by rw [Bd.returns] at h; cases h)
  refine ⟨_, _, go3 _ ?_, hrun, hended, _, _, rfl, ?_, ⟨_, rfl⟩, hW, hsame.mono (by decide) (by decide)⟩
  · skip
    show Steps p.tables e below (T2.setTop (mkF m 15 #[.val (.ref a1), .val .null] [(.ref x)])) _
    jvm_step X2.here [X2.here.top, hx, (hb hby d26_15), X2.method', Bd.returns, Value.isRef, FieldType.isReference]
    first | (intro acts; rw [hr _ acts rfl rfl rfl]) | rw [hr _ _ rfl rfl rfl]
    exact Steps.refl _
  · show Q_rmOr1 Z a1 x h0 n0 _ T2.heap _
    rw [e2]
    exact ⟨rfl, N0, rfl⟩
theorem ef_16 (m : MethodId) (x0 : Addr) : entryFrame m #[(.ref x0)] 2 = mkF m 0 #[.val (.ref x0), .unset] [] := by first | (simp [entryFrame, mkF, argsToLocals, Value.category]; done) | rfl
theorem d16_0 : decode prog_8_method_2_code 0 = .ok (.aload_n 0, 1) := by decide +kernel
theorem d16_1 : decode prog_8_method_2_code 1 = .ok (.getfield 16, 3) := by decide +kernel
theorem d16_4 : decode prog_8_method_2_code 4 = .ok (.aload_n 0, 1) := by decide +kernel
theorem d16_5 : decode prog_8_method_2_code 5 = .ok (.getfield 16, 3) := by decide +kernel
theorem d16_8 : decode prog_8_method_2_code 8 = .ok (.invokeinterface 20 1, 5) := by decide +kernel
theorem pd_11 : parseMethodDescriptor "()I" = some ⟨[], some .int⟩ := by decide +kernel
theorem d16_13 : decode prog_8_method_2_code 13 = .ok (.iconst 1, 1) := by decide +kernel
theorem d16_14 : decode prog_8_method_2_code 14 = .ok (.isub, 1) := by decide +kernel
theorem d16_15 : decode prog_8_method_2_code 15 = .ok (.invokeinterface 26 2, 5) := by decide +kernel
theorem d16_20 : decode prog_8_method_2_code 20 = .ok (.checkcast 30, 3) := by decide +kernel
theorem d16_23 : decode prog_8_method_2_code 23 = .ok (.invokevirtual 32, 3) := by decide +kernel
theorem pd_12 : parseMethodDescriptor "()Lcom/example/maksu/maksu/catalog/Phase$Recurring;" = some ⟨[], some (.object "com/example/maksu/maksu/catalog/Phase$Recurring")⟩ := by decide +kernel
theorem d16_26 : decode prog_8_method_2_code 26 = .ok (.astore_n 1, 1) := by decide +kernel
theorem d16_27 : decode prog_8_method_2_code 27 = .ok (.aload_n 1, 1) := by decide +kernel
theorem d16_28 : decode prog_8_method_2_code 28 = .ok (.ifnonnull 7, 3) := by decide +kernel
theorem d16_31 : decode prog_8_method_2_code 31 = .ok (.aconst_null, 1) := by decide +kernel
theorem d16_32 : decode prog_8_method_2_code 32 = .ok (.goto 7, 3) := by decide +kernel
theorem d16_39 : decode prog_8_method_2_code 39 = .ok (.invokestatic 42, 3) := by decide +kernel
theorem pd_13 : parseMethodDescriptor "(Ljava/lang/Object;)Ljava/util/Optional;" = some ⟨[(.object "java/lang/Object")], some (.object "java/util/Optional")⟩ := by decide +kernel
theorem d16_42 : decode prog_8_method_2_code 42 = .ok (.areturn, 1) := by decide +kernel
def Q_rmBP0 (Z : State) (a1 : Nat) (al : Nat) (k : Int32) (b : Nat) (kb : ClassId) (es : List Value) (ph : Nat) (wE : Nat) (h0 : Heap) (n0 : Nat) (v : Option Value) (h : Heap) (L : List Loc) : Prop := v = some (.ref wE) ∧ Fr n0 L ∧ h = h0
set_option maxRecDepth 65536 in
set_option maxHeartbeats 40000000 in
theorem rmBP0 (l : Launch) (Z : State) (a0 : Array Value) (hw : ∀ d ∈ tables_1, d.before a0 Z = true) (ws : List Jvm.Cond) (a1 : Nat) (al : Nat) (k : Int32) (b : Nat) (kb : ClassId) (es : List Value) (ph : Nat) (wE : Nat) (h0 : Heap) (n0 : Nat) (Z0 : n0 ≤ h0.size) (Fp : Fld Z h0 a1 "com/example/maksu/maksu/catalog/Plan" "phases" "Ljava/util/List;" (.ref al)) (El : Exa Z h0 al "java/util/ArrayList") (Fs : Fld Z h0 al "java/util/ArrayList" "size" "I" (.int k)) (Fe : Fld Z h0 al "java/util/ArrayList" "elementData" "[Ljava/lang/Object;" (.ref b)) (Vb : Arv Z h0 b kb (.object "java/lang/Object") (10 : Int32) es .null) (ib_i : ¬ (k - (1 : Int32)) < 0 ∧ (k - (1 : Int32)) < (10 : Int32)) (hev : es.getD (k - (1 : Int32)).toNatClampNeg .null = .ref ph) (hi0 : ¬ ((k - (1 : Int32)) < (0 : Int32))) (hik : (k - (1 : Int32)) < k) (Eph : Exa Z h0 ph "com/example/maksu/maksu/catalog/Phase") (Fr_ : Fld Z h0 ph "com/example/maksu/maksu/catalog/Phase" "recurring" "Lcom/example/maksu/maksu/catalog/Phase$Recurring;" .null) (S_E : Sta Z Z.heap "java/util/Optional" "EMPTY" "Ljava/util/Optional;" (.ref wE)) (O0 : Old Z n0 h0) :
    MetFree l (⟨"com/example/maksu/maksu/catalog/Plan", "billingPeriod", "()Ljava/util/Optional;"⟩ : MethodName) (head1 (Jvm.Cond.code (⟨"com/example/maksu/maksu/catalog/Plan", "billingPeriod", "()Ljava/util/Optional;"⟩ : MethodName) prog_8_method_2_code 2 (some (.object "java/util/Optional")) :: ws) ({ frames := 3, cells := 0, slots := 0, locals := 40 } : Room)) (fun a U => a = #[(.ref a1)] ∧ Z.Warmed39 U.vm ∧ U.heap = h0) (fun _ _ _ _ _ => True) (fun _ U o U' => ∃ v L, o = .returned v ∧ Q_rmBP0 Z a1 al k b kb es ph wE h0 n0 v U'.heap L ∧ FrameEnd U o U' L ({ frames := 3, cells := 0, slots := 0, locals := 40 } : Room).cells ({ frames := 3, cells := 0, slots := 0, locals := 40 } : Room).slots) := by
  have hw_64 := hw _ (List.mem_of_getElem? (i := 64) rfl)
  have hw_79 := hw _ (List.mem_of_getElem? (i := 79) rfl)
  have hw_108 := hw _ (List.mem_of_getElem? (i := 108) rfl)
  have hw_156 := hw _ (List.mem_of_getElem? (i := 156) rfl)
  have hw_163 := hw _ (List.mem_of_getElem? (i := 163) rfl)
  have hw_164 := hw _ (List.mem_of_getElem? (i := 164) rfl)
  have hw_165 := hw _ (List.mem_of_getElem? (i := 165) rfl)
  have hw_166 := hw _ (List.mem_of_getElem? (i := 166) rfl)
  have hw_167 := hw _ (List.mem_of_getElem? (i := 167) rfl)
  have hw_168 := hw _ (List.mem_of_getElem? (i := 168) rfl)
  have hw_169 := hw _ (List.mem_of_getElem? (i := 169) rfl)
  have hw_170 := hw _ (List.mem_of_getElem? (i := 170) rfl)
  have hw_171 := hw _ (List.mem_of_getElem? (i := 171) rfl)
  have hw_172 := hw _ (List.mem_of_getElem? (i := 172) rfl)
  have hw_173 := hw _ (List.mem_of_getElem? (i := 173) rfl)
  have hw_174 := hw _ (List.mem_of_getElem? (i := 174) rfl)
  have hw_175 := hw _ (List.mem_of_getElem? (i := 175) rfl)
  have hw_176 := hw _ (List.mem_of_getElem? (i := 176) rfl)
  have hw_177 := hw _ (List.mem_of_getElem? (i := 177) rfl)
  have hw_178 := hw _ (List.mem_of_getElem? (i := 178) rfl)
  have hw_192 := hw _ (List.mem_of_getElem? (i := 192) rfl)
  have hw_194 := hw _ (List.mem_of_getElem? (i := 194) rfl)
  have hw_195 := hw _ (List.mem_of_getElem? (i := 195) rfl)
  have hw_196 := hw _ (List.mem_of_getElem? (i := 196) rfl)
  have hw_197 := hw _ (List.mem_of_getElem? (i := 197) rfl)
  have hw_198 := hw _ (List.mem_of_getElem? (i := 198) rfl)
  have hw_204 := hw _ (List.mem_of_getElem? (i := 204) rfl)
  have hw_205 := hw _ (List.mem_of_getElem? (i := 205) rfl)
  have hw_206 := hw _ (List.mem_of_getElem? (i := 206) rfl)
  have hw_207 := hw _ (List.mem_of_getElem? (i := 207) rfl)
  refine MetFree.of_bodySF (plainFor_of_name pn_Plan) hisR ?_
  intro p e s m args below meth c s₁ Bd hml0 hP hK
  obtain ⟨rfl, hZ, hh⟩ := hP
  have hx := Bd.exec
  have hby := Bd.bytes
  have hml : c.maxLocals = 2 := hml0
  have hown : s.vm.findClass "com/example/maksu/maksu/catalog/Plan" = some m.cls := findClass_of_methodNamed Bd.named
  have hnm := (name_of_methodNamed Bd.named Bd.method).1
  have X0 : Stand p l e ({ frames := 3, cells := 0, slots := 0, locals := 40 } : Room) s m #[(.ref a1)] below meth c s₁ [] 0 0 := Stand.of_body Bd
  have e0 : s₁.heap = h0 := by rw [← hh, Bd.state]; rfl
  have N0 := Fr.nil n0
  have pre0 : ∀ t_, Steps p.tables e below (s₁.setTop (mkF m 0 #[.val (.ref a1), .unset] [])) t_ → Steps p.tables e below (s₁.setTop (entryFrame m #[(.ref a1)] 2)) t_ := fun t_ k_ => castTop (ef_16 m a1) k_
  obtain ⟨T1, X1, e1, st1⟩ := getF X0 hx hZ hown (host := "") (Or.inl hw_156) Via.refl e0 Fp (g := (mkF m 1 #[.val (.ref a1), .unset] [(.ref a1)])) rfl rfl (hb hby d16_1)
  obtain ⟨T2, X2, e2, st2⟩ := getF X1 hx hZ hown (host := "") (Or.inl hw_156) Via.refl e1 Fp (g := (mkF m 5 #[.val (.ref a1), .unset] [(.ref a1), (.ref al)])) rfl rfl (hb hby d16_5)
  obtain ⟨cq3, kq3, q3a, q3b, q3c⟩ := isOf hZ e2 El
  obtain ⟨_, _, ⟨T3, L3, k3, n3⟩, -, X3, ⟨Lc3, hQ3, l3, y3, z3⟩, st3⟩ := X2.interfaceBack hx (xi := (⟨"java/util/List", "size", "()I"⟩ : MethodName)) (y := (⟨"java/util/ArrayList", "size", "()I"⟩ : MethodName)) hown (mvT hZ hw_163) (mvT hZ hw_164) (mvT hZ hw_165) (mvT hZ hw_166) (mvT hZ hw_167) (mvT hZ hw_168) (mvT hZ hw_169) (mvT hZ hw_108) (by decide) (backOf (W := 1) (rmSiz l Z a0 hw [] al k h0 n0 Z0 Fs) hZ hw_170 hw_79 (by decide) (by decide)) q3a q3b q3c (g := (mkF m 8 #[.val (.ref a1), .unset] [(.ref al), (.ref al)])) rfl (by rw [hml]; rfl) (Steps.refl _) (argsL := []) (rest := [(.ref al)]) (lenOf pd_11 rfl) rfl (by show 2 * 0 + _ ≤ _; exact Nat.le_of_eq rfl) (hb hby d16_8) (fun _ _ => ⟨rfl, e2, (by decide : 0 + 0 ≤ _), (by decide : 0 + 0 ≤ _)⟩)
  dsimp only [Pt.U, Pt.locs, Pt.cells, Pt.slots] at X3 l3 y3 z3 st3 hQ3
  subst l3 y3 z3
  obtain ⟨rfl, N3q, e3⟩ := hQ3
  have N3 := Fr.app N0 N3q
  obtain ⟨cq4, kq4, q4a, q4b, q4c⟩ := isOf hZ e3 El
  obtain ⟨_, _, ⟨T4, L4, k4, n4⟩, -, X4, ⟨Lc4, hQ4, l4, y4, z4⟩, st4⟩ := X3.interfaceBack hx (xi := (⟨"java/util/List", "get", "(I)Ljava/lang/Object;"⟩ : MethodName)) (y := (⟨"java/util/ArrayList", "get", "(I)Ljava/lang/Object;"⟩ : MethodName)) hown (mvT hZ hw_171) (mvT hZ hw_172) (mvT hZ hw_173) (mvT hZ hw_174) (mvT hZ hw_175) (mvT hZ hw_176) (mvT hZ hw_177) (mvT hZ hw_108) (by decide) (backOf (W := 0) (rmGet l Z a0 hw [] al (k - (1 : Int32)) k b kb es ph h0 n0 Z0 Fe Vb ib_i hev Fs El hi0 hik) hZ hw_178 hw_79 (by decide) (by decide)) q4a q4b q4c (g := (mkF m 15 #[.val (.ref a1), .unset] [(.int (k - (1 : Int32))), (.ref al)])) rfl (by rw [hml]; rfl) (Steps.refl _) (argsL := [(.int (k - (1 : Int32)))]) (rest := []) (lenOf pd_9 rfl) rfl (by show 2 * 0 + _ ≤ _; exact Nat.le_of_eq rfl) (hb hby d16_15) (fun _ _ => ⟨rfl, e3, (by decide : 0 + 0 ≤ _), (by decide : 0 + 0 ≤ _)⟩)
  dsimp only [Pt.U, Pt.locs, Pt.cells, Pt.slots] at X4 l4 y4 z4 st4 hQ4
  subst l4 y4 z4
  obtain ⟨rfl, N4q, e4⟩ := hQ4
  have N4 := Fr.app N3 N4q
  obtain ⟨T5, X5, e5, st5⟩ := castY X4 hx hZ hown hw_192 e4 (Ins.self Eph) (g := (mkF m 20 #[.val (.ref a1), .unset] [(.ref ph)])) rfl rfl (hb hby d16_20)
  obtain ⟨cq6, kq6, q6a, q6b, q6c⟩ := isOf hZ e5 Eph
  obtain ⟨_, _, ⟨T6, L6, k6, n6⟩, -, X6, ⟨Lc6, hQ6, l6, y6, z6⟩, st6⟩ := X5.virtualBack hx (y := (⟨"com/example/maksu/maksu/catalog/Phase", "recurring", "()Lcom/example/maksu/maksu/catalog/Phase$Recurring;"⟩ : MethodName)) (z := (⟨"com/example/maksu/maksu/catalog/Phase", "recurring", "()Lcom/example/maksu/maksu/catalog/Phase$Recurring;"⟩ : MethodName)) hown (mvT hZ hw_194) (mvT hZ hw_195) (notFace_of_selects (args := #[]) (mvT hZ hw_197)) (mvT hZ hw_197) (mvT hZ hw_196) (by decide) (backOf (W := 0) (rmRc0 l Z a0 hw [] ph h0 n0 Z0 Fr_) hZ hw_198 hw_64 (by decide) (by decide)) q6a q6c (g := (mkF m 23 #[.val (.ref a1), .unset] [(.ref ph)])) rfl (by rw [hml]; rfl) (Steps.refl _) (argsL := []) (rest := []) (lenOf pd_12 rfl) rfl (by show 2 * 0 + _ ≤ _; exact Nat.le_of_eq rfl) (hb hby d16_23) (fun _ _ => ⟨rfl, e5, (by decide : 0 + 0 ≤ _), (by decide : 0 + 0 ≤ _)⟩)
  dsimp only [Pt.U, Pt.locs, Pt.cells, Pt.slots] at X6 l6 y6 z6 st6 hQ6
  subst l6 y6 z6
  obtain ⟨rfl, N6q, e6⟩ := hQ6
  have N6 := Fr.app N4 N6q
  obtain ⟨_, _, ⟨T7, L7, k7, n7⟩, -, X7, ⟨Lc7, hQ7, l7, y7, z7⟩, st7⟩ := Jvm.LawKit.callS X6 hx (y := (⟨"java/util/Optional", "ofNullable", "(Ljava/lang/Object;)Ljava/util/Optional;"⟩ : MethodName)) hown (mvT hZ hw_204) (mvT hZ hw_205) (mvT hZ hw_206) (mvT hZ hw_207) (by decide) (backOf (W := 0) (rmOn0 l Z a0 hw [] wE h0 n0 Z0 S_E O0) hZ hw_207 hw_206 (by decide) (by decide)) (g := (mkF m 39 #[.val (.ref a1), .val .null] [.null])) rfl (by rw [hml]; rfl) (argsL := [.null]) (rest := []) (lenOf pd_13 rfl) rfl (by show 2 * 0 + _ ≤ _; exact Nat.le_of_eq rfl) (hb hby d16_39) (fun _ _ => ⟨rfl, e6, (by decide : 0 + 0 ≤ _), (by decide : 0 + 0 ≤ _)⟩)
  dsimp only [Pt.U, Pt.locs, Pt.cells, Pt.slots] at X7 l7 y7 z7 st7 hQ7
  subst l7 y7 z7
  obtain ⟨rfl, N7q, e7⟩ := hQ7
  have N7 := Fr.app N6 N7q
  have go8 : ∀ t_, Steps p.tables e below (T7.setTop (mkF m 42 #[.val (.ref a1), .val .null] [(.ref wE)])) t_ → Steps p.tables e below (s₁.setTop (entryFrame m #[(.ref a1)] 2)) t_ := by
    intro t_ k_
    refine pre0 t_ ?_
    show Steps p.tables e below (s₁.setTop (mkF m 0 #[.val (.ref a1), .unset] [])) _
    refine XS.aloadN X0.here hx rfl (hb hby d16_0) rfl rfl ?_
    show Steps p.tables e below (s₁.setTop (mkF m 1 #[.val (.ref a1), .unset] [(.ref a1)])) _
    refine st1 _ ?_
    show Steps p.tables e below (T1.setTop (mkF m 4 #[.val (.ref a1), .unset] [(.ref al)])) _
    refine XS.aloadN X1.here hx rfl (hb hby d16_4) rfl rfl ?_
    show Steps p.tables e below (T1.setTop (mkF m 5 #[.val (.ref a1), .unset] [(.ref a1), (.ref al)])) _
    refine st2 _ ?_
    show Steps p.tables e below (T2.setTop (mkF m 8 #[.val (.ref a1), .unset] [(.ref al), (.ref al)])) _
    refine st3.trans ?_
    show Steps p.tables e below (T3.setTop (mkF m 13 #[.val (.ref a1), .unset] [(.int k), (.ref al)])) _
    refine XS.iconst X3.here hx rfl (hb hby d16_13) ?_
    show Steps p.tables e below (T3.setTop (mkF m 14 #[.val (.ref a1), .unset] [(.int (1 : Int32)), (.int k), (.ref al)])) _
    refine XS.isub X3.here hx rfl (hb hby d16_14) rfl ?_
    show Steps p.tables e below (T3.setTop (mkF m 15 #[.val (.ref a1), .unset] [(.int (k - (1 : Int32))), (.ref al)])) _
    refine st4.trans ?_
    show Steps p.tables e below (T4.setTop (mkF m 20 #[.val (.ref a1), .unset] [(.ref ph)])) _
    refine st5 _ ?_
    show Steps p.tables e below (T5.setTop (mkF m 23 #[.val (.ref a1), .unset] [(.ref ph)])) _
    refine st6.trans ?_
    show Steps p.tables e below (T6.setTop (mkF m 26 #[.val (.ref a1), .unset] [.null])) _
    refine XS.astoreN X6.here hx rfl (hb hby d16_26) rfl rfl (l' := #[.val (.ref a1), .val .null]) rfl ?_
    show Steps p.tables e below (T6.setTop (mkF m 27 #[.val (.ref a1), .val .null] [])) _
    refine XS.aloadN X6.here hx rfl (hb hby d16_27) rfl rfl ?_
    show Steps p.tables e below (T6.setTop (mkF m 28 #[.val (.ref a1), .val .null] [.null])) _
    refine XS.ifnonnullNo X6.here hx rfl (hb hby d16_28) rfl ?_
    show Steps p.tables e below (T6.setTop (mkF m 31 #[.val (.ref a1), .val .null] [])) _
    refine XS.aconstNull X6.here hx rfl (hb hby d16_31) ?_
    show Steps p.tables e below (T6.setTop (mkF m 32 #[.val (.ref a1), .val .null] [.null])) _
    refine XS.goto X6.here hx rfl (pc0 := 32) (pc' := 39) rfl (hb hby d16_32) (by decide) (by decide) ?_
    show Steps p.tables e below (T6.setTop (mkF m 39 #[.val (.ref a1), .val .null] [.null])) _
    refine st7 _ ?_
    exact k_
  obtain ⟨fs, hr, hrun, hended, hW, hsame⟩ := X7.leave (v := some (.ref wE)) (fun h => by rw [Bd.returns] at h; cases h)
  refine ⟨_, _, go8 _ ?_, hrun, hended, _, _, rfl, ?_, ⟨_, rfl⟩, hW, hsame.mono (by decide) (by decide)⟩
  · skip
    show Steps p.tables e below (T7.setTop (mkF m 42 #[.val (.ref a1), .val .null] [(.ref wE)])) _
    jvm_step X7.here [X7.here.top, hx, (hb hby d16_42), X7.method', Bd.returns, Value.isRef, FieldType.isReference]
    first | (intro acts; rw [hr _ acts rfl rfl rfl]) | rw [hr _ _ rfl rfl rfl]
    exact Steps.refl _
  · show Q_rmBP0 Z a1 al k b kb es ph wE h0 n0 _ T7.heap _
    rw [e7]
    exact ⟨rfl, N7, rfl⟩
theorem d16_35 : decode prog_8_method_2_code 35 = .ok (.aload_n 1, 1) := by decide +kernel
theorem d16_36 : decode prog_8_method_2_code 36 = .ok (.invokevirtual 36, 3) := by decide +kernel
theorem pd_14 : parseMethodDescriptor "()Lcom/example/maksu/maksu/catalog/BillingPeriod;" = some ⟨[], some (.object "com/example/maksu/maksu/catalog/BillingPeriod")⟩ := by decide +kernel
def Q_rmBP1 (Z : State) (a1 : Nat) (al : Nat) (k : Int32) (b : Nat) (kb : ClassId) (es : List Value) (ph : Nat) (rc : Nat) (bp : Nat) (h0 : Heap) (n0 : Nat) (v : Option Value) (h : Heap) (L : List Loc) : Prop := ∃ b : Nat, v = some (.ref b) ∧ Fr n0 L ∧ Keep h0 h [] ∧ h0.size ≤ b ∧ b < h.size ∧ Exa Z h b "java/util/Optional" ∧ Fld Z h b "java/util/Optional" "value" "Ljava/lang/Object;" (.ref bp)
set_option maxRecDepth 65536 in
set_option maxHeartbeats 40000000 in
theorem rmBP1 (l : Launch) (Z : State) (a0 : Array Value) (hw : ∀ d ∈ tables_1, d.before a0 Z = true) (ws : List Jvm.Cond) (a1 : Nat) (al : Nat) (k : Int32) (b : Nat) (kb : ClassId) (es : List Value) (ph : Nat) (rc : Nat) (bp : Nat) (h0 : Heap) (n0 : Nat) (Z0 : n0 ≤ h0.size) (Fp : Fld Z h0 a1 "com/example/maksu/maksu/catalog/Plan" "phases" "Ljava/util/List;" (.ref al)) (El : Exa Z h0 al "java/util/ArrayList") (Fs : Fld Z h0 al "java/util/ArrayList" "size" "I" (.int k)) (Fe : Fld Z h0 al "java/util/ArrayList" "elementData" "[Ljava/lang/Object;" (.ref b)) (Vb : Arv Z h0 b kb (.object "java/lang/Object") (10 : Int32) es .null) (ib_i : ¬ (k - (1 : Int32)) < 0 ∧ (k - (1 : Int32)) < (10 : Int32)) (hev : es.getD (k - (1 : Int32)).toNatClampNeg .null = .ref ph) (hi0 : ¬ ((k - (1 : Int32)) < (0 : Int32))) (hik : (k - (1 : Int32)) < k) (Eph : Exa Z h0 ph "com/example/maksu/maksu/catalog/Phase") (Fr_ : Fld Z h0 ph "com/example/maksu/maksu/catalog/Phase" "recurring" "Lcom/example/maksu/maksu/catalog/Phase$Recurring;" (.ref rc)) (Erc : Exa Z h0 rc "com/example/maksu/maksu/catalog/Phase$Recurring") (Fb : Fld Z h0 rc "com/example/maksu/maksu/catalog/Phase$Recurring" "billingPeriod" "Lcom/example/maksu/maksu/catalog/BillingPeriod;" (.ref bp)) :
    MetFree l (⟨"com/example/maksu/maksu/catalog/Plan", "billingPeriod", "()Ljava/util/Optional;"⟩ : MethodName) (head1 (Jvm.Cond.code (⟨"com/example/maksu/maksu/catalog/Plan", "billingPeriod", "()Ljava/util/Optional;"⟩ : MethodName) prog_8_method_2_code 2 (some (.object "java/util/Optional")) :: ws) ({ frames := 3, cells := 1, slots := 1, locals := 40 } : Room)) (fun a U => a = #[(.ref a1)] ∧ Z.Warmed39 U.vm ∧ U.heap = h0) (fun _ _ _ _ _ => True) (fun _ U o U' => ∃ v L, o = .returned v ∧ Q_rmBP1 Z a1 al k b kb es ph rc bp h0 n0 v U'.heap L ∧ FrameEnd U o U' L ({ frames := 3, cells := 1, slots := 1, locals := 40 } : Room).cells ({ frames := 3, cells := 1, slots := 1, locals := 40 } : Room).slots) := by
  have hw_7 := hw _ (List.mem_of_getElem? (i := 7) rfl)
  have hw_64 := hw _ (List.mem_of_getElem? (i := 64) rfl)
  have hw_79 := hw _ (List.mem_of_getElem? (i := 79) rfl)
  have hw_108 := hw _ (List.mem_of_getElem? (i := 108) rfl)
  have hw_156 := hw _ (List.mem_of_getElem? (i := 156) rfl)
  have hw_163 := hw _ (List.mem_of_getElem? (i := 163) rfl)
  have hw_164 := hw _ (List.mem_of_getElem? (i := 164) rfl)
  have hw_165 := hw _ (List.mem_of_getElem? (i := 165) rfl)
  have hw_166 := hw _ (List.mem_of_getElem? (i := 166) rfl)
  have hw_167 := hw _ (List.mem_of_getElem? (i := 167) rfl)
  have hw_168 := hw _ (List.mem_of_getElem? (i := 168) rfl)
  have hw_169 := hw _ (List.mem_of_getElem? (i := 169) rfl)
  have hw_170 := hw _ (List.mem_of_getElem? (i := 170) rfl)
  have hw_171 := hw _ (List.mem_of_getElem? (i := 171) rfl)
  have hw_172 := hw _ (List.mem_of_getElem? (i := 172) rfl)
  have hw_173 := hw _ (List.mem_of_getElem? (i := 173) rfl)
  have hw_174 := hw _ (List.mem_of_getElem? (i := 174) rfl)
  have hw_175 := hw _ (List.mem_of_getElem? (i := 175) rfl)
  have hw_176 := hw _ (List.mem_of_getElem? (i := 176) rfl)
  have hw_177 := hw _ (List.mem_of_getElem? (i := 177) rfl)
  have hw_178 := hw _ (List.mem_of_getElem? (i := 178) rfl)
  have hw_192 := hw _ (List.mem_of_getElem? (i := 192) rfl)
  have hw_194 := hw _ (List.mem_of_getElem? (i := 194) rfl)
  have hw_195 := hw _ (List.mem_of_getElem? (i := 195) rfl)
  have hw_196 := hw _ (List.mem_of_getElem? (i := 196) rfl)
  have hw_197 := hw _ (List.mem_of_getElem? (i := 197) rfl)
  have hw_198 := hw _ (List.mem_of_getElem? (i := 198) rfl)
  have hw_199 := hw _ (List.mem_of_getElem? (i := 199) rfl)
  have hw_200 := hw _ (List.mem_of_getElem? (i := 200) rfl)
  have hw_201 := hw _ (List.mem_of_getElem? (i := 201) rfl)
  have hw_202 := hw _ (List.mem_of_getElem? (i := 202) rfl)
  have hw_203 := hw _ (List.mem_of_getElem? (i := 203) rfl)
  have hw_204 := hw _ (List.mem_of_getElem? (i := 204) rfl)
  have hw_205 := hw _ (List.mem_of_getElem? (i := 205) rfl)
  have hw_206 := hw _ (List.mem_of_getElem? (i := 206) rfl)
  have hw_207 := hw _ (List.mem_of_getElem? (i := 207) rfl)
  refine MetFree.of_bodySF (plainFor_of_name pn_Plan) hisR ?_
  intro p e s m args below meth c s₁ Bd hml0 hP hK
  obtain ⟨rfl, hZ, hh⟩ := hP
  have hx := Bd.exec
  have hby := Bd.bytes
  have hml : c.maxLocals = 2 := hml0
  have hown : s.vm.findClass "com/example/maksu/maksu/catalog/Plan" = some m.cls := findClass_of_methodNamed Bd.named
  have hnm := (name_of_methodNamed Bd.named Bd.method).1
  have X0 : Stand p l e ({ frames := 3, cells := 1, slots := 1, locals := 40 } : Room) s m #[(.ref a1)] below meth c s₁ [] 0 0 := Stand.of_body Bd
  have e0 : s₁.heap = h0 := by rw [← hh, Bd.state]; rfl
  have N0 := Fr.nil n0
  have pre0 : ∀ t_, Steps p.tables e below (s₁.setTop (mkF m 0 #[.val (.ref a1), .unset] [])) t_ → Steps p.tables e below (s₁.setTop (entryFrame m #[(.ref a1)] 2)) t_ := fun t_ k_ => castTop (ef_16 m a1) k_
  have K0 : Keep h0 h0 [] := Keep.refl h0 _
  obtain ⟨T1, X1, e1, st1⟩ := getF X0 hx hZ hown (host := "") (Or.inl hw_156) Via.refl e0 Fp (g := (mkF m 1 #[.val (.ref a1), .unset] [(.ref a1)])) rfl rfl (hb hby d16_1)
  obtain ⟨T2, X2, e2, st2⟩ := getF X1 hx hZ hown (host := "") (Or.inl hw_156) Via.refl e1 Fp (g := (mkF m 5 #[.val (.ref a1), .unset] [(.ref a1), (.ref al)])) rfl rfl (hb hby d16_5)
  obtain ⟨cq3, kq3, q3a, q3b, q3c⟩ := isOf hZ e2 El
  obtain ⟨_, _, ⟨T3, L3, k3, n3⟩, -, X3, ⟨Lc3, hQ3, l3, y3, z3⟩, st3⟩ := X2.interfaceBack hx (xi := (⟨"java/util/List", "size", "()I"⟩ : MethodName)) (y := (⟨"java/util/ArrayList", "size", "()I"⟩ : MethodName)) hown (mvT hZ hw_163) (mvT hZ hw_164) (mvT hZ hw_165) (mvT hZ hw_166) (mvT hZ hw_167) (mvT hZ hw_168) (mvT hZ hw_169) (mvT hZ hw_108) (by decide) (backOf (W := 1) (rmSiz l Z a0 hw [] al k h0 n0 Z0 Fs) hZ hw_170 hw_79 (by decide) (by decide)) q3a q3b q3c (g := (mkF m 8 #[.val (.ref a1), .unset] [(.ref al), (.ref al)])) rfl (by rw [hml]; rfl) (Steps.refl _) (argsL := []) (rest := [(.ref al)]) (lenOf pd_11 rfl) rfl (by show 2 * 0 + _ ≤ _; exact Nat.le_of_eq rfl) (hb hby d16_8) (fun _ _ => ⟨rfl, e2, (by decide : 0 + 0 ≤ _), (by decide : 0 + 0 ≤ _)⟩)
  dsimp only [Pt.U, Pt.locs, Pt.cells, Pt.slots] at X3 l3 y3 z3 st3 hQ3
  subst l3 y3 z3
  obtain ⟨rfl, N3q, e3⟩ := hQ3
  have N3 := Fr.app N0 N3q
  obtain ⟨cq4, kq4, q4a, q4b, q4c⟩ := isOf hZ e3 El
  obtain ⟨_, _, ⟨T4, L4, k4, n4⟩, -, X4, ⟨Lc4, hQ4, l4, y4, z4⟩, st4⟩ := X3.interfaceBack hx (xi := (⟨"java/util/List", "get", "(I)Ljava/lang/Object;"⟩ : MethodName)) (y := (⟨"java/util/ArrayList", "get", "(I)Ljava/lang/Object;"⟩ : MethodName)) hown (mvT hZ hw_171) (mvT hZ hw_172) (mvT hZ hw_173) (mvT hZ hw_174) (mvT hZ hw_175) (mvT hZ hw_176) (mvT hZ hw_177) (mvT hZ hw_108) (by decide) (backOf (W := 0) (rmGet l Z a0 hw [] al (k - (1 : Int32)) k b kb es ph h0 n0 Z0 Fe Vb ib_i hev Fs El hi0 hik) hZ hw_178 hw_79 (by decide) (by decide)) q4a q4b q4c (g := (mkF m 15 #[.val (.ref a1), .unset] [(.int (k - (1 : Int32))), (.ref al)])) rfl (by rw [hml]; rfl) (Steps.refl _) (argsL := [(.int (k - (1 : Int32)))]) (rest := []) (lenOf pd_9 rfl) rfl (by show 2 * 0 + _ ≤ _; exact Nat.le_of_eq rfl) (hb hby d16_15) (fun _ _ => ⟨rfl, e3, (by decide : 0 + 0 ≤ _), (by decide : 0 + 0 ≤ _)⟩)
  dsimp only [Pt.U, Pt.locs, Pt.cells, Pt.slots] at X4 l4 y4 z4 st4 hQ4
  subst l4 y4 z4
  obtain ⟨rfl, N4q, e4⟩ := hQ4
  have N4 := Fr.app N3 N4q
  obtain ⟨T5, X5, e5, st5⟩ := castY X4 hx hZ hown hw_192 e4 (Ins.self Eph) (g := (mkF m 20 #[.val (.ref a1), .unset] [(.ref ph)])) rfl rfl (hb hby d16_20)
  obtain ⟨cq6, kq6, q6a, q6b, q6c⟩ := isOf hZ e5 Eph
  obtain ⟨_, _, ⟨T6, L6, k6, n6⟩, -, X6, ⟨Lc6, hQ6, l6, y6, z6⟩, st6⟩ := X5.virtualBack hx (y := (⟨"com/example/maksu/maksu/catalog/Phase", "recurring", "()Lcom/example/maksu/maksu/catalog/Phase$Recurring;"⟩ : MethodName)) (z := (⟨"com/example/maksu/maksu/catalog/Phase", "recurring", "()Lcom/example/maksu/maksu/catalog/Phase$Recurring;"⟩ : MethodName)) hown (mvT hZ hw_194) (mvT hZ hw_195) (notFace_of_selects (args := #[]) (mvT hZ hw_197)) (mvT hZ hw_197) (mvT hZ hw_196) (by decide) (backOf (W := 0) (rmRc1 l Z a0 hw [] ph rc h0 n0 Z0 Fr_) hZ hw_198 hw_64 (by decide) (by decide)) q6a q6c (g := (mkF m 23 #[.val (.ref a1), .unset] [(.ref ph)])) rfl (by rw [hml]; rfl) (Steps.refl _) (argsL := []) (rest := []) (lenOf pd_12 rfl) rfl (by show 2 * 0 + _ ≤ _; exact Nat.le_of_eq rfl) (hb hby d16_23) (fun _ _ => ⟨rfl, e5, (by decide : 0 + 0 ≤ _), (by decide : 0 + 0 ≤ _)⟩)
  dsimp only [Pt.U, Pt.locs, Pt.cells, Pt.slots] at X6 l6 y6 z6 st6 hQ6
  subst l6 y6 z6
  obtain ⟨rfl, N6q, e6⟩ := hQ6
  have N6 := Fr.app N4 N6q
  obtain ⟨cq7, kq7, q7a, q7b, q7c⟩ := isOf hZ e6 Erc
  obtain ⟨_, _, ⟨T7, L7, k7, n7⟩, -, X7, ⟨Lc7, hQ7, l7, y7, z7⟩, st7⟩ := X6.virtualBack hx (y := (⟨"com/example/maksu/maksu/catalog/Phase$Recurring", "billingPeriod", "()Lcom/example/maksu/maksu/catalog/BillingPeriod;"⟩ : MethodName)) (z := (⟨"com/example/maksu/maksu/catalog/Phase$Recurring", "billingPeriod", "()Lcom/example/maksu/maksu/catalog/BillingPeriod;"⟩ : MethodName)) hown (mvT hZ hw_199) (mvT hZ hw_200) (notFace_of_selects (args := #[]) (mvT hZ hw_202)) (mvT hZ hw_202) (mvT hZ hw_201) (by decide) (backOf (W := 0) (rmRbp l Z a0 hw [] rc bp h0 n0 Z0 Fb) hZ hw_203 hw_7 (by decide) (by decide)) q7a q7c (g := (mkF m 36 #[.val (.ref a1), .val (.ref rc)] [(.ref rc)])) rfl (by rw [hml]; rfl) (Steps.refl _) (argsL := []) (rest := []) (lenOf pd_14 rfl) rfl (by show 2 * 0 + _ ≤ _; exact Nat.le_of_eq rfl) (hb hby d16_36) (fun _ _ => ⟨rfl, e6, (by decide : 0 + 0 ≤ _), (by decide : 0 + 0 ≤ _)⟩)
  dsimp only [Pt.U, Pt.locs, Pt.cells, Pt.slots] at X7 l7 y7 z7 st7 hQ7
  subst l7 y7 z7
  obtain ⟨rfl, N7q, e7⟩ := hQ7
  have N7 := Fr.app N6 N7q
  obtain ⟨_, _, ⟨T8, L8, k8, n8⟩, -, X8, ⟨Lc8, hQ8, l8, y8, z8⟩, st8⟩ := Jvm.LawKit.callS X7 hx (y := (⟨"java/util/Optional", "ofNullable", "(Ljava/lang/Object;)Ljava/util/Optional;"⟩ : MethodName)) hown (mvT hZ hw_204) (mvT hZ hw_205) (mvT hZ hw_206) (mvT hZ hw_207) (by decide) (backOf (W := 0) (rmOn1 l Z a0 hw [] bp h0 n0 Z0) hZ hw_207 hw_206 (by decide) (by decide)) (g := (mkF m 39 #[.val (.ref a1), .val (.ref rc)] [(.ref bp)])) rfl (by rw [hml]; rfl) (argsL := [(.ref bp)]) (rest := []) (lenOf pd_13 rfl) rfl (by show 2 * 0 + _ ≤ _; exact Nat.le_of_eq rfl) (hb hby d16_39) (fun _ _ => ⟨rfl, e7, (by decide : 0 + 1 ≤ _), (by decide : 0 + 1 ≤ _)⟩)
  dsimp only [Pt.U, Pt.locs, Pt.cells, Pt.slots] at X8 l8 y8 z8 st8 hQ8
  subst l8 y8 z8
  obtain ⟨y8b, rfl, N8q, Kc8, lo8, hi8, Ec8, Fc8⟩ := hQ8
  have N8 := Fr.app N7 N8q
  have sz8 : h0.size ≤ T8.heap.size := Kc8.1
  have Z8 : n0 ≤ T8.heap.size := Nat.le_trans Z0 sz8
  have K8 : Keep h0 T8.heap [] := K0.trans Kc8 all0
  have go9 : ∀ t_, Steps p.tables e below (T8.setTop (mkF m 42 #[.val (.ref a1), .val (.ref rc)] [(.ref y8b)])) t_ → Steps p.tables e below (s₁.setTop (entryFrame m #[(.ref a1)] 2)) t_ := by
    intro t_ k_
    refine pre0 t_ ?_
    show Steps p.tables e below (s₁.setTop (mkF m 0 #[.val (.ref a1), .unset] [])) _
    refine XS.aloadN X0.here hx rfl (hb hby d16_0) rfl rfl ?_
    show Steps p.tables e below (s₁.setTop (mkF m 1 #[.val (.ref a1), .unset] [(.ref a1)])) _
    refine st1 _ ?_
    show Steps p.tables e below (T1.setTop (mkF m 4 #[.val (.ref a1), .unset] [(.ref al)])) _
    refine XS.aloadN X1.here hx rfl (hb hby d16_4) rfl rfl ?_
    show Steps p.tables e below (T1.setTop (mkF m 5 #[.val (.ref a1), .unset] [(.ref a1), (.ref al)])) _
    refine st2 _ ?_
    show Steps p.tables e below (T2.setTop (mkF m 8 #[.val (.ref a1), .unset] [(.ref al), (.ref al)])) _
    refine st3.trans ?_
    show Steps p.tables e below (T3.setTop (mkF m 13 #[.val (.ref a1), .unset] [(.int k), (.ref al)])) _
    refine XS.iconst X3.here hx rfl (hb hby d16_13) ?_
    show Steps p.tables e below (T3.setTop (mkF m 14 #[.val (.ref a1), .unset] [(.int (1 : Int32)), (.int k), (.ref al)])) _
    refine XS.isub X3.here hx rfl (hb hby d16_14) rfl ?_
    show Steps p.tables e below (T3.setTop (mkF m 15 #[.val (.ref a1), .unset] [(.int (k - (1 : Int32))), (.ref al)])) _
    refine st4.trans ?_
    show Steps p.tables e below (T4.setTop (mkF m 20 #[.val (.ref a1), .unset] [(.ref ph)])) _
    refine st5 _ ?_
    show Steps p.tables e below (T5.setTop (mkF m 23 #[.val (.ref a1), .unset] [(.ref ph)])) _
    refine st6.trans ?_
    show Steps p.tables e below (T6.setTop (mkF m 26 #[.val (.ref a1), .unset] [(.ref rc)])) _
    refine XS.astoreN X6.here hx rfl (hb hby d16_26) rfl rfl (l' := #[.val (.ref a1), .val (.ref rc)]) rfl ?_
    show Steps p.tables e below (T6.setTop (mkF m 27 #[.val (.ref a1), .val (.ref rc)] [])) _
    refine XS.aloadN X6.here hx rfl (hb hby d16_27) rfl rfl ?_
    show Steps p.tables e below (T6.setTop (mkF m 28 #[.val (.ref a1), .val (.ref rc)] [(.ref rc)])) _
    refine XS.ifnonnullYes X6.here hx rfl (pc0 := 28) (pc' := 35) rfl (hb hby d16_28) rfl (by decide) (by decide) ?_
    show Steps p.tables e below (T6.setTop (mkF m 35 #[.val (.ref a1), .val (.ref rc)] [])) _
    refine XS.aloadN X6.here hx rfl (hb hby d16_35) rfl rfl ?_
    show Steps p.tables e below (T6.setTop (mkF m 36 #[.val (.ref a1), .val (.ref rc)] [(.ref rc)])) _
    refine st7.trans ?_
    show Steps p.tables e below (T7.setTop (mkF m 39 #[.val (.ref a1), .val (.ref rc)] [(.ref bp)])) _
    refine st8 _ ?_
    exact k_
  obtain ⟨fs, hr, hrun, hended, hW, hsame⟩ := X8.leave (v := some (.ref y8b)) (fun h => by rw [Bd.returns] at h; cases h)
  refine ⟨_, _, go9 _ ?_, hrun, hended, _, _, rfl, ?_, ⟨_, rfl⟩, hW, hsame.mono (by decide) (by decide)⟩
  · skip
    show Steps p.tables e below (T8.setTop (mkF m 42 #[.val (.ref a1), .val (.ref rc)] [(.ref y8b)])) _
    jvm_step X8.here [X8.here.top, hx, (hb hby d16_42), X8.method', Bd.returns, Value.isRef, FieldType.isReference]
    first | (intro acts; rw [hr _ acts rfl rfl rfl]) | rw [hr _ _ rfl rfl rfl]
    exact Steps.refl _
  · show Q_rmBP1 Z a1 al k b kb es ph rc bp h0 n0 _ T8.heap _
    exact ⟨y8b, rfl, N8, K8, by omega, by omega, Ec8, Fc8⟩
theorem ef_0 (m : MethodId) (x0 : Int32) (x1 : Int32) (x2 : Int32) (x3 : Int32) (x4 : Int32) : entryFrame m #[(.int x0), (.int x1), (.int x2), (.int x3), (.int x4)] maxLocals = mkF m 0 #[.val (.int x0), .val (.int x1), .val (.int x2), .val (.int x3), .val (.int x4), .unset, .unset, .unset, .unset, .unset, .unset, .unset, .unset, .unset, .unset] [] := by first | (simp [entryFrame, mkF, argsToLocals, Value.category, maxLocals]; done) | rfl
theorem pd_15 : parseMethodDescriptor "(III)Lcom/example/maksu/maksu/catalog/Phase;" = some ⟨[.int, .int, .int], some (.object "com/example/maksu/maksu/catalog/Phase")⟩ := by decide +kernel
theorem pd_16 : parseMethodDescriptor "(Ljava/lang/Object;)Z" = some ⟨[(.object "java/lang/Object")], some .boolean⟩ := by decide +kernel
theorem pd_17 : parseMethodDescriptor "(Ljava/lang/String;Ljava/lang/String;Ljava/util/List;)V" = some ⟨[(.object "java/lang/String"), (.object "java/lang/String"), (.object "java/util/List")], none⟩ := by decide +kernel
theorem pd_18 : parseMethodDescriptor "()Ljava/util/Optional;" = some ⟨[], some (.object "java/util/Optional")⟩ := by decide +kernel
theorem pd_19 : parseMethodDescriptor "(Ljava/lang/Object;)Ljava/lang/Object;" = some ⟨[(.object "java/lang/Object")], some (.object "java/lang/Object")⟩ := by decide +kernel
def Q_rm0 (Z : State) (p1 : Int32) (p2 : Int32) (p3 : Int32) (p4 : Int32) (p5 : Int32) (W : Nat → Addr) (ed : Nat) (kd : ClassId) (wE : Nat) (h0 : Heap) (n0 : Nat) (v : Option Value) (h : Heap) (L : List Loc) : Prop := v = some (.int 1) ∧ Fr n0 L
set_option maxRecDepth 65536 in
set_option maxHeartbeats 40000000 in
theorem rm0 (l : Launch) (Z : State) (a0 : Array Value) (hw : ∀ d ∈ tables_1, d.before a0 Z = true) (ws : List Jvm.Cond) (p1 : Int32) (p2 : Int32) (p3 : Int32) (p4 : Int32) (p5 : Int32) (W : Nat → Addr) (ed : Nat) (kd : ClassId) (wE : Nat) (h0 : Heap) (n0 : Nat) (Z0 : n0 ≤ h0.size) (BPs : own_bp Z W) (S_D : Sta Z Z.heap "java/util/ArrayList" "DEFAULTCAPACITY_EMPTY_ELEMENTDATA" "[Ljava/lang/Object;" (.ref ed)) (V_D : Arv Z Z.heap ed kd (.object "java/lang/Object") (0 : Int32) [] .null) (S_E : Sta Z Z.heap "java/util/Optional" "EMPTY" "Ljava/util/Optional;" (.ref wE)) (E_E : Exa Z Z.heap wE "java/util/Optional") (F_E : Fld Z Z.heap wE "java/util/Optional" "value" "Ljava/lang/Object;" .null) (O0 : Old Z n0 h0) :
    MetFree l x (head1 (Jvm.Cond.code x code maxLocals ret :: ws) room_1) (fun a U => a = #[(.int p1), (.int p2), (.int p3), (.int p4), (.int p5)] ∧ Z.Warmed39 U.vm ∧ U.heap = h0) (fun _ _ _ _ _ => True) (fun _ U o U' => ∃ v L, o = .returned v ∧ Q_rm0 Z p1 p2 p3 p4 p5 W ed kd wE h0 n0 v U'.heap L ∧ ReturnedEndW U o U' L room_1.cells room_1.slots) := by
  have hw_0 := hw _ (List.mem_of_getElem? (i := 0) rfl)
  have hw_1 := hw _ (List.mem_of_getElem? (i := 1) rfl)
  have hw_2 := hw _ (List.mem_of_getElem? (i := 2) rfl)
  have hw_3 := hw _ (List.mem_of_getElem? (i := 3) rfl)
  have hw_4 := hw _ (List.mem_of_getElem? (i := 4) rfl)
  have hw_8 := hw _ (List.mem_of_getElem? (i := 8) rfl)
  have hw_9 := hw _ (List.mem_of_getElem? (i := 9) rfl)
  have hw_10 := hw _ (List.mem_of_getElem? (i := 10) rfl)
  have hw_77 := hw _ (List.mem_of_getElem? (i := 77) rfl)
  have hw_78 := hw _ (List.mem_of_getElem? (i := 78) rfl)
  have hw_79 := hw _ (List.mem_of_getElem? (i := 79) rfl)
  have hw_80 := hw _ (List.mem_of_getElem? (i := 80) rfl)
  have hw_81 := hw _ (List.mem_of_getElem? (i := 81) rfl)
  have hw_82 := hw _ (List.mem_of_getElem? (i := 82) rfl)
  have hw_97 := hw _ (List.mem_of_getElem? (i := 97) rfl)
  have hw_100 := hw _ (List.mem_of_getElem? (i := 100) rfl)
  have hw_101 := hw _ (List.mem_of_getElem? (i := 101) rfl)
  have hw_102 := hw _ (List.mem_of_getElem? (i := 102) rfl)
  have hw_103 := hw _ (List.mem_of_getElem? (i := 103) rfl)
  have hw_104 := hw _ (List.mem_of_getElem? (i := 104) rfl)
  have hw_105 := hw _ (List.mem_of_getElem? (i := 105) rfl)
  have hw_106 := hw _ (List.mem_of_getElem? (i := 106) rfl)
  have hw_107 := hw _ (List.mem_of_getElem? (i := 107) rfl)
  have hw_108 := hw _ (List.mem_of_getElem? (i := 108) rfl)
  have hw_109 := hw _ (List.mem_of_getElem? (i := 109) rfl)
  have hw_113 := hw _ (List.mem_of_getElem? (i := 113) rfl)
  have hw_136 := hw _ (List.mem_of_getElem? (i := 136) rfl)
  have hw_137 := hw _ (List.mem_of_getElem? (i := 137) rfl)
  have hw_138 := hw _ (List.mem_of_getElem? (i := 138) rfl)
  have hw_139 := hw _ (List.mem_of_getElem? (i := 139) rfl)
  have hw_140 := hw _ (List.mem_of_getElem? (i := 140) rfl)
  have hw_141 := hw _ (List.mem_of_getElem? (i := 141) rfl)
  have hw_142 := hw _ (List.mem_of_getElem? (i := 142) rfl)
  have hw_143 := hw _ (List.mem_of_getElem? (i := 143) rfl)
  have hw_144 := hw _ (List.mem_of_getElem? (i := 144) rfl)
  have hw_145 := hw _ (List.mem_of_getElem? (i := 145) rfl)
  have hw_146 := hw _ (List.mem_of_getElem? (i := 146) rfl)
  have hw_147 := hw _ (List.mem_of_getElem? (i := 147) rfl)
  have hw_148 := hw _ (List.mem_of_getElem? (i := 148) rfl)
  have hw_149 := hw _ (List.mem_of_getElem? (i := 149) rfl)
  have hw_150 := hw _ (List.mem_of_getElem? (i := 150) rfl)
  have hw_153 := hw _ (List.mem_of_getElem? (i := 153) rfl)
  have hw_155 := hw _ (List.mem_of_getElem? (i := 155) rfl)
  have hw_157 := hw _ (List.mem_of_getElem? (i := 157) rfl)
  have hw_158 := hw _ (List.mem_of_getElem? (i := 158) rfl)
  have hw_159 := hw _ (List.mem_of_getElem? (i := 159) rfl)
  have hw_160 := hw _ (List.mem_of_getElem? (i := 160) rfl)
  have hw_161 := hw _ (List.mem_of_getElem? (i := 161) rfl)
  have hw_162 := hw _ (List.mem_of_getElem? (i := 162) rfl)
  have hw_206 := hw _ (List.mem_of_getElem? (i := 206) rfl)
  have hw_217 := hw _ (List.mem_of_getElem? (i := 217) rfl)
  have hw_218 := hw _ (List.mem_of_getElem? (i := 218) rfl)
  have hw_219 := hw _ (List.mem_of_getElem? (i := 219) rfl)
  have hw_220 := hw _ (List.mem_of_getElem? (i := 220) rfl)
  have hw_221 := hw _ (List.mem_of_getElem? (i := 221) rfl)
  refine MetFree.of_bodySF (plainFor_of_name pn_PlanBillingPeriodPinLaw) hisR ?_
  intro p e s m args below meth c s₁ Bd hml0 hP hK
  obtain ⟨rfl, hZ, hh⟩ := hP
  have hx := Bd.exec
  have hby := Bd.bytes
  have hml : c.maxLocals = 15 := hml0
  have hown : s.vm.findClass "com/example/maksu/maksu/catalog/PlanBillingPeriodPinLaw" = some m.cls := findClass_of_methodNamed Bd.named
  have hnm := (name_of_methodNamed Bd.named Bd.method).1
  have X0 : Stand p l e room_1 s m #[(.int p1), (.int p2), (.int p3), (.int p4), (.int p5)] below meth c s₁ [] 0 0 := Stand.of_body Bd
  have e0 : s₁.heap = h0 := by rw [← hh, Bd.state]; rfl
  have N0 := Fr.nil n0
  have pre0 : ∀ t_, Steps p.tables e below (s₁.setTop (mkF m 0 #[.val (.int p1), .val (.int p2), .val (.int p3), .val (.int p4), .val (.int p5), .unset, .unset, .unset, .unset, .unset, .unset, .unset, .unset, .unset, .unset] [])) t_ → Steps p.tables e below (s₁.setTop (entryFrame m #[(.int p1), (.int p2), (.int p3), (.int p4), (.int p5)] maxLocals)) t_ := fun t_ k_ => castTop (ef_0 m p1 p2 p3 p4 p5) k_
  have go1 : ∀ t_, Steps p.tables e below (s₁.setTop (mkF m 10 #[.val (.int p1), .val (.int p2), .val (.int p3), .val (.int p4), .val (.int p5), .val (.int (((p1 &&& (2147483647 : Int32)) % (3 : Int32)) + (1 : Int32))), .unset, .unset, .unset, .unset, .unset, .unset, .unset, .unset, .unset] [])) t_ → Steps p.tables e below (s₁.setTop (entryFrame m #[(.int p1), (.int p2), (.int p3), (.int p4), (.int p5)] maxLocals)) t_ := by
    intro t_ k_
    refine pre0 t_ ?_
    show Steps p.tables e below (s₁.setTop (mkF m 0 #[.val (.int p1), .val (.int p2), .val (.int p3), .val (.int p4), .val (.int p5), .unset, .unset, .unset, .unset, .unset, .unset, .unset, .unset, .unset, .unset] [])) _
    refine XS.iloadN X0.here hx rfl (hb hby at_0) rfl ?_
    show Steps p.tables e below (s₁.setTop (mkF m 1 #[.val (.int p1), .val (.int p2), .val (.int p3), .val (.int p4), .val (.int p5), .unset, .unset, .unset, .unset, .unset, .unset, .unset, .unset, .unset, .unset] [(.int p1)])) _
    refine X0.ldcInt hx hown (mvT hZ hw_0) (g := (mkF m 1 #[.val (.int p1), .val (.int p2), .val (.int p3), .val (.int p4), .val (.int p5), .unset, .unset, .unset, .unset, .unset, .unset, .unset, .unset, .unset, .unset] [(.int p1)])) rfl (hb hby at_1) _ ?_
    show Steps p.tables e below (s₁.setTop (mkF m 3 #[.val (.int p1), .val (.int p2), .val (.int p3), .val (.int p4), .val (.int p5), .unset, .unset, .unset, .unset, .unset, .unset, .unset, .unset, .unset, .unset] [(.int (2147483647 : Int32)), (.int p1)])) _
    refine XS.iand X0.here hx rfl (hb hby at_3) rfl ?_
    show Steps p.tables e below (s₁.setTop (mkF m 4 #[.val (.int p1), .val (.int p2), .val (.int p3), .val (.int p4), .val (.int p5), .unset, .unset, .unset, .unset, .unset, .unset, .unset, .unset, .unset, .unset] [(.int (p1 &&& (2147483647 : Int32)))])) _
    refine XS.iconst X0.here hx rfl (hb hby at_4) ?_
    show Steps p.tables e below (s₁.setTop (mkF m 5 #[.val (.int p1), .val (.int p2), .val (.int p3), .val (.int p4), .val (.int p5), .unset, .unset, .unset, .unset, .unset, .unset, .unset, .unset, .unset, .unset] [(.int (3 : Int32)), (.int (p1 &&& (2147483647 : Int32)))])) _
    refine Jvm.RoadKit.iremM X0 hx rfl (hb hby at_5) rfl (by decide) ?_
    show Steps p.tables e below (s₁.setTop (mkF m 6 #[.val (.int p1), .val (.int p2), .val (.int p3), .val (.int p4), .val (.int p5), .unset, .unset, .unset, .unset, .unset, .unset, .unset, .unset, .unset, .unset] [(.int ((p1 &&& (2147483647 : Int32)) % (3 : Int32)))])) _
    refine XS.iconst X0.here hx rfl (hb hby at_6) ?_
    show Steps p.tables e below (s₁.setTop (mkF m 7 #[.val (.int p1), .val (.int p2), .val (.int p3), .val (.int p4), .val (.int p5), .unset, .unset, .unset, .unset, .unset, .unset, .unset, .unset, .unset, .unset] [(.int (1 : Int32)), (.int ((p1 &&& (2147483647 : Int32)) % (3 : Int32)))])) _
    refine XS.iadd X0.here hx rfl (hb hby at_7) rfl ?_
    show Steps p.tables e below (s₁.setTop (mkF m 8 #[.val (.int p1), .val (.int p2), .val (.int p3), .val (.int p4), .val (.int p5), .unset, .unset, .unset, .unset, .unset, .unset, .unset, .unset, .unset, .unset] [(.int (((p1 &&& (2147483647 : Int32)) % (3 : Int32)) + (1 : Int32)))])) _
    refine XS.istore X0.here hx rfl (hb hby at_8) rfl (l' := #[.val (.int p1), .val (.int p2), .val (.int p3), .val (.int p4), .val (.int p5), .val (.int (((p1 &&& (2147483647 : Int32)) % (3 : Int32)) + (1 : Int32))), .unset, .unset, .unset, .unset, .unset, .unset, .unset, .unset, .unset]) rfl ?_
    exact k_
  rcases (own_n3 p1) with hk2 | hk2 | hk2
  · skip
    have go3 : ∀ t_, Steps p.tables e below (s₁.setTop (mkF m 10 #[.val (.int p1), .val (.int p2), .val (.int p3), .val (.int p4), .val (.int p5), .val (.int (1 : Int32)), .unset, .unset, .unset, .unset, .unset, .unset, .unset, .unset, .unset] [])) t_ → Steps p.tables e below (s₁.setTop (entryFrame m #[(.int p1), (.int p2), (.int p3), (.int p4), (.int p5)] maxLocals)) t_ := by
      intro t_ k_
      refine go1 t_ ?_
      rw [hk2]
      exact k_
    have go4 : ∀ t_, Steps p.tables e below (s₁.setTop (mkF m 13 #[.val (.int p1), .val (.int p2), .val (.int p3), .val (.int p4), .val (.int p5), .val (.int (1 : Int32)), .unset, .unset, .unset, .unset, .unset, .unset, .unset, .unset, .unset] [(.int p3), (.int (0 : Int32)), (.int p2)])) t_ → Steps p.tables e below (s₁.setTop (entryFrame m #[(.int p1), (.int p2), (.int p3), (.int p4), (.int p5)] maxLocals)) t_ := by
      intro t_ k_
      refine go3 t_ ?_
      show Steps p.tables e below (s₁.setTop (mkF m 10 #[.val (.int p1), .val (.int p2), .val (.int p3), .val (.int p4), .val (.int p5), .val (.int (1 : Int32)), .unset, .unset, .unset, .unset, .unset, .unset, .unset, .unset, .unset] [])) _
      refine XS.iloadN X0.here hx rfl (hb hby at_10) rfl ?_
      show Steps p.tables e below (s₁.setTop (mkF m 11 #[.val (.int p1), .val (.int p2), .val (.int p3), .val (.int p4), .val (.int p5), .val (.int (1 : Int32)), .unset, .unset, .unset, .unset, .unset, .unset, .unset, .unset, .unset] [(.int p2)])) _
      refine XS.iconst X0.here hx rfl (hb hby at_11) ?_
      show Steps p.tables e below (s₁.setTop (mkF m 12 #[.val (.int p1), .val (.int p2), .val (.int p3), .val (.int p4), .val (.int p5), .val (.int (1 : Int32)), .unset, .unset, .unset, .unset, .unset, .unset, .unset, .unset, .unset] [(.int (0 : Int32)), (.int p2)])) _
      refine XS.iloadN X0.here hx rfl (hb hby at_12) rfl ?_
      exact k_
    by_cases hc5 : ((p2 >>> ((0 : Int32) &&& 31)) &&& (1 : Int32)) = (0 : Int32)
    · skip
      obtain ⟨_, _, ⟨T6, L6, k6, n6⟩, -, X6, ⟨Lc6, hQ6, l6, y6, z6⟩, st6⟩ := Jvm.LawKit.callS X0 hx (y := (⟨"com/example/maksu/maksu/catalog/PlanBillingPeriodPinLaw", "phase", "(III)Lcom/example/maksu/maksu/catalog/Phase;"⟩ : MethodName)) hown (mvT hZ hw_1) (mvT hZ hw_2) (mvT hZ hw_3) (mvT hZ hw_4) (by decide) (backOf (W := 0) (rmPh0 l Z a0 hw [] p2 (0 : Int32) p3 W h0 n0 Z0 BPs hc5 O0) hZ hw_4 hw_3 (by decide) (by decide)) (g := (mkF m 13 #[.val (.int p1), .val (.int p2), .val (.int p3), .val (.int p4), .val (.int p5), .val (.int (1 : Int32)), .unset, .unset, .unset, .unset, .unset, .unset, .unset, .unset, .unset] [(.int p3), (.int (0 : Int32)), (.int p2)])) rfl (by rw [hml]; rfl) (argsL := [(.int p2), (.int (0 : Int32)), (.int p3)]) (rest := []) (lenOf pd_15 rfl) rfl (by show 2 * 0 + _ ≤ _; exact Nat.le_of_eq rfl) (hb hby at_13) (fun _ _ => ⟨rfl, e0, (by decide : 0 + 1 ≤ _), (by decide : 0 + 4 ≤ _)⟩)
      dsimp only [Pt.U, Pt.locs, Pt.cells, Pt.slots] at X6 l6 y6 z6 st6 hQ6
      subst l6 y6 z6
      obtain ⟨y6b, rfl, N6q, Kc6, lo6, hi6, Ec6, Fc6⟩ := hQ6
      have N6 := Fr.app N0 N6q
      have sz6 : h0.size ≤ T6.heap.size := Kc6.1
      have Z6 : n0 ≤ T6.heap.size := Nat.le_trans Z0 sz6
      have O6 : Old Z n0 T6.heap := O0.keep Kc6 all0
      obtain ⟨_, _, ⟨T7, L7, k7, n7⟩, -, X7, ⟨Lc7, hQ7, l7, y7, z7⟩, st7⟩ := Jvm.LawKit.callS X6 hx (y := (⟨"com/example/maksu/maksu/catalog/PlanBillingPeriodPinLaw", "phase", "(III)Lcom/example/maksu/maksu/catalog/Phase;"⟩ : MethodName)) hown (mvT hZ hw_1) (mvT hZ hw_2) (mvT hZ hw_3) (mvT hZ hw_4) (by decide) (backOf (W := 0) (rmPhA l Z a0 hw [] p2 (1 : Int32) p4 W T6.heap n0 Z6 BPs O6) hZ hw_4 hw_3 (by decide) (by decide)) (g := (mkF m 21 #[.val (.int p1), .val (.int p2), .val (.int p3), .val (.int p4), .val (.int p5), .val (.int (1 : Int32)), .val (.ref y6b), .unset, .unset, .unset, .unset, .unset, .unset, .unset, .unset] [(.int p4), (.int (1 : Int32)), (.int p2)])) rfl (by rw [hml]; rfl) (argsL := [(.int p2), (.int (1 : Int32)), (.int p4)]) (rest := []) (lenOf pd_15 rfl) rfl (by show 2 * 0 + _ ≤ _; exact Nat.le_of_eq rfl) (hb hby at_21) (fun _ _ => ⟨rfl, rfl, (by decide : 1 + 3 ≤ _), (by decide : 4 + 22 ≤ _)⟩)
      dsimp only [Pt.U, Pt.locs, Pt.cells, Pt.slots] at X7 l7 y7 z7 st7 hQ7
      subst l7 y7 z7
      obtain ⟨y7b, rfl, N7q, Kc7, lo7, hi7, Ec7⟩ := hQ7
      have N7 := Fr.app N6 N7q
      have sz7 : T6.heap.size ≤ T7.heap.size := Kc7.1
      have Z7 : n0 ≤ T7.heap.size := Nat.le_trans Z6 sz7
      have O7 : Old Z n0 T7.heap := O6.keep Kc7 all0
      obtain ⟨_, _, ⟨T8, L8, k8, n8⟩, -, X8, ⟨Lc8, hQ8, l8, y8, z8⟩, st8⟩ := Jvm.LawKit.callS X7 hx (y := (⟨"com/example/maksu/maksu/catalog/PlanBillingPeriodPinLaw", "phase", "(III)Lcom/example/maksu/maksu/catalog/Phase;"⟩ : MethodName)) hown (mvT hZ hw_1) (mvT hZ hw_2) (mvT hZ hw_3) (mvT hZ hw_4) (by decide) (backOf (W := 0) (rmPhA l Z a0 hw [] p2 (2 : Int32) p5 W T7.heap n0 Z7 BPs O7) hZ hw_4 hw_3 (by decide) (by decide)) (g := (mkF m 30 #[.val (.int p1), .val (.int p2), .val (.int p3), .val (.int p4), .val (.int p5), .val (.int (1 : Int32)), .val (.ref y6b), .val (.ref y7b), .unset, .unset, .unset, .unset, .unset, .unset, .unset] [(.int p5), (.int (2 : Int32)), (.int p2)])) rfl (by rw [hml]; rfl) (argsL := [(.int p2), (.int (2 : Int32)), (.int p5)]) (rest := []) (lenOf pd_15 rfl) rfl (by show 2 * 0 + _ ≤ _; exact Nat.le_of_eq rfl) (hb hby at_30) (fun _ _ => ⟨rfl, rfl, (by decide : 4 + 3 ≤ _), (by decide : 26 + 22 ≤ _)⟩)
      dsimp only [Pt.U, Pt.locs, Pt.cells, Pt.slots] at X8 l8 y8 z8 st8 hQ8
      subst l8 y8 z8
      obtain ⟨y8b, rfl, N8q, Kc8, lo8, hi8, Ec8⟩ := hQ8
      have N8 := Fr.app N7 N8q
      have sz8 : T7.heap.size ≤ T8.heap.size := Kc8.1
      have Z8 : n0 ≤ T8.heap.size := Nat.le_trans Z7 sz8
      have O8 : Old Z n0 T8.heap := O7.keep Kc8 all0
      obtain ⟨T9, h9, X9, e9, E9, A9, D9, -, st9⟩ := newO X8 hx hZ hown hw_77 hw_78 hw_79 rfl (g := (mkF m 35 #[.val (.int p1), .val (.int p2), .val (.int p3), .val (.int p4), .val (.int p5), .val (.int (1 : Int32)), .val (.ref y6b), .val (.ref y7b), .val (.ref y8b), .unset, .unset, .unset, .unset, .unset, .unset] [])) rfl (hb hby at_35) (by decide) (by decide)
      obtain ⟨b9, g9⟩ : ∃ z, z = T8.heap.size := ⟨_, rfl⟩
      rw [← g9] at A9 D9 st9
      have lt9 : b9 < h9.size := A9.lt
      have sz9 : T8.heap.size ≤ h9.size := E9.1
      have Z9 : n0 ≤ h9.size := Nat.le_trans Z8 sz9
      have O9 : Old Z n0 h9 := O8.ext E9
      have F10 : Fld Z h9 b9 "java/util/AbstractList" "modCount" "I" (.int (0 : Int32)) := D9 (Or.inl hw_97) (ty := .int) (by decide)
      have F11 : Fld Z h9 b9 "java/util/ArrayList" "elementData" "[Ljava/lang/Object;" .null := D9 (Or.inl hw_100) (ty := (.array (.object "java/lang/Object"))) (by decide)
      have F12 : Fld Z h9 b9 "java/util/ArrayList" "size" "I" (.int (0 : Int32)) := D9 (Or.inl hw_113) (ty := .int) (by decide)
      obtain ⟨_, _, ⟨T13, L13, k13, n13⟩, -, X13, ⟨Lc13, hQ13, l13, y13, z13⟩, st13⟩ := X9.specialBack hx (y := (⟨"java/util/ArrayList", "<init>", "()V"⟩ : MethodName)) rfl hown (mvT hZ hw_80) (mvT hZ hw_81) (mvT hZ hw_82) (by decide) (backOf (W := 1) (rmALI l Z a0 hw [] b9 ed h9 n0 Z9 A9 F10 F12 F11 (by omega) S_D O9) hZ hw_82 hw_79 (by decide) (by decide)) (g := (mkF m 39 #[.val (.int p1), .val (.int p2), .val (.int p3), .val (.int p4), .val (.int p5), .val (.int (1 : Int32)), .val (.ref y6b), .val (.ref y7b), .val (.ref y8b), .unset, .unset, .unset, .unset, .unset, .unset] [(.ref b9), (.ref b9)])) rfl (by rw [hml]; rfl) (Steps.refl _) (a := b9) (argsL := []) (rest := [(.ref b9)]) (lenOf pd_0 rfl) rfl (by show 2 * 0 + _ ≤ _; exact Nat.le_of_eq rfl) (hb hby at_39) (fun _ _ => ⟨rfl, e9, (by decide : 8 + 0 ≤ _), (by decide : 51 + 0 ≤ _)⟩)
      dsimp only [Pt.U, Pt.locs, Pt.cells, Pt.slots] at X13 l13 y13 z13 st13 hQ13
      subst l13 y13 z13
      obtain ⟨rfl, N13q, Kc13, Ec13, Fm13, Fs13, Fe13⟩ := hQ13
      have N13 := Fr.app N8 N13q
      have sz13 : h9.size ≤ T13.heap.size := Kc13.1
      have Z13 : n0 ≤ T13.heap.size := Nat.le_trans Z9 sz13
      have O13 : Old Z n0 T13.heap := O9.keep Kc13 (allS (show n0 ≤ b9 by omega) all0)
      have f15 := (Ec6.keep Kc7)
      have f16 := (f15.keep Kc8)
      have f17 := (f16.ext E9)
      have f18 := (f17.keep Kc13)
      obtain ⟨cq14, kq14, q14a, q14b, q14c⟩ := isOf hZ rfl Ec13
      obtain ⟨_, _, ⟨T14, L14, k14, n14⟩, -, X14, ⟨Lc14, hQ14, l14, y14, z14⟩, st14⟩ := X13.interfaceBack hx (xi := (⟨"java/util/List", "add", "(Ljava/lang/Object;)Z"⟩ : MethodName)) (y := (⟨"java/util/ArrayList", "add", "(Ljava/lang/Object;)Z"⟩ : MethodName)) hown (mvT hZ hw_101) (mvT hZ hw_102) (mvT hZ hw_103) (mvT hZ hw_104) (mvT hZ hw_105) (mvT hZ hw_106) (mvT hZ hw_107) (mvT hZ hw_108) (by decide) (backOf (W := 0) (rmAd0 l Z a0 hw [] b9 y6b ed kd (0 : Int32) T13.heap n0 Z13 Ec13 Fm13 Fs13 Fe13 (by omega) (by omega) S_D V_D f18 (by omega) O13) hZ hw_109 hw_79 (by decide) (by decide)) q14a q14b q14c (g := (mkF m 48 #[.val (.int p1), .val (.int p2), .val (.int p3), .val (.int p4), .val (.int p5), .val (.int (1 : Int32)), .val (.ref y6b), .val (.ref y7b), .val (.ref y8b), .val (.ref b9), .unset, .unset, .unset, .unset, .unset] [(.ref y6b), (.ref b9)])) rfl (by rw [hml]; rfl) (Steps.refl _) (argsL := [(.ref y6b)]) (rest := []) (lenOf pd_16 rfl) rfl (by show 2 * 0 + _ ≤ _; exact Nat.le_of_eq rfl) (hb hby at_48) (fun _ _ => ⟨rfl, rfl, (by decide : 8 + 1 ≤ _), (by decide : 51 + 10 ≤ _)⟩)
      dsimp only [Pt.U, Pt.locs, Pt.cells, Pt.slots] at X14 l14 y14 z14 st14 hQ14
      subst l14 y14 z14
      obtain ⟨y14b, y14k, rfl, N14q, Kc14, lo14, hi14, Ec14, Fm14, Fs14, Fe14, Ov14, Vc14⟩ := hQ14
      have N14 := Fr.app N13 N14q
      have sz14 : T13.heap.size ≤ T14.heap.size := Kc14.1
      have Z14 : n0 ≤ T14.heap.size := Nat.le_trans Z13 sz14
      have O14 : Old Z n0 T14.heap := O13.keep Kc14 (allS (show n0 ≤ b9 by omega) all0)
      obtain ⟨T19, h19, X19, e19, E19, A19, D19, -, st19⟩ := newO X14 hx hZ hown hw_136 hw_137 hw_138 rfl (g := (mkF m 86 #[.val (.int p1), .val (.int p2), .val (.int p3), .val (.int p4), .val (.int p5), .val (.int (1 : Int32)), .val (.ref y6b), .val (.ref y7b), .val (.ref y8b), .val (.ref b9), .unset, .unset, .unset, .unset, .unset] [])) rfl (hb hby at_86) (by decide) (by decide)
      obtain ⟨b19, g19⟩ : ∃ z, z = T14.heap.size := ⟨_, rfl⟩
      rw [← g19] at A19 D19 st19
      have lt19 : b19 < h19.size := A19.lt
      have sz19 : T14.heap.size ≤ h19.size := E19.1
      have Z19 : n0 ≤ h19.size := Nat.le_trans Z14 sz19
      have O19 : Old Z n0 h19 := O14.ext E19
      have F20 : Fld Z h19 b19 "com/example/maksu/maksu/catalog/Plan" "name" "Ljava/lang/String;" .null := D19 (Or.inr hw_153) (ty := (.object "java/lang/String")) (by decide)
      have F21 : Fld Z h19 b19 "com/example/maksu/maksu/catalog/Plan" "product" "Ljava/lang/String;" .null := D19 (Or.inr hw_155) (ty := (.object "java/lang/String")) (by decide)
      have F22 : Fld Z h19 b19 "com/example/maksu/maksu/catalog/Plan" "phases" "Ljava/util/List;" .null := D19 (Or.inr hw_157) (ty := (.object "java/util/List")) (by decide)
      have wS : ∀ a ∈ Bundle.stringAtoms, a.before a0 Z = true := by
        intro a ha
        simp only [Bundle.stringAtoms, List.mem_cons, List.not_mem_nil, or_false] at ha
        rcases ha with rfl | rfl | rfl | rfl | rfl | rfl | rfl
        · exact hw_140
        · exact hw_141
        · exact hw_142
        · exact hw_143
        · exact hw_144
        · exact hw_145
        · exact hw_146
      have Xw : Stand p l e room_1 (s.setVm s.vm) m #[(.int p1), (.int p2), (.int p3), (.int p4), (.int p5)] below meth c T19 _ _ _ := X19
      obtain ⟨a23, T23, h23, k23, X23, e23, E23, hS23, hk23, hZ23, hown23, st23⟩ := ldcS (s := s) (vm0 := s.vm) Xw hx hZ hown hw_139 wS e19 ((State.WarmedH.refl s).since 0) (Nat.zero_le _) (g := (mkF m 90 #[.val (.int p1), .val (.int p2), .val (.int p3), .val (.int p4), .val (.int p5), .val (.int (1 : Int32)), .val (.ref y6b), .val (.ref y7b), .val (.ref y8b), .val (.ref b9), .unset, .unset, .unset, .unset, .unset] [(.ref b19), (.ref b19)])) rfl (hb hby at_90) (n := 32) (by decide) (by decide) (by decide) (by decide)
      have sz23 : h19.size ≤ h23.size := E23.1
      have Z23 : n0 ≤ h23.size := Nat.le_trans Z19 sz23
      have O23 : Old Z n0 h23 := O19.ext E23
      obtain ⟨a24, T24, h24, k24, X24, e24, E24, hS24, hk24, hZ24, hown24, st24⟩ := ldcS (s := s) (vm0 := T23.vm) X23 hx hZ23 hown23 hw_147 wS e23 hS23 (show k23 ≤ _ by omega) (g := (mkF m 92 #[.val (.int p1), .val (.int p2), .val (.int p3), .val (.int p4), .val (.int p5), .val (.int (1 : Int32)), .val (.ref y6b), .val (.ref y7b), .val (.ref y8b), .val (.ref b9), .unset, .unset, .unset, .unset, .unset] [(.ref a23), (.ref b19), (.ref b19)])) rfl (hb hby at_92) (n := 24) (by decide) (by decide) (by decide) (by decide)
      have sz24 : h23.size ≤ h24.size := E24.1
      have Z24 : n0 ≤ h24.size := Nat.le_trans Z23 sz24
      have O24 : Old Z n0 h24 := O23.ext E24
      have f26 := (A19.ext E23)
      have f27 := (f26.ext E24)
      have f28 := (F20.ext E23)
      have f29 := (f28.ext E24)
      have f30 := (F21.ext E23)
      have f31 := (f30.ext E24)
      have f32 := (F22.ext E23)
      have f33 := (f32.ext E24)
      obtain ⟨_, _, ⟨T25, L25, k25, n25⟩, -, X25, ⟨Lc25, hQ25, l25, y25, z25⟩, st25⟩ := X24.specialBack hx (y := (⟨"com/example/maksu/maksu/catalog/Plan", "<init>", "(Ljava/lang/String;Ljava/lang/String;Ljava/util/List;)V"⟩ : MethodName)) rfl hown24 (mvT hZ24 hw_148) (mvT hZ24 hw_149) (mvT hZ24 hw_150) (by decide) (backOf (W := 1) (rmPln l Z a0 hw [] b19 a23 a24 b9 h24 n0 Z24 f27 f29 f31 f33 (by omega)) hZ24 hw_150 hw_138 (by decide) (by decide)) (g := (mkF m 96 #[.val (.int p1), .val (.int p2), .val (.int p3), .val (.int p4), .val (.int p5), .val (.int (1 : Int32)), .val (.ref y6b), .val (.ref y7b), .val (.ref y8b), .val (.ref b9), .unset, .unset, .unset, .unset, .unset] [(.ref b9), (.ref a24), (.ref a23), (.ref b19), (.ref b19)])) rfl (by rw [hml]; rfl) (Steps.refl _) (a := b19) (argsL := [(.ref a23), (.ref a24), (.ref b9)]) (rest := [(.ref b19)]) (lenOf pd_17 rfl) rfl (by show 2 * 0 + _ ≤ _; exact Nat.le_of_eq rfl) (hb hby at_96) (fun _ _ => ⟨rfl, e24, (by decide : 14 + 0 ≤ _), (by decide : 128 + 0 ≤ _)⟩)
      dsimp only [Pt.U, Pt.locs, Pt.cells, Pt.slots] at X25 l25 y25 z25 st25 hQ25
      subst l25 y25 z25
      obtain ⟨rfl, N25q, Kc25, Ec25, Fc25⟩ := hQ25
      have N25 := Fr.app N14 N25q
      have sz25 : h24.size ≤ T25.heap.size := Kc25.1
      have Z25 : n0 ≤ T25.heap.size := Nat.le_trans Z24 sz25
      have O25 : Old Z n0 T25.heap := O24.keep Kc25 (allS (show n0 ≤ b19 by omega) all0)
      have f35 := (Ec14.ext E19)
      have f36 := (f35.ext E23)
      have f37 := (f36.ext E24)
      have f38 := (f37.keep Kc25)
      have f39 := (Fs14.ext E19)
      have f40 := (f39.ext E23)
      have f41 := (f40.ext E24)
      have f42 := (f41.keep Kc25 (ninS (show b9 ≠ b19 by omega) nin0))
      have f43 := (Fe14.ext E19)
      have f44 := (f43.ext E23)
      have f45 := (f44.ext E24)
      have f46 := (f45.keep Kc25 (ninS (show b9 ≠ b19 by omega) nin0))
      have f47 := (Vc14.ext E19)
      have f48 := (f47.ext E23)
      have f49 := (f48.ext E24)
      have f50 := (f49.keep Kc25 (ninS (show y14b ≠ b19 by omega) nin0))
      have f51 := (f18.keep Kc14)
      have f52 := (f51.ext E19)
      have f53 := (f52.ext E23)
      have f54 := (f53.ext E24)
      have f55 := (f54.keep Kc25)
      have f56 := (Fc6.keep Kc7 nin0)
      have f57 := (f56.keep Kc8 nin0)
      have f58 := (f57.ext E9)
      have f59 := (f58.keep Kc13 (ninS (show y6b ≠ b9 by omega) nin0))
      have f60 := (f59.keep Kc14 (ninS (show y6b ≠ b9 by omega) nin0))
      have f61 := (f60.ext E19)
      have f62 := (f61.ext E23)
      have f63 := (f62.ext E24)
      have f64 := (f63.keep Kc25 (ninS (show y6b ≠ b19 by omega) nin0))
      obtain ⟨cq34, kq34, q34a, q34b, q34c⟩ := isOf hZ24 rfl Ec25
      obtain ⟨_, _, ⟨T34, L34, k34, n34⟩, -, X34, ⟨Lc34, hQ34, l34, y34, z34⟩, st34⟩ := X25.virtualBack hx (y := (⟨"com/example/maksu/maksu/catalog/Plan", "billingPeriod", "()Ljava/util/Optional;"⟩ : MethodName)) (z := (⟨"com/example/maksu/maksu/catalog/Plan", "billingPeriod", "()Ljava/util/Optional;"⟩ : MethodName)) hown24 (mvT hZ24 hw_158) (mvT hZ24 hw_159) (notFace_of_selects (args := #[]) (mvT hZ24 hw_161)) (mvT hZ24 hw_161) (mvT hZ24 hw_160) (by decide) (backOf (W := 0) (rmBP0 l Z a0 hw [] b19 b9 (1 : Int32) y14b y14k [(.ref y6b), .null, .null, .null, .null, .null, .null, .null, .null, .null] y6b wE T25.heap n0 Z25 Fc25 f38 f42 f46 f50 ⟨by decide, by decide⟩ rfl (by decide) (by decide) f55 f64 S_E O25) hZ24 hw_162 hw_138 (by decide) (by decide)) q34a q34c (g := (mkF m 103 #[.val (.int p1), .val (.int p2), .val (.int p3), .val (.int p4), .val (.int p5), .val (.int (1 : Int32)), .val (.ref y6b), .val (.ref y7b), .val (.ref y8b), .val (.ref b9), .val (.ref b19), .unset, .unset, .unset, .unset] [(.ref b19)])) rfl (by rw [hml]; rfl) (Steps.refl _) (argsL := []) (rest := []) (lenOf pd_18 rfl) rfl (by show 2 * 0 + _ ≤ _; exact Nat.le_of_eq rfl) (hb hby at_103) (fun _ _ => ⟨rfl, rfl, (by decide : 14 + 0 ≤ _), (by decide : 128 + 0 ≤ _)⟩)
      dsimp only [Pt.U, Pt.locs, Pt.cells, Pt.slots] at X34 l34 y34 z34 st34 hQ34
      subst l34 y34 z34
      obtain ⟨rfl, N34q, e34⟩ := hQ34
      have N34 := Fr.app N25 N34q
      obtain ⟨cq65, kq65, q65a, q65b, q65c⟩ := isOf hZ24 e34 (E_E.ext O25.2)
      obtain ⟨_, _, ⟨T65, L65, k65, n65⟩, -, X65, ⟨Lc65, hQ65, l65, y65, z65⟩, st65⟩ := X34.virtualBack hx (y := (⟨"java/util/Optional", "orElse", "(Ljava/lang/Object;)Ljava/lang/Object;"⟩ : MethodName)) (z := (⟨"java/util/Optional", "orElse", "(Ljava/lang/Object;)Ljava/lang/Object;"⟩ : MethodName)) hown24 (mvT hZ24 hw_217) (mvT hZ24 hw_218) (notFace_of_selects (args := #[]) (mvT hZ24 hw_220)) (mvT hZ24 hw_220) (mvT hZ24 hw_219) (by decide) (backOf (W := 0) (rmOr0 l Z a0 hw [] wE T25.heap n0 Z25 (F_E.ext O25.2)) hZ24 hw_221 hw_206 (by decide) (by decide)) q65a q65c (g := (mkF m 165 #[.val (.int p1), .val (.int p2), .val (.int p3), .val (.int p4), .val (.int p5), .val (.int (1 : Int32)), .val (.ref y6b), .val (.ref y7b), .val (.ref y8b), .val (.ref b9), .val (.ref b19), .val (.ref wE), .val (.int (0 : Int32)), .val (.int p3), .val .null] [.null, (.ref wE)])) rfl (by rw [hml]; rfl) (Steps.refl _) (argsL := [.null]) (rest := []) (lenOf pd_19 rfl) rfl (by show 2 * 0 + _ ≤ _; exact Nat.le_of_eq rfl) (hb hby at_165) (fun _ _ => ⟨rfl, e34, (by decide : 14 + 0 ≤ _), (by decide : 128 + 0 ≤ _)⟩)
      dsimp only [Pt.U, Pt.locs, Pt.cells, Pt.slots] at X65 l65 y65 z65 st65 hQ65
      subst l65 y65 z65
      obtain ⟨rfl, N65q, e65⟩ := hQ65
      have N65 := Fr.app N34 N65q
      have go66 : ∀ t_, Steps p.tables e below (T65.setTop (mkF m 178 #[.val (.int p1), .val (.int p2), .val (.int p3), .val (.int p4), .val (.int p5), .val (.int (1 : Int32)), .val (.ref y6b), .val (.ref y7b), .val (.ref y8b), .val (.ref b9), .val (.ref b19), .val (.ref wE), .val (.int (0 : Int32)), .val (.int p3), .val .null] [(.int (1 : Int32))])) t_ → Steps p.tables e below (s₁.setTop (entryFrame m #[(.int p1), (.int p2), (.int p3), (.int p4), (.int p5)] maxLocals)) t_ := by
        intro t_ k_
        refine go4 t_ ?_
        show Steps p.tables e below (s₁.setTop (mkF m 13 #[.val (.int p1), .val (.int p2), .val (.int p3), .val (.int p4), .val (.int p5), .val (.int (1 : Int32)), .unset, .unset, .unset, .unset, .unset, .unset, .unset, .unset, .unset] [(.int p3), (.int (0 : Int32)), (.int p2)])) _
        refine st6 _ ?_
        show Steps p.tables e below (T6.setTop (mkF m 16 #[.val (.int p1), .val (.int p2), .val (.int p3), .val (.int p4), .val (.int p5), .val (.int (1 : Int32)), .unset, .unset, .unset, .unset, .unset, .unset, .unset, .unset, .unset] [(.ref y6b)])) _
        refine XS.astore X6.here hx rfl (hb hby at_16) rfl rfl (l' := #[.val (.int p1), .val (.int p2), .val (.int p3), .val (.int p4), .val (.int p5), .val (.int (1 : Int32)), .val (.ref y6b), .unset, .unset, .unset, .unset, .unset, .unset, .unset, .unset]) rfl ?_
        show Steps p.tables e below (T6.setTop (mkF m 18 #[.val (.int p1), .val (.int p2), .val (.int p3), .val (.int p4), .val (.int p5), .val (.int (1 : Int32)), .val (.ref y6b), .unset, .unset, .unset, .unset, .unset, .unset, .unset, .unset] [])) _
        refine XS.iloadN X6.here hx rfl (hb hby at_18) rfl ?_
        show Steps p.tables e below (T6.setTop (mkF m 19 #[.val (.int p1), .val (.int p2), .val (.int p3), .val (.int p4), .val (.int p5), .val (.int (1 : Int32)), .val (.ref y6b), .unset, .unset, .unset, .unset, .unset, .unset, .unset, .unset] [(.int p2)])) _
        refine XS.iconst X6.here hx rfl (hb hby at_19) ?_
        show Steps p.tables e below (T6.setTop (mkF m 20 #[.val (.int p1), .val (.int p2), .val (.int p3), .val (.int p4), .val (.int p5), .val (.int (1 : Int32)), .val (.ref y6b), .unset, .unset, .unset, .unset, .unset, .unset, .unset, .unset] [(.int (1 : Int32)), (.int p2)])) _
        refine XS.iloadN X6.here hx rfl (hb hby at_20) rfl ?_
        show Steps p.tables e below (T6.setTop (mkF m 21 #[.val (.int p1), .val (.int p2), .val (.int p3), .val (.int p4), .val (.int p5), .val (.int (1 : Int32)), .val (.ref y6b), .unset, .unset, .unset, .unset, .unset, .unset, .unset, .unset] [(.int p4), (.int (1 : Int32)), (.int p2)])) _
        refine st7 _ ?_
        show Steps p.tables e below (T7.setTop (mkF m 24 #[.val (.int p1), .val (.int p2), .val (.int p3), .val (.int p4), .val (.int p5), .val (.int (1 : Int32)), .val (.ref y6b), .unset, .unset, .unset, .unset, .unset, .unset, .unset, .unset] [(.ref y7b)])) _
        refine XS.astore X7.here hx rfl (hb hby at_24) rfl rfl (l' := #[.val (.int p1), .val (.int p2), .val (.int p3), .val (.int p4), .val (.int p5), .val (.int (1 : Int32)), .val (.ref y6b), .val (.ref y7b), .unset, .unset, .unset, .unset, .unset, .unset, .unset]) rfl ?_
        show Steps p.tables e below (T7.setTop (mkF m 26 #[.val (.int p1), .val (.int p2), .val (.int p3), .val (.int p4), .val (.int p5), .val (.int (1 : Int32)), .val (.ref y6b), .val (.ref y7b), .unset, .unset, .unset, .unset, .unset, .unset, .unset] [])) _
        refine XS.iloadN X7.here hx rfl (hb hby at_26) rfl ?_
        show Steps p.tables e below (T7.setTop (mkF m 27 #[.val (.int p1), .val (.int p2), .val (.int p3), .val (.int p4), .val (.int p5), .val (.int (1 : Int32)), .val (.ref y6b), .val (.ref y7b), .unset, .unset, .unset, .unset, .unset, .unset, .unset] [(.int p2)])) _
        refine XS.iconst X7.here hx rfl (hb hby at_27) ?_
        show Steps p.tables e below (T7.setTop (mkF m 28 #[.val (.int p1), .val (.int p2), .val (.int p3), .val (.int p4), .val (.int p5), .val (.int (1 : Int32)), .val (.ref y6b), .val (.ref y7b), .unset, .unset, .unset, .unset, .unset, .unset, .unset] [(.int (2 : Int32)), (.int p2)])) _
        refine XS.iload X7.here hx rfl (hb hby at_28) rfl ?_
        show Steps p.tables e below (T7.setTop (mkF m 30 #[.val (.int p1), .val (.int p2), .val (.int p3), .val (.int p4), .val (.int p5), .val (.int (1 : Int32)), .val (.ref y6b), .val (.ref y7b), .unset, .unset, .unset, .unset, .unset, .unset, .unset] [(.int p5), (.int (2 : Int32)), (.int p2)])) _
        refine st8 _ ?_
        show Steps p.tables e below (T8.setTop (mkF m 33 #[.val (.int p1), .val (.int p2), .val (.int p3), .val (.int p4), .val (.int p5), .val (.int (1 : Int32)), .val (.ref y6b), .val (.ref y7b), .unset, .unset, .unset, .unset, .unset, .unset, .unset] [(.ref y8b)])) _
        refine XS.astore X8.here hx rfl (hb hby at_33) rfl rfl (l' := #[.val (.int p1), .val (.int p2), .val (.int p3), .val (.int p4), .val (.int p5), .val (.int (1 : Int32)), .val (.ref y6b), .val (.ref y7b), .val (.ref y8b), .unset, .unset, .unset, .unset, .unset, .unset]) rfl ?_
        show Steps p.tables e below (T8.setTop (mkF m 35 #[.val (.int p1), .val (.int p2), .val (.int p3), .val (.int p4), .val (.int p5), .val (.int (1 : Int32)), .val (.ref y6b), .val (.ref y7b), .val (.ref y8b), .unset, .unset, .unset, .unset, .unset, .unset] [])) _
        refine st9 _ ?_
        show Steps p.tables e below (T9.setTop (mkF m 38 #[.val (.int p1), .val (.int p2), .val (.int p3), .val (.int p4), .val (.int p5), .val (.int (1 : Int32)), .val (.ref y6b), .val (.ref y7b), .val (.ref y8b), .unset, .unset, .unset, .unset, .unset, .unset] [(.ref b9)])) _
        refine XS.dup X9.here hx rfl (hb hby at_38) rfl rfl ?_
        show Steps p.tables e below (T9.setTop (mkF m 39 #[.val (.int p1), .val (.int p2), .val (.int p3), .val (.int p4), .val (.int p5), .val (.int (1 : Int32)), .val (.ref y6b), .val (.ref y7b), .val (.ref y8b), .unset, .unset, .unset, .unset, .unset, .unset] [(.ref b9), (.ref b9)])) _
        refine st13.trans ?_
        show Steps p.tables e below (T13.setTop (mkF m 42 #[.val (.int p1), .val (.int p2), .val (.int p3), .val (.int p4), .val (.int p5), .val (.int (1 : Int32)), .val (.ref y6b), .val (.ref y7b), .val (.ref y8b), .unset, .unset, .unset, .unset, .unset, .unset] [(.ref b9)])) _
        refine XS.astore X13.here hx rfl (hb hby at_42) rfl rfl (l' := #[.val (.int p1), .val (.int p2), .val (.int p3), .val (.int p4), .val (.int p5), .val (.int (1 : Int32)), .val (.ref y6b), .val (.ref y7b), .val (.ref y8b), .val (.ref b9), .unset, .unset, .unset, .unset, .unset]) rfl ?_
        show Steps p.tables e below (T13.setTop (mkF m 44 #[.val (.int p1), .val (.int p2), .val (.int p3), .val (.int p4), .val (.int p5), .val (.int (1 : Int32)), .val (.ref y6b), .val (.ref y7b), .val (.ref y8b), .val (.ref b9), .unset, .unset, .unset, .unset, .unset] [])) _
        refine XS.aload X13.here hx rfl (hb hby at_44) rfl rfl ?_
        show Steps p.tables e below (T13.setTop (mkF m 46 #[.val (.int p1), .val (.int p2), .val (.int p3), .val (.int p4), .val (.int p5), .val (.int (1 : Int32)), .val (.ref y6b), .val (.ref y7b), .val (.ref y8b), .val (.ref b9), .unset, .unset, .unset, .unset, .unset] [(.ref b9)])) _
        refine XS.aload X13.here hx rfl (hb hby at_46) rfl rfl ?_
        show Steps p.tables e below (T13.setTop (mkF m 48 #[.val (.int p1), .val (.int p2), .val (.int p3), .val (.int p4), .val (.int p5), .val (.int (1 : Int32)), .val (.ref y6b), .val (.ref y7b), .val (.ref y8b), .val (.ref b9), .unset, .unset, .unset, .unset, .unset] [(.ref y6b), (.ref b9)])) _
        refine st14.trans ?_
        show Steps p.tables e below (T14.setTop (mkF m 53 #[.val (.int p1), .val (.int p2), .val (.int p3), .val (.int p4), .val (.int p5), .val (.int (1 : Int32)), .val (.ref y6b), .val (.ref y7b), .val (.ref y8b), .val (.ref b9), .unset, .unset, .unset, .unset, .unset] [(.int (1 : Int32))])) _
        refine XS.pop X14.here hx rfl (hb hby at_53) rfl rfl ?_
        show Steps p.tables e below (T14.setTop (mkF m 54 #[.val (.int p1), .val (.int p2), .val (.int p3), .val (.int p4), .val (.int p5), .val (.int (1 : Int32)), .val (.ref y6b), .val (.ref y7b), .val (.ref y8b), .val (.ref b9), .unset, .unset, .unset, .unset, .unset] [])) _
        refine XS.iload X14.here hx rfl (hb hby at_54) rfl ?_
        show Steps p.tables e below (T14.setTop (mkF m 56 #[.val (.int p1), .val (.int p2), .val (.int p3), .val (.int p4), .val (.int p5), .val (.int (1 : Int32)), .val (.ref y6b), .val (.ref y7b), .val (.ref y8b), .val (.ref b9), .unset, .unset, .unset, .unset, .unset] [(.int (1 : Int32))])) _
        refine XS.iconst X14.here hx rfl (hb hby at_56) ?_
        show Steps p.tables e below (T14.setTop (mkF m 57 #[.val (.int p1), .val (.int p2), .val (.int p3), .val (.int p4), .val (.int p5), .val (.int (1 : Int32)), .val (.ref y6b), .val (.ref y7b), .val (.ref y8b), .val (.ref b9), .unset, .unset, .unset, .unset, .unset] [(.int (2 : Int32)), (.int (1 : Int32))])) _
        refine XS.icmpYes X14.here hx rfl (pc0 := 57) (pc' := 70) rfl (hb hby at_57) rfl (tlt (by decide : (1 : Int32) < (2 : Int32))).1 (by decide) (by decide) ?_
        show Steps p.tables e below (T14.setTop (mkF m 70 #[.val (.int p1), .val (.int p2), .val (.int p3), .val (.int p4), .val (.int p5), .val (.int (1 : Int32)), .val (.ref y6b), .val (.ref y7b), .val (.ref y8b), .val (.ref b9), .unset, .unset, .unset, .unset, .unset] [])) _
        refine XS.iload X14.here hx rfl (hb hby at_70) rfl ?_
        show Steps p.tables e below (T14.setTop (mkF m 72 #[.val (.int p1), .val (.int p2), .val (.int p3), .val (.int p4), .val (.int p5), .val (.int (1 : Int32)), .val (.ref y6b), .val (.ref y7b), .val (.ref y8b), .val (.ref b9), .unset, .unset, .unset, .unset, .unset] [(.int (1 : Int32))])) _
        refine XS.iconst X14.here hx rfl (hb hby at_72) ?_
        show Steps p.tables e below (T14.setTop (mkF m 73 #[.val (.int p1), .val (.int p2), .val (.int p3), .val (.int p4), .val (.int p5), .val (.int (1 : Int32)), .val (.ref y6b), .val (.ref y7b), .val (.ref y8b), .val (.ref b9), .unset, .unset, .unset, .unset, .unset] [(.int (3 : Int32)), (.int (1 : Int32))])) _
        refine XS.icmpYes X14.here hx rfl (pc0 := 73) (pc' := 86) rfl (hb hby at_73) rfl (tlt (by decide : (1 : Int32) < (3 : Int32))).1 (by decide) (by decide) ?_
        show Steps p.tables e below (T14.setTop (mkF m 86 #[.val (.int p1), .val (.int p2), .val (.int p3), .val (.int p4), .val (.int p5), .val (.int (1 : Int32)), .val (.ref y6b), .val (.ref y7b), .val (.ref y8b), .val (.ref b9), .unset, .unset, .unset, .unset, .unset] [])) _
        refine st19 _ ?_
        show Steps p.tables e below (T19.setTop (mkF m 89 #[.val (.int p1), .val (.int p2), .val (.int p3), .val (.int p4), .val (.int p5), .val (.int (1 : Int32)), .val (.ref y6b), .val (.ref y7b), .val (.ref y8b), .val (.ref b9), .unset, .unset, .unset, .unset, .unset] [(.ref b19)])) _
        refine XS.dup X19.here hx rfl (hb hby at_89) rfl rfl ?_
        show Steps p.tables e below (T19.setTop (mkF m 90 #[.val (.int p1), .val (.int p2), .val (.int p3), .val (.int p4), .val (.int p5), .val (.int (1 : Int32)), .val (.ref y6b), .val (.ref y7b), .val (.ref y8b), .val (.ref b9), .unset, .unset, .unset, .unset, .unset] [(.ref b19), (.ref b19)])) _
        refine st23 _ ?_
        show Steps p.tables e below (T23.setTop (mkF m 92 #[.val (.int p1), .val (.int p2), .val (.int p3), .val (.int p4), .val (.int p5), .val (.int (1 : Int32)), .val (.ref y6b), .val (.ref y7b), .val (.ref y8b), .val (.ref b9), .unset, .unset, .unset, .unset, .unset] [(.ref a23), (.ref b19), (.ref b19)])) _
        refine st24 _ ?_
        show Steps p.tables e below (T24.setTop (mkF m 94 #[.val (.int p1), .val (.int p2), .val (.int p3), .val (.int p4), .val (.int p5), .val (.int (1 : Int32)), .val (.ref y6b), .val (.ref y7b), .val (.ref y8b), .val (.ref b9), .unset, .unset, .unset, .unset, .unset] [(.ref a24), (.ref a23), (.ref b19), (.ref b19)])) _
        refine XS.aload X24.here hx rfl (hb hby at_94) rfl rfl ?_
        show Steps p.tables e below (T24.setTop (mkF m 96 #[.val (.int p1), .val (.int p2), .val (.int p3), .val (.int p4), .val (.int p5), .val (.int (1 : Int32)), .val (.ref y6b), .val (.ref y7b), .val (.ref y8b), .val (.ref b9), .unset, .unset, .unset, .unset, .unset] [(.ref b9), (.ref a24), (.ref a23), (.ref b19), (.ref b19)])) _
        refine st25.trans ?_
        show Steps p.tables e below (T25.setTop (mkF m 99 #[.val (.int p1), .val (.int p2), .val (.int p3), .val (.int p4), .val (.int p5), .val (.int (1 : Int32)), .val (.ref y6b), .val (.ref y7b), .val (.ref y8b), .val (.ref b9), .unset, .unset, .unset, .unset, .unset] [(.ref b19)])) _
        refine XS.astore X25.here hx rfl (hb hby at_99) rfl rfl (l' := #[.val (.int p1), .val (.int p2), .val (.int p3), .val (.int p4), .val (.int p5), .val (.int (1 : Int32)), .val (.ref y6b), .val (.ref y7b), .val (.ref y8b), .val (.ref b9), .val (.ref b19), .unset, .unset, .unset, .unset]) rfl ?_
        show Steps p.tables e below (T25.setTop (mkF m 101 #[.val (.int p1), .val (.int p2), .val (.int p3), .val (.int p4), .val (.int p5), .val (.int (1 : Int32)), .val (.ref y6b), .val (.ref y7b), .val (.ref y8b), .val (.ref b9), .val (.ref b19), .unset, .unset, .unset, .unset] [])) _
        refine XS.aload X25.here hx rfl (hb hby at_101) rfl rfl ?_
        show Steps p.tables e below (T25.setTop (mkF m 103 #[.val (.int p1), .val (.int p2), .val (.int p3), .val (.int p4), .val (.int p5), .val (.int (1 : Int32)), .val (.ref y6b), .val (.ref y7b), .val (.ref y8b), .val (.ref b9), .val (.ref b19), .unset, .unset, .unset, .unset] [(.ref b19)])) _
        refine st34.trans ?_
        show Steps p.tables e below (T34.setTop (mkF m 106 #[.val (.int p1), .val (.int p2), .val (.int p3), .val (.int p4), .val (.int p5), .val (.int (1 : Int32)), .val (.ref y6b), .val (.ref y7b), .val (.ref y8b), .val (.ref b9), .val (.ref b19), .unset, .unset, .unset, .unset] [(.ref wE)])) _
        refine XS.astore X34.here hx rfl (hb hby at_106) rfl rfl (l' := #[.val (.int p1), .val (.int p2), .val (.int p3), .val (.int p4), .val (.int p5), .val (.int (1 : Int32)), .val (.ref y6b), .val (.ref y7b), .val (.ref y8b), .val (.ref b9), .val (.ref b19), .val (.ref wE), .unset, .unset, .unset]) rfl ?_
        show Steps p.tables e below (T34.setTop (mkF m 108 #[.val (.int p1), .val (.int p2), .val (.int p3), .val (.int p4), .val (.int p5), .val (.int (1 : Int32)), .val (.ref y6b), .val (.ref y7b), .val (.ref y8b), .val (.ref b9), .val (.ref b19), .val (.ref wE), .unset, .unset, .unset] [])) _
        refine XS.iload X34.here hx rfl (hb hby at_108) rfl ?_
        show Steps p.tables e below (T34.setTop (mkF m 110 #[.val (.int p1), .val (.int p2), .val (.int p3), .val (.int p4), .val (.int p5), .val (.int (1 : Int32)), .val (.ref y6b), .val (.ref y7b), .val (.ref y8b), .val (.ref b9), .val (.ref b19), .val (.ref wE), .unset, .unset, .unset] [(.int (1 : Int32))])) _
        refine XS.iconst X34.here hx rfl (hb hby at_110) ?_
        show Steps p.tables e below (T34.setTop (mkF m 111 #[.val (.int p1), .val (.int p2), .val (.int p3), .val (.int p4), .val (.int p5), .val (.int (1 : Int32)), .val (.ref y6b), .val (.ref y7b), .val (.ref y8b), .val (.ref b9), .val (.ref b19), .val (.ref wE), .unset, .unset, .unset] [(.int (1 : Int32)), (.int (1 : Int32))])) _
        refine XS.isub X34.here hx rfl (hb hby at_111) rfl ?_
        show Steps p.tables e below (T34.setTop (mkF m 112 #[.val (.int p1), .val (.int p2), .val (.int p3), .val (.int p4), .val (.int p5), .val (.int (1 : Int32)), .val (.ref y6b), .val (.ref y7b), .val (.ref y8b), .val (.ref b9), .val (.ref b19), .val (.ref wE), .unset, .unset, .unset] [(.int (0 : Int32))])) _
        refine XS.istore X34.here hx rfl (hb hby at_112) rfl (l' := #[.val (.int p1), .val (.int p2), .val (.int p3), .val (.int p4), .val (.int p5), .val (.int (1 : Int32)), .val (.ref y6b), .val (.ref y7b), .val (.ref y8b), .val (.ref b9), .val (.ref b19), .val (.ref wE), .val (.int (0 : Int32)), .unset, .unset]) rfl ?_
        show Steps p.tables e below (T34.setTop (mkF m 114 #[.val (.int p1), .val (.int p2), .val (.int p3), .val (.int p4), .val (.int p5), .val (.int (1 : Int32)), .val (.ref y6b), .val (.ref y7b), .val (.ref y8b), .val (.ref b9), .val (.ref b19), .val (.ref wE), .val (.int (0 : Int32)), .unset, .unset] [])) _
        refine XS.iload X34.here hx rfl (hb hby at_114) rfl ?_
        show Steps p.tables e below (T34.setTop (mkF m 116 #[.val (.int p1), .val (.int p2), .val (.int p3), .val (.int p4), .val (.int p5), .val (.int (1 : Int32)), .val (.ref y6b), .val (.ref y7b), .val (.ref y8b), .val (.ref b9), .val (.ref b19), .val (.ref wE), .val (.int (0 : Int32)), .unset, .unset] [(.int (1 : Int32))])) _
        refine XS.iconst X34.here hx rfl (hb hby at_116) ?_
        show Steps p.tables e below (T34.setTop (mkF m 117 #[.val (.int p1), .val (.int p2), .val (.int p3), .val (.int p4), .val (.int p5), .val (.int (1 : Int32)), .val (.ref y6b), .val (.ref y7b), .val (.ref y8b), .val (.ref b9), .val (.ref b19), .val (.ref wE), .val (.int (0 : Int32)), .unset, .unset] [(.int (1 : Int32)), (.int (1 : Int32))])) _
        refine XS.icmpNo X34.here hx rfl (hb hby at_117) rfl (teq (by decide : (1 : Int32) = (1 : Int32))).2 ?_
        show Steps p.tables e below (T34.setTop (mkF m 120 #[.val (.int p1), .val (.int p2), .val (.int p3), .val (.int p4), .val (.int p5), .val (.int (1 : Int32)), .val (.ref y6b), .val (.ref y7b), .val (.ref y8b), .val (.ref b9), .val (.ref b19), .val (.ref wE), .val (.int (0 : Int32)), .unset, .unset] [])) _
        refine XS.iloadN X34.here hx rfl (hb hby at_120) rfl ?_
        show Steps p.tables e below (T34.setTop (mkF m 121 #[.val (.int p1), .val (.int p2), .val (.int p3), .val (.int p4), .val (.int p5), .val (.int (1 : Int32)), .val (.ref y6b), .val (.ref y7b), .val (.ref y8b), .val (.ref b9), .val (.ref b19), .val (.ref wE), .val (.int (0 : Int32)), .unset, .unset] [(.int p3)])) _
        refine XS.goto X34.here hx rfl (pc0 := 121) (pc' := 136) rfl (hb hby at_121) (by decide) (by decide) ?_
        show Steps p.tables e below (T34.setTop (mkF m 136 #[.val (.int p1), .val (.int p2), .val (.int p3), .val (.int p4), .val (.int p5), .val (.int (1 : Int32)), .val (.ref y6b), .val (.ref y7b), .val (.ref y8b), .val (.ref b9), .val (.ref b19), .val (.ref wE), .val (.int (0 : Int32)), .unset, .unset] [(.int p3)])) _
        refine XS.istore X34.here hx rfl (hb hby at_136) rfl (l' := #[.val (.int p1), .val (.int p2), .val (.int p3), .val (.int p4), .val (.int p5), .val (.int (1 : Int32)), .val (.ref y6b), .val (.ref y7b), .val (.ref y8b), .val (.ref b9), .val (.ref b19), .val (.ref wE), .val (.int (0 : Int32)), .val (.int p3), .unset]) rfl ?_
        show Steps p.tables e below (T34.setTop (mkF m 138 #[.val (.int p1), .val (.int p2), .val (.int p3), .val (.int p4), .val (.int p5), .val (.int (1 : Int32)), .val (.ref y6b), .val (.ref y7b), .val (.ref y8b), .val (.ref b9), .val (.ref b19), .val (.ref wE), .val (.int (0 : Int32)), .val (.int p3), .unset] [])) _
        refine XS.aconstNull X34.here hx rfl (hb hby at_138) ?_
        show Steps p.tables e below (T34.setTop (mkF m 139 #[.val (.int p1), .val (.int p2), .val (.int p3), .val (.int p4), .val (.int p5), .val (.int (1 : Int32)), .val (.ref y6b), .val (.ref y7b), .val (.ref y8b), .val (.ref b9), .val (.ref b19), .val (.ref wE), .val (.int (0 : Int32)), .val (.int p3), .unset] [.null])) _
        refine XS.astore X34.here hx rfl (hb hby at_139) rfl rfl (l' := #[.val (.int p1), .val (.int p2), .val (.int p3), .val (.int p4), .val (.int p5), .val (.int (1 : Int32)), .val (.ref y6b), .val (.ref y7b), .val (.ref y8b), .val (.ref b9), .val (.ref b19), .val (.ref wE), .val (.int (0 : Int32)), .val (.int p3), .val .null]) rfl ?_
        show Steps p.tables e below (T34.setTop (mkF m 141 #[.val (.int p1), .val (.int p2), .val (.int p3), .val (.int p4), .val (.int p5), .val (.int (1 : Int32)), .val (.ref y6b), .val (.ref y7b), .val (.ref y8b), .val (.ref b9), .val (.ref b19), .val (.ref wE), .val (.int (0 : Int32)), .val (.int p3), .val .null] [])) _
        refine XS.iloadN X34.here hx rfl (hb hby at_141) rfl ?_
        show Steps p.tables e below (T34.setTop (mkF m 142 #[.val (.int p1), .val (.int p2), .val (.int p3), .val (.int p4), .val (.int p5), .val (.int (1 : Int32)), .val (.ref y6b), .val (.ref y7b), .val (.ref y8b), .val (.ref b9), .val (.ref b19), .val (.ref wE), .val (.int (0 : Int32)), .val (.int p3), .val .null] [(.int p2)])) _
        refine XS.iload X34.here hx rfl (hb hby at_142) rfl ?_
        show Steps p.tables e below (T34.setTop (mkF m 144 #[.val (.int p1), .val (.int p2), .val (.int p3), .val (.int p4), .val (.int p5), .val (.int (1 : Int32)), .val (.ref y6b), .val (.ref y7b), .val (.ref y8b), .val (.ref b9), .val (.ref b19), .val (.ref wE), .val (.int (0 : Int32)), .val (.int p3), .val .null] [(.int (0 : Int32)), (.int p2)])) _
        refine XS.ishr X34.here hx rfl (hb hby at_144) rfl ?_
        show Steps p.tables e below (T34.setTop (mkF m 145 #[.val (.int p1), .val (.int p2), .val (.int p3), .val (.int p4), .val (.int p5), .val (.int (1 : Int32)), .val (.ref y6b), .val (.ref y7b), .val (.ref y8b), .val (.ref b9), .val (.ref b19), .val (.ref wE), .val (.int (0 : Int32)), .val (.int p3), .val .null] [(.int (p2 >>> ((0 : Int32) &&& 31)))])) _
        refine XS.iconst X34.here hx rfl (hb hby at_145) ?_
        show Steps p.tables e below (T34.setTop (mkF m 146 #[.val (.int p1), .val (.int p2), .val (.int p3), .val (.int p4), .val (.int p5), .val (.int (1 : Int32)), .val (.ref y6b), .val (.ref y7b), .val (.ref y8b), .val (.ref b9), .val (.ref b19), .val (.ref wE), .val (.int (0 : Int32)), .val (.int p3), .val .null] [(.int (1 : Int32)), (.int (p2 >>> ((0 : Int32) &&& 31)))])) _
        refine XS.iand X34.here hx rfl (hb hby at_146) rfl ?_
        show Steps p.tables e below (T34.setTop (mkF m 147 #[.val (.int p1), .val (.int p2), .val (.int p3), .val (.int p4), .val (.int p5), .val (.int (1 : Int32)), .val (.ref y6b), .val (.ref y7b), .val (.ref y8b), .val (.ref b9), .val (.ref b19), .val (.ref wE), .val (.int (0 : Int32)), .val (.int p3), .val .null] [(.int ((p2 >>> ((0 : Int32) &&& 31)) &&& (1 : Int32)))])) _
        refine XS.ifYes X34.here hx rfl (pc0 := 147) (pc' := 157) rfl (hb hby at_147) rfl ((if0 _ _).trans (teq hc5).1) (by decide) (by decide) ?_
        show Steps p.tables e below (T34.setTop (mkF m 157 #[.val (.int p1), .val (.int p2), .val (.int p3), .val (.int p4), .val (.int p5), .val (.int (1 : Int32)), .val (.ref y6b), .val (.ref y7b), .val (.ref y8b), .val (.ref b9), .val (.ref b19), .val (.ref wE), .val (.int (0 : Int32)), .val (.int p3), .val .null] [])) _
        refine XS.aload X34.here hx rfl (hb hby at_157) rfl rfl ?_
        show Steps p.tables e below (T34.setTop (mkF m 159 #[.val (.int p1), .val (.int p2), .val (.int p3), .val (.int p4), .val (.int p5), .val (.int (1 : Int32)), .val (.ref y6b), .val (.ref y7b), .val (.ref y8b), .val (.ref b9), .val (.ref b19), .val (.ref wE), .val (.int (0 : Int32)), .val (.int p3), .val .null] [(.ref wE)])) _
        refine XS.ifnullNo X34.here hx rfl (hb hby at_159) rfl ?_
        show Steps p.tables e below (T34.setTop (mkF m 162 #[.val (.int p1), .val (.int p2), .val (.int p3), .val (.int p4), .val (.int p5), .val (.int (1 : Int32)), .val (.ref y6b), .val (.ref y7b), .val (.ref y8b), .val (.ref b9), .val (.ref b19), .val (.ref wE), .val (.int (0 : Int32)), .val (.int p3), .val .null] [])) _
        refine XS.aload X34.here hx rfl (hb hby at_162) rfl rfl ?_
        show Steps p.tables e below (T34.setTop (mkF m 164 #[.val (.int p1), .val (.int p2), .val (.int p3), .val (.int p4), .val (.int p5), .val (.int (1 : Int32)), .val (.ref y6b), .val (.ref y7b), .val (.ref y8b), .val (.ref b9), .val (.ref b19), .val (.ref wE), .val (.int (0 : Int32)), .val (.int p3), .val .null] [(.ref wE)])) _
        refine XS.aconstNull X34.here hx rfl (hb hby at_164) ?_
        show Steps p.tables e below (T34.setTop (mkF m 165 #[.val (.int p1), .val (.int p2), .val (.int p3), .val (.int p4), .val (.int p5), .val (.int (1 : Int32)), .val (.ref y6b), .val (.ref y7b), .val (.ref y8b), .val (.ref b9), .val (.ref b19), .val (.ref wE), .val (.int (0 : Int32)), .val (.int p3), .val .null] [.null, (.ref wE)])) _
        refine st65.trans ?_
        show Steps p.tables e below (T65.setTop (mkF m 168 #[.val (.int p1), .val (.int p2), .val (.int p3), .val (.int p4), .val (.int p5), .val (.int (1 : Int32)), .val (.ref y6b), .val (.ref y7b), .val (.ref y8b), .val (.ref b9), .val (.ref b19), .val (.ref wE), .val (.int (0 : Int32)), .val (.int p3), .val .null] [.null])) _
        refine XS.aload X65.here hx rfl (hb hby at_168) rfl rfl ?_
        show Steps p.tables e below (T65.setTop (mkF m 170 #[.val (.int p1), .val (.int p2), .val (.int p3), .val (.int p4), .val (.int p5), .val (.int (1 : Int32)), .val (.ref y6b), .val (.ref y7b), .val (.ref y8b), .val (.ref b9), .val (.ref b19), .val (.ref wE), .val (.int (0 : Int32)), .val (.int p3), .val .null] [.null, .null])) _
        refine Jvm.RoadKit.acmp (g := (mkF m 170 #[.val (.int p1), .val (.int p2), .val (.int p3), .val (.int p4), .val (.int p5), .val (.int (1 : Int32)), .val (.ref y6b), .val (.ref y7b), .val (.ref y8b), .val (.ref b9), .val (.ref b19), .val (.ref wE), .val (.int (0 : Int32)), .val (.int p3), .val .null] [.null, .null])) X65 hx rfl rfl rfl (pc0 := 170) (pc' := 173) (same := true) rfl (hb hby at_170) rfl (decide_eq_true rfl) (by decide) (by decide) ?_
        show Steps p.tables e below (T65.setTop (mkF m 173 #[.val (.int p1), .val (.int p2), .val (.int p3), .val (.int p4), .val (.int p5), .val (.int (1 : Int32)), .val (.ref y6b), .val (.ref y7b), .val (.ref y8b), .val (.ref b9), .val (.ref b19), .val (.ref wE), .val (.int (0 : Int32)), .val (.int p3), .val .null] [])) _
        refine XS.iconst X65.here hx rfl (hb hby at_173) ?_
        show Steps p.tables e below (T65.setTop (mkF m 174 #[.val (.int p1), .val (.int p2), .val (.int p3), .val (.int p4), .val (.int p5), .val (.int (1 : Int32)), .val (.ref y6b), .val (.ref y7b), .val (.ref y8b), .val (.ref b9), .val (.ref b19), .val (.ref wE), .val (.int (0 : Int32)), .val (.int p3), .val .null] [(.int (1 : Int32))])) _
        refine XS.goto X65.here hx rfl (pc0 := 174) (pc' := 178) rfl (hb hby at_174) (by decide) (by decide) ?_
        exact k_
      obtain ⟨fs, hr, hrun, hended, hEW⟩ := X65.leaveW (s := s) hS24 (show k24 ≤ _ by rw [e65]; omega) (v := some (.int (1 : Int32))) (fun h => by rw [Bd.returns] at h; cases h)
      refine ⟨_, _, go66 _ ?_, hrun, hended, _, _, rfl, ?_, hEW.1, hEW.2.1, hEW.2.2.1, hEW.2.2.2.mono (by decide) (by decide)⟩
      · skip
        show Steps p.tables e below (T65.setTop (mkF m 178 #[.val (.int p1), .val (.int p2), .val (.int p3), .val (.int p4), .val (.int p5), .val (.int (1 : Int32)), .val (.ref y6b), .val (.ref y7b), .val (.ref y8b), .val (.ref b9), .val (.ref b19), .val (.ref wE), .val (.int (0 : Int32)), .val (.int p3), .val .null] [(.int (1 : Int32))])) _
        exact retN X65 hx (t := .boolean) Bd.returns (by simp) (hb hby at_178) hr
      · show Q_rm0 Z p1 p2 p3 p4 p5 W ed kd wE h0 n0 _ T65.heap _
        rw [e65]
        exact ⟨rfl, N65⟩
    · skip
      obtain ⟨_, _, ⟨T67, L67, k67, n67⟩, -, X67, ⟨Lc67, hQ67, l67, y67, z67⟩, st67⟩ := Jvm.LawKit.callS X0 hx (y := (⟨"com/example/maksu/maksu/catalog/PlanBillingPeriodPinLaw", "phase", "(III)Lcom/example/maksu/maksu/catalog/Phase;"⟩ : MethodName)) hown (mvT hZ hw_1) (mvT hZ hw_2) (mvT hZ hw_3) (mvT hZ hw_4) (by decide) (backOf (W := 0) (rmPh1 l Z a0 hw [] p2 (0 : Int32) p3 W h0 n0 Z0 BPs hc5 O0) hZ hw_4 hw_3 (by decide) (by decide)) (g := (mkF m 13 #[.val (.int p1), .val (.int p2), .val (.int p3), .val (.int p4), .val (.int p5), .val (.int (1 : Int32)), .unset, .unset, .unset, .unset, .unset, .unset, .unset, .unset, .unset] [(.int p3), (.int (0 : Int32)), (.int p2)])) rfl (by rw [hml]; rfl) (argsL := [(.int p2), (.int (0 : Int32)), (.int p3)]) (rest := []) (lenOf pd_15 rfl) rfl (by show 2 * 0 + _ ≤ _; exact Nat.le_of_eq rfl) (hb hby at_13) (fun _ _ => ⟨rfl, e0, (by decide : 0 + 3 ≤ _), (by decide : 0 + 22 ≤ _)⟩)
      dsimp only [Pt.U, Pt.locs, Pt.cells, Pt.slots] at X67 l67 y67 z67 st67 hQ67
      subst l67 y67 z67
      obtain ⟨y67b, y67r, rfl, N67q, Kc67, lo67, hi67, lr67, hr67_, Ec67, Fc67, Er67, Fb67⟩ := hQ67
      have N67 := Fr.app N0 N67q
      have sz67 : h0.size ≤ T67.heap.size := Kc67.1
      have Z67 : n0 ≤ T67.heap.size := Nat.le_trans Z0 sz67
      have O67 : Old Z n0 T67.heap := O0.keep Kc67 all0
      obtain ⟨_, _, ⟨T68, L68, k68, n68⟩, -, X68, ⟨Lc68, hQ68, l68, y68, z68⟩, st68⟩ := Jvm.LawKit.callS X67 hx (y := (⟨"com/example/maksu/maksu/catalog/PlanBillingPeriodPinLaw", "phase", "(III)Lcom/example/maksu/maksu/catalog/Phase;"⟩ : MethodName)) hown (mvT hZ hw_1) (mvT hZ hw_2) (mvT hZ hw_3) (mvT hZ hw_4) (by decide) (backOf (W := 0) (rmPhA l Z a0 hw [] p2 (1 : Int32) p4 W T67.heap n0 Z67 BPs O67) hZ hw_4 hw_3 (by decide) (by decide)) (g := (mkF m 21 #[.val (.int p1), .val (.int p2), .val (.int p3), .val (.int p4), .val (.int p5), .val (.int (1 : Int32)), .val (.ref y67b), .unset, .unset, .unset, .unset, .unset, .unset, .unset, .unset] [(.int p4), (.int (1 : Int32)), (.int p2)])) rfl (by rw [hml]; rfl) (argsL := [(.int p2), (.int (1 : Int32)), (.int p4)]) (rest := []) (lenOf pd_15 rfl) rfl (by show 2 * 0 + _ ≤ _; exact Nat.le_of_eq rfl) (hb hby at_21) (fun _ _ => ⟨rfl, rfl, (by decide : 3 + 3 ≤ _), (by decide : 22 + 22 ≤ _)⟩)
      dsimp only [Pt.U, Pt.locs, Pt.cells, Pt.slots] at X68 l68 y68 z68 st68 hQ68
      subst l68 y68 z68
      obtain ⟨y68b, rfl, N68q, Kc68, lo68, hi68, Ec68⟩ := hQ68
      have N68 := Fr.app N67 N68q
      have sz68 : T67.heap.size ≤ T68.heap.size := Kc68.1
      have Z68 : n0 ≤ T68.heap.size := Nat.le_trans Z67 sz68
      have O68 : Old Z n0 T68.heap := O67.keep Kc68 all0
      obtain ⟨_, _, ⟨T69, L69, k69, n69⟩, -, X69, ⟨Lc69, hQ69, l69, y69, z69⟩, st69⟩ := Jvm.LawKit.callS X68 hx (y := (⟨"com/example/maksu/maksu/catalog/PlanBillingPeriodPinLaw", "phase", "(III)Lcom/example/maksu/maksu/catalog/Phase;"⟩ : MethodName)) hown (mvT hZ hw_1) (mvT hZ hw_2) (mvT hZ hw_3) (mvT hZ hw_4) (by decide) (backOf (W := 0) (rmPhA l Z a0 hw [] p2 (2 : Int32) p5 W T68.heap n0 Z68 BPs O68) hZ hw_4 hw_3 (by decide) (by decide)) (g := (mkF m 30 #[.val (.int p1), .val (.int p2), .val (.int p3), .val (.int p4), .val (.int p5), .val (.int (1 : Int32)), .val (.ref y67b), .val (.ref y68b), .unset, .unset, .unset, .unset, .unset, .unset, .unset] [(.int p5), (.int (2 : Int32)), (.int p2)])) rfl (by rw [hml]; rfl) (argsL := [(.int p2), (.int (2 : Int32)), (.int p5)]) (rest := []) (lenOf pd_15 rfl) rfl (by show 2 * 0 + _ ≤ _; exact Nat.le_of_eq rfl) (hb hby at_30) (fun _ _ => ⟨rfl, rfl, (by decide : 6 + 3 ≤ _), (by decide : 44 + 22 ≤ _)⟩)
      dsimp only [Pt.U, Pt.locs, Pt.cells, Pt.slots] at X69 l69 y69 z69 st69 hQ69
      subst l69 y69 z69
      obtain ⟨y69b, rfl, N69q, Kc69, lo69, hi69, Ec69⟩ := hQ69
      have N69 := Fr.app N68 N69q
      have sz69 : T68.heap.size ≤ T69.heap.size := Kc69.1
      have Z69 : n0 ≤ T69.heap.size := Nat.le_trans Z68 sz69
      have O69 : Old Z n0 T69.heap := O68.keep Kc69 all0
      obtain ⟨T70, h70, X70, e70, E70, A70, D70, -, st70⟩ := newO X69 hx hZ hown hw_77 hw_78 hw_79 rfl (g := (mkF m 35 #[.val (.int p1), .val (.int p2), .val (.int p3), .val (.int p4), .val (.int p5), .val (.int (1 : Int32)), .val (.ref y67b), .val (.ref y68b), .val (.ref y69b), .unset, .unset, .unset, .unset, .unset, .unset] [])) rfl (hb hby at_35) (by decide) (by decide)
      obtain ⟨b70, g70⟩ : ∃ z, z = T69.heap.size := ⟨_, rfl⟩
      rw [← g70] at A70 D70 st70
      have lt70 : b70 < h70.size := A70.lt
      have sz70 : T69.heap.size ≤ h70.size := E70.1
      have Z70 : n0 ≤ h70.size := Nat.le_trans Z69 sz70
      have O70 : Old Z n0 h70 := O69.ext E70
      have F71 : Fld Z h70 b70 "java/util/AbstractList" "modCount" "I" (.int (0 : Int32)) := D70 (Or.inl hw_97) (ty := .int) (by decide)
      have F72 : Fld Z h70 b70 "java/util/ArrayList" "elementData" "[Ljava/lang/Object;" .null := D70 (Or.inl hw_100) (ty := (.array (.object "java/lang/Object"))) (by decide)
      have F73 : Fld Z h70 b70 "java/util/ArrayList" "size" "I" (.int (0 : Int32)) := D70 (Or.inl hw_113) (ty := .int) (by decide)
      obtain ⟨_, _, ⟨T74, L74, k74, n74⟩, -, X74, ⟨Lc74, hQ74, l74, y74, z74⟩, st74⟩ := X70.specialBack hx (y := (⟨"java/util/ArrayList", "<init>", "()V"⟩ : MethodName)) rfl hown (mvT hZ hw_80) (mvT hZ hw_81) (mvT hZ hw_82) (by decide) (backOf (W := 1) (rmALI l Z a0 hw [] b70 ed h70 n0 Z70 A70 F71 F73 F72 (by omega) S_D O70) hZ hw_82 hw_79 (by decide) (by decide)) (g := (mkF m 39 #[.val (.int p1), .val (.int p2), .val (.int p3), .val (.int p4), .val (.int p5), .val (.int (1 : Int32)), .val (.ref y67b), .val (.ref y68b), .val (.ref y69b), .unset, .unset, .unset, .unset, .unset, .unset] [(.ref b70), (.ref b70)])) rfl (by rw [hml]; rfl) (Steps.refl _) (a := b70) (argsL := []) (rest := [(.ref b70)]) (lenOf pd_0 rfl) rfl (by show 2 * 0 + _ ≤ _; exact Nat.le_of_eq rfl) (hb hby at_39) (fun _ _ => ⟨rfl, e70, (by decide : 10 + 0 ≤ _), (by decide : 69 + 0 ≤ _)⟩)
      dsimp only [Pt.U, Pt.locs, Pt.cells, Pt.slots] at X74 l74 y74 z74 st74 hQ74
      subst l74 y74 z74
      obtain ⟨rfl, N74q, Kc74, Ec74, Fm74, Fs74, Fe74⟩ := hQ74
      have N74 := Fr.app N69 N74q
      have sz74 : h70.size ≤ T74.heap.size := Kc74.1
      have Z74 : n0 ≤ T74.heap.size := Nat.le_trans Z70 sz74
      have O74 : Old Z n0 T74.heap := O70.keep Kc74 (allS (show n0 ≤ b70 by omega) all0)
      have f76 := (Ec67.keep Kc68)
      have f77 := (f76.keep Kc69)
      have f78 := (f77.ext E70)
      have f79 := (f78.keep Kc74)
      obtain ⟨cq75, kq75, q75a, q75b, q75c⟩ := isOf hZ rfl Ec74
      obtain ⟨_, _, ⟨T75, L75, k75, n75⟩, -, X75, ⟨Lc75, hQ75, l75, y75, z75⟩, st75⟩ := X74.interfaceBack hx (xi := (⟨"java/util/List", "add", "(Ljava/lang/Object;)Z"⟩ : MethodName)) (y := (⟨"java/util/ArrayList", "add", "(Ljava/lang/Object;)Z"⟩ : MethodName)) hown (mvT hZ hw_101) (mvT hZ hw_102) (mvT hZ hw_103) (mvT hZ hw_104) (mvT hZ hw_105) (mvT hZ hw_106) (mvT hZ hw_107) (mvT hZ hw_108) (by decide) (backOf (W := 0) (rmAd0 l Z a0 hw [] b70 y67b ed kd (0 : Int32) T74.heap n0 Z74 Ec74 Fm74 Fs74 Fe74 (by omega) (by omega) S_D V_D f79 (by omega) O74) hZ hw_109 hw_79 (by decide) (by decide)) q75a q75b q75c (g := (mkF m 48 #[.val (.int p1), .val (.int p2), .val (.int p3), .val (.int p4), .val (.int p5), .val (.int (1 : Int32)), .val (.ref y67b), .val (.ref y68b), .val (.ref y69b), .val (.ref b70), .unset, .unset, .unset, .unset, .unset] [(.ref y67b), (.ref b70)])) rfl (by rw [hml]; rfl) (Steps.refl _) (argsL := [(.ref y67b)]) (rest := []) (lenOf pd_16 rfl) rfl (by show 2 * 0 + _ ≤ _; exact Nat.le_of_eq rfl) (hb hby at_48) (fun _ _ => ⟨rfl, rfl, (by decide : 10 + 1 ≤ _), (by decide : 69 + 10 ≤ _)⟩)
      dsimp only [Pt.U, Pt.locs, Pt.cells, Pt.slots] at X75 l75 y75 z75 st75 hQ75
      subst l75 y75 z75
      obtain ⟨y75b, y75k, rfl, N75q, Kc75, lo75, hi75, Ec75, Fm75, Fs75, Fe75, Ov75, Vc75⟩ := hQ75
      have N75 := Fr.app N74 N75q
      have sz75 : T74.heap.size ≤ T75.heap.size := Kc75.1
      have Z75 : n0 ≤ T75.heap.size := Nat.le_trans Z74 sz75
      have O75 : Old Z n0 T75.heap := O74.keep Kc75 (allS (show n0 ≤ b70 by omega) all0)
      obtain ⟨T80, h80, X80, e80, E80, A80, D80, -, st80⟩ := newO X75 hx hZ hown hw_136 hw_137 hw_138 rfl (g := (mkF m 86 #[.val (.int p1), .val (.int p2), .val (.int p3), .val (.int p4), .val (.int p5), .val (.int (1 : Int32)), .val (.ref y67b), .val (.ref y68b), .val (.ref y69b), .val (.ref b70), .unset, .unset, .unset, .unset, .unset] [])) rfl (hb hby at_86) (by decide) (by decide)
      obtain ⟨b80, g80⟩ : ∃ z, z = T75.heap.size := ⟨_, rfl⟩
      rw [← g80] at A80 D80 st80
      have lt80 : b80 < h80.size := A80.lt
      have sz80 : T75.heap.size ≤ h80.size := E80.1
      have Z80 : n0 ≤ h80.size := Nat.le_trans Z75 sz80
      have O80 : Old Z n0 h80 := O75.ext E80
      have F81 : Fld Z h80 b80 "com/example/maksu/maksu/catalog/Plan" "name" "Ljava/lang/String;" .null := D80 (Or.inr hw_153) (ty := (.object "java/lang/String")) (by decide)
      have F82 : Fld Z h80 b80 "com/example/maksu/maksu/catalog/Plan" "product" "Ljava/lang/String;" .null := D80 (Or.inr hw_155) (ty := (.object "java/lang/String")) (by decide)
      have F83 : Fld Z h80 b80 "com/example/maksu/maksu/catalog/Plan" "phases" "Ljava/util/List;" .null := D80 (Or.inr hw_157) (ty := (.object "java/util/List")) (by decide)
      have wS : ∀ a ∈ Bundle.stringAtoms, a.before a0 Z = true := by
        intro a ha
        simp only [Bundle.stringAtoms, List.mem_cons, List.not_mem_nil, or_false] at ha
        rcases ha with rfl | rfl | rfl | rfl | rfl | rfl | rfl
        · exact hw_140
        · exact hw_141
        · exact hw_142
        · exact hw_143
        · exact hw_144
        · exact hw_145
        · exact hw_146
      have Xw : Stand p l e room_1 (s.setVm s.vm) m #[(.int p1), (.int p2), (.int p3), (.int p4), (.int p5)] below meth c T80 _ _ _ := X80
      obtain ⟨a84, T84, h84, k84, X84, e84, E84, hS84, hk84, hZ84, hown84, st84⟩ := ldcS (s := s) (vm0 := s.vm) Xw hx hZ hown hw_139 wS e80 ((State.WarmedH.refl s).since 0) (Nat.zero_le _) (g := (mkF m 90 #[.val (.int p1), .val (.int p2), .val (.int p3), .val (.int p4), .val (.int p5), .val (.int (1 : Int32)), .val (.ref y67b), .val (.ref y68b), .val (.ref y69b), .val (.ref b70), .unset, .unset, .unset, .unset, .unset] [(.ref b80), (.ref b80)])) rfl (hb hby at_90) (n := 32) (by decide) (by decide) (by decide) (by decide)
      have sz84 : h80.size ≤ h84.size := E84.1
      have Z84 : n0 ≤ h84.size := Nat.le_trans Z80 sz84
      have O84 : Old Z n0 h84 := O80.ext E84
      obtain ⟨a85, T85, h85, k85, X85, e85, E85, hS85, hk85, hZ85, hown85, st85⟩ := ldcS (s := s) (vm0 := T84.vm) X84 hx hZ84 hown84 hw_147 wS e84 hS84 (show k84 ≤ _ by omega) (g := (mkF m 92 #[.val (.int p1), .val (.int p2), .val (.int p3), .val (.int p4), .val (.int p5), .val (.int (1 : Int32)), .val (.ref y67b), .val (.ref y68b), .val (.ref y69b), .val (.ref b70), .unset, .unset, .unset, .unset, .unset] [(.ref a84), (.ref b80), (.ref b80)])) rfl (hb hby at_92) (n := 24) (by decide) (by decide) (by decide) (by decide)
      have sz85 : h84.size ≤ h85.size := E85.1
      have Z85 : n0 ≤ h85.size := Nat.le_trans Z84 sz85
      have O85 : Old Z n0 h85 := O84.ext E85
      have f87 := (A80.ext E84)
      have f88 := (f87.ext E85)
      have f89 := (F81.ext E84)
      have f90 := (f89.ext E85)
      have f91 := (F82.ext E84)
      have f92 := (f91.ext E85)
      have f93 := (F83.ext E84)
      have f94 := (f93.ext E85)
      obtain ⟨_, _, ⟨T86, L86, k86, n86⟩, -, X86, ⟨Lc86, hQ86, l86, y86, z86⟩, st86⟩ := X85.specialBack hx (y := (⟨"com/example/maksu/maksu/catalog/Plan", "<init>", "(Ljava/lang/String;Ljava/lang/String;Ljava/util/List;)V"⟩ : MethodName)) rfl hown85 (mvT hZ85 hw_148) (mvT hZ85 hw_149) (mvT hZ85 hw_150) (by decide) (backOf (W := 1) (rmPln l Z a0 hw [] b80 a84 a85 b70 h85 n0 Z85 f88 f90 f92 f94 (by omega)) hZ85 hw_150 hw_138 (by decide) (by decide)) (g := (mkF m 96 #[.val (.int p1), .val (.int p2), .val (.int p3), .val (.int p4), .val (.int p5), .val (.int (1 : Int32)), .val (.ref y67b), .val (.ref y68b), .val (.ref y69b), .val (.ref b70), .unset, .unset, .unset, .unset, .unset] [(.ref b70), (.ref a85), (.ref a84), (.ref b80), (.ref b80)])) rfl (by rw [hml]; rfl) (Steps.refl _) (a := b80) (argsL := [(.ref a84), (.ref a85), (.ref b70)]) (rest := [(.ref b80)]) (lenOf pd_17 rfl) rfl (by show 2 * 0 + _ ≤ _; exact Nat.le_of_eq rfl) (hb hby at_96) (fun _ _ => ⟨rfl, e85, (by decide : 16 + 0 ≤ _), (by decide : 146 + 0 ≤ _)⟩)
      dsimp only [Pt.U, Pt.locs, Pt.cells, Pt.slots] at X86 l86 y86 z86 st86 hQ86
      subst l86 y86 z86
      obtain ⟨rfl, N86q, Kc86, Ec86, Fc86⟩ := hQ86
      have N86 := Fr.app N75 N86q
      have sz86 : h85.size ≤ T86.heap.size := Kc86.1
      have Z86 : n0 ≤ T86.heap.size := Nat.le_trans Z85 sz86
      have O86 : Old Z n0 T86.heap := O85.keep Kc86 (allS (show n0 ≤ b80 by omega) all0)
      have f96 := (Ec75.ext E80)
      have f97 := (f96.ext E84)
      have f98 := (f97.ext E85)
      have f99 := (f98.keep Kc86)
      have f100 := (Fs75.ext E80)
      have f101 := (f100.ext E84)
      have f102 := (f101.ext E85)
      have f103 := (f102.keep Kc86 (ninS (show b70 ≠ b80 by omega) nin0))
      have f104 := (Fe75.ext E80)
      have f105 := (f104.ext E84)
      have f106 := (f105.ext E85)
      have f107 := (f106.keep Kc86 (ninS (show b70 ≠ b80 by omega) nin0))
      have f108 := (Vc75.ext E80)
      have f109 := (f108.ext E84)
      have f110 := (f109.ext E85)
      have f111 := (f110.keep Kc86 (ninS (show y75b ≠ b80 by omega) nin0))
      have f112 := (f79.keep Kc75)
      have f113 := (f112.ext E80)
      have f114 := (f113.ext E84)
      have f115 := (f114.ext E85)
      have f116 := (f115.keep Kc86)
      have f117 := (Fc67.keep Kc68 nin0)
      have f118 := (f117.keep Kc69 nin0)
      have f119 := (f118.ext E70)
      have f120 := (f119.keep Kc74 (ninS (show y67b ≠ b70 by omega) nin0))
      have f121 := (f120.keep Kc75 (ninS (show y67b ≠ b70 by omega) nin0))
      have f122 := (f121.ext E80)
      have f123 := (f122.ext E84)
      have f124 := (f123.ext E85)
      have f125 := (f124.keep Kc86 (ninS (show y67b ≠ b80 by omega) nin0))
      have f126 := (Er67.keep Kc68)
      have f127 := (f126.keep Kc69)
      have f128 := (f127.ext E70)
      have f129 := (f128.keep Kc74)
      have f130 := (f129.keep Kc75)
      have f131 := (f130.ext E80)
      have f132 := (f131.ext E84)
      have f133 := (f132.ext E85)
      have f134 := (f133.keep Kc86)
      have f135 := (Fb67.keep Kc68 nin0)
      have f136 := (f135.keep Kc69 nin0)
      have f137 := (f136.ext E70)
      have f138 := (f137.keep Kc74 (ninS (show y67r ≠ b70 by omega) nin0))
      have f139 := (f138.keep Kc75 (ninS (show y67r ≠ b70 by omega) nin0))
      have f140 := (f139.ext E80)
      have f141 := (f140.ext E84)
      have f142 := (f141.ext E85)
      have f143 := (f142.keep Kc86 (ninS (show y67r ≠ b80 by omega) nin0))
      obtain ⟨cq95, kq95, q95a, q95b, q95c⟩ := isOf hZ85 rfl Ec86
      obtain ⟨_, _, ⟨T95, L95, k95, n95⟩, -, X95, ⟨Lc95, hQ95, l95, y95, z95⟩, st95⟩ := X86.virtualBack hx (y := (⟨"com/example/maksu/maksu/catalog/Plan", "billingPeriod", "()Ljava/util/Optional;"⟩ : MethodName)) (z := (⟨"com/example/maksu/maksu/catalog/Plan", "billingPeriod", "()Ljava/util/Optional;"⟩ : MethodName)) hown85 (mvT hZ85 hw_158) (mvT hZ85 hw_159) (notFace_of_selects (args := #[]) (mvT hZ85 hw_161)) (mvT hZ85 hw_161) (mvT hZ85 hw_160) (by decide) (backOf (W := 0) (rmBP1 l Z a0 hw [] b80 b70 (1 : Int32) y75b y75k [(.ref y67b), .null, .null, .null, .null, .null, .null, .null, .null, .null] y67b y67r (own_pk W p3) T86.heap n0 Z86 Fc86 f99 f103 f107 f111 ⟨by decide, by decide⟩ rfl (by decide) (by decide) f116 f125 f134 f143) hZ85 hw_162 hw_138 (by decide) (by decide)) q95a q95c (g := (mkF m 103 #[.val (.int p1), .val (.int p2), .val (.int p3), .val (.int p4), .val (.int p5), .val (.int (1 : Int32)), .val (.ref y67b), .val (.ref y68b), .val (.ref y69b), .val (.ref b70), .val (.ref b80), .unset, .unset, .unset, .unset] [(.ref b80)])) rfl (by rw [hml]; rfl) (Steps.refl _) (argsL := []) (rest := []) (lenOf pd_18 rfl) rfl (by show 2 * 0 + _ ≤ _; exact Nat.le_of_eq rfl) (hb hby at_103) (fun _ _ => ⟨rfl, rfl, (by decide : 16 + 1 ≤ _), (by decide : 146 + 1 ≤ _)⟩)
      dsimp only [Pt.U, Pt.locs, Pt.cells, Pt.slots] at X95 l95 y95 z95 st95 hQ95
      subst l95 y95 z95
      obtain ⟨y95b, rfl, N95q, Kc95, lo95, hi95, Ec95, Fc95⟩ := hQ95
      have N95 := Fr.app N86 N95q
      have sz95 : T86.heap.size ≤ T95.heap.size := Kc95.1
      have Z95 : n0 ≤ T95.heap.size := Nat.le_trans Z86 sz95
      have O95 : Old Z n0 T95.heap := O86.keep Kc95 all0
      obtain ⟨_, _, ⟨T144, L144, k144, n144⟩, -, X144, ⟨Lc144, hQ144, l144, y144, z144⟩, st144⟩ := Jvm.LawKit.callS X95 hx (y := (⟨"com/example/maksu/maksu/catalog/PlanBillingPeriodPinLaw", "pick", "(I)Lcom/example/maksu/maksu/catalog/BillingPeriod;"⟩ : MethodName)) hown85 (mvT hZ85 hw_8) (mvT hZ85 hw_9) (mvT hZ85 hw_3) (mvT hZ85 hw_10) (by decide) (backOf (W := 0) (rmPick l Z a0 hw [] p3 W T95.heap n0 Z95 BPs O95) hZ85 hw_10 hw_3 (by decide) (by decide)) (g := (mkF m 152 #[.val (.int p1), .val (.int p2), .val (.int p3), .val (.int p4), .val (.int p5), .val (.int (1 : Int32)), .val (.ref y67b), .val (.ref y68b), .val (.ref y69b), .val (.ref b70), .val (.ref b80), .val (.ref y95b), .val (.int (0 : Int32)), .val (.int p3), .val .null] [(.int p3)])) rfl (by rw [hml]; rfl) (argsL := [(.int p3)]) (rest := []) (lenOf pd_2 rfl) rfl (by show 2 * 0 + _ ≤ _; exact Nat.le_of_eq rfl) (hb hby at_152) (fun _ _ => ⟨rfl, rfl, (by decide : 17 + 1 ≤ _), (by decide : 147 + 16 ≤ _)⟩)
      dsimp only [Pt.U, Pt.locs, Pt.cells, Pt.slots] at X144 l144 y144 z144 st144 hQ144
      subst l144 y144 z144
      obtain ⟨rfl, N144q, Kc144⟩ := hQ144
      have N144 := Fr.app N95 N144q
      have sz144 : T95.heap.size ≤ T144.heap.size := Kc144.1
      have Z144 : n0 ≤ T144.heap.size := Nat.le_trans Z95 sz144
      have O144 : Old Z n0 T144.heap := O95.keep Kc144 all0
      have f146 := (Fc95.keep Kc144 nin0)
      have f147 := (Ec95.keep Kc144)
      obtain ⟨cq145, kq145, q145a, q145b, q145c⟩ := isOf hZ85 rfl f147
      obtain ⟨_, _, ⟨T145, L145, k145, n145⟩, -, X145, ⟨Lc145, hQ145, l145, y145, z145⟩, st145⟩ := X144.virtualBack hx (y := (⟨"java/util/Optional", "orElse", "(Ljava/lang/Object;)Ljava/lang/Object;"⟩ : MethodName)) (z := (⟨"java/util/Optional", "orElse", "(Ljava/lang/Object;)Ljava/lang/Object;"⟩ : MethodName)) hown85 (mvT hZ85 hw_217) (mvT hZ85 hw_218) (notFace_of_selects (args := #[]) (mvT hZ85 hw_220)) (mvT hZ85 hw_220) (mvT hZ85 hw_219) (by decide) (backOf (W := 0) (rmOr1 l Z a0 hw [] y95b (own_pk W p3) T144.heap n0 Z144 f146) hZ85 hw_221 hw_206 (by decide) (by decide)) q145a q145c (g := (mkF m 165 #[.val (.int p1), .val (.int p2), .val (.int p3), .val (.int p4), .val (.int p5), .val (.int (1 : Int32)), .val (.ref y67b), .val (.ref y68b), .val (.ref y69b), .val (.ref b70), .val (.ref b80), .val (.ref y95b), .val (.int (0 : Int32)), .val (.int p3), .val (.ref (own_pk W p3))] [.null, (.ref y95b)])) rfl (by rw [hml]; rfl) (Steps.refl _) (argsL := [.null]) (rest := []) (lenOf pd_19 rfl) rfl (by show 2 * 0 + _ ≤ _; exact Nat.le_of_eq rfl) (hb hby at_165) (fun _ _ => ⟨rfl, rfl, (by decide : 18 + 0 ≤ _), (by decide : 163 + 0 ≤ _)⟩)
      dsimp only [Pt.U, Pt.locs, Pt.cells, Pt.slots] at X145 l145 y145 z145 st145 hQ145
      subst l145 y145 z145
      obtain ⟨rfl, N145q, e145⟩ := hQ145
      have N145 := Fr.app N144 N145q
      have go148 : ∀ t_, Steps p.tables e below (T145.setTop (mkF m 178 #[.val (.int p1), .val (.int p2), .val (.int p3), .val (.int p4), .val (.int p5), .val (.int (1 : Int32)), .val (.ref y67b), .val (.ref y68b), .val (.ref y69b), .val (.ref b70), .val (.ref b80), .val (.ref y95b), .val (.int (0 : Int32)), .val (.int p3), .val (.ref (own_pk W p3))] [(.int (1 : Int32))])) t_ → Steps p.tables e below (s₁.setTop (entryFrame m #[(.int p1), (.int p2), (.int p3), (.int p4), (.int p5)] maxLocals)) t_ := by
        intro t_ k_
        refine go4 t_ ?_
        show Steps p.tables e below (s₁.setTop (mkF m 13 #[.val (.int p1), .val (.int p2), .val (.int p3), .val (.int p4), .val (.int p5), .val (.int (1 : Int32)), .unset, .unset, .unset, .unset, .unset, .unset, .unset, .unset, .unset] [(.int p3), (.int (0 : Int32)), (.int p2)])) _
        refine st67 _ ?_
        show Steps p.tables e below (T67.setTop (mkF m 16 #[.val (.int p1), .val (.int p2), .val (.int p3), .val (.int p4), .val (.int p5), .val (.int (1 : Int32)), .unset, .unset, .unset, .unset, .unset, .unset, .unset, .unset, .unset] [(.ref y67b)])) _
        refine XS.astore X67.here hx rfl (hb hby at_16) rfl rfl (l' := #[.val (.int p1), .val (.int p2), .val (.int p3), .val (.int p4), .val (.int p5), .val (.int (1 : Int32)), .val (.ref y67b), .unset, .unset, .unset, .unset, .unset, .unset, .unset, .unset]) rfl ?_
        show Steps p.tables e below (T67.setTop (mkF m 18 #[.val (.int p1), .val (.int p2), .val (.int p3), .val (.int p4), .val (.int p5), .val (.int (1 : Int32)), .val (.ref y67b), .unset, .unset, .unset, .unset, .unset, .unset, .unset, .unset] [])) _
        refine XS.iloadN X67.here hx rfl (hb hby at_18) rfl ?_
        show Steps p.tables e below (T67.setTop (mkF m 19 #[.val (.int p1), .val (.int p2), .val (.int p3), .val (.int p4), .val (.int p5), .val (.int (1 : Int32)), .val (.ref y67b), .unset, .unset, .unset, .unset, .unset, .unset, .unset, .unset] [(.int p2)])) _
        refine XS.iconst X67.here hx rfl (hb hby at_19) ?_
        show Steps p.tables e below (T67.setTop (mkF m 20 #[.val (.int p1), .val (.int p2), .val (.int p3), .val (.int p4), .val (.int p5), .val (.int (1 : Int32)), .val (.ref y67b), .unset, .unset, .unset, .unset, .unset, .unset, .unset, .unset] [(.int (1 : Int32)), (.int p2)])) _
        refine XS.iloadN X67.here hx rfl (hb hby at_20) rfl ?_
        show Steps p.tables e below (T67.setTop (mkF m 21 #[.val (.int p1), .val (.int p2), .val (.int p3), .val (.int p4), .val (.int p5), .val (.int (1 : Int32)), .val (.ref y67b), .unset, .unset, .unset, .unset, .unset, .unset, .unset, .unset] [(.int p4), (.int (1 : Int32)), (.int p2)])) _
        refine st68 _ ?_
        show Steps p.tables e below (T68.setTop (mkF m 24 #[.val (.int p1), .val (.int p2), .val (.int p3), .val (.int p4), .val (.int p5), .val (.int (1 : Int32)), .val (.ref y67b), .unset, .unset, .unset, .unset, .unset, .unset, .unset, .unset] [(.ref y68b)])) _
        refine XS.astore X68.here hx rfl (hb hby at_24) rfl rfl (l' := #[.val (.int p1), .val (.int p2), .val (.int p3), .val (.int p4), .val (.int p5), .val (.int (1 : Int32)), .val (.ref y67b), .val (.ref y68b), .unset, .unset, .unset, .unset, .unset, .unset, .unset]) rfl ?_
        show Steps p.tables e below (T68.setTop (mkF m 26 #[.val (.int p1), .val (.int p2), .val (.int p3), .val (.int p4), .val (.int p5), .val (.int (1 : Int32)), .val (.ref y67b), .val (.ref y68b), .unset, .unset, .unset, .unset, .unset, .unset, .unset] [])) _
        refine XS.iloadN X68.here hx rfl (hb hby at_26) rfl ?_
        show Steps p.tables e below (T68.setTop (mkF m 27 #[.val (.int p1), .val (.int p2), .val (.int p3), .val (.int p4), .val (.int p5), .val (.int (1 : Int32)), .val (.ref y67b), .val (.ref y68b), .unset, .unset, .unset, .unset, .unset, .unset, .unset] [(.int p2)])) _
        refine XS.iconst X68.here hx rfl (hb hby at_27) ?_
        show Steps p.tables e below (T68.setTop (mkF m 28 #[.val (.int p1), .val (.int p2), .val (.int p3), .val (.int p4), .val (.int p5), .val (.int (1 : Int32)), .val (.ref y67b), .val (.ref y68b), .unset, .unset, .unset, .unset, .unset, .unset, .unset] [(.int (2 : Int32)), (.int p2)])) _
        refine XS.iload X68.here hx rfl (hb hby at_28) rfl ?_
        show Steps p.tables e below (T68.setTop (mkF m 30 #[.val (.int p1), .val (.int p2), .val (.int p3), .val (.int p4), .val (.int p5), .val (.int (1 : Int32)), .val (.ref y67b), .val (.ref y68b), .unset, .unset, .unset, .unset, .unset, .unset, .unset] [(.int p5), (.int (2 : Int32)), (.int p2)])) _
        refine st69 _ ?_
        show Steps p.tables e below (T69.setTop (mkF m 33 #[.val (.int p1), .val (.int p2), .val (.int p3), .val (.int p4), .val (.int p5), .val (.int (1 : Int32)), .val (.ref y67b), .val (.ref y68b), .unset, .unset, .unset, .unset, .unset, .unset, .unset] [(.ref y69b)])) _
        refine XS.astore X69.here hx rfl (hb hby at_33) rfl rfl (l' := #[.val (.int p1), .val (.int p2), .val (.int p3), .val (.int p4), .val (.int p5), .val (.int (1 : Int32)), .val (.ref y67b), .val (.ref y68b), .val (.ref y69b), .unset, .unset, .unset, .unset, .unset, .unset]) rfl ?_
        show Steps p.tables e below (T69.setTop (mkF m 35 #[.val (.int p1), .val (.int p2), .val (.int p3), .val (.int p4), .val (.int p5), .val (.int (1 : Int32)), .val (.ref y67b), .val (.ref y68b), .val (.ref y69b), .unset, .unset, .unset, .unset, .unset, .unset] [])) _
        refine st70 _ ?_
        show Steps p.tables e below (T70.setTop (mkF m 38 #[.val (.int p1), .val (.int p2), .val (.int p3), .val (.int p4), .val (.int p5), .val (.int (1 : Int32)), .val (.ref y67b), .val (.ref y68b), .val (.ref y69b), .unset, .unset, .unset, .unset, .unset, .unset] [(.ref b70)])) _
        refine XS.dup X70.here hx rfl (hb hby at_38) rfl rfl ?_
        show Steps p.tables e below (T70.setTop (mkF m 39 #[.val (.int p1), .val (.int p2), .val (.int p3), .val (.int p4), .val (.int p5), .val (.int (1 : Int32)), .val (.ref y67b), .val (.ref y68b), .val (.ref y69b), .unset, .unset, .unset, .unset, .unset, .unset] [(.ref b70), (.ref b70)])) _
        refine st74.trans ?_
        show Steps p.tables e below (T74.setTop (mkF m 42 #[.val (.int p1), .val (.int p2), .val (.int p3), .val (.int p4), .val (.int p5), .val (.int (1 : Int32)), .val (.ref y67b), .val (.ref y68b), .val (.ref y69b), .unset, .unset, .unset, .unset, .unset, .unset] [(.ref b70)])) _
        refine XS.astore X74.here hx rfl (hb hby at_42) rfl rfl (l' := #[.val (.int p1), .val (.int p2), .val (.int p3), .val (.int p4), .val (.int p5), .val (.int (1 : Int32)), .val (.ref y67b), .val (.ref y68b), .val (.ref y69b), .val (.ref b70), .unset, .unset, .unset, .unset, .unset]) rfl ?_
        show Steps p.tables e below (T74.setTop (mkF m 44 #[.val (.int p1), .val (.int p2), .val (.int p3), .val (.int p4), .val (.int p5), .val (.int (1 : Int32)), .val (.ref y67b), .val (.ref y68b), .val (.ref y69b), .val (.ref b70), .unset, .unset, .unset, .unset, .unset] [])) _
        refine XS.aload X74.here hx rfl (hb hby at_44) rfl rfl ?_
        show Steps p.tables e below (T74.setTop (mkF m 46 #[.val (.int p1), .val (.int p2), .val (.int p3), .val (.int p4), .val (.int p5), .val (.int (1 : Int32)), .val (.ref y67b), .val (.ref y68b), .val (.ref y69b), .val (.ref b70), .unset, .unset, .unset, .unset, .unset] [(.ref b70)])) _
        refine XS.aload X74.here hx rfl (hb hby at_46) rfl rfl ?_
        show Steps p.tables e below (T74.setTop (mkF m 48 #[.val (.int p1), .val (.int p2), .val (.int p3), .val (.int p4), .val (.int p5), .val (.int (1 : Int32)), .val (.ref y67b), .val (.ref y68b), .val (.ref y69b), .val (.ref b70), .unset, .unset, .unset, .unset, .unset] [(.ref y67b), (.ref b70)])) _
        refine st75.trans ?_
        show Steps p.tables e below (T75.setTop (mkF m 53 #[.val (.int p1), .val (.int p2), .val (.int p3), .val (.int p4), .val (.int p5), .val (.int (1 : Int32)), .val (.ref y67b), .val (.ref y68b), .val (.ref y69b), .val (.ref b70), .unset, .unset, .unset, .unset, .unset] [(.int (1 : Int32))])) _
        refine XS.pop X75.here hx rfl (hb hby at_53) rfl rfl ?_
        show Steps p.tables e below (T75.setTop (mkF m 54 #[.val (.int p1), .val (.int p2), .val (.int p3), .val (.int p4), .val (.int p5), .val (.int (1 : Int32)), .val (.ref y67b), .val (.ref y68b), .val (.ref y69b), .val (.ref b70), .unset, .unset, .unset, .unset, .unset] [])) _
        refine XS.iload X75.here hx rfl (hb hby at_54) rfl ?_
        show Steps p.tables e below (T75.setTop (mkF m 56 #[.val (.int p1), .val (.int p2), .val (.int p3), .val (.int p4), .val (.int p5), .val (.int (1 : Int32)), .val (.ref y67b), .val (.ref y68b), .val (.ref y69b), .val (.ref b70), .unset, .unset, .unset, .unset, .unset] [(.int (1 : Int32))])) _
        refine XS.iconst X75.here hx rfl (hb hby at_56) ?_
        show Steps p.tables e below (T75.setTop (mkF m 57 #[.val (.int p1), .val (.int p2), .val (.int p3), .val (.int p4), .val (.int p5), .val (.int (1 : Int32)), .val (.ref y67b), .val (.ref y68b), .val (.ref y69b), .val (.ref b70), .unset, .unset, .unset, .unset, .unset] [(.int (2 : Int32)), (.int (1 : Int32))])) _
        refine XS.icmpYes X75.here hx rfl (pc0 := 57) (pc' := 70) rfl (hb hby at_57) rfl (tlt (by decide : (1 : Int32) < (2 : Int32))).1 (by decide) (by decide) ?_
        show Steps p.tables e below (T75.setTop (mkF m 70 #[.val (.int p1), .val (.int p2), .val (.int p3), .val (.int p4), .val (.int p5), .val (.int (1 : Int32)), .val (.ref y67b), .val (.ref y68b), .val (.ref y69b), .val (.ref b70), .unset, .unset, .unset, .unset, .unset] [])) _
        refine XS.iload X75.here hx rfl (hb hby at_70) rfl ?_
        show Steps p.tables e below (T75.setTop (mkF m 72 #[.val (.int p1), .val (.int p2), .val (.int p3), .val (.int p4), .val (.int p5), .val (.int (1 : Int32)), .val (.ref y67b), .val (.ref y68b), .val (.ref y69b), .val (.ref b70), .unset, .unset, .unset, .unset, .unset] [(.int (1 : Int32))])) _
        refine XS.iconst X75.here hx rfl (hb hby at_72) ?_
        show Steps p.tables e below (T75.setTop (mkF m 73 #[.val (.int p1), .val (.int p2), .val (.int p3), .val (.int p4), .val (.int p5), .val (.int (1 : Int32)), .val (.ref y67b), .val (.ref y68b), .val (.ref y69b), .val (.ref b70), .unset, .unset, .unset, .unset, .unset] [(.int (3 : Int32)), (.int (1 : Int32))])) _
        refine XS.icmpYes X75.here hx rfl (pc0 := 73) (pc' := 86) rfl (hb hby at_73) rfl (tlt (by decide : (1 : Int32) < (3 : Int32))).1 (by decide) (by decide) ?_
        show Steps p.tables e below (T75.setTop (mkF m 86 #[.val (.int p1), .val (.int p2), .val (.int p3), .val (.int p4), .val (.int p5), .val (.int (1 : Int32)), .val (.ref y67b), .val (.ref y68b), .val (.ref y69b), .val (.ref b70), .unset, .unset, .unset, .unset, .unset] [])) _
        refine st80 _ ?_
        show Steps p.tables e below (T80.setTop (mkF m 89 #[.val (.int p1), .val (.int p2), .val (.int p3), .val (.int p4), .val (.int p5), .val (.int (1 : Int32)), .val (.ref y67b), .val (.ref y68b), .val (.ref y69b), .val (.ref b70), .unset, .unset, .unset, .unset, .unset] [(.ref b80)])) _
        refine XS.dup X80.here hx rfl (hb hby at_89) rfl rfl ?_
        show Steps p.tables e below (T80.setTop (mkF m 90 #[.val (.int p1), .val (.int p2), .val (.int p3), .val (.int p4), .val (.int p5), .val (.int (1 : Int32)), .val (.ref y67b), .val (.ref y68b), .val (.ref y69b), .val (.ref b70), .unset, .unset, .unset, .unset, .unset] [(.ref b80), (.ref b80)])) _
        refine st84 _ ?_
        show Steps p.tables e below (T84.setTop (mkF m 92 #[.val (.int p1), .val (.int p2), .val (.int p3), .val (.int p4), .val (.int p5), .val (.int (1 : Int32)), .val (.ref y67b), .val (.ref y68b), .val (.ref y69b), .val (.ref b70), .unset, .unset, .unset, .unset, .unset] [(.ref a84), (.ref b80), (.ref b80)])) _
        refine st85 _ ?_
        show Steps p.tables e below (T85.setTop (mkF m 94 #[.val (.int p1), .val (.int p2), .val (.int p3), .val (.int p4), .val (.int p5), .val (.int (1 : Int32)), .val (.ref y67b), .val (.ref y68b), .val (.ref y69b), .val (.ref b70), .unset, .unset, .unset, .unset, .unset] [(.ref a85), (.ref a84), (.ref b80), (.ref b80)])) _
        refine XS.aload X85.here hx rfl (hb hby at_94) rfl rfl ?_
        show Steps p.tables e below (T85.setTop (mkF m 96 #[.val (.int p1), .val (.int p2), .val (.int p3), .val (.int p4), .val (.int p5), .val (.int (1 : Int32)), .val (.ref y67b), .val (.ref y68b), .val (.ref y69b), .val (.ref b70), .unset, .unset, .unset, .unset, .unset] [(.ref b70), (.ref a85), (.ref a84), (.ref b80), (.ref b80)])) _
        refine st86.trans ?_
        show Steps p.tables e below (T86.setTop (mkF m 99 #[.val (.int p1), .val (.int p2), .val (.int p3), .val (.int p4), .val (.int p5), .val (.int (1 : Int32)), .val (.ref y67b), .val (.ref y68b), .val (.ref y69b), .val (.ref b70), .unset, .unset, .unset, .unset, .unset] [(.ref b80)])) _
        refine XS.astore X86.here hx rfl (hb hby at_99) rfl rfl (l' := #[.val (.int p1), .val (.int p2), .val (.int p3), .val (.int p4), .val (.int p5), .val (.int (1 : Int32)), .val (.ref y67b), .val (.ref y68b), .val (.ref y69b), .val (.ref b70), .val (.ref b80), .unset, .unset, .unset, .unset]) rfl ?_
        show Steps p.tables e below (T86.setTop (mkF m 101 #[.val (.int p1), .val (.int p2), .val (.int p3), .val (.int p4), .val (.int p5), .val (.int (1 : Int32)), .val (.ref y67b), .val (.ref y68b), .val (.ref y69b), .val (.ref b70), .val (.ref b80), .unset, .unset, .unset, .unset] [])) _
        refine XS.aload X86.here hx rfl (hb hby at_101) rfl rfl ?_
        show Steps p.tables e below (T86.setTop (mkF m 103 #[.val (.int p1), .val (.int p2), .val (.int p3), .val (.int p4), .val (.int p5), .val (.int (1 : Int32)), .val (.ref y67b), .val (.ref y68b), .val (.ref y69b), .val (.ref b70), .val (.ref b80), .unset, .unset, .unset, .unset] [(.ref b80)])) _
        refine st95.trans ?_
        show Steps p.tables e below (T95.setTop (mkF m 106 #[.val (.int p1), .val (.int p2), .val (.int p3), .val (.int p4), .val (.int p5), .val (.int (1 : Int32)), .val (.ref y67b), .val (.ref y68b), .val (.ref y69b), .val (.ref b70), .val (.ref b80), .unset, .unset, .unset, .unset] [(.ref y95b)])) _
        refine XS.astore X95.here hx rfl (hb hby at_106) rfl rfl (l' := #[.val (.int p1), .val (.int p2), .val (.int p3), .val (.int p4), .val (.int p5), .val (.int (1 : Int32)), .val (.ref y67b), .val (.ref y68b), .val (.ref y69b), .val (.ref b70), .val (.ref b80), .val (.ref y95b), .unset, .unset, .unset]) rfl ?_
        show Steps p.tables e below (T95.setTop (mkF m 108 #[.val (.int p1), .val (.int p2), .val (.int p3), .val (.int p4), .val (.int p5), .val (.int (1 : Int32)), .val (.ref y67b), .val (.ref y68b), .val (.ref y69b), .val (.ref b70), .val (.ref b80), .val (.ref y95b), .unset, .unset, .unset] [])) _
        refine XS.iload X95.here hx rfl (hb hby at_108) rfl ?_
        show Steps p.tables e below (T95.setTop (mkF m 110 #[.val (.int p1), .val (.int p2), .val (.int p3), .val (.int p4), .val (.int p5), .val (.int (1 : Int32)), .val (.ref y67b), .val (.ref y68b), .val (.ref y69b), .val (.ref b70), .val (.ref b80), .val (.ref y95b), .unset, .unset, .unset] [(.int (1 : Int32))])) _
        refine XS.iconst X95.here hx rfl (hb hby at_110) ?_
        show Steps p.tables e below (T95.setTop (mkF m 111 #[.val (.int p1), .val (.int p2), .val (.int p3), .val (.int p4), .val (.int p5), .val (.int (1 : Int32)), .val (.ref y67b), .val (.ref y68b), .val (.ref y69b), .val (.ref b70), .val (.ref b80), .val (.ref y95b), .unset, .unset, .unset] [(.int (1 : Int32)), (.int (1 : Int32))])) _
        refine XS.isub X95.here hx rfl (hb hby at_111) rfl ?_
        show Steps p.tables e below (T95.setTop (mkF m 112 #[.val (.int p1), .val (.int p2), .val (.int p3), .val (.int p4), .val (.int p5), .val (.int (1 : Int32)), .val (.ref y67b), .val (.ref y68b), .val (.ref y69b), .val (.ref b70), .val (.ref b80), .val (.ref y95b), .unset, .unset, .unset] [(.int (0 : Int32))])) _
        refine XS.istore X95.here hx rfl (hb hby at_112) rfl (l' := #[.val (.int p1), .val (.int p2), .val (.int p3), .val (.int p4), .val (.int p5), .val (.int (1 : Int32)), .val (.ref y67b), .val (.ref y68b), .val (.ref y69b), .val (.ref b70), .val (.ref b80), .val (.ref y95b), .val (.int (0 : Int32)), .unset, .unset]) rfl ?_
        show Steps p.tables e below (T95.setTop (mkF m 114 #[.val (.int p1), .val (.int p2), .val (.int p3), .val (.int p4), .val (.int p5), .val (.int (1 : Int32)), .val (.ref y67b), .val (.ref y68b), .val (.ref y69b), .val (.ref b70), .val (.ref b80), .val (.ref y95b), .val (.int (0 : Int32)), .unset, .unset] [])) _
        refine XS.iload X95.here hx rfl (hb hby at_114) rfl ?_
        show Steps p.tables e below (T95.setTop (mkF m 116 #[.val (.int p1), .val (.int p2), .val (.int p3), .val (.int p4), .val (.int p5), .val (.int (1 : Int32)), .val (.ref y67b), .val (.ref y68b), .val (.ref y69b), .val (.ref b70), .val (.ref b80), .val (.ref y95b), .val (.int (0 : Int32)), .unset, .unset] [(.int (1 : Int32))])) _
        refine XS.iconst X95.here hx rfl (hb hby at_116) ?_
        show Steps p.tables e below (T95.setTop (mkF m 117 #[.val (.int p1), .val (.int p2), .val (.int p3), .val (.int p4), .val (.int p5), .val (.int (1 : Int32)), .val (.ref y67b), .val (.ref y68b), .val (.ref y69b), .val (.ref b70), .val (.ref b80), .val (.ref y95b), .val (.int (0 : Int32)), .unset, .unset] [(.int (1 : Int32)), (.int (1 : Int32))])) _
        refine XS.icmpNo X95.here hx rfl (hb hby at_117) rfl (teq (by decide : (1 : Int32) = (1 : Int32))).2 ?_
        show Steps p.tables e below (T95.setTop (mkF m 120 #[.val (.int p1), .val (.int p2), .val (.int p3), .val (.int p4), .val (.int p5), .val (.int (1 : Int32)), .val (.ref y67b), .val (.ref y68b), .val (.ref y69b), .val (.ref b70), .val (.ref b80), .val (.ref y95b), .val (.int (0 : Int32)), .unset, .unset] [])) _
        refine XS.iloadN X95.here hx rfl (hb hby at_120) rfl ?_
        show Steps p.tables e below (T95.setTop (mkF m 121 #[.val (.int p1), .val (.int p2), .val (.int p3), .val (.int p4), .val (.int p5), .val (.int (1 : Int32)), .val (.ref y67b), .val (.ref y68b), .val (.ref y69b), .val (.ref b70), .val (.ref b80), .val (.ref y95b), .val (.int (0 : Int32)), .unset, .unset] [(.int p3)])) _
        refine XS.goto X95.here hx rfl (pc0 := 121) (pc' := 136) rfl (hb hby at_121) (by decide) (by decide) ?_
        show Steps p.tables e below (T95.setTop (mkF m 136 #[.val (.int p1), .val (.int p2), .val (.int p3), .val (.int p4), .val (.int p5), .val (.int (1 : Int32)), .val (.ref y67b), .val (.ref y68b), .val (.ref y69b), .val (.ref b70), .val (.ref b80), .val (.ref y95b), .val (.int (0 : Int32)), .unset, .unset] [(.int p3)])) _
        refine XS.istore X95.here hx rfl (hb hby at_136) rfl (l' := #[.val (.int p1), .val (.int p2), .val (.int p3), .val (.int p4), .val (.int p5), .val (.int (1 : Int32)), .val (.ref y67b), .val (.ref y68b), .val (.ref y69b), .val (.ref b70), .val (.ref b80), .val (.ref y95b), .val (.int (0 : Int32)), .val (.int p3), .unset]) rfl ?_
        show Steps p.tables e below (T95.setTop (mkF m 138 #[.val (.int p1), .val (.int p2), .val (.int p3), .val (.int p4), .val (.int p5), .val (.int (1 : Int32)), .val (.ref y67b), .val (.ref y68b), .val (.ref y69b), .val (.ref b70), .val (.ref b80), .val (.ref y95b), .val (.int (0 : Int32)), .val (.int p3), .unset] [])) _
        refine XS.aconstNull X95.here hx rfl (hb hby at_138) ?_
        show Steps p.tables e below (T95.setTop (mkF m 139 #[.val (.int p1), .val (.int p2), .val (.int p3), .val (.int p4), .val (.int p5), .val (.int (1 : Int32)), .val (.ref y67b), .val (.ref y68b), .val (.ref y69b), .val (.ref b70), .val (.ref b80), .val (.ref y95b), .val (.int (0 : Int32)), .val (.int p3), .unset] [.null])) _
        refine XS.astore X95.here hx rfl (hb hby at_139) rfl rfl (l' := #[.val (.int p1), .val (.int p2), .val (.int p3), .val (.int p4), .val (.int p5), .val (.int (1 : Int32)), .val (.ref y67b), .val (.ref y68b), .val (.ref y69b), .val (.ref b70), .val (.ref b80), .val (.ref y95b), .val (.int (0 : Int32)), .val (.int p3), .val .null]) rfl ?_
        show Steps p.tables e below (T95.setTop (mkF m 141 #[.val (.int p1), .val (.int p2), .val (.int p3), .val (.int p4), .val (.int p5), .val (.int (1 : Int32)), .val (.ref y67b), .val (.ref y68b), .val (.ref y69b), .val (.ref b70), .val (.ref b80), .val (.ref y95b), .val (.int (0 : Int32)), .val (.int p3), .val .null] [])) _
        refine XS.iloadN X95.here hx rfl (hb hby at_141) rfl ?_
        show Steps p.tables e below (T95.setTop (mkF m 142 #[.val (.int p1), .val (.int p2), .val (.int p3), .val (.int p4), .val (.int p5), .val (.int (1 : Int32)), .val (.ref y67b), .val (.ref y68b), .val (.ref y69b), .val (.ref b70), .val (.ref b80), .val (.ref y95b), .val (.int (0 : Int32)), .val (.int p3), .val .null] [(.int p2)])) _
        refine XS.iload X95.here hx rfl (hb hby at_142) rfl ?_
        show Steps p.tables e below (T95.setTop (mkF m 144 #[.val (.int p1), .val (.int p2), .val (.int p3), .val (.int p4), .val (.int p5), .val (.int (1 : Int32)), .val (.ref y67b), .val (.ref y68b), .val (.ref y69b), .val (.ref b70), .val (.ref b80), .val (.ref y95b), .val (.int (0 : Int32)), .val (.int p3), .val .null] [(.int (0 : Int32)), (.int p2)])) _
        refine XS.ishr X95.here hx rfl (hb hby at_144) rfl ?_
        show Steps p.tables e below (T95.setTop (mkF m 145 #[.val (.int p1), .val (.int p2), .val (.int p3), .val (.int p4), .val (.int p5), .val (.int (1 : Int32)), .val (.ref y67b), .val (.ref y68b), .val (.ref y69b), .val (.ref b70), .val (.ref b80), .val (.ref y95b), .val (.int (0 : Int32)), .val (.int p3), .val .null] [(.int (p2 >>> ((0 : Int32) &&& 31)))])) _
        refine XS.iconst X95.here hx rfl (hb hby at_145) ?_
        show Steps p.tables e below (T95.setTop (mkF m 146 #[.val (.int p1), .val (.int p2), .val (.int p3), .val (.int p4), .val (.int p5), .val (.int (1 : Int32)), .val (.ref y67b), .val (.ref y68b), .val (.ref y69b), .val (.ref b70), .val (.ref b80), .val (.ref y95b), .val (.int (0 : Int32)), .val (.int p3), .val .null] [(.int (1 : Int32)), (.int (p2 >>> ((0 : Int32) &&& 31)))])) _
        refine XS.iand X95.here hx rfl (hb hby at_146) rfl ?_
        show Steps p.tables e below (T95.setTop (mkF m 147 #[.val (.int p1), .val (.int p2), .val (.int p3), .val (.int p4), .val (.int p5), .val (.int (1 : Int32)), .val (.ref y67b), .val (.ref y68b), .val (.ref y69b), .val (.ref b70), .val (.ref b80), .val (.ref y95b), .val (.int (0 : Int32)), .val (.int p3), .val .null] [(.int ((p2 >>> ((0 : Int32) &&& 31)) &&& (1 : Int32)))])) _
        refine XS.ifNo X95.here hx rfl (hb hby at_147) rfl ((if0 _ _).trans (feq hc5).1) ?_
        show Steps p.tables e below (T95.setTop (mkF m 150 #[.val (.int p1), .val (.int p2), .val (.int p3), .val (.int p4), .val (.int p5), .val (.int (1 : Int32)), .val (.ref y67b), .val (.ref y68b), .val (.ref y69b), .val (.ref b70), .val (.ref b80), .val (.ref y95b), .val (.int (0 : Int32)), .val (.int p3), .val .null] [])) _
        refine XS.iload X95.here hx rfl (hb hby at_150) rfl ?_
        show Steps p.tables e below (T95.setTop (mkF m 152 #[.val (.int p1), .val (.int p2), .val (.int p3), .val (.int p4), .val (.int p5), .val (.int (1 : Int32)), .val (.ref y67b), .val (.ref y68b), .val (.ref y69b), .val (.ref b70), .val (.ref b80), .val (.ref y95b), .val (.int (0 : Int32)), .val (.int p3), .val .null] [(.int p3)])) _
        refine st144 _ ?_
        show Steps p.tables e below (T144.setTop (mkF m 155 #[.val (.int p1), .val (.int p2), .val (.int p3), .val (.int p4), .val (.int p5), .val (.int (1 : Int32)), .val (.ref y67b), .val (.ref y68b), .val (.ref y69b), .val (.ref b70), .val (.ref b80), .val (.ref y95b), .val (.int (0 : Int32)), .val (.int p3), .val .null] [(.ref (own_pk W p3))])) _
        refine XS.astore X144.here hx rfl (hb hby at_155) rfl rfl (l' := #[.val (.int p1), .val (.int p2), .val (.int p3), .val (.int p4), .val (.int p5), .val (.int (1 : Int32)), .val (.ref y67b), .val (.ref y68b), .val (.ref y69b), .val (.ref b70), .val (.ref b80), .val (.ref y95b), .val (.int (0 : Int32)), .val (.int p3), .val (.ref (own_pk W p3))]) rfl ?_
        show Steps p.tables e below (T144.setTop (mkF m 157 #[.val (.int p1), .val (.int p2), .val (.int p3), .val (.int p4), .val (.int p5), .val (.int (1 : Int32)), .val (.ref y67b), .val (.ref y68b), .val (.ref y69b), .val (.ref b70), .val (.ref b80), .val (.ref y95b), .val (.int (0 : Int32)), .val (.int p3), .val (.ref (own_pk W p3))] [])) _
        refine XS.aload X144.here hx rfl (hb hby at_157) rfl rfl ?_
        show Steps p.tables e below (T144.setTop (mkF m 159 #[.val (.int p1), .val (.int p2), .val (.int p3), .val (.int p4), .val (.int p5), .val (.int (1 : Int32)), .val (.ref y67b), .val (.ref y68b), .val (.ref y69b), .val (.ref b70), .val (.ref b80), .val (.ref y95b), .val (.int (0 : Int32)), .val (.int p3), .val (.ref (own_pk W p3))] [(.ref y95b)])) _
        refine XS.ifnullNo X144.here hx rfl (hb hby at_159) rfl ?_
        show Steps p.tables e below (T144.setTop (mkF m 162 #[.val (.int p1), .val (.int p2), .val (.int p3), .val (.int p4), .val (.int p5), .val (.int (1 : Int32)), .val (.ref y67b), .val (.ref y68b), .val (.ref y69b), .val (.ref b70), .val (.ref b80), .val (.ref y95b), .val (.int (0 : Int32)), .val (.int p3), .val (.ref (own_pk W p3))] [])) _
        refine XS.aload X144.here hx rfl (hb hby at_162) rfl rfl ?_
        show Steps p.tables e below (T144.setTop (mkF m 164 #[.val (.int p1), .val (.int p2), .val (.int p3), .val (.int p4), .val (.int p5), .val (.int (1 : Int32)), .val (.ref y67b), .val (.ref y68b), .val (.ref y69b), .val (.ref b70), .val (.ref b80), .val (.ref y95b), .val (.int (0 : Int32)), .val (.int p3), .val (.ref (own_pk W p3))] [(.ref y95b)])) _
        refine XS.aconstNull X144.here hx rfl (hb hby at_164) ?_
        show Steps p.tables e below (T144.setTop (mkF m 165 #[.val (.int p1), .val (.int p2), .val (.int p3), .val (.int p4), .val (.int p5), .val (.int (1 : Int32)), .val (.ref y67b), .val (.ref y68b), .val (.ref y69b), .val (.ref b70), .val (.ref b80), .val (.ref y95b), .val (.int (0 : Int32)), .val (.int p3), .val (.ref (own_pk W p3))] [.null, (.ref y95b)])) _
        refine st145.trans ?_
        show Steps p.tables e below (T145.setTop (mkF m 168 #[.val (.int p1), .val (.int p2), .val (.int p3), .val (.int p4), .val (.int p5), .val (.int (1 : Int32)), .val (.ref y67b), .val (.ref y68b), .val (.ref y69b), .val (.ref b70), .val (.ref b80), .val (.ref y95b), .val (.int (0 : Int32)), .val (.int p3), .val (.ref (own_pk W p3))] [(.ref (own_pk W p3))])) _
        refine XS.aload X145.here hx rfl (hb hby at_168) rfl rfl ?_
        show Steps p.tables e below (T145.setTop (mkF m 170 #[.val (.int p1), .val (.int p2), .val (.int p3), .val (.int p4), .val (.int p5), .val (.int (1 : Int32)), .val (.ref y67b), .val (.ref y68b), .val (.ref y69b), .val (.ref b70), .val (.ref b80), .val (.ref y95b), .val (.int (0 : Int32)), .val (.int p3), .val (.ref (own_pk W p3))] [(.ref (own_pk W p3)), (.ref (own_pk W p3))])) _
        refine Jvm.RoadKit.acmp (g := (mkF m 170 #[.val (.int p1), .val (.int p2), .val (.int p3), .val (.int p4), .val (.int p5), .val (.int (1 : Int32)), .val (.ref y67b), .val (.ref y68b), .val (.ref y69b), .val (.ref b70), .val (.ref b80), .val (.ref y95b), .val (.int (0 : Int32)), .val (.int p3), .val (.ref (own_pk W p3))] [(.ref (own_pk W p3)), (.ref (own_pk W p3))])) X145 hx rfl rfl rfl (pc0 := 170) (pc' := 173) (same := true) rfl (hb hby at_170) rfl (decide_eq_true rfl) (by decide) (by decide) ?_
        show Steps p.tables e below (T145.setTop (mkF m 173 #[.val (.int p1), .val (.int p2), .val (.int p3), .val (.int p4), .val (.int p5), .val (.int (1 : Int32)), .val (.ref y67b), .val (.ref y68b), .val (.ref y69b), .val (.ref b70), .val (.ref b80), .val (.ref y95b), .val (.int (0 : Int32)), .val (.int p3), .val (.ref (own_pk W p3))] [])) _
        refine XS.iconst X145.here hx rfl (hb hby at_173) ?_
        show Steps p.tables e below (T145.setTop (mkF m 174 #[.val (.int p1), .val (.int p2), .val (.int p3), .val (.int p4), .val (.int p5), .val (.int (1 : Int32)), .val (.ref y67b), .val (.ref y68b), .val (.ref y69b), .val (.ref b70), .val (.ref b80), .val (.ref y95b), .val (.int (0 : Int32)), .val (.int p3), .val (.ref (own_pk W p3))] [(.int (1 : Int32))])) _
        refine XS.goto X145.here hx rfl (pc0 := 174) (pc' := 178) rfl (hb hby at_174) (by decide) (by decide) ?_
        exact k_
      obtain ⟨fs, hr, hrun, hended, hEW⟩ := X145.leaveW (s := s) hS85 (show k85 ≤ _ by rw [e145]; omega) (v := some (.int (1 : Int32))) (fun h => by rw [Bd.returns] at h; cases h)
      refine ⟨_, _, go148 _ ?_, hrun, hended, _, _, rfl, ?_, hEW.1, hEW.2.1, hEW.2.2.1, hEW.2.2.2.mono (by decide) (by decide)⟩
      · skip
        show Steps p.tables e below (T145.setTop (mkF m 178 #[.val (.int p1), .val (.int p2), .val (.int p3), .val (.int p4), .val (.int p5), .val (.int (1 : Int32)), .val (.ref y67b), .val (.ref y68b), .val (.ref y69b), .val (.ref b70), .val (.ref b80), .val (.ref y95b), .val (.int (0 : Int32)), .val (.int p3), .val (.ref (own_pk W p3))] [(.int (1 : Int32))])) _
        exact retN X145 hx (t := .boolean) Bd.returns (by simp) (hb hby at_178) hr
      · show Q_rm0 Z p1 p2 p3 p4 p5 W ed kd wE h0 n0 _ T145.heap _
        rw [e145]
        exact ⟨rfl, N145⟩
  · skip
    have go149 : ∀ t_, Steps p.tables e below (s₁.setTop (mkF m 10 #[.val (.int p1), .val (.int p2), .val (.int p3), .val (.int p4), .val (.int p5), .val (.int (2 : Int32)), .unset, .unset, .unset, .unset, .unset, .unset, .unset, .unset, .unset] [])) t_ → Steps p.tables e below (s₁.setTop (entryFrame m #[(.int p1), (.int p2), (.int p3), (.int p4), (.int p5)] maxLocals)) t_ := by
      intro t_ k_
      refine go1 t_ ?_
      rw [hk2]
      exact k_
    obtain ⟨_, _, ⟨T150, L150, k150, n150⟩, -, X150, ⟨Lc150, hQ150, l150, y150, z150⟩, st150⟩ := Jvm.LawKit.callS X0 hx (y := (⟨"com/example/maksu/maksu/catalog/PlanBillingPeriodPinLaw", "phase", "(III)Lcom/example/maksu/maksu/catalog/Phase;"⟩ : MethodName)) hown (mvT hZ hw_1) (mvT hZ hw_2) (mvT hZ hw_3) (mvT hZ hw_4) (by decide) (backOf (W := 0) (rmPhA l Z a0 hw [] p2 (0 : Int32) p3 W h0 n0 Z0 BPs O0) hZ hw_4 hw_3 (by decide) (by decide)) (g := (mkF m 13 #[.val (.int p1), .val (.int p2), .val (.int p3), .val (.int p4), .val (.int p5), .val (.int (2 : Int32)), .unset, .unset, .unset, .unset, .unset, .unset, .unset, .unset, .unset] [(.int p3), (.int (0 : Int32)), (.int p2)])) rfl (by rw [hml]; rfl) (argsL := [(.int p2), (.int (0 : Int32)), (.int p3)]) (rest := []) (lenOf pd_15 rfl) rfl (by show 2 * 0 + _ ≤ _; exact Nat.le_of_eq rfl) (hb hby at_13) (fun _ _ => ⟨rfl, e0, (by decide : 0 + 3 ≤ _), (by decide : 0 + 22 ≤ _)⟩)
    dsimp only [Pt.U, Pt.locs, Pt.cells, Pt.slots] at X150 l150 y150 z150 st150 hQ150
    subst l150 y150 z150
    obtain ⟨y150b, rfl, N150q, Kc150, lo150, hi150, Ec150⟩ := hQ150
    have N150 := Fr.app N0 N150q
    have sz150 : h0.size ≤ T150.heap.size := Kc150.1
    have Z150 : n0 ≤ T150.heap.size := Nat.le_trans Z0 sz150
    have O150 : Old Z n0 T150.heap := O0.keep Kc150 all0
    have go151 : ∀ t_, Steps p.tables e below (T150.setTop (mkF m 21 #[.val (.int p1), .val (.int p2), .val (.int p3), .val (.int p4), .val (.int p5), .val (.int (2 : Int32)), .val (.ref y150b), .unset, .unset, .unset, .unset, .unset, .unset, .unset, .unset] [(.int p4), (.int (1 : Int32)), (.int p2)])) t_ → Steps p.tables e below (s₁.setTop (entryFrame m #[(.int p1), (.int p2), (.int p3), (.int p4), (.int p5)] maxLocals)) t_ := by
      intro t_ k_
      refine go149 t_ ?_
      show Steps p.tables e below (s₁.setTop (mkF m 10 #[.val (.int p1), .val (.int p2), .val (.int p3), .val (.int p4), .val (.int p5), .val (.int (2 : Int32)), .unset, .unset, .unset, .unset, .unset, .unset, .unset, .unset, .unset] [])) _
      refine XS.iloadN X0.here hx rfl (hb hby at_10) rfl ?_
      show Steps p.tables e below (s₁.setTop (mkF m 11 #[.val (.int p1), .val (.int p2), .val (.int p3), .val (.int p4), .val (.int p5), .val (.int (2 : Int32)), .unset, .unset, .unset, .unset, .unset, .unset, .unset, .unset, .unset] [(.int p2)])) _
      refine XS.iconst X0.here hx rfl (hb hby at_11) ?_
      show Steps p.tables e below (s₁.setTop (mkF m 12 #[.val (.int p1), .val (.int p2), .val (.int p3), .val (.int p4), .val (.int p5), .val (.int (2 : Int32)), .unset, .unset, .unset, .unset, .unset, .unset, .unset, .unset, .unset] [(.int (0 : Int32)), (.int p2)])) _
      refine XS.iloadN X0.here hx rfl (hb hby at_12) rfl ?_
      show Steps p.tables e below (s₁.setTop (mkF m 13 #[.val (.int p1), .val (.int p2), .val (.int p3), .val (.int p4), .val (.int p5), .val (.int (2 : Int32)), .unset, .unset, .unset, .unset, .unset, .unset, .unset, .unset, .unset] [(.int p3), (.int (0 : Int32)), (.int p2)])) _
      refine st150 _ ?_
      show Steps p.tables e below (T150.setTop (mkF m 16 #[.val (.int p1), .val (.int p2), .val (.int p3), .val (.int p4), .val (.int p5), .val (.int (2 : Int32)), .unset, .unset, .unset, .unset, .unset, .unset, .unset, .unset, .unset] [(.ref y150b)])) _
      refine XS.astore X150.here hx rfl (hb hby at_16) rfl rfl (l' := #[.val (.int p1), .val (.int p2), .val (.int p3), .val (.int p4), .val (.int p5), .val (.int (2 : Int32)), .val (.ref y150b), .unset, .unset, .unset, .unset, .unset, .unset, .unset, .unset]) rfl ?_
      show Steps p.tables e below (T150.setTop (mkF m 18 #[.val (.int p1), .val (.int p2), .val (.int p3), .val (.int p4), .val (.int p5), .val (.int (2 : Int32)), .val (.ref y150b), .unset, .unset, .unset, .unset, .unset, .unset, .unset, .unset] [])) _
      refine XS.iloadN X150.here hx rfl (hb hby at_18) rfl ?_
      show Steps p.tables e below (T150.setTop (mkF m 19 #[.val (.int p1), .val (.int p2), .val (.int p3), .val (.int p4), .val (.int p5), .val (.int (2 : Int32)), .val (.ref y150b), .unset, .unset, .unset, .unset, .unset, .unset, .unset, .unset] [(.int p2)])) _
      refine XS.iconst X150.here hx rfl (hb hby at_19) ?_
      show Steps p.tables e below (T150.setTop (mkF m 20 #[.val (.int p1), .val (.int p2), .val (.int p3), .val (.int p4), .val (.int p5), .val (.int (2 : Int32)), .val (.ref y150b), .unset, .unset, .unset, .unset, .unset, .unset, .unset, .unset] [(.int (1 : Int32)), (.int p2)])) _
      refine XS.iloadN X150.here hx rfl (hb hby at_20) rfl ?_
      exact k_
    by_cases hc152 : ((p2 >>> ((1 : Int32) &&& 31)) &&& (1 : Int32)) = (0 : Int32)
    · skip
      obtain ⟨_, _, ⟨T153, L153, k153, n153⟩, -, X153, ⟨Lc153, hQ153, l153, y153, z153⟩, st153⟩ := Jvm.LawKit.callS X150 hx (y := (⟨"com/example/maksu/maksu/catalog/PlanBillingPeriodPinLaw", "phase", "(III)Lcom/example/maksu/maksu/catalog/Phase;"⟩ : MethodName)) hown (mvT hZ hw_1) (mvT hZ hw_2) (mvT hZ hw_3) (mvT hZ hw_4) (by decide) (backOf (W := 0) (rmPh0 l Z a0 hw [] p2 (1 : Int32) p4 W T150.heap n0 Z150 BPs hc152 O150) hZ hw_4 hw_3 (by decide) (by decide)) (g := (mkF m 21 #[.val (.int p1), .val (.int p2), .val (.int p3), .val (.int p4), .val (.int p5), .val (.int (2 : Int32)), .val (.ref y150b), .unset, .unset, .unset, .unset, .unset, .unset, .unset, .unset] [(.int p4), (.int (1 : Int32)), (.int p2)])) rfl (by rw [hml]; rfl) (argsL := [(.int p2), (.int (1 : Int32)), (.int p4)]) (rest := []) (lenOf pd_15 rfl) rfl (by show 2 * 0 + _ ≤ _; exact Nat.le_of_eq rfl) (hb hby at_21) (fun _ _ => ⟨rfl, rfl, (by decide : 3 + 1 ≤ _), (by decide : 22 + 4 ≤ _)⟩)
      dsimp only [Pt.U, Pt.locs, Pt.cells, Pt.slots] at X153 l153 y153 z153 st153 hQ153
      subst l153 y153 z153
      obtain ⟨y153b, rfl, N153q, Kc153, lo153, hi153, Ec153, Fc153⟩ := hQ153
      have N153 := Fr.app N150 N153q
      have sz153 : T150.heap.size ≤ T153.heap.size := Kc153.1
      have Z153 : n0 ≤ T153.heap.size := Nat.le_trans Z150 sz153
      have O153 : Old Z n0 T153.heap := O150.keep Kc153 all0
      obtain ⟨_, _, ⟨T154, L154, k154, n154⟩, -, X154, ⟨Lc154, hQ154, l154, y154, z154⟩, st154⟩ := Jvm.LawKit.callS X153 hx (y := (⟨"com/example/maksu/maksu/catalog/PlanBillingPeriodPinLaw", "phase", "(III)Lcom/example/maksu/maksu/catalog/Phase;"⟩ : MethodName)) hown (mvT hZ hw_1) (mvT hZ hw_2) (mvT hZ hw_3) (mvT hZ hw_4) (by decide) (backOf (W := 0) (rmPhA l Z a0 hw [] p2 (2 : Int32) p5 W T153.heap n0 Z153 BPs O153) hZ hw_4 hw_3 (by decide) (by decide)) (g := (mkF m 30 #[.val (.int p1), .val (.int p2), .val (.int p3), .val (.int p4), .val (.int p5), .val (.int (2 : Int32)), .val (.ref y150b), .val (.ref y153b), .unset, .unset, .unset, .unset, .unset, .unset, .unset] [(.int p5), (.int (2 : Int32)), (.int p2)])) rfl (by rw [hml]; rfl) (argsL := [(.int p2), (.int (2 : Int32)), (.int p5)]) (rest := []) (lenOf pd_15 rfl) rfl (by show 2 * 0 + _ ≤ _; exact Nat.le_of_eq rfl) (hb hby at_30) (fun _ _ => ⟨rfl, rfl, (by decide : 4 + 3 ≤ _), (by decide : 26 + 22 ≤ _)⟩)
      dsimp only [Pt.U, Pt.locs, Pt.cells, Pt.slots] at X154 l154 y154 z154 st154 hQ154
      subst l154 y154 z154
      obtain ⟨y154b, rfl, N154q, Kc154, lo154, hi154, Ec154⟩ := hQ154
      have N154 := Fr.app N153 N154q
      have sz154 : T153.heap.size ≤ T154.heap.size := Kc154.1
      have Z154 : n0 ≤ T154.heap.size := Nat.le_trans Z153 sz154
      have O154 : Old Z n0 T154.heap := O153.keep Kc154 all0
      obtain ⟨T155, h155, X155, e155, E155, A155, D155, -, st155⟩ := newO X154 hx hZ hown hw_77 hw_78 hw_79 rfl (g := (mkF m 35 #[.val (.int p1), .val (.int p2), .val (.int p3), .val (.int p4), .val (.int p5), .val (.int (2 : Int32)), .val (.ref y150b), .val (.ref y153b), .val (.ref y154b), .unset, .unset, .unset, .unset, .unset, .unset] [])) rfl (hb hby at_35) (by decide) (by decide)
      obtain ⟨b155, g155⟩ : ∃ z, z = T154.heap.size := ⟨_, rfl⟩
      rw [← g155] at A155 D155 st155
      have lt155 : b155 < h155.size := A155.lt
      have sz155 : T154.heap.size ≤ h155.size := E155.1
      have Z155 : n0 ≤ h155.size := Nat.le_trans Z154 sz155
      have O155 : Old Z n0 h155 := O154.ext E155
      have F156 : Fld Z h155 b155 "java/util/AbstractList" "modCount" "I" (.int (0 : Int32)) := D155 (Or.inl hw_97) (ty := .int) (by decide)
      have F157 : Fld Z h155 b155 "java/util/ArrayList" "elementData" "[Ljava/lang/Object;" .null := D155 (Or.inl hw_100) (ty := (.array (.object "java/lang/Object"))) (by decide)
      have F158 : Fld Z h155 b155 "java/util/ArrayList" "size" "I" (.int (0 : Int32)) := D155 (Or.inl hw_113) (ty := .int) (by decide)
      obtain ⟨_, _, ⟨T159, L159, k159, n159⟩, -, X159, ⟨Lc159, hQ159, l159, y159, z159⟩, st159⟩ := X155.specialBack hx (y := (⟨"java/util/ArrayList", "<init>", "()V"⟩ : MethodName)) rfl hown (mvT hZ hw_80) (mvT hZ hw_81) (mvT hZ hw_82) (by decide) (backOf (W := 1) (rmALI l Z a0 hw [] b155 ed h155 n0 Z155 A155 F156 F158 F157 (by omega) S_D O155) hZ hw_82 hw_79 (by decide) (by decide)) (g := (mkF m 39 #[.val (.int p1), .val (.int p2), .val (.int p3), .val (.int p4), .val (.int p5), .val (.int (2 : Int32)), .val (.ref y150b), .val (.ref y153b), .val (.ref y154b), .unset, .unset, .unset, .unset, .unset, .unset] [(.ref b155), (.ref b155)])) rfl (by rw [hml]; rfl) (Steps.refl _) (a := b155) (argsL := []) (rest := [(.ref b155)]) (lenOf pd_0 rfl) rfl (by show 2 * 0 + _ ≤ _; exact Nat.le_of_eq rfl) (hb hby at_39) (fun _ _ => ⟨rfl, e155, (by decide : 8 + 0 ≤ _), (by decide : 51 + 0 ≤ _)⟩)
      dsimp only [Pt.U, Pt.locs, Pt.cells, Pt.slots] at X159 l159 y159 z159 st159 hQ159
      subst l159 y159 z159
      obtain ⟨rfl, N159q, Kc159, Ec159, Fm159, Fs159, Fe159⟩ := hQ159
      have N159 := Fr.app N154 N159q
      have sz159 : h155.size ≤ T159.heap.size := Kc159.1
      have Z159 : n0 ≤ T159.heap.size := Nat.le_trans Z155 sz159
      have O159 : Old Z n0 T159.heap := O155.keep Kc159 (allS (show n0 ≤ b155 by omega) all0)
      have f161 := (Ec150.keep Kc153)
      have f162 := (f161.keep Kc154)
      have f163 := (f162.ext E155)
      have f164 := (f163.keep Kc159)
      obtain ⟨cq160, kq160, q160a, q160b, q160c⟩ := isOf hZ rfl Ec159
      obtain ⟨_, _, ⟨T160, L160, k160, n160⟩, -, X160, ⟨Lc160, hQ160, l160, y160, z160⟩, st160⟩ := X159.interfaceBack hx (xi := (⟨"java/util/List", "add", "(Ljava/lang/Object;)Z"⟩ : MethodName)) (y := (⟨"java/util/ArrayList", "add", "(Ljava/lang/Object;)Z"⟩ : MethodName)) hown (mvT hZ hw_101) (mvT hZ hw_102) (mvT hZ hw_103) (mvT hZ hw_104) (mvT hZ hw_105) (mvT hZ hw_106) (mvT hZ hw_107) (mvT hZ hw_108) (by decide) (backOf (W := 0) (rmAd0 l Z a0 hw [] b155 y150b ed kd (0 : Int32) T159.heap n0 Z159 Ec159 Fm159 Fs159 Fe159 (by omega) (by omega) S_D V_D f164 (by omega) O159) hZ hw_109 hw_79 (by decide) (by decide)) q160a q160b q160c (g := (mkF m 48 #[.val (.int p1), .val (.int p2), .val (.int p3), .val (.int p4), .val (.int p5), .val (.int (2 : Int32)), .val (.ref y150b), .val (.ref y153b), .val (.ref y154b), .val (.ref b155), .unset, .unset, .unset, .unset, .unset] [(.ref y150b), (.ref b155)])) rfl (by rw [hml]; rfl) (Steps.refl _) (argsL := [(.ref y150b)]) (rest := []) (lenOf pd_16 rfl) rfl (by show 2 * 0 + _ ≤ _; exact Nat.le_of_eq rfl) (hb hby at_48) (fun _ _ => ⟨rfl, rfl, (by decide : 8 + 1 ≤ _), (by decide : 51 + 10 ≤ _)⟩)
      dsimp only [Pt.U, Pt.locs, Pt.cells, Pt.slots] at X160 l160 y160 z160 st160 hQ160
      subst l160 y160 z160
      obtain ⟨y160b, y160k, rfl, N160q, Kc160, lo160, hi160, Ec160, Fm160, Fs160, Fe160, Ov160, Vc160⟩ := hQ160
      have N160 := Fr.app N159 N160q
      have sz160 : T159.heap.size ≤ T160.heap.size := Kc160.1
      have Z160 : n0 ≤ T160.heap.size := Nat.le_trans Z159 sz160
      have O160 : Old Z n0 T160.heap := O159.keep Kc160 (allS (show n0 ≤ b155 by omega) all0)
      have f166 := (Ec153.keep Kc154)
      have f167 := (f166.ext E155)
      have f168 := (f167.keep Kc159)
      have f169 := (f168.keep Kc160)
      obtain ⟨cq165, kq165, q165a, q165b, q165c⟩ := isOf hZ rfl Ec160
      obtain ⟨_, _, ⟨T165, L165, k165, n165⟩, -, X165, ⟨Lc165, hQ165, l165, y165, z165⟩, st165⟩ := X160.interfaceBack hx (xi := (⟨"java/util/List", "add", "(Ljava/lang/Object;)Z"⟩ : MethodName)) (y := (⟨"java/util/ArrayList", "add", "(Ljava/lang/Object;)Z"⟩ : MethodName)) hown (mvT hZ hw_101) (mvT hZ hw_102) (mvT hZ hw_103) (mvT hZ hw_104) (mvT hZ hw_105) (mvT hZ hw_106) (mvT hZ hw_107) (mvT hZ hw_108) (by decide) (backOf (W := 0) (rmAd1 l Z a0 hw [] b155 y153b y160b y160k ((0 : Int32) + (1 : Int32)) y150b T160.heap n0 Z160 Ec160 Fm160 Fs160 Fe160 (by omega) (by omega) (show b155 ≠ y160b by omega) Ov160 Vc160 f169) hZ hw_109 hw_79 (by decide) (by decide)) q165a q165b q165c (g := (mkF m 64 #[.val (.int p1), .val (.int p2), .val (.int p3), .val (.int p4), .val (.int p5), .val (.int (2 : Int32)), .val (.ref y150b), .val (.ref y153b), .val (.ref y154b), .val (.ref b155), .unset, .unset, .unset, .unset, .unset] [(.ref y153b), (.ref b155)])) rfl (by rw [hml]; rfl) (Steps.refl _) (argsL := [(.ref y153b)]) (rest := []) (lenOf pd_16 rfl) rfl (by show 2 * 0 + _ ≤ _; exact Nat.le_of_eq rfl) (hb hby at_64) (fun _ _ => ⟨rfl, rfl, (by decide : 9 + 0 ≤ _), (by decide : 61 + 0 ≤ _)⟩)
      dsimp only [Pt.U, Pt.locs, Pt.cells, Pt.slots] at X165 l165 y165 z165 st165 hQ165
      subst l165 y165 z165
      obtain ⟨rfl, N165q, Kc165, Ec165, Fm165, Fs165, Fe165, Vc165⟩ := hQ165
      have N165 := Fr.app N160 N165q
      have sz165 : T160.heap.size ≤ T165.heap.size := Kc165.1
      have Z165 : n0 ≤ T165.heap.size := Nat.le_trans Z160 sz165
      have O165 : Old Z n0 T165.heap := O160.keep Kc165 (allS (show n0 ≤ b155 by omega) (allS (show n0 ≤ y160b by omega) all0))
      obtain ⟨T170, h170, X170, e170, E170, A170, D170, -, st170⟩ := newO X165 hx hZ hown hw_136 hw_137 hw_138 rfl (g := (mkF m 86 #[.val (.int p1), .val (.int p2), .val (.int p3), .val (.int p4), .val (.int p5), .val (.int (2 : Int32)), .val (.ref y150b), .val (.ref y153b), .val (.ref y154b), .val (.ref b155), .unset, .unset, .unset, .unset, .unset] [])) rfl (hb hby at_86) (by decide) (by decide)
      obtain ⟨b170, g170⟩ : ∃ z, z = T165.heap.size := ⟨_, rfl⟩
      rw [← g170] at A170 D170 st170
      have lt170 : b170 < h170.size := A170.lt
      have sz170 : T165.heap.size ≤ h170.size := E170.1
      have Z170 : n0 ≤ h170.size := Nat.le_trans Z165 sz170
      have O170 : Old Z n0 h170 := O165.ext E170
      have F171 : Fld Z h170 b170 "com/example/maksu/maksu/catalog/Plan" "name" "Ljava/lang/String;" .null := D170 (Or.inr hw_153) (ty := (.object "java/lang/String")) (by decide)
      have F172 : Fld Z h170 b170 "com/example/maksu/maksu/catalog/Plan" "product" "Ljava/lang/String;" .null := D170 (Or.inr hw_155) (ty := (.object "java/lang/String")) (by decide)
      have F173 : Fld Z h170 b170 "com/example/maksu/maksu/catalog/Plan" "phases" "Ljava/util/List;" .null := D170 (Or.inr hw_157) (ty := (.object "java/util/List")) (by decide)
      have wS : ∀ a ∈ Bundle.stringAtoms, a.before a0 Z = true := by
        intro a ha
        simp only [Bundle.stringAtoms, List.mem_cons, List.not_mem_nil, or_false] at ha
        rcases ha with rfl | rfl | rfl | rfl | rfl | rfl | rfl
        · exact hw_140
        · exact hw_141
        · exact hw_142
        · exact hw_143
        · exact hw_144
        · exact hw_145
        · exact hw_146
      have Xw : Stand p l e room_1 (s.setVm s.vm) m #[(.int p1), (.int p2), (.int p3), (.int p4), (.int p5)] below meth c T170 _ _ _ := X170
      obtain ⟨a174, T174, h174, k174, X174, e174, E174, hS174, hk174, hZ174, hown174, st174⟩ := ldcS (s := s) (vm0 := s.vm) Xw hx hZ hown hw_139 wS e170 ((State.WarmedH.refl s).since 0) (Nat.zero_le _) (g := (mkF m 90 #[.val (.int p1), .val (.int p2), .val (.int p3), .val (.int p4), .val (.int p5), .val (.int (2 : Int32)), .val (.ref y150b), .val (.ref y153b), .val (.ref y154b), .val (.ref b155), .unset, .unset, .unset, .unset, .unset] [(.ref b170), (.ref b170)])) rfl (hb hby at_90) (n := 32) (by decide) (by decide) (by decide) (by decide)
      have sz174 : h170.size ≤ h174.size := E174.1
      have Z174 : n0 ≤ h174.size := Nat.le_trans Z170 sz174
      have O174 : Old Z n0 h174 := O170.ext E174
      obtain ⟨a175, T175, h175, k175, X175, e175, E175, hS175, hk175, hZ175, hown175, st175⟩ := ldcS (s := s) (vm0 := T174.vm) X174 hx hZ174 hown174 hw_147 wS e174 hS174 (show k174 ≤ _ by omega) (g := (mkF m 92 #[.val (.int p1), .val (.int p2), .val (.int p3), .val (.int p4), .val (.int p5), .val (.int (2 : Int32)), .val (.ref y150b), .val (.ref y153b), .val (.ref y154b), .val (.ref b155), .unset, .unset, .unset, .unset, .unset] [(.ref a174), (.ref b170), (.ref b170)])) rfl (hb hby at_92) (n := 24) (by decide) (by decide) (by decide) (by decide)
      have sz175 : h174.size ≤ h175.size := E175.1
      have Z175 : n0 ≤ h175.size := Nat.le_trans Z174 sz175
      have O175 : Old Z n0 h175 := O174.ext E175
      have f177 := (A170.ext E174)
      have f178 := (f177.ext E175)
      have f179 := (F171.ext E174)
      have f180 := (f179.ext E175)
      have f181 := (F172.ext E174)
      have f182 := (f181.ext E175)
      have f183 := (F173.ext E174)
      have f184 := (f183.ext E175)
      obtain ⟨_, _, ⟨T176, L176, k176, n176⟩, -, X176, ⟨Lc176, hQ176, l176, y176, z176⟩, st176⟩ := X175.specialBack hx (y := (⟨"com/example/maksu/maksu/catalog/Plan", "<init>", "(Ljava/lang/String;Ljava/lang/String;Ljava/util/List;)V"⟩ : MethodName)) rfl hown175 (mvT hZ175 hw_148) (mvT hZ175 hw_149) (mvT hZ175 hw_150) (by decide) (backOf (W := 1) (rmPln l Z a0 hw [] b170 a174 a175 b155 h175 n0 Z175 f178 f180 f182 f184 (by omega)) hZ175 hw_150 hw_138 (by decide) (by decide)) (g := (mkF m 96 #[.val (.int p1), .val (.int p2), .val (.int p3), .val (.int p4), .val (.int p5), .val (.int (2 : Int32)), .val (.ref y150b), .val (.ref y153b), .val (.ref y154b), .val (.ref b155), .unset, .unset, .unset, .unset, .unset] [(.ref b155), (.ref a175), (.ref a174), (.ref b170), (.ref b170)])) rfl (by rw [hml]; rfl) (Steps.refl _) (a := b170) (argsL := [(.ref a174), (.ref a175), (.ref b155)]) (rest := [(.ref b170)]) (lenOf pd_17 rfl) rfl (by show 2 * 0 + _ ≤ _; exact Nat.le_of_eq rfl) (hb hby at_96) (fun _ _ => ⟨rfl, e175, (by decide : 14 + 0 ≤ _), (by decide : 128 + 0 ≤ _)⟩)
      dsimp only [Pt.U, Pt.locs, Pt.cells, Pt.slots] at X176 l176 y176 z176 st176 hQ176
      subst l176 y176 z176
      obtain ⟨rfl, N176q, Kc176, Ec176, Fc176⟩ := hQ176
      have N176 := Fr.app N165 N176q
      have sz176 : h175.size ≤ T176.heap.size := Kc176.1
      have Z176 : n0 ≤ T176.heap.size := Nat.le_trans Z175 sz176
      have O176 : Old Z n0 T176.heap := O175.keep Kc176 (allS (show n0 ≤ b170 by omega) all0)
      have f186 := (Ec165.ext E170)
      have f187 := (f186.ext E174)
      have f188 := (f187.ext E175)
      have f189 := (f188.keep Kc176)
      have f190 := (Fs165.ext E170)
      have f191 := (f190.ext E174)
      have f192 := (f191.ext E175)
      have f193 := (f192.keep Kc176 (ninS (show b155 ≠ b170 by omega) nin0))
      have f194 := (Fe165.ext E170)
      have f195 := (f194.ext E174)
      have f196 := (f195.ext E175)
      have f197 := (f196.keep Kc176 (ninS (show b155 ≠ b170 by omega) nin0))
      have f198 := (Vc165.ext E170)
      have f199 := (f198.ext E174)
      have f200 := (f199.ext E175)
      have f201 := (f200.keep Kc176 (ninS (show y160b ≠ b170 by omega) nin0))
      have f202 := (f169.keep Kc165)
      have f203 := (f202.ext E170)
      have f204 := (f203.ext E174)
      have f205 := (f204.ext E175)
      have f206 := (f205.keep Kc176)
      have f207 := (Fc153.keep Kc154 nin0)
      have f208 := (f207.ext E155)
      have f209 := (f208.keep Kc159 (ninS (show y153b ≠ b155 by omega) nin0))
      have f210 := (f209.keep Kc160 (ninS (show y153b ≠ b155 by omega) nin0))
      have f211 := (f210.keep Kc165 (ninS (show y153b ≠ b155 by omega) (ninS (show y153b ≠ y160b by omega) nin0)))
      have f212 := (f211.ext E170)
      have f213 := (f212.ext E174)
      have f214 := (f213.ext E175)
      have f215 := (f214.keep Kc176 (ninS (show y153b ≠ b170 by omega) nin0))
      obtain ⟨cq185, kq185, q185a, q185b, q185c⟩ := isOf hZ175 rfl Ec176
      obtain ⟨_, _, ⟨T185, L185, k185, n185⟩, -, X185, ⟨Lc185, hQ185, l185, y185, z185⟩, st185⟩ := X176.virtualBack hx (y := (⟨"com/example/maksu/maksu/catalog/Plan", "billingPeriod", "()Ljava/util/Optional;"⟩ : MethodName)) (z := (⟨"com/example/maksu/maksu/catalog/Plan", "billingPeriod", "()Ljava/util/Optional;"⟩ : MethodName)) hown175 (mvT hZ175 hw_158) (mvT hZ175 hw_159) (notFace_of_selects (args := #[]) (mvT hZ175 hw_161)) (mvT hZ175 hw_161) (mvT hZ175 hw_160) (by decide) (backOf (W := 0) (rmBP0 l Z a0 hw [] b170 b155 (2 : Int32) y160b y160k [(.ref y150b), (.ref y153b), .null, .null, .null, .null, .null, .null, .null, .null] y153b wE T176.heap n0 Z176 Fc176 f189 f193 f197 f201 ⟨by decide, by decide⟩ rfl (by decide) (by decide) f206 f215 S_E O176) hZ175 hw_162 hw_138 (by decide) (by decide)) q185a q185c (g := (mkF m 103 #[.val (.int p1), .val (.int p2), .val (.int p3), .val (.int p4), .val (.int p5), .val (.int (2 : Int32)), .val (.ref y150b), .val (.ref y153b), .val (.ref y154b), .val (.ref b155), .val (.ref b170), .unset, .unset, .unset, .unset] [(.ref b170)])) rfl (by rw [hml]; rfl) (Steps.refl _) (argsL := []) (rest := []) (lenOf pd_18 rfl) rfl (by show 2 * 0 + _ ≤ _; exact Nat.le_of_eq rfl) (hb hby at_103) (fun _ _ => ⟨rfl, rfl, (by decide : 14 + 0 ≤ _), (by decide : 128 + 0 ≤ _)⟩)
      dsimp only [Pt.U, Pt.locs, Pt.cells, Pt.slots] at X185 l185 y185 z185 st185 hQ185
      subst l185 y185 z185
      obtain ⟨rfl, N185q, e185⟩ := hQ185
      have N185 := Fr.app N176 N185q
      obtain ⟨cq216, kq216, q216a, q216b, q216c⟩ := isOf hZ175 e185 (E_E.ext O176.2)
      obtain ⟨_, _, ⟨T216, L216, k216, n216⟩, -, X216, ⟨Lc216, hQ216, l216, y216, z216⟩, st216⟩ := X185.virtualBack hx (y := (⟨"java/util/Optional", "orElse", "(Ljava/lang/Object;)Ljava/lang/Object;"⟩ : MethodName)) (z := (⟨"java/util/Optional", "orElse", "(Ljava/lang/Object;)Ljava/lang/Object;"⟩ : MethodName)) hown175 (mvT hZ175 hw_217) (mvT hZ175 hw_218) (notFace_of_selects (args := #[]) (mvT hZ175 hw_220)) (mvT hZ175 hw_220) (mvT hZ175 hw_219) (by decide) (backOf (W := 0) (rmOr0 l Z a0 hw [] wE T176.heap n0 Z176 (F_E.ext O176.2)) hZ175 hw_221 hw_206 (by decide) (by decide)) q216a q216c (g := (mkF m 165 #[.val (.int p1), .val (.int p2), .val (.int p3), .val (.int p4), .val (.int p5), .val (.int (2 : Int32)), .val (.ref y150b), .val (.ref y153b), .val (.ref y154b), .val (.ref b155), .val (.ref b170), .val (.ref wE), .val (.int (1 : Int32)), .val (.int p4), .val .null] [.null, (.ref wE)])) rfl (by rw [hml]; rfl) (Steps.refl _) (argsL := [.null]) (rest := []) (lenOf pd_19 rfl) rfl (by show 2 * 0 + _ ≤ _; exact Nat.le_of_eq rfl) (hb hby at_165) (fun _ _ => ⟨rfl, e185, (by decide : 14 + 0 ≤ _), (by decide : 128 + 0 ≤ _)⟩)
      dsimp only [Pt.U, Pt.locs, Pt.cells, Pt.slots] at X216 l216 y216 z216 st216 hQ216
      subst l216 y216 z216
      obtain ⟨rfl, N216q, e216⟩ := hQ216
      have N216 := Fr.app N185 N216q
      have go217 : ∀ t_, Steps p.tables e below (T216.setTop (mkF m 178 #[.val (.int p1), .val (.int p2), .val (.int p3), .val (.int p4), .val (.int p5), .val (.int (2 : Int32)), .val (.ref y150b), .val (.ref y153b), .val (.ref y154b), .val (.ref b155), .val (.ref b170), .val (.ref wE), .val (.int (1 : Int32)), .val (.int p4), .val .null] [(.int (1 : Int32))])) t_ → Steps p.tables e below (s₁.setTop (entryFrame m #[(.int p1), (.int p2), (.int p3), (.int p4), (.int p5)] maxLocals)) t_ := by
        intro t_ k_
        refine go151 t_ ?_
        show Steps p.tables e below (T150.setTop (mkF m 21 #[.val (.int p1), .val (.int p2), .val (.int p3), .val (.int p4), .val (.int p5), .val (.int (2 : Int32)), .val (.ref y150b), .unset, .unset, .unset, .unset, .unset, .unset, .unset, .unset] [(.int p4), (.int (1 : Int32)), (.int p2)])) _
        refine st153 _ ?_
        show Steps p.tables e below (T153.setTop (mkF m 24 #[.val (.int p1), .val (.int p2), .val (.int p3), .val (.int p4), .val (.int p5), .val (.int (2 : Int32)), .val (.ref y150b), .unset, .unset, .unset, .unset, .unset, .unset, .unset, .unset] [(.ref y153b)])) _
        refine XS.astore X153.here hx rfl (hb hby at_24) rfl rfl (l' := #[.val (.int p1), .val (.int p2), .val (.int p3), .val (.int p4), .val (.int p5), .val (.int (2 : Int32)), .val (.ref y150b), .val (.ref y153b), .unset, .unset, .unset, .unset, .unset, .unset, .unset]) rfl ?_
        show Steps p.tables e below (T153.setTop (mkF m 26 #[.val (.int p1), .val (.int p2), .val (.int p3), .val (.int p4), .val (.int p5), .val (.int (2 : Int32)), .val (.ref y150b), .val (.ref y153b), .unset, .unset, .unset, .unset, .unset, .unset, .unset] [])) _
        refine XS.iloadN X153.here hx rfl (hb hby at_26) rfl ?_
        show Steps p.tables e below (T153.setTop (mkF m 27 #[.val (.int p1), .val (.int p2), .val (.int p3), .val (.int p4), .val (.int p5), .val (.int (2 : Int32)), .val (.ref y150b), .val (.ref y153b), .unset, .unset, .unset, .unset, .unset, .unset, .unset] [(.int p2)])) _
        refine XS.iconst X153.here hx rfl (hb hby at_27) ?_
        show Steps p.tables e below (T153.setTop (mkF m 28 #[.val (.int p1), .val (.int p2), .val (.int p3), .val (.int p4), .val (.int p5), .val (.int (2 : Int32)), .val (.ref y150b), .val (.ref y153b), .unset, .unset, .unset, .unset, .unset, .unset, .unset] [(.int (2 : Int32)), (.int p2)])) _
        refine XS.iload X153.here hx rfl (hb hby at_28) rfl ?_
        show Steps p.tables e below (T153.setTop (mkF m 30 #[.val (.int p1), .val (.int p2), .val (.int p3), .val (.int p4), .val (.int p5), .val (.int (2 : Int32)), .val (.ref y150b), .val (.ref y153b), .unset, .unset, .unset, .unset, .unset, .unset, .unset] [(.int p5), (.int (2 : Int32)), (.int p2)])) _
        refine st154 _ ?_
        show Steps p.tables e below (T154.setTop (mkF m 33 #[.val (.int p1), .val (.int p2), .val (.int p3), .val (.int p4), .val (.int p5), .val (.int (2 : Int32)), .val (.ref y150b), .val (.ref y153b), .unset, .unset, .unset, .unset, .unset, .unset, .unset] [(.ref y154b)])) _
        refine XS.astore X154.here hx rfl (hb hby at_33) rfl rfl (l' := #[.val (.int p1), .val (.int p2), .val (.int p3), .val (.int p4), .val (.int p5), .val (.int (2 : Int32)), .val (.ref y150b), .val (.ref y153b), .val (.ref y154b), .unset, .unset, .unset, .unset, .unset, .unset]) rfl ?_
        show Steps p.tables e below (T154.setTop (mkF m 35 #[.val (.int p1), .val (.int p2), .val (.int p3), .val (.int p4), .val (.int p5), .val (.int (2 : Int32)), .val (.ref y150b), .val (.ref y153b), .val (.ref y154b), .unset, .unset, .unset, .unset, .unset, .unset] [])) _
        refine st155 _ ?_
        show Steps p.tables e below (T155.setTop (mkF m 38 #[.val (.int p1), .val (.int p2), .val (.int p3), .val (.int p4), .val (.int p5), .val (.int (2 : Int32)), .val (.ref y150b), .val (.ref y153b), .val (.ref y154b), .unset, .unset, .unset, .unset, .unset, .unset] [(.ref b155)])) _
        refine XS.dup X155.here hx rfl (hb hby at_38) rfl rfl ?_
        show Steps p.tables e below (T155.setTop (mkF m 39 #[.val (.int p1), .val (.int p2), .val (.int p3), .val (.int p4), .val (.int p5), .val (.int (2 : Int32)), .val (.ref y150b), .val (.ref y153b), .val (.ref y154b), .unset, .unset, .unset, .unset, .unset, .unset] [(.ref b155), (.ref b155)])) _
        refine st159.trans ?_
        show Steps p.tables e below (T159.setTop (mkF m 42 #[.val (.int p1), .val (.int p2), .val (.int p3), .val (.int p4), .val (.int p5), .val (.int (2 : Int32)), .val (.ref y150b), .val (.ref y153b), .val (.ref y154b), .unset, .unset, .unset, .unset, .unset, .unset] [(.ref b155)])) _
        refine XS.astore X159.here hx rfl (hb hby at_42) rfl rfl (l' := #[.val (.int p1), .val (.int p2), .val (.int p3), .val (.int p4), .val (.int p5), .val (.int (2 : Int32)), .val (.ref y150b), .val (.ref y153b), .val (.ref y154b), .val (.ref b155), .unset, .unset, .unset, .unset, .unset]) rfl ?_
        show Steps p.tables e below (T159.setTop (mkF m 44 #[.val (.int p1), .val (.int p2), .val (.int p3), .val (.int p4), .val (.int p5), .val (.int (2 : Int32)), .val (.ref y150b), .val (.ref y153b), .val (.ref y154b), .val (.ref b155), .unset, .unset, .unset, .unset, .unset] [])) _
        refine XS.aload X159.here hx rfl (hb hby at_44) rfl rfl ?_
        show Steps p.tables e below (T159.setTop (mkF m 46 #[.val (.int p1), .val (.int p2), .val (.int p3), .val (.int p4), .val (.int p5), .val (.int (2 : Int32)), .val (.ref y150b), .val (.ref y153b), .val (.ref y154b), .val (.ref b155), .unset, .unset, .unset, .unset, .unset] [(.ref b155)])) _
        refine XS.aload X159.here hx rfl (hb hby at_46) rfl rfl ?_
        show Steps p.tables e below (T159.setTop (mkF m 48 #[.val (.int p1), .val (.int p2), .val (.int p3), .val (.int p4), .val (.int p5), .val (.int (2 : Int32)), .val (.ref y150b), .val (.ref y153b), .val (.ref y154b), .val (.ref b155), .unset, .unset, .unset, .unset, .unset] [(.ref y150b), (.ref b155)])) _
        refine st160.trans ?_
        show Steps p.tables e below (T160.setTop (mkF m 53 #[.val (.int p1), .val (.int p2), .val (.int p3), .val (.int p4), .val (.int p5), .val (.int (2 : Int32)), .val (.ref y150b), .val (.ref y153b), .val (.ref y154b), .val (.ref b155), .unset, .unset, .unset, .unset, .unset] [(.int (1 : Int32))])) _
        refine XS.pop X160.here hx rfl (hb hby at_53) rfl rfl ?_
        show Steps p.tables e below (T160.setTop (mkF m 54 #[.val (.int p1), .val (.int p2), .val (.int p3), .val (.int p4), .val (.int p5), .val (.int (2 : Int32)), .val (.ref y150b), .val (.ref y153b), .val (.ref y154b), .val (.ref b155), .unset, .unset, .unset, .unset, .unset] [])) _
        refine XS.iload X160.here hx rfl (hb hby at_54) rfl ?_
        show Steps p.tables e below (T160.setTop (mkF m 56 #[.val (.int p1), .val (.int p2), .val (.int p3), .val (.int p4), .val (.int p5), .val (.int (2 : Int32)), .val (.ref y150b), .val (.ref y153b), .val (.ref y154b), .val (.ref b155), .unset, .unset, .unset, .unset, .unset] [(.int (2 : Int32))])) _
        refine XS.iconst X160.here hx rfl (hb hby at_56) ?_
        show Steps p.tables e below (T160.setTop (mkF m 57 #[.val (.int p1), .val (.int p2), .val (.int p3), .val (.int p4), .val (.int p5), .val (.int (2 : Int32)), .val (.ref y150b), .val (.ref y153b), .val (.ref y154b), .val (.ref b155), .unset, .unset, .unset, .unset, .unset] [(.int (2 : Int32)), (.int (2 : Int32))])) _
        refine XS.icmpNo X160.here hx rfl (hb hby at_57) rfl (flt (by decide : ¬ ((2 : Int32) < (2 : Int32)))).1 ?_
        show Steps p.tables e below (T160.setTop (mkF m 60 #[.val (.int p1), .val (.int p2), .val (.int p3), .val (.int p4), .val (.int p5), .val (.int (2 : Int32)), .val (.ref y150b), .val (.ref y153b), .val (.ref y154b), .val (.ref b155), .unset, .unset, .unset, .unset, .unset] [])) _
        refine XS.aload X160.here hx rfl (hb hby at_60) rfl rfl ?_
        show Steps p.tables e below (T160.setTop (mkF m 62 #[.val (.int p1), .val (.int p2), .val (.int p3), .val (.int p4), .val (.int p5), .val (.int (2 : Int32)), .val (.ref y150b), .val (.ref y153b), .val (.ref y154b), .val (.ref b155), .unset, .unset, .unset, .unset, .unset] [(.ref b155)])) _
        refine XS.aload X160.here hx rfl (hb hby at_62) rfl rfl ?_
        show Steps p.tables e below (T160.setTop (mkF m 64 #[.val (.int p1), .val (.int p2), .val (.int p3), .val (.int p4), .val (.int p5), .val (.int (2 : Int32)), .val (.ref y150b), .val (.ref y153b), .val (.ref y154b), .val (.ref b155), .unset, .unset, .unset, .unset, .unset] [(.ref y153b), (.ref b155)])) _
        refine st165.trans ?_
        show Steps p.tables e below (T165.setTop (mkF m 69 #[.val (.int p1), .val (.int p2), .val (.int p3), .val (.int p4), .val (.int p5), .val (.int (2 : Int32)), .val (.ref y150b), .val (.ref y153b), .val (.ref y154b), .val (.ref b155), .unset, .unset, .unset, .unset, .unset] [(.int (1 : Int32))])) _
        refine XS.pop X165.here hx rfl (hb hby at_69) rfl rfl ?_
        show Steps p.tables e below (T165.setTop (mkF m 70 #[.val (.int p1), .val (.int p2), .val (.int p3), .val (.int p4), .val (.int p5), .val (.int (2 : Int32)), .val (.ref y150b), .val (.ref y153b), .val (.ref y154b), .val (.ref b155), .unset, .unset, .unset, .unset, .unset] [])) _
        refine XS.iload X165.here hx rfl (hb hby at_70) rfl ?_
        show Steps p.tables e below (T165.setTop (mkF m 72 #[.val (.int p1), .val (.int p2), .val (.int p3), .val (.int p4), .val (.int p5), .val (.int (2 : Int32)), .val (.ref y150b), .val (.ref y153b), .val (.ref y154b), .val (.ref b155), .unset, .unset, .unset, .unset, .unset] [(.int (2 : Int32))])) _
        refine XS.iconst X165.here hx rfl (hb hby at_72) ?_
        show Steps p.tables e below (T165.setTop (mkF m 73 #[.val (.int p1), .val (.int p2), .val (.int p3), .val (.int p4), .val (.int p5), .val (.int (2 : Int32)), .val (.ref y150b), .val (.ref y153b), .val (.ref y154b), .val (.ref b155), .unset, .unset, .unset, .unset, .unset] [(.int (3 : Int32)), (.int (2 : Int32))])) _
        refine XS.icmpYes X165.here hx rfl (pc0 := 73) (pc' := 86) rfl (hb hby at_73) rfl (tlt (by decide : (2 : Int32) < (3 : Int32))).1 (by decide) (by decide) ?_
        show Steps p.tables e below (T165.setTop (mkF m 86 #[.val (.int p1), .val (.int p2), .val (.int p3), .val (.int p4), .val (.int p5), .val (.int (2 : Int32)), .val (.ref y150b), .val (.ref y153b), .val (.ref y154b), .val (.ref b155), .unset, .unset, .unset, .unset, .unset] [])) _
        refine st170 _ ?_
        show Steps p.tables e below (T170.setTop (mkF m 89 #[.val (.int p1), .val (.int p2), .val (.int p3), .val (.int p4), .val (.int p5), .val (.int (2 : Int32)), .val (.ref y150b), .val (.ref y153b), .val (.ref y154b), .val (.ref b155), .unset, .unset, .unset, .unset, .unset] [(.ref b170)])) _
        refine XS.dup X170.here hx rfl (hb hby at_89) rfl rfl ?_
        show Steps p.tables e below (T170.setTop (mkF m 90 #[.val (.int p1), .val (.int p2), .val (.int p3), .val (.int p4), .val (.int p5), .val (.int (2 : Int32)), .val (.ref y150b), .val (.ref y153b), .val (.ref y154b), .val (.ref b155), .unset, .unset, .unset, .unset, .unset] [(.ref b170), (.ref b170)])) _
        refine st174 _ ?_
        show Steps p.tables e below (T174.setTop (mkF m 92 #[.val (.int p1), .val (.int p2), .val (.int p3), .val (.int p4), .val (.int p5), .val (.int (2 : Int32)), .val (.ref y150b), .val (.ref y153b), .val (.ref y154b), .val (.ref b155), .unset, .unset, .unset, .unset, .unset] [(.ref a174), (.ref b170), (.ref b170)])) _
        refine st175 _ ?_
        show Steps p.tables e below (T175.setTop (mkF m 94 #[.val (.int p1), .val (.int p2), .val (.int p3), .val (.int p4), .val (.int p5), .val (.int (2 : Int32)), .val (.ref y150b), .val (.ref y153b), .val (.ref y154b), .val (.ref b155), .unset, .unset, .unset, .unset, .unset] [(.ref a175), (.ref a174), (.ref b170), (.ref b170)])) _
        refine XS.aload X175.here hx rfl (hb hby at_94) rfl rfl ?_
        show Steps p.tables e below (T175.setTop (mkF m 96 #[.val (.int p1), .val (.int p2), .val (.int p3), .val (.int p4), .val (.int p5), .val (.int (2 : Int32)), .val (.ref y150b), .val (.ref y153b), .val (.ref y154b), .val (.ref b155), .unset, .unset, .unset, .unset, .unset] [(.ref b155), (.ref a175), (.ref a174), (.ref b170), (.ref b170)])) _
        refine st176.trans ?_
        show Steps p.tables e below (T176.setTop (mkF m 99 #[.val (.int p1), .val (.int p2), .val (.int p3), .val (.int p4), .val (.int p5), .val (.int (2 : Int32)), .val (.ref y150b), .val (.ref y153b), .val (.ref y154b), .val (.ref b155), .unset, .unset, .unset, .unset, .unset] [(.ref b170)])) _
        refine XS.astore X176.here hx rfl (hb hby at_99) rfl rfl (l' := #[.val (.int p1), .val (.int p2), .val (.int p3), .val (.int p4), .val (.int p5), .val (.int (2 : Int32)), .val (.ref y150b), .val (.ref y153b), .val (.ref y154b), .val (.ref b155), .val (.ref b170), .unset, .unset, .unset, .unset]) rfl ?_
        show Steps p.tables e below (T176.setTop (mkF m 101 #[.val (.int p1), .val (.int p2), .val (.int p3), .val (.int p4), .val (.int p5), .val (.int (2 : Int32)), .val (.ref y150b), .val (.ref y153b), .val (.ref y154b), .val (.ref b155), .val (.ref b170), .unset, .unset, .unset, .unset] [])) _
        refine XS.aload X176.here hx rfl (hb hby at_101) rfl rfl ?_
        show Steps p.tables e below (T176.setTop (mkF m 103 #[.val (.int p1), .val (.int p2), .val (.int p3), .val (.int p4), .val (.int p5), .val (.int (2 : Int32)), .val (.ref y150b), .val (.ref y153b), .val (.ref y154b), .val (.ref b155), .val (.ref b170), .unset, .unset, .unset, .unset] [(.ref b170)])) _
        refine st185.trans ?_
        show Steps p.tables e below (T185.setTop (mkF m 106 #[.val (.int p1), .val (.int p2), .val (.int p3), .val (.int p4), .val (.int p5), .val (.int (2 : Int32)), .val (.ref y150b), .val (.ref y153b), .val (.ref y154b), .val (.ref b155), .val (.ref b170), .unset, .unset, .unset, .unset] [(.ref wE)])) _
        refine XS.astore X185.here hx rfl (hb hby at_106) rfl rfl (l' := #[.val (.int p1), .val (.int p2), .val (.int p3), .val (.int p4), .val (.int p5), .val (.int (2 : Int32)), .val (.ref y150b), .val (.ref y153b), .val (.ref y154b), .val (.ref b155), .val (.ref b170), .val (.ref wE), .unset, .unset, .unset]) rfl ?_
        show Steps p.tables e below (T185.setTop (mkF m 108 #[.val (.int p1), .val (.int p2), .val (.int p3), .val (.int p4), .val (.int p5), .val (.int (2 : Int32)), .val (.ref y150b), .val (.ref y153b), .val (.ref y154b), .val (.ref b155), .val (.ref b170), .val (.ref wE), .unset, .unset, .unset] [])) _
        refine XS.iload X185.here hx rfl (hb hby at_108) rfl ?_
        show Steps p.tables e below (T185.setTop (mkF m 110 #[.val (.int p1), .val (.int p2), .val (.int p3), .val (.int p4), .val (.int p5), .val (.int (2 : Int32)), .val (.ref y150b), .val (.ref y153b), .val (.ref y154b), .val (.ref b155), .val (.ref b170), .val (.ref wE), .unset, .unset, .unset] [(.int (2 : Int32))])) _
        refine XS.iconst X185.here hx rfl (hb hby at_110) ?_
        show Steps p.tables e below (T185.setTop (mkF m 111 #[.val (.int p1), .val (.int p2), .val (.int p3), .val (.int p4), .val (.int p5), .val (.int (2 : Int32)), .val (.ref y150b), .val (.ref y153b), .val (.ref y154b), .val (.ref b155), .val (.ref b170), .val (.ref wE), .unset, .unset, .unset] [(.int (1 : Int32)), (.int (2 : Int32))])) _
        refine XS.isub X185.here hx rfl (hb hby at_111) rfl ?_
        show Steps p.tables e below (T185.setTop (mkF m 112 #[.val (.int p1), .val (.int p2), .val (.int p3), .val (.int p4), .val (.int p5), .val (.int (2 : Int32)), .val (.ref y150b), .val (.ref y153b), .val (.ref y154b), .val (.ref b155), .val (.ref b170), .val (.ref wE), .unset, .unset, .unset] [(.int (1 : Int32))])) _
        refine XS.istore X185.here hx rfl (hb hby at_112) rfl (l' := #[.val (.int p1), .val (.int p2), .val (.int p3), .val (.int p4), .val (.int p5), .val (.int (2 : Int32)), .val (.ref y150b), .val (.ref y153b), .val (.ref y154b), .val (.ref b155), .val (.ref b170), .val (.ref wE), .val (.int (1 : Int32)), .unset, .unset]) rfl ?_
        show Steps p.tables e below (T185.setTop (mkF m 114 #[.val (.int p1), .val (.int p2), .val (.int p3), .val (.int p4), .val (.int p5), .val (.int (2 : Int32)), .val (.ref y150b), .val (.ref y153b), .val (.ref y154b), .val (.ref b155), .val (.ref b170), .val (.ref wE), .val (.int (1 : Int32)), .unset, .unset] [])) _
        refine XS.iload X185.here hx rfl (hb hby at_114) rfl ?_
        show Steps p.tables e below (T185.setTop (mkF m 116 #[.val (.int p1), .val (.int p2), .val (.int p3), .val (.int p4), .val (.int p5), .val (.int (2 : Int32)), .val (.ref y150b), .val (.ref y153b), .val (.ref y154b), .val (.ref b155), .val (.ref b170), .val (.ref wE), .val (.int (1 : Int32)), .unset, .unset] [(.int (2 : Int32))])) _
        refine XS.iconst X185.here hx rfl (hb hby at_116) ?_
        show Steps p.tables e below (T185.setTop (mkF m 117 #[.val (.int p1), .val (.int p2), .val (.int p3), .val (.int p4), .val (.int p5), .val (.int (2 : Int32)), .val (.ref y150b), .val (.ref y153b), .val (.ref y154b), .val (.ref b155), .val (.ref b170), .val (.ref wE), .val (.int (1 : Int32)), .unset, .unset] [(.int (1 : Int32)), (.int (2 : Int32))])) _
        refine XS.icmpYes X185.here hx rfl (pc0 := 117) (pc' := 124) rfl (hb hby at_117) rfl (feq (by decide : ¬ ((2 : Int32) = (1 : Int32)))).2 (by decide) (by decide) ?_
        show Steps p.tables e below (T185.setTop (mkF m 124 #[.val (.int p1), .val (.int p2), .val (.int p3), .val (.int p4), .val (.int p5), .val (.int (2 : Int32)), .val (.ref y150b), .val (.ref y153b), .val (.ref y154b), .val (.ref b155), .val (.ref b170), .val (.ref wE), .val (.int (1 : Int32)), .unset, .unset] [])) _
        refine XS.iload X185.here hx rfl (hb hby at_124) rfl ?_
        show Steps p.tables e below (T185.setTop (mkF m 126 #[.val (.int p1), .val (.int p2), .val (.int p3), .val (.int p4), .val (.int p5), .val (.int (2 : Int32)), .val (.ref y150b), .val (.ref y153b), .val (.ref y154b), .val (.ref b155), .val (.ref b170), .val (.ref wE), .val (.int (1 : Int32)), .unset, .unset] [(.int (2 : Int32))])) _
        refine XS.iconst X185.here hx rfl (hb hby at_126) ?_
        show Steps p.tables e below (T185.setTop (mkF m 127 #[.val (.int p1), .val (.int p2), .val (.int p3), .val (.int p4), .val (.int p5), .val (.int (2 : Int32)), .val (.ref y150b), .val (.ref y153b), .val (.ref y154b), .val (.ref b155), .val (.ref b170), .val (.ref wE), .val (.int (1 : Int32)), .unset, .unset] [(.int (2 : Int32)), (.int (2 : Int32))])) _
        refine XS.icmpNo X185.here hx rfl (hb hby at_127) rfl (teq (by decide : (2 : Int32) = (2 : Int32))).2 ?_
        show Steps p.tables e below (T185.setTop (mkF m 130 #[.val (.int p1), .val (.int p2), .val (.int p3), .val (.int p4), .val (.int p5), .val (.int (2 : Int32)), .val (.ref y150b), .val (.ref y153b), .val (.ref y154b), .val (.ref b155), .val (.ref b170), .val (.ref wE), .val (.int (1 : Int32)), .unset, .unset] [])) _
        refine XS.iloadN X185.here hx rfl (hb hby at_130) rfl ?_
        show Steps p.tables e below (T185.setTop (mkF m 131 #[.val (.int p1), .val (.int p2), .val (.int p3), .val (.int p4), .val (.int p5), .val (.int (2 : Int32)), .val (.ref y150b), .val (.ref y153b), .val (.ref y154b), .val (.ref b155), .val (.ref b170), .val (.ref wE), .val (.int (1 : Int32)), .unset, .unset] [(.int p4)])) _
        refine XS.goto X185.here hx rfl (pc0 := 131) (pc' := 136) rfl (hb hby at_131) (by decide) (by decide) ?_
        show Steps p.tables e below (T185.setTop (mkF m 136 #[.val (.int p1), .val (.int p2), .val (.int p3), .val (.int p4), .val (.int p5), .val (.int (2 : Int32)), .val (.ref y150b), .val (.ref y153b), .val (.ref y154b), .val (.ref b155), .val (.ref b170), .val (.ref wE), .val (.int (1 : Int32)), .unset, .unset] [(.int p4)])) _
        refine XS.istore X185.here hx rfl (hb hby at_136) rfl (l' := #[.val (.int p1), .val (.int p2), .val (.int p3), .val (.int p4), .val (.int p5), .val (.int (2 : Int32)), .val (.ref y150b), .val (.ref y153b), .val (.ref y154b), .val (.ref b155), .val (.ref b170), .val (.ref wE), .val (.int (1 : Int32)), .val (.int p4), .unset]) rfl ?_
        show Steps p.tables e below (T185.setTop (mkF m 138 #[.val (.int p1), .val (.int p2), .val (.int p3), .val (.int p4), .val (.int p5), .val (.int (2 : Int32)), .val (.ref y150b), .val (.ref y153b), .val (.ref y154b), .val (.ref b155), .val (.ref b170), .val (.ref wE), .val (.int (1 : Int32)), .val (.int p4), .unset] [])) _
        refine XS.aconstNull X185.here hx rfl (hb hby at_138) ?_
        show Steps p.tables e below (T185.setTop (mkF m 139 #[.val (.int p1), .val (.int p2), .val (.int p3), .val (.int p4), .val (.int p5), .val (.int (2 : Int32)), .val (.ref y150b), .val (.ref y153b), .val (.ref y154b), .val (.ref b155), .val (.ref b170), .val (.ref wE), .val (.int (1 : Int32)), .val (.int p4), .unset] [.null])) _
        refine XS.astore X185.here hx rfl (hb hby at_139) rfl rfl (l' := #[.val (.int p1), .val (.int p2), .val (.int p3), .val (.int p4), .val (.int p5), .val (.int (2 : Int32)), .val (.ref y150b), .val (.ref y153b), .val (.ref y154b), .val (.ref b155), .val (.ref b170), .val (.ref wE), .val (.int (1 : Int32)), .val (.int p4), .val .null]) rfl ?_
        show Steps p.tables e below (T185.setTop (mkF m 141 #[.val (.int p1), .val (.int p2), .val (.int p3), .val (.int p4), .val (.int p5), .val (.int (2 : Int32)), .val (.ref y150b), .val (.ref y153b), .val (.ref y154b), .val (.ref b155), .val (.ref b170), .val (.ref wE), .val (.int (1 : Int32)), .val (.int p4), .val .null] [])) _
        refine XS.iloadN X185.here hx rfl (hb hby at_141) rfl ?_
        show Steps p.tables e below (T185.setTop (mkF m 142 #[.val (.int p1), .val (.int p2), .val (.int p3), .val (.int p4), .val (.int p5), .val (.int (2 : Int32)), .val (.ref y150b), .val (.ref y153b), .val (.ref y154b), .val (.ref b155), .val (.ref b170), .val (.ref wE), .val (.int (1 : Int32)), .val (.int p4), .val .null] [(.int p2)])) _
        refine XS.iload X185.here hx rfl (hb hby at_142) rfl ?_
        show Steps p.tables e below (T185.setTop (mkF m 144 #[.val (.int p1), .val (.int p2), .val (.int p3), .val (.int p4), .val (.int p5), .val (.int (2 : Int32)), .val (.ref y150b), .val (.ref y153b), .val (.ref y154b), .val (.ref b155), .val (.ref b170), .val (.ref wE), .val (.int (1 : Int32)), .val (.int p4), .val .null] [(.int (1 : Int32)), (.int p2)])) _
        refine XS.ishr X185.here hx rfl (hb hby at_144) rfl ?_
        show Steps p.tables e below (T185.setTop (mkF m 145 #[.val (.int p1), .val (.int p2), .val (.int p3), .val (.int p4), .val (.int p5), .val (.int (2 : Int32)), .val (.ref y150b), .val (.ref y153b), .val (.ref y154b), .val (.ref b155), .val (.ref b170), .val (.ref wE), .val (.int (1 : Int32)), .val (.int p4), .val .null] [(.int (p2 >>> ((1 : Int32) &&& 31)))])) _
        refine XS.iconst X185.here hx rfl (hb hby at_145) ?_
        show Steps p.tables e below (T185.setTop (mkF m 146 #[.val (.int p1), .val (.int p2), .val (.int p3), .val (.int p4), .val (.int p5), .val (.int (2 : Int32)), .val (.ref y150b), .val (.ref y153b), .val (.ref y154b), .val (.ref b155), .val (.ref b170), .val (.ref wE), .val (.int (1 : Int32)), .val (.int p4), .val .null] [(.int (1 : Int32)), (.int (p2 >>> ((1 : Int32) &&& 31)))])) _
        refine XS.iand X185.here hx rfl (hb hby at_146) rfl ?_
        show Steps p.tables e below (T185.setTop (mkF m 147 #[.val (.int p1), .val (.int p2), .val (.int p3), .val (.int p4), .val (.int p5), .val (.int (2 : Int32)), .val (.ref y150b), .val (.ref y153b), .val (.ref y154b), .val (.ref b155), .val (.ref b170), .val (.ref wE), .val (.int (1 : Int32)), .val (.int p4), .val .null] [(.int ((p2 >>> ((1 : Int32) &&& 31)) &&& (1 : Int32)))])) _
        refine XS.ifYes X185.here hx rfl (pc0 := 147) (pc' := 157) rfl (hb hby at_147) rfl ((if0 _ _).trans (teq hc152).1) (by decide) (by decide) ?_
        show Steps p.tables e below (T185.setTop (mkF m 157 #[.val (.int p1), .val (.int p2), .val (.int p3), .val (.int p4), .val (.int p5), .val (.int (2 : Int32)), .val (.ref y150b), .val (.ref y153b), .val (.ref y154b), .val (.ref b155), .val (.ref b170), .val (.ref wE), .val (.int (1 : Int32)), .val (.int p4), .val .null] [])) _
        refine XS.aload X185.here hx rfl (hb hby at_157) rfl rfl ?_
        show Steps p.tables e below (T185.setTop (mkF m 159 #[.val (.int p1), .val (.int p2), .val (.int p3), .val (.int p4), .val (.int p5), .val (.int (2 : Int32)), .val (.ref y150b), .val (.ref y153b), .val (.ref y154b), .val (.ref b155), .val (.ref b170), .val (.ref wE), .val (.int (1 : Int32)), .val (.int p4), .val .null] [(.ref wE)])) _
        refine XS.ifnullNo X185.here hx rfl (hb hby at_159) rfl ?_
        show Steps p.tables e below (T185.setTop (mkF m 162 #[.val (.int p1), .val (.int p2), .val (.int p3), .val (.int p4), .val (.int p5), .val (.int (2 : Int32)), .val (.ref y150b), .val (.ref y153b), .val (.ref y154b), .val (.ref b155), .val (.ref b170), .val (.ref wE), .val (.int (1 : Int32)), .val (.int p4), .val .null] [])) _
        refine XS.aload X185.here hx rfl (hb hby at_162) rfl rfl ?_
        show Steps p.tables e below (T185.setTop (mkF m 164 #[.val (.int p1), .val (.int p2), .val (.int p3), .val (.int p4), .val (.int p5), .val (.int (2 : Int32)), .val (.ref y150b), .val (.ref y153b), .val (.ref y154b), .val (.ref b155), .val (.ref b170), .val (.ref wE), .val (.int (1 : Int32)), .val (.int p4), .val .null] [(.ref wE)])) _
        refine XS.aconstNull X185.here hx rfl (hb hby at_164) ?_
        show Steps p.tables e below (T185.setTop (mkF m 165 #[.val (.int p1), .val (.int p2), .val (.int p3), .val (.int p4), .val (.int p5), .val (.int (2 : Int32)), .val (.ref y150b), .val (.ref y153b), .val (.ref y154b), .val (.ref b155), .val (.ref b170), .val (.ref wE), .val (.int (1 : Int32)), .val (.int p4), .val .null] [.null, (.ref wE)])) _
        refine st216.trans ?_
        show Steps p.tables e below (T216.setTop (mkF m 168 #[.val (.int p1), .val (.int p2), .val (.int p3), .val (.int p4), .val (.int p5), .val (.int (2 : Int32)), .val (.ref y150b), .val (.ref y153b), .val (.ref y154b), .val (.ref b155), .val (.ref b170), .val (.ref wE), .val (.int (1 : Int32)), .val (.int p4), .val .null] [.null])) _
        refine XS.aload X216.here hx rfl (hb hby at_168) rfl rfl ?_
        show Steps p.tables e below (T216.setTop (mkF m 170 #[.val (.int p1), .val (.int p2), .val (.int p3), .val (.int p4), .val (.int p5), .val (.int (2 : Int32)), .val (.ref y150b), .val (.ref y153b), .val (.ref y154b), .val (.ref b155), .val (.ref b170), .val (.ref wE), .val (.int (1 : Int32)), .val (.int p4), .val .null] [.null, .null])) _
        refine Jvm.RoadKit.acmp (g := (mkF m 170 #[.val (.int p1), .val (.int p2), .val (.int p3), .val (.int p4), .val (.int p5), .val (.int (2 : Int32)), .val (.ref y150b), .val (.ref y153b), .val (.ref y154b), .val (.ref b155), .val (.ref b170), .val (.ref wE), .val (.int (1 : Int32)), .val (.int p4), .val .null] [.null, .null])) X216 hx rfl rfl rfl (pc0 := 170) (pc' := 173) (same := true) rfl (hb hby at_170) rfl (decide_eq_true rfl) (by decide) (by decide) ?_
        show Steps p.tables e below (T216.setTop (mkF m 173 #[.val (.int p1), .val (.int p2), .val (.int p3), .val (.int p4), .val (.int p5), .val (.int (2 : Int32)), .val (.ref y150b), .val (.ref y153b), .val (.ref y154b), .val (.ref b155), .val (.ref b170), .val (.ref wE), .val (.int (1 : Int32)), .val (.int p4), .val .null] [])) _
        refine XS.iconst X216.here hx rfl (hb hby at_173) ?_
        show Steps p.tables e below (T216.setTop (mkF m 174 #[.val (.int p1), .val (.int p2), .val (.int p3), .val (.int p4), .val (.int p5), .val (.int (2 : Int32)), .val (.ref y150b), .val (.ref y153b), .val (.ref y154b), .val (.ref b155), .val (.ref b170), .val (.ref wE), .val (.int (1 : Int32)), .val (.int p4), .val .null] [(.int (1 : Int32))])) _
        refine XS.goto X216.here hx rfl (pc0 := 174) (pc' := 178) rfl (hb hby at_174) (by decide) (by decide) ?_
        exact k_
      obtain ⟨fs, hr, hrun, hended, hEW⟩ := X216.leaveW (s := s) hS175 (show k175 ≤ _ by rw [e216]; omega) (v := some (.int (1 : Int32))) (fun h => by rw [Bd.returns] at h; cases h)
      refine ⟨_, _, go217 _ ?_, hrun, hended, _, _, rfl, ?_, hEW.1, hEW.2.1, hEW.2.2.1, hEW.2.2.2.mono (by decide) (by decide)⟩
      · skip
        show Steps p.tables e below (T216.setTop (mkF m 178 #[.val (.int p1), .val (.int p2), .val (.int p3), .val (.int p4), .val (.int p5), .val (.int (2 : Int32)), .val (.ref y150b), .val (.ref y153b), .val (.ref y154b), .val (.ref b155), .val (.ref b170), .val (.ref wE), .val (.int (1 : Int32)), .val (.int p4), .val .null] [(.int (1 : Int32))])) _
        exact retN X216 hx (t := .boolean) Bd.returns (by simp) (hb hby at_178) hr
      · show Q_rm0 Z p1 p2 p3 p4 p5 W ed kd wE h0 n0 _ T216.heap _
        rw [e216]
        exact ⟨rfl, N216⟩
    · skip
      obtain ⟨_, _, ⟨T218, L218, k218, n218⟩, -, X218, ⟨Lc218, hQ218, l218, y218, z218⟩, st218⟩ := Jvm.LawKit.callS X150 hx (y := (⟨"com/example/maksu/maksu/catalog/PlanBillingPeriodPinLaw", "phase", "(III)Lcom/example/maksu/maksu/catalog/Phase;"⟩ : MethodName)) hown (mvT hZ hw_1) (mvT hZ hw_2) (mvT hZ hw_3) (mvT hZ hw_4) (by decide) (backOf (W := 0) (rmPh1 l Z a0 hw [] p2 (1 : Int32) p4 W T150.heap n0 Z150 BPs hc152 O150) hZ hw_4 hw_3 (by decide) (by decide)) (g := (mkF m 21 #[.val (.int p1), .val (.int p2), .val (.int p3), .val (.int p4), .val (.int p5), .val (.int (2 : Int32)), .val (.ref y150b), .unset, .unset, .unset, .unset, .unset, .unset, .unset, .unset] [(.int p4), (.int (1 : Int32)), (.int p2)])) rfl (by rw [hml]; rfl) (argsL := [(.int p2), (.int (1 : Int32)), (.int p4)]) (rest := []) (lenOf pd_15 rfl) rfl (by show 2 * 0 + _ ≤ _; exact Nat.le_of_eq rfl) (hb hby at_21) (fun _ _ => ⟨rfl, rfl, (by decide : 3 + 3 ≤ _), (by decide : 22 + 22 ≤ _)⟩)
      dsimp only [Pt.U, Pt.locs, Pt.cells, Pt.slots] at X218 l218 y218 z218 st218 hQ218
      subst l218 y218 z218
      obtain ⟨y218b, y218r, rfl, N218q, Kc218, lo218, hi218, lr218, hr218_, Ec218, Fc218, Er218, Fb218⟩ := hQ218
      have N218 := Fr.app N150 N218q
      have sz218 : T150.heap.size ≤ T218.heap.size := Kc218.1
      have Z218 : n0 ≤ T218.heap.size := Nat.le_trans Z150 sz218
      have O218 : Old Z n0 T218.heap := O150.keep Kc218 all0
      obtain ⟨_, _, ⟨T219, L219, k219, n219⟩, -, X219, ⟨Lc219, hQ219, l219, y219, z219⟩, st219⟩ := Jvm.LawKit.callS X218 hx (y := (⟨"com/example/maksu/maksu/catalog/PlanBillingPeriodPinLaw", "phase", "(III)Lcom/example/maksu/maksu/catalog/Phase;"⟩ : MethodName)) hown (mvT hZ hw_1) (mvT hZ hw_2) (mvT hZ hw_3) (mvT hZ hw_4) (by decide) (backOf (W := 0) (rmPhA l Z a0 hw [] p2 (2 : Int32) p5 W T218.heap n0 Z218 BPs O218) hZ hw_4 hw_3 (by decide) (by decide)) (g := (mkF m 30 #[.val (.int p1), .val (.int p2), .val (.int p3), .val (.int p4), .val (.int p5), .val (.int (2 : Int32)), .val (.ref y150b), .val (.ref y218b), .unset, .unset, .unset, .unset, .unset, .unset, .unset] [(.int p5), (.int (2 : Int32)), (.int p2)])) rfl (by rw [hml]; rfl) (argsL := [(.int p2), (.int (2 : Int32)), (.int p5)]) (rest := []) (lenOf pd_15 rfl) rfl (by show 2 * 0 + _ ≤ _; exact Nat.le_of_eq rfl) (hb hby at_30) (fun _ _ => ⟨rfl, rfl, (by decide : 6 + 3 ≤ _), (by decide : 44 + 22 ≤ _)⟩)
      dsimp only [Pt.U, Pt.locs, Pt.cells, Pt.slots] at X219 l219 y219 z219 st219 hQ219
      subst l219 y219 z219
      obtain ⟨y219b, rfl, N219q, Kc219, lo219, hi219, Ec219⟩ := hQ219
      have N219 := Fr.app N218 N219q
      have sz219 : T218.heap.size ≤ T219.heap.size := Kc219.1
      have Z219 : n0 ≤ T219.heap.size := Nat.le_trans Z218 sz219
      have O219 : Old Z n0 T219.heap := O218.keep Kc219 all0
      obtain ⟨T220, h220, X220, e220, E220, A220, D220, -, st220⟩ := newO X219 hx hZ hown hw_77 hw_78 hw_79 rfl (g := (mkF m 35 #[.val (.int p1), .val (.int p2), .val (.int p3), .val (.int p4), .val (.int p5), .val (.int (2 : Int32)), .val (.ref y150b), .val (.ref y218b), .val (.ref y219b), .unset, .unset, .unset, .unset, .unset, .unset] [])) rfl (hb hby at_35) (by decide) (by decide)
      obtain ⟨b220, g220⟩ : ∃ z, z = T219.heap.size := ⟨_, rfl⟩
      rw [← g220] at A220 D220 st220
      have lt220 : b220 < h220.size := A220.lt
      have sz220 : T219.heap.size ≤ h220.size := E220.1
      have Z220 : n0 ≤ h220.size := Nat.le_trans Z219 sz220
      have O220 : Old Z n0 h220 := O219.ext E220
      have F221 : Fld Z h220 b220 "java/util/AbstractList" "modCount" "I" (.int (0 : Int32)) := D220 (Or.inl hw_97) (ty := .int) (by decide)
      have F222 : Fld Z h220 b220 "java/util/ArrayList" "elementData" "[Ljava/lang/Object;" .null := D220 (Or.inl hw_100) (ty := (.array (.object "java/lang/Object"))) (by decide)
      have F223 : Fld Z h220 b220 "java/util/ArrayList" "size" "I" (.int (0 : Int32)) := D220 (Or.inl hw_113) (ty := .int) (by decide)
      obtain ⟨_, _, ⟨T224, L224, k224, n224⟩, -, X224, ⟨Lc224, hQ224, l224, y224, z224⟩, st224⟩ := X220.specialBack hx (y := (⟨"java/util/ArrayList", "<init>", "()V"⟩ : MethodName)) rfl hown (mvT hZ hw_80) (mvT hZ hw_81) (mvT hZ hw_82) (by decide) (backOf (W := 1) (rmALI l Z a0 hw [] b220 ed h220 n0 Z220 A220 F221 F223 F222 (by omega) S_D O220) hZ hw_82 hw_79 (by decide) (by decide)) (g := (mkF m 39 #[.val (.int p1), .val (.int p2), .val (.int p3), .val (.int p4), .val (.int p5), .val (.int (2 : Int32)), .val (.ref y150b), .val (.ref y218b), .val (.ref y219b), .unset, .unset, .unset, .unset, .unset, .unset] [(.ref b220), (.ref b220)])) rfl (by rw [hml]; rfl) (Steps.refl _) (a := b220) (argsL := []) (rest := [(.ref b220)]) (lenOf pd_0 rfl) rfl (by show 2 * 0 + _ ≤ _; exact Nat.le_of_eq rfl) (hb hby at_39) (fun _ _ => ⟨rfl, e220, (by decide : 10 + 0 ≤ _), (by decide : 69 + 0 ≤ _)⟩)
      dsimp only [Pt.U, Pt.locs, Pt.cells, Pt.slots] at X224 l224 y224 z224 st224 hQ224
      subst l224 y224 z224
      obtain ⟨rfl, N224q, Kc224, Ec224, Fm224, Fs224, Fe224⟩ := hQ224
      have N224 := Fr.app N219 N224q
      have sz224 : h220.size ≤ T224.heap.size := Kc224.1
      have Z224 : n0 ≤ T224.heap.size := Nat.le_trans Z220 sz224
      have O224 : Old Z n0 T224.heap := O220.keep Kc224 (allS (show n0 ≤ b220 by omega) all0)
      have f226 := (Ec150.keep Kc218)
      have f227 := (f226.keep Kc219)
      have f228 := (f227.ext E220)
      have f229 := (f228.keep Kc224)
      obtain ⟨cq225, kq225, q225a, q225b, q225c⟩ := isOf hZ rfl Ec224
      obtain ⟨_, _, ⟨T225, L225, k225, n225⟩, -, X225, ⟨Lc225, hQ225, l225, y225, z225⟩, st225⟩ := X224.interfaceBack hx (xi := (⟨"java/util/List", "add", "(Ljava/lang/Object;)Z"⟩ : MethodName)) (y := (⟨"java/util/ArrayList", "add", "(Ljava/lang/Object;)Z"⟩ : MethodName)) hown (mvT hZ hw_101) (mvT hZ hw_102) (mvT hZ hw_103) (mvT hZ hw_104) (mvT hZ hw_105) (mvT hZ hw_106) (mvT hZ hw_107) (mvT hZ hw_108) (by decide) (backOf (W := 0) (rmAd0 l Z a0 hw [] b220 y150b ed kd (0 : Int32) T224.heap n0 Z224 Ec224 Fm224 Fs224 Fe224 (by omega) (by omega) S_D V_D f229 (by omega) O224) hZ hw_109 hw_79 (by decide) (by decide)) q225a q225b q225c (g := (mkF m 48 #[.val (.int p1), .val (.int p2), .val (.int p3), .val (.int p4), .val (.int p5), .val (.int (2 : Int32)), .val (.ref y150b), .val (.ref y218b), .val (.ref y219b), .val (.ref b220), .unset, .unset, .unset, .unset, .unset] [(.ref y150b), (.ref b220)])) rfl (by rw [hml]; rfl) (Steps.refl _) (argsL := [(.ref y150b)]) (rest := []) (lenOf pd_16 rfl) rfl (by show 2 * 0 + _ ≤ _; exact Nat.le_of_eq rfl) (hb hby at_48) (fun _ _ => ⟨rfl, rfl, (by decide : 10 + 1 ≤ _), (by decide : 69 + 10 ≤ _)⟩)
      dsimp only [Pt.U, Pt.locs, Pt.cells, Pt.slots] at X225 l225 y225 z225 st225 hQ225
      subst l225 y225 z225
      obtain ⟨y225b, y225k, rfl, N225q, Kc225, lo225, hi225, Ec225, Fm225, Fs225, Fe225, Ov225, Vc225⟩ := hQ225
      have N225 := Fr.app N224 N225q
      have sz225 : T224.heap.size ≤ T225.heap.size := Kc225.1
      have Z225 : n0 ≤ T225.heap.size := Nat.le_trans Z224 sz225
      have O225 : Old Z n0 T225.heap := O224.keep Kc225 (allS (show n0 ≤ b220 by omega) all0)
      have f231 := (Ec218.keep Kc219)
      have f232 := (f231.ext E220)
      have f233 := (f232.keep Kc224)
      have f234 := (f233.keep Kc225)
      obtain ⟨cq230, kq230, q230a, q230b, q230c⟩ := isOf hZ rfl Ec225
      obtain ⟨_, _, ⟨T230, L230, k230, n230⟩, -, X230, ⟨Lc230, hQ230, l230, y230, z230⟩, st230⟩ := X225.interfaceBack hx (xi := (⟨"java/util/List", "add", "(Ljava/lang/Object;)Z"⟩ : MethodName)) (y := (⟨"java/util/ArrayList", "add", "(Ljava/lang/Object;)Z"⟩ : MethodName)) hown (mvT hZ hw_101) (mvT hZ hw_102) (mvT hZ hw_103) (mvT hZ hw_104) (mvT hZ hw_105) (mvT hZ hw_106) (mvT hZ hw_107) (mvT hZ hw_108) (by decide) (backOf (W := 0) (rmAd1 l Z a0 hw [] b220 y218b y225b y225k ((0 : Int32) + (1 : Int32)) y150b T225.heap n0 Z225 Ec225 Fm225 Fs225 Fe225 (by omega) (by omega) (show b220 ≠ y225b by omega) Ov225 Vc225 f234) hZ hw_109 hw_79 (by decide) (by decide)) q230a q230b q230c (g := (mkF m 64 #[.val (.int p1), .val (.int p2), .val (.int p3), .val (.int p4), .val (.int p5), .val (.int (2 : Int32)), .val (.ref y150b), .val (.ref y218b), .val (.ref y219b), .val (.ref b220), .unset, .unset, .unset, .unset, .unset] [(.ref y218b), (.ref b220)])) rfl (by rw [hml]; rfl) (Steps.refl _) (argsL := [(.ref y218b)]) (rest := []) (lenOf pd_16 rfl) rfl (by show 2 * 0 + _ ≤ _; exact Nat.le_of_eq rfl) (hb hby at_64) (fun _ _ => ⟨rfl, rfl, (by decide : 11 + 0 ≤ _), (by decide : 79 + 0 ≤ _)⟩)
      dsimp only [Pt.U, Pt.locs, Pt.cells, Pt.slots] at X230 l230 y230 z230 st230 hQ230
      subst l230 y230 z230
      obtain ⟨rfl, N230q, Kc230, Ec230, Fm230, Fs230, Fe230, Vc230⟩ := hQ230
      have N230 := Fr.app N225 N230q
      have sz230 : T225.heap.size ≤ T230.heap.size := Kc230.1
      have Z230 : n0 ≤ T230.heap.size := Nat.le_trans Z225 sz230
      have O230 : Old Z n0 T230.heap := O225.keep Kc230 (allS (show n0 ≤ b220 by omega) (allS (show n0 ≤ y225b by omega) all0))
      obtain ⟨T235, h235, X235, e235, E235, A235, D235, -, st235⟩ := newO X230 hx hZ hown hw_136 hw_137 hw_138 rfl (g := (mkF m 86 #[.val (.int p1), .val (.int p2), .val (.int p3), .val (.int p4), .val (.int p5), .val (.int (2 : Int32)), .val (.ref y150b), .val (.ref y218b), .val (.ref y219b), .val (.ref b220), .unset, .unset, .unset, .unset, .unset] [])) rfl (hb hby at_86) (by decide) (by decide)
      obtain ⟨b235, g235⟩ : ∃ z, z = T230.heap.size := ⟨_, rfl⟩
      rw [← g235] at A235 D235 st235
      have lt235 : b235 < h235.size := A235.lt
      have sz235 : T230.heap.size ≤ h235.size := E235.1
      have Z235 : n0 ≤ h235.size := Nat.le_trans Z230 sz235
      have O235 : Old Z n0 h235 := O230.ext E235
      have F236 : Fld Z h235 b235 "com/example/maksu/maksu/catalog/Plan" "name" "Ljava/lang/String;" .null := D235 (Or.inr hw_153) (ty := (.object "java/lang/String")) (by decide)
      have F237 : Fld Z h235 b235 "com/example/maksu/maksu/catalog/Plan" "product" "Ljava/lang/String;" .null := D235 (Or.inr hw_155) (ty := (.object "java/lang/String")) (by decide)
      have F238 : Fld Z h235 b235 "com/example/maksu/maksu/catalog/Plan" "phases" "Ljava/util/List;" .null := D235 (Or.inr hw_157) (ty := (.object "java/util/List")) (by decide)
      have wS : ∀ a ∈ Bundle.stringAtoms, a.before a0 Z = true := by
        intro a ha
        simp only [Bundle.stringAtoms, List.mem_cons, List.not_mem_nil, or_false] at ha
        rcases ha with rfl | rfl | rfl | rfl | rfl | rfl | rfl
        · exact hw_140
        · exact hw_141
        · exact hw_142
        · exact hw_143
        · exact hw_144
        · exact hw_145
        · exact hw_146
      have Xw : Stand p l e room_1 (s.setVm s.vm) m #[(.int p1), (.int p2), (.int p3), (.int p4), (.int p5)] below meth c T235 _ _ _ := X235
      obtain ⟨a239, T239, h239, k239, X239, e239, E239, hS239, hk239, hZ239, hown239, st239⟩ := ldcS (s := s) (vm0 := s.vm) Xw hx hZ hown hw_139 wS e235 ((State.WarmedH.refl s).since 0) (Nat.zero_le _) (g := (mkF m 90 #[.val (.int p1), .val (.int p2), .val (.int p3), .val (.int p4), .val (.int p5), .val (.int (2 : Int32)), .val (.ref y150b), .val (.ref y218b), .val (.ref y219b), .val (.ref b220), .unset, .unset, .unset, .unset, .unset] [(.ref b235), (.ref b235)])) rfl (hb hby at_90) (n := 32) (by decide) (by decide) (by decide) (by decide)
      have sz239 : h235.size ≤ h239.size := E239.1
      have Z239 : n0 ≤ h239.size := Nat.le_trans Z235 sz239
      have O239 : Old Z n0 h239 := O235.ext E239
      obtain ⟨a240, T240, h240, k240, X240, e240, E240, hS240, hk240, hZ240, hown240, st240⟩ := ldcS (s := s) (vm0 := T239.vm) X239 hx hZ239 hown239 hw_147 wS e239 hS239 (show k239 ≤ _ by omega) (g := (mkF m 92 #[.val (.int p1), .val (.int p2), .val (.int p3), .val (.int p4), .val (.int p5), .val (.int (2 : Int32)), .val (.ref y150b), .val (.ref y218b), .val (.ref y219b), .val (.ref b220), .unset, .unset, .unset, .unset, .unset] [(.ref a239), (.ref b235), (.ref b235)])) rfl (hb hby at_92) (n := 24) (by decide) (by decide) (by decide) (by decide)
      have sz240 : h239.size ≤ h240.size := E240.1
      have Z240 : n0 ≤ h240.size := Nat.le_trans Z239 sz240
      have O240 : Old Z n0 h240 := O239.ext E240
      have f242 := (A235.ext E239)
      have f243 := (f242.ext E240)
      have f244 := (F236.ext E239)
      have f245 := (f244.ext E240)
      have f246 := (F237.ext E239)
      have f247 := (f246.ext E240)
      have f248 := (F238.ext E239)
      have f249 := (f248.ext E240)
      obtain ⟨_, _, ⟨T241, L241, k241, n241⟩, -, X241, ⟨Lc241, hQ241, l241, y241, z241⟩, st241⟩ := X240.specialBack hx (y := (⟨"com/example/maksu/maksu/catalog/Plan", "<init>", "(Ljava/lang/String;Ljava/lang/String;Ljava/util/List;)V"⟩ : MethodName)) rfl hown240 (mvT hZ240 hw_148) (mvT hZ240 hw_149) (mvT hZ240 hw_150) (by decide) (backOf (W := 1) (rmPln l Z a0 hw [] b235 a239 a240 b220 h240 n0 Z240 f243 f245 f247 f249 (by omega)) hZ240 hw_150 hw_138 (by decide) (by decide)) (g := (mkF m 96 #[.val (.int p1), .val (.int p2), .val (.int p3), .val (.int p4), .val (.int p5), .val (.int (2 : Int32)), .val (.ref y150b), .val (.ref y218b), .val (.ref y219b), .val (.ref b220), .unset, .unset, .unset, .unset, .unset] [(.ref b220), (.ref a240), (.ref a239), (.ref b235), (.ref b235)])) rfl (by rw [hml]; rfl) (Steps.refl _) (a := b235) (argsL := [(.ref a239), (.ref a240), (.ref b220)]) (rest := [(.ref b235)]) (lenOf pd_17 rfl) rfl (by show 2 * 0 + _ ≤ _; exact Nat.le_of_eq rfl) (hb hby at_96) (fun _ _ => ⟨rfl, e240, (by decide : 16 + 0 ≤ _), (by decide : 146 + 0 ≤ _)⟩)
      dsimp only [Pt.U, Pt.locs, Pt.cells, Pt.slots] at X241 l241 y241 z241 st241 hQ241
      subst l241 y241 z241
      obtain ⟨rfl, N241q, Kc241, Ec241, Fc241⟩ := hQ241
      have N241 := Fr.app N230 N241q
      have sz241 : h240.size ≤ T241.heap.size := Kc241.1
      have Z241 : n0 ≤ T241.heap.size := Nat.le_trans Z240 sz241
      have O241 : Old Z n0 T241.heap := O240.keep Kc241 (allS (show n0 ≤ b235 by omega) all0)
      have f251 := (Ec230.ext E235)
      have f252 := (f251.ext E239)
      have f253 := (f252.ext E240)
      have f254 := (f253.keep Kc241)
      have f255 := (Fs230.ext E235)
      have f256 := (f255.ext E239)
      have f257 := (f256.ext E240)
      have f258 := (f257.keep Kc241 (ninS (show b220 ≠ b235 by omega) nin0))
      have f259 := (Fe230.ext E235)
      have f260 := (f259.ext E239)
      have f261 := (f260.ext E240)
      have f262 := (f261.keep Kc241 (ninS (show b220 ≠ b235 by omega) nin0))
      have f263 := (Vc230.ext E235)
      have f264 := (f263.ext E239)
      have f265 := (f264.ext E240)
      have f266 := (f265.keep Kc241 (ninS (show y225b ≠ b235 by omega) nin0))
      have f267 := (f234.keep Kc230)
      have f268 := (f267.ext E235)
      have f269 := (f268.ext E239)
      have f270 := (f269.ext E240)
      have f271 := (f270.keep Kc241)
      have f272 := (Fc218.keep Kc219 nin0)
      have f273 := (f272.ext E220)
      have f274 := (f273.keep Kc224 (ninS (show y218b ≠ b220 by omega) nin0))
      have f275 := (f274.keep Kc225 (ninS (show y218b ≠ b220 by omega) nin0))
      have f276 := (f275.keep Kc230 (ninS (show y218b ≠ b220 by omega) (ninS (show y218b ≠ y225b by omega) nin0)))
      have f277 := (f276.ext E235)
      have f278 := (f277.ext E239)
      have f279 := (f278.ext E240)
      have f280 := (f279.keep Kc241 (ninS (show y218b ≠ b235 by omega) nin0))
      have f281 := (Er218.keep Kc219)
      have f282 := (f281.ext E220)
      have f283 := (f282.keep Kc224)
      have f284 := (f283.keep Kc225)
      have f285 := (f284.keep Kc230)
      have f286 := (f285.ext E235)
      have f287 := (f286.ext E239)
      have f288 := (f287.ext E240)
      have f289 := (f288.keep Kc241)
      have f290 := (Fb218.keep Kc219 nin0)
      have f291 := (f290.ext E220)
      have f292 := (f291.keep Kc224 (ninS (show y218r ≠ b220 by omega) nin0))
      have f293 := (f292.keep Kc225 (ninS (show y218r ≠ b220 by omega) nin0))
      have f294 := (f293.keep Kc230 (ninS (show y218r ≠ b220 by omega) (ninS (show y218r ≠ y225b by omega) nin0)))
      have f295 := (f294.ext E235)
      have f296 := (f295.ext E239)
      have f297 := (f296.ext E240)
      have f298 := (f297.keep Kc241 (ninS (show y218r ≠ b235 by omega) nin0))
      obtain ⟨cq250, kq250, q250a, q250b, q250c⟩ := isOf hZ240 rfl Ec241
      obtain ⟨_, _, ⟨T250, L250, k250, n250⟩, -, X250, ⟨Lc250, hQ250, l250, y250, z250⟩, st250⟩ := X241.virtualBack hx (y := (⟨"com/example/maksu/maksu/catalog/Plan", "billingPeriod", "()Ljava/util/Optional;"⟩ : MethodName)) (z := (⟨"com/example/maksu/maksu/catalog/Plan", "billingPeriod", "()Ljava/util/Optional;"⟩ : MethodName)) hown240 (mvT hZ240 hw_158) (mvT hZ240 hw_159) (notFace_of_selects (args := #[]) (mvT hZ240 hw_161)) (mvT hZ240 hw_161) (mvT hZ240 hw_160) (by decide) (backOf (W := 0) (rmBP1 l Z a0 hw [] b235 b220 (2 : Int32) y225b y225k [(.ref y150b), (.ref y218b), .null, .null, .null, .null, .null, .null, .null, .null] y218b y218r (own_pk W p4) T241.heap n0 Z241 Fc241 f254 f258 f262 f266 ⟨by decide, by decide⟩ rfl (by decide) (by decide) f271 f280 f289 f298) hZ240 hw_162 hw_138 (by decide) (by decide)) q250a q250c (g := (mkF m 103 #[.val (.int p1), .val (.int p2), .val (.int p3), .val (.int p4), .val (.int p5), .val (.int (2 : Int32)), .val (.ref y150b), .val (.ref y218b), .val (.ref y219b), .val (.ref b220), .val (.ref b235), .unset, .unset, .unset, .unset] [(.ref b235)])) rfl (by rw [hml]; rfl) (Steps.refl _) (argsL := []) (rest := []) (lenOf pd_18 rfl) rfl (by show 2 * 0 + _ ≤ _; exact Nat.le_of_eq rfl) (hb hby at_103) (fun _ _ => ⟨rfl, rfl, (by decide : 16 + 1 ≤ _), (by decide : 146 + 1 ≤ _)⟩)
      dsimp only [Pt.U, Pt.locs, Pt.cells, Pt.slots] at X250 l250 y250 z250 st250 hQ250
      subst l250 y250 z250
      obtain ⟨y250b, rfl, N250q, Kc250, lo250, hi250, Ec250, Fc250⟩ := hQ250
      have N250 := Fr.app N241 N250q
      have sz250 : T241.heap.size ≤ T250.heap.size := Kc250.1
      have Z250 : n0 ≤ T250.heap.size := Nat.le_trans Z241 sz250
      have O250 : Old Z n0 T250.heap := O241.keep Kc250 all0
      obtain ⟨_, _, ⟨T299, L299, k299, n299⟩, -, X299, ⟨Lc299, hQ299, l299, y299, z299⟩, st299⟩ := Jvm.LawKit.callS X250 hx (y := (⟨"com/example/maksu/maksu/catalog/PlanBillingPeriodPinLaw", "pick", "(I)Lcom/example/maksu/maksu/catalog/BillingPeriod;"⟩ : MethodName)) hown240 (mvT hZ240 hw_8) (mvT hZ240 hw_9) (mvT hZ240 hw_3) (mvT hZ240 hw_10) (by decide) (backOf (W := 0) (rmPick l Z a0 hw [] p4 W T250.heap n0 Z250 BPs O250) hZ240 hw_10 hw_3 (by decide) (by decide)) (g := (mkF m 152 #[.val (.int p1), .val (.int p2), .val (.int p3), .val (.int p4), .val (.int p5), .val (.int (2 : Int32)), .val (.ref y150b), .val (.ref y218b), .val (.ref y219b), .val (.ref b220), .val (.ref b235), .val (.ref y250b), .val (.int (1 : Int32)), .val (.int p4), .val .null] [(.int p4)])) rfl (by rw [hml]; rfl) (argsL := [(.int p4)]) (rest := []) (lenOf pd_2 rfl) rfl (by show 2 * 0 + _ ≤ _; exact Nat.le_of_eq rfl) (hb hby at_152) (fun _ _ => ⟨rfl, rfl, (by decide : 17 + 1 ≤ _), (by decide : 147 + 16 ≤ _)⟩)
      dsimp only [Pt.U, Pt.locs, Pt.cells, Pt.slots] at X299 l299 y299 z299 st299 hQ299
      subst l299 y299 z299
      obtain ⟨rfl, N299q, Kc299⟩ := hQ299
      have N299 := Fr.app N250 N299q
      have sz299 : T250.heap.size ≤ T299.heap.size := Kc299.1
      have Z299 : n0 ≤ T299.heap.size := Nat.le_trans Z250 sz299
      have O299 : Old Z n0 T299.heap := O250.keep Kc299 all0
      have f301 := (Fc250.keep Kc299 nin0)
      have f302 := (Ec250.keep Kc299)
      obtain ⟨cq300, kq300, q300a, q300b, q300c⟩ := isOf hZ240 rfl f302
      obtain ⟨_, _, ⟨T300, L300, k300, n300⟩, -, X300, ⟨Lc300, hQ300, l300, y300, z300⟩, st300⟩ := X299.virtualBack hx (y := (⟨"java/util/Optional", "orElse", "(Ljava/lang/Object;)Ljava/lang/Object;"⟩ : MethodName)) (z := (⟨"java/util/Optional", "orElse", "(Ljava/lang/Object;)Ljava/lang/Object;"⟩ : MethodName)) hown240 (mvT hZ240 hw_217) (mvT hZ240 hw_218) (notFace_of_selects (args := #[]) (mvT hZ240 hw_220)) (mvT hZ240 hw_220) (mvT hZ240 hw_219) (by decide) (backOf (W := 0) (rmOr1 l Z a0 hw [] y250b (own_pk W p4) T299.heap n0 Z299 f301) hZ240 hw_221 hw_206 (by decide) (by decide)) q300a q300c (g := (mkF m 165 #[.val (.int p1), .val (.int p2), .val (.int p3), .val (.int p4), .val (.int p5), .val (.int (2 : Int32)), .val (.ref y150b), .val (.ref y218b), .val (.ref y219b), .val (.ref b220), .val (.ref b235), .val (.ref y250b), .val (.int (1 : Int32)), .val (.int p4), .val (.ref (own_pk W p4))] [.null, (.ref y250b)])) rfl (by rw [hml]; rfl) (Steps.refl _) (argsL := [.null]) (rest := []) (lenOf pd_19 rfl) rfl (by show 2 * 0 + _ ≤ _; exact Nat.le_of_eq rfl) (hb hby at_165) (fun _ _ => ⟨rfl, rfl, (by decide : 18 + 0 ≤ _), (by decide : 163 + 0 ≤ _)⟩)
      dsimp only [Pt.U, Pt.locs, Pt.cells, Pt.slots] at X300 l300 y300 z300 st300 hQ300
      subst l300 y300 z300
      obtain ⟨rfl, N300q, e300⟩ := hQ300
      have N300 := Fr.app N299 N300q
      have go303 : ∀ t_, Steps p.tables e below (T300.setTop (mkF m 178 #[.val (.int p1), .val (.int p2), .val (.int p3), .val (.int p4), .val (.int p5), .val (.int (2 : Int32)), .val (.ref y150b), .val (.ref y218b), .val (.ref y219b), .val (.ref b220), .val (.ref b235), .val (.ref y250b), .val (.int (1 : Int32)), .val (.int p4), .val (.ref (own_pk W p4))] [(.int (1 : Int32))])) t_ → Steps p.tables e below (s₁.setTop (entryFrame m #[(.int p1), (.int p2), (.int p3), (.int p4), (.int p5)] maxLocals)) t_ := by
        intro t_ k_
        refine go151 t_ ?_
        show Steps p.tables e below (T150.setTop (mkF m 21 #[.val (.int p1), .val (.int p2), .val (.int p3), .val (.int p4), .val (.int p5), .val (.int (2 : Int32)), .val (.ref y150b), .unset, .unset, .unset, .unset, .unset, .unset, .unset, .unset] [(.int p4), (.int (1 : Int32)), (.int p2)])) _
        refine st218 _ ?_
        show Steps p.tables e below (T218.setTop (mkF m 24 #[.val (.int p1), .val (.int p2), .val (.int p3), .val (.int p4), .val (.int p5), .val (.int (2 : Int32)), .val (.ref y150b), .unset, .unset, .unset, .unset, .unset, .unset, .unset, .unset] [(.ref y218b)])) _
        refine XS.astore X218.here hx rfl (hb hby at_24) rfl rfl (l' := #[.val (.int p1), .val (.int p2), .val (.int p3), .val (.int p4), .val (.int p5), .val (.int (2 : Int32)), .val (.ref y150b), .val (.ref y218b), .unset, .unset, .unset, .unset, .unset, .unset, .unset]) rfl ?_
        show Steps p.tables e below (T218.setTop (mkF m 26 #[.val (.int p1), .val (.int p2), .val (.int p3), .val (.int p4), .val (.int p5), .val (.int (2 : Int32)), .val (.ref y150b), .val (.ref y218b), .unset, .unset, .unset, .unset, .unset, .unset, .unset] [])) _
        refine XS.iloadN X218.here hx rfl (hb hby at_26) rfl ?_
        show Steps p.tables e below (T218.setTop (mkF m 27 #[.val (.int p1), .val (.int p2), .val (.int p3), .val (.int p4), .val (.int p5), .val (.int (2 : Int32)), .val (.ref y150b), .val (.ref y218b), .unset, .unset, .unset, .unset, .unset, .unset, .unset] [(.int p2)])) _
        refine XS.iconst X218.here hx rfl (hb hby at_27) ?_
        show Steps p.tables e below (T218.setTop (mkF m 28 #[.val (.int p1), .val (.int p2), .val (.int p3), .val (.int p4), .val (.int p5), .val (.int (2 : Int32)), .val (.ref y150b), .val (.ref y218b), .unset, .unset, .unset, .unset, .unset, .unset, .unset] [(.int (2 : Int32)), (.int p2)])) _
        refine XS.iload X218.here hx rfl (hb hby at_28) rfl ?_
        show Steps p.tables e below (T218.setTop (mkF m 30 #[.val (.int p1), .val (.int p2), .val (.int p3), .val (.int p4), .val (.int p5), .val (.int (2 : Int32)), .val (.ref y150b), .val (.ref y218b), .unset, .unset, .unset, .unset, .unset, .unset, .unset] [(.int p5), (.int (2 : Int32)), (.int p2)])) _
        refine st219 _ ?_
        show Steps p.tables e below (T219.setTop (mkF m 33 #[.val (.int p1), .val (.int p2), .val (.int p3), .val (.int p4), .val (.int p5), .val (.int (2 : Int32)), .val (.ref y150b), .val (.ref y218b), .unset, .unset, .unset, .unset, .unset, .unset, .unset] [(.ref y219b)])) _
        refine XS.astore X219.here hx rfl (hb hby at_33) rfl rfl (l' := #[.val (.int p1), .val (.int p2), .val (.int p3), .val (.int p4), .val (.int p5), .val (.int (2 : Int32)), .val (.ref y150b), .val (.ref y218b), .val (.ref y219b), .unset, .unset, .unset, .unset, .unset, .unset]) rfl ?_
        show Steps p.tables e below (T219.setTop (mkF m 35 #[.val (.int p1), .val (.int p2), .val (.int p3), .val (.int p4), .val (.int p5), .val (.int (2 : Int32)), .val (.ref y150b), .val (.ref y218b), .val (.ref y219b), .unset, .unset, .unset, .unset, .unset, .unset] [])) _
        refine st220 _ ?_
        show Steps p.tables e below (T220.setTop (mkF m 38 #[.val (.int p1), .val (.int p2), .val (.int p3), .val (.int p4), .val (.int p5), .val (.int (2 : Int32)), .val (.ref y150b), .val (.ref y218b), .val (.ref y219b), .unset, .unset, .unset, .unset, .unset, .unset] [(.ref b220)])) _
        refine XS.dup X220.here hx rfl (hb hby at_38) rfl rfl ?_
        show Steps p.tables e below (T220.setTop (mkF m 39 #[.val (.int p1), .val (.int p2), .val (.int p3), .val (.int p4), .val (.int p5), .val (.int (2 : Int32)), .val (.ref y150b), .val (.ref y218b), .val (.ref y219b), .unset, .unset, .unset, .unset, .unset, .unset] [(.ref b220), (.ref b220)])) _
        refine st224.trans ?_
        show Steps p.tables e below (T224.setTop (mkF m 42 #[.val (.int p1), .val (.int p2), .val (.int p3), .val (.int p4), .val (.int p5), .val (.int (2 : Int32)), .val (.ref y150b), .val (.ref y218b), .val (.ref y219b), .unset, .unset, .unset, .unset, .unset, .unset] [(.ref b220)])) _
        refine XS.astore X224.here hx rfl (hb hby at_42) rfl rfl (l' := #[.val (.int p1), .val (.int p2), .val (.int p3), .val (.int p4), .val (.int p5), .val (.int (2 : Int32)), .val (.ref y150b), .val (.ref y218b), .val (.ref y219b), .val (.ref b220), .unset, .unset, .unset, .unset, .unset]) rfl ?_
        show Steps p.tables e below (T224.setTop (mkF m 44 #[.val (.int p1), .val (.int p2), .val (.int p3), .val (.int p4), .val (.int p5), .val (.int (2 : Int32)), .val (.ref y150b), .val (.ref y218b), .val (.ref y219b), .val (.ref b220), .unset, .unset, .unset, .unset, .unset] [])) _
        refine XS.aload X224.here hx rfl (hb hby at_44) rfl rfl ?_
        show Steps p.tables e below (T224.setTop (mkF m 46 #[.val (.int p1), .val (.int p2), .val (.int p3), .val (.int p4), .val (.int p5), .val (.int (2 : Int32)), .val (.ref y150b), .val (.ref y218b), .val (.ref y219b), .val (.ref b220), .unset, .unset, .unset, .unset, .unset] [(.ref b220)])) _
        refine XS.aload X224.here hx rfl (hb hby at_46) rfl rfl ?_
        show Steps p.tables e below (T224.setTop (mkF m 48 #[.val (.int p1), .val (.int p2), .val (.int p3), .val (.int p4), .val (.int p5), .val (.int (2 : Int32)), .val (.ref y150b), .val (.ref y218b), .val (.ref y219b), .val (.ref b220), .unset, .unset, .unset, .unset, .unset] [(.ref y150b), (.ref b220)])) _
        refine st225.trans ?_
        show Steps p.tables e below (T225.setTop (mkF m 53 #[.val (.int p1), .val (.int p2), .val (.int p3), .val (.int p4), .val (.int p5), .val (.int (2 : Int32)), .val (.ref y150b), .val (.ref y218b), .val (.ref y219b), .val (.ref b220), .unset, .unset, .unset, .unset, .unset] [(.int (1 : Int32))])) _
        refine XS.pop X225.here hx rfl (hb hby at_53) rfl rfl ?_
        show Steps p.tables e below (T225.setTop (mkF m 54 #[.val (.int p1), .val (.int p2), .val (.int p3), .val (.int p4), .val (.int p5), .val (.int (2 : Int32)), .val (.ref y150b), .val (.ref y218b), .val (.ref y219b), .val (.ref b220), .unset, .unset, .unset, .unset, .unset] [])) _
        refine XS.iload X225.here hx rfl (hb hby at_54) rfl ?_
        show Steps p.tables e below (T225.setTop (mkF m 56 #[.val (.int p1), .val (.int p2), .val (.int p3), .val (.int p4), .val (.int p5), .val (.int (2 : Int32)), .val (.ref y150b), .val (.ref y218b), .val (.ref y219b), .val (.ref b220), .unset, .unset, .unset, .unset, .unset] [(.int (2 : Int32))])) _
        refine XS.iconst X225.here hx rfl (hb hby at_56) ?_
        show Steps p.tables e below (T225.setTop (mkF m 57 #[.val (.int p1), .val (.int p2), .val (.int p3), .val (.int p4), .val (.int p5), .val (.int (2 : Int32)), .val (.ref y150b), .val (.ref y218b), .val (.ref y219b), .val (.ref b220), .unset, .unset, .unset, .unset, .unset] [(.int (2 : Int32)), (.int (2 : Int32))])) _
        refine XS.icmpNo X225.here hx rfl (hb hby at_57) rfl (flt (by decide : ¬ ((2 : Int32) < (2 : Int32)))).1 ?_
        show Steps p.tables e below (T225.setTop (mkF m 60 #[.val (.int p1), .val (.int p2), .val (.int p3), .val (.int p4), .val (.int p5), .val (.int (2 : Int32)), .val (.ref y150b), .val (.ref y218b), .val (.ref y219b), .val (.ref b220), .unset, .unset, .unset, .unset, .unset] [])) _
        refine XS.aload X225.here hx rfl (hb hby at_60) rfl rfl ?_
        show Steps p.tables e below (T225.setTop (mkF m 62 #[.val (.int p1), .val (.int p2), .val (.int p3), .val (.int p4), .val (.int p5), .val (.int (2 : Int32)), .val (.ref y150b), .val (.ref y218b), .val (.ref y219b), .val (.ref b220), .unset, .unset, .unset, .unset, .unset] [(.ref b220)])) _
        refine XS.aload X225.here hx rfl (hb hby at_62) rfl rfl ?_
        show Steps p.tables e below (T225.setTop (mkF m 64 #[.val (.int p1), .val (.int p2), .val (.int p3), .val (.int p4), .val (.int p5), .val (.int (2 : Int32)), .val (.ref y150b), .val (.ref y218b), .val (.ref y219b), .val (.ref b220), .unset, .unset, .unset, .unset, .unset] [(.ref y218b), (.ref b220)])) _
        refine st230.trans ?_
        show Steps p.tables e below (T230.setTop (mkF m 69 #[.val (.int p1), .val (.int p2), .val (.int p3), .val (.int p4), .val (.int p5), .val (.int (2 : Int32)), .val (.ref y150b), .val (.ref y218b), .val (.ref y219b), .val (.ref b220), .unset, .unset, .unset, .unset, .unset] [(.int (1 : Int32))])) _
        refine XS.pop X230.here hx rfl (hb hby at_69) rfl rfl ?_
        show Steps p.tables e below (T230.setTop (mkF m 70 #[.val (.int p1), .val (.int p2), .val (.int p3), .val (.int p4), .val (.int p5), .val (.int (2 : Int32)), .val (.ref y150b), .val (.ref y218b), .val (.ref y219b), .val (.ref b220), .unset, .unset, .unset, .unset, .unset] [])) _
        refine XS.iload X230.here hx rfl (hb hby at_70) rfl ?_
        show Steps p.tables e below (T230.setTop (mkF m 72 #[.val (.int p1), .val (.int p2), .val (.int p3), .val (.int p4), .val (.int p5), .val (.int (2 : Int32)), .val (.ref y150b), .val (.ref y218b), .val (.ref y219b), .val (.ref b220), .unset, .unset, .unset, .unset, .unset] [(.int (2 : Int32))])) _
        refine XS.iconst X230.here hx rfl (hb hby at_72) ?_
        show Steps p.tables e below (T230.setTop (mkF m 73 #[.val (.int p1), .val (.int p2), .val (.int p3), .val (.int p4), .val (.int p5), .val (.int (2 : Int32)), .val (.ref y150b), .val (.ref y218b), .val (.ref y219b), .val (.ref b220), .unset, .unset, .unset, .unset, .unset] [(.int (3 : Int32)), (.int (2 : Int32))])) _
        refine XS.icmpYes X230.here hx rfl (pc0 := 73) (pc' := 86) rfl (hb hby at_73) rfl (tlt (by decide : (2 : Int32) < (3 : Int32))).1 (by decide) (by decide) ?_
        show Steps p.tables e below (T230.setTop (mkF m 86 #[.val (.int p1), .val (.int p2), .val (.int p3), .val (.int p4), .val (.int p5), .val (.int (2 : Int32)), .val (.ref y150b), .val (.ref y218b), .val (.ref y219b), .val (.ref b220), .unset, .unset, .unset, .unset, .unset] [])) _
        refine st235 _ ?_
        show Steps p.tables e below (T235.setTop (mkF m 89 #[.val (.int p1), .val (.int p2), .val (.int p3), .val (.int p4), .val (.int p5), .val (.int (2 : Int32)), .val (.ref y150b), .val (.ref y218b), .val (.ref y219b), .val (.ref b220), .unset, .unset, .unset, .unset, .unset] [(.ref b235)])) _
        refine XS.dup X235.here hx rfl (hb hby at_89) rfl rfl ?_
        show Steps p.tables e below (T235.setTop (mkF m 90 #[.val (.int p1), .val (.int p2), .val (.int p3), .val (.int p4), .val (.int p5), .val (.int (2 : Int32)), .val (.ref y150b), .val (.ref y218b), .val (.ref y219b), .val (.ref b220), .unset, .unset, .unset, .unset, .unset] [(.ref b235), (.ref b235)])) _
        refine st239 _ ?_
        show Steps p.tables e below (T239.setTop (mkF m 92 #[.val (.int p1), .val (.int p2), .val (.int p3), .val (.int p4), .val (.int p5), .val (.int (2 : Int32)), .val (.ref y150b), .val (.ref y218b), .val (.ref y219b), .val (.ref b220), .unset, .unset, .unset, .unset, .unset] [(.ref a239), (.ref b235), (.ref b235)])) _
        refine st240 _ ?_
        show Steps p.tables e below (T240.setTop (mkF m 94 #[.val (.int p1), .val (.int p2), .val (.int p3), .val (.int p4), .val (.int p5), .val (.int (2 : Int32)), .val (.ref y150b), .val (.ref y218b), .val (.ref y219b), .val (.ref b220), .unset, .unset, .unset, .unset, .unset] [(.ref a240), (.ref a239), (.ref b235), (.ref b235)])) _
        refine XS.aload X240.here hx rfl (hb hby at_94) rfl rfl ?_
        show Steps p.tables e below (T240.setTop (mkF m 96 #[.val (.int p1), .val (.int p2), .val (.int p3), .val (.int p4), .val (.int p5), .val (.int (2 : Int32)), .val (.ref y150b), .val (.ref y218b), .val (.ref y219b), .val (.ref b220), .unset, .unset, .unset, .unset, .unset] [(.ref b220), (.ref a240), (.ref a239), (.ref b235), (.ref b235)])) _
        refine st241.trans ?_
        show Steps p.tables e below (T241.setTop (mkF m 99 #[.val (.int p1), .val (.int p2), .val (.int p3), .val (.int p4), .val (.int p5), .val (.int (2 : Int32)), .val (.ref y150b), .val (.ref y218b), .val (.ref y219b), .val (.ref b220), .unset, .unset, .unset, .unset, .unset] [(.ref b235)])) _
        refine XS.astore X241.here hx rfl (hb hby at_99) rfl rfl (l' := #[.val (.int p1), .val (.int p2), .val (.int p3), .val (.int p4), .val (.int p5), .val (.int (2 : Int32)), .val (.ref y150b), .val (.ref y218b), .val (.ref y219b), .val (.ref b220), .val (.ref b235), .unset, .unset, .unset, .unset]) rfl ?_
        show Steps p.tables e below (T241.setTop (mkF m 101 #[.val (.int p1), .val (.int p2), .val (.int p3), .val (.int p4), .val (.int p5), .val (.int (2 : Int32)), .val (.ref y150b), .val (.ref y218b), .val (.ref y219b), .val (.ref b220), .val (.ref b235), .unset, .unset, .unset, .unset] [])) _
        refine XS.aload X241.here hx rfl (hb hby at_101) rfl rfl ?_
        show Steps p.tables e below (T241.setTop (mkF m 103 #[.val (.int p1), .val (.int p2), .val (.int p3), .val (.int p4), .val (.int p5), .val (.int (2 : Int32)), .val (.ref y150b), .val (.ref y218b), .val (.ref y219b), .val (.ref b220), .val (.ref b235), .unset, .unset, .unset, .unset] [(.ref b235)])) _
        refine st250.trans ?_
        show Steps p.tables e below (T250.setTop (mkF m 106 #[.val (.int p1), .val (.int p2), .val (.int p3), .val (.int p4), .val (.int p5), .val (.int (2 : Int32)), .val (.ref y150b), .val (.ref y218b), .val (.ref y219b), .val (.ref b220), .val (.ref b235), .unset, .unset, .unset, .unset] [(.ref y250b)])) _
        refine XS.astore X250.here hx rfl (hb hby at_106) rfl rfl (l' := #[.val (.int p1), .val (.int p2), .val (.int p3), .val (.int p4), .val (.int p5), .val (.int (2 : Int32)), .val (.ref y150b), .val (.ref y218b), .val (.ref y219b), .val (.ref b220), .val (.ref b235), .val (.ref y250b), .unset, .unset, .unset]) rfl ?_
        show Steps p.tables e below (T250.setTop (mkF m 108 #[.val (.int p1), .val (.int p2), .val (.int p3), .val (.int p4), .val (.int p5), .val (.int (2 : Int32)), .val (.ref y150b), .val (.ref y218b), .val (.ref y219b), .val (.ref b220), .val (.ref b235), .val (.ref y250b), .unset, .unset, .unset] [])) _
        refine XS.iload X250.here hx rfl (hb hby at_108) rfl ?_
        show Steps p.tables e below (T250.setTop (mkF m 110 #[.val (.int p1), .val (.int p2), .val (.int p3), .val (.int p4), .val (.int p5), .val (.int (2 : Int32)), .val (.ref y150b), .val (.ref y218b), .val (.ref y219b), .val (.ref b220), .val (.ref b235), .val (.ref y250b), .unset, .unset, .unset] [(.int (2 : Int32))])) _
        refine XS.iconst X250.here hx rfl (hb hby at_110) ?_
        show Steps p.tables e below (T250.setTop (mkF m 111 #[.val (.int p1), .val (.int p2), .val (.int p3), .val (.int p4), .val (.int p5), .val (.int (2 : Int32)), .val (.ref y150b), .val (.ref y218b), .val (.ref y219b), .val (.ref b220), .val (.ref b235), .val (.ref y250b), .unset, .unset, .unset] [(.int (1 : Int32)), (.int (2 : Int32))])) _
        refine XS.isub X250.here hx rfl (hb hby at_111) rfl ?_
        show Steps p.tables e below (T250.setTop (mkF m 112 #[.val (.int p1), .val (.int p2), .val (.int p3), .val (.int p4), .val (.int p5), .val (.int (2 : Int32)), .val (.ref y150b), .val (.ref y218b), .val (.ref y219b), .val (.ref b220), .val (.ref b235), .val (.ref y250b), .unset, .unset, .unset] [(.int (1 : Int32))])) _
        refine XS.istore X250.here hx rfl (hb hby at_112) rfl (l' := #[.val (.int p1), .val (.int p2), .val (.int p3), .val (.int p4), .val (.int p5), .val (.int (2 : Int32)), .val (.ref y150b), .val (.ref y218b), .val (.ref y219b), .val (.ref b220), .val (.ref b235), .val (.ref y250b), .val (.int (1 : Int32)), .unset, .unset]) rfl ?_
        show Steps p.tables e below (T250.setTop (mkF m 114 #[.val (.int p1), .val (.int p2), .val (.int p3), .val (.int p4), .val (.int p5), .val (.int (2 : Int32)), .val (.ref y150b), .val (.ref y218b), .val (.ref y219b), .val (.ref b220), .val (.ref b235), .val (.ref y250b), .val (.int (1 : Int32)), .unset, .unset] [])) _
        refine XS.iload X250.here hx rfl (hb hby at_114) rfl ?_
        show Steps p.tables e below (T250.setTop (mkF m 116 #[.val (.int p1), .val (.int p2), .val (.int p3), .val (.int p4), .val (.int p5), .val (.int (2 : Int32)), .val (.ref y150b), .val (.ref y218b), .val (.ref y219b), .val (.ref b220), .val (.ref b235), .val (.ref y250b), .val (.int (1 : Int32)), .unset, .unset] [(.int (2 : Int32))])) _
        refine XS.iconst X250.here hx rfl (hb hby at_116) ?_
        show Steps p.tables e below (T250.setTop (mkF m 117 #[.val (.int p1), .val (.int p2), .val (.int p3), .val (.int p4), .val (.int p5), .val (.int (2 : Int32)), .val (.ref y150b), .val (.ref y218b), .val (.ref y219b), .val (.ref b220), .val (.ref b235), .val (.ref y250b), .val (.int (1 : Int32)), .unset, .unset] [(.int (1 : Int32)), (.int (2 : Int32))])) _
        refine XS.icmpYes X250.here hx rfl (pc0 := 117) (pc' := 124) rfl (hb hby at_117) rfl (feq (by decide : ¬ ((2 : Int32) = (1 : Int32)))).2 (by decide) (by decide) ?_
        show Steps p.tables e below (T250.setTop (mkF m 124 #[.val (.int p1), .val (.int p2), .val (.int p3), .val (.int p4), .val (.int p5), .val (.int (2 : Int32)), .val (.ref y150b), .val (.ref y218b), .val (.ref y219b), .val (.ref b220), .val (.ref b235), .val (.ref y250b), .val (.int (1 : Int32)), .unset, .unset] [])) _
        refine XS.iload X250.here hx rfl (hb hby at_124) rfl ?_
        show Steps p.tables e below (T250.setTop (mkF m 126 #[.val (.int p1), .val (.int p2), .val (.int p3), .val (.int p4), .val (.int p5), .val (.int (2 : Int32)), .val (.ref y150b), .val (.ref y218b), .val (.ref y219b), .val (.ref b220), .val (.ref b235), .val (.ref y250b), .val (.int (1 : Int32)), .unset, .unset] [(.int (2 : Int32))])) _
        refine XS.iconst X250.here hx rfl (hb hby at_126) ?_
        show Steps p.tables e below (T250.setTop (mkF m 127 #[.val (.int p1), .val (.int p2), .val (.int p3), .val (.int p4), .val (.int p5), .val (.int (2 : Int32)), .val (.ref y150b), .val (.ref y218b), .val (.ref y219b), .val (.ref b220), .val (.ref b235), .val (.ref y250b), .val (.int (1 : Int32)), .unset, .unset] [(.int (2 : Int32)), (.int (2 : Int32))])) _
        refine XS.icmpNo X250.here hx rfl (hb hby at_127) rfl (teq (by decide : (2 : Int32) = (2 : Int32))).2 ?_
        show Steps p.tables e below (T250.setTop (mkF m 130 #[.val (.int p1), .val (.int p2), .val (.int p3), .val (.int p4), .val (.int p5), .val (.int (2 : Int32)), .val (.ref y150b), .val (.ref y218b), .val (.ref y219b), .val (.ref b220), .val (.ref b235), .val (.ref y250b), .val (.int (1 : Int32)), .unset, .unset] [])) _
        refine XS.iloadN X250.here hx rfl (hb hby at_130) rfl ?_
        show Steps p.tables e below (T250.setTop (mkF m 131 #[.val (.int p1), .val (.int p2), .val (.int p3), .val (.int p4), .val (.int p5), .val (.int (2 : Int32)), .val (.ref y150b), .val (.ref y218b), .val (.ref y219b), .val (.ref b220), .val (.ref b235), .val (.ref y250b), .val (.int (1 : Int32)), .unset, .unset] [(.int p4)])) _
        refine XS.goto X250.here hx rfl (pc0 := 131) (pc' := 136) rfl (hb hby at_131) (by decide) (by decide) ?_
        show Steps p.tables e below (T250.setTop (mkF m 136 #[.val (.int p1), .val (.int p2), .val (.int p3), .val (.int p4), .val (.int p5), .val (.int (2 : Int32)), .val (.ref y150b), .val (.ref y218b), .val (.ref y219b), .val (.ref b220), .val (.ref b235), .val (.ref y250b), .val (.int (1 : Int32)), .unset, .unset] [(.int p4)])) _
        refine XS.istore X250.here hx rfl (hb hby at_136) rfl (l' := #[.val (.int p1), .val (.int p2), .val (.int p3), .val (.int p4), .val (.int p5), .val (.int (2 : Int32)), .val (.ref y150b), .val (.ref y218b), .val (.ref y219b), .val (.ref b220), .val (.ref b235), .val (.ref y250b), .val (.int (1 : Int32)), .val (.int p4), .unset]) rfl ?_
        show Steps p.tables e below (T250.setTop (mkF m 138 #[.val (.int p1), .val (.int p2), .val (.int p3), .val (.int p4), .val (.int p5), .val (.int (2 : Int32)), .val (.ref y150b), .val (.ref y218b), .val (.ref y219b), .val (.ref b220), .val (.ref b235), .val (.ref y250b), .val (.int (1 : Int32)), .val (.int p4), .unset] [])) _
        refine XS.aconstNull X250.here hx rfl (hb hby at_138) ?_
        show Steps p.tables e below (T250.setTop (mkF m 139 #[.val (.int p1), .val (.int p2), .val (.int p3), .val (.int p4), .val (.int p5), .val (.int (2 : Int32)), .val (.ref y150b), .val (.ref y218b), .val (.ref y219b), .val (.ref b220), .val (.ref b235), .val (.ref y250b), .val (.int (1 : Int32)), .val (.int p4), .unset] [.null])) _
        refine XS.astore X250.here hx rfl (hb hby at_139) rfl rfl (l' := #[.val (.int p1), .val (.int p2), .val (.int p3), .val (.int p4), .val (.int p5), .val (.int (2 : Int32)), .val (.ref y150b), .val (.ref y218b), .val (.ref y219b), .val (.ref b220), .val (.ref b235), .val (.ref y250b), .val (.int (1 : Int32)), .val (.int p4), .val .null]) rfl ?_
        show Steps p.tables e below (T250.setTop (mkF m 141 #[.val (.int p1), .val (.int p2), .val (.int p3), .val (.int p4), .val (.int p5), .val (.int (2 : Int32)), .val (.ref y150b), .val (.ref y218b), .val (.ref y219b), .val (.ref b220), .val (.ref b235), .val (.ref y250b), .val (.int (1 : Int32)), .val (.int p4), .val .null] [])) _
        refine XS.iloadN X250.here hx rfl (hb hby at_141) rfl ?_
        show Steps p.tables e below (T250.setTop (mkF m 142 #[.val (.int p1), .val (.int p2), .val (.int p3), .val (.int p4), .val (.int p5), .val (.int (2 : Int32)), .val (.ref y150b), .val (.ref y218b), .val (.ref y219b), .val (.ref b220), .val (.ref b235), .val (.ref y250b), .val (.int (1 : Int32)), .val (.int p4), .val .null] [(.int p2)])) _
        refine XS.iload X250.here hx rfl (hb hby at_142) rfl ?_
        show Steps p.tables e below (T250.setTop (mkF m 144 #[.val (.int p1), .val (.int p2), .val (.int p3), .val (.int p4), .val (.int p5), .val (.int (2 : Int32)), .val (.ref y150b), .val (.ref y218b), .val (.ref y219b), .val (.ref b220), .val (.ref b235), .val (.ref y250b), .val (.int (1 : Int32)), .val (.int p4), .val .null] [(.int (1 : Int32)), (.int p2)])) _
        refine XS.ishr X250.here hx rfl (hb hby at_144) rfl ?_
        show Steps p.tables e below (T250.setTop (mkF m 145 #[.val (.int p1), .val (.int p2), .val (.int p3), .val (.int p4), .val (.int p5), .val (.int (2 : Int32)), .val (.ref y150b), .val (.ref y218b), .val (.ref y219b), .val (.ref b220), .val (.ref b235), .val (.ref y250b), .val (.int (1 : Int32)), .val (.int p4), .val .null] [(.int (p2 >>> ((1 : Int32) &&& 31)))])) _
        refine XS.iconst X250.here hx rfl (hb hby at_145) ?_
        show Steps p.tables e below (T250.setTop (mkF m 146 #[.val (.int p1), .val (.int p2), .val (.int p3), .val (.int p4), .val (.int p5), .val (.int (2 : Int32)), .val (.ref y150b), .val (.ref y218b), .val (.ref y219b), .val (.ref b220), .val (.ref b235), .val (.ref y250b), .val (.int (1 : Int32)), .val (.int p4), .val .null] [(.int (1 : Int32)), (.int (p2 >>> ((1 : Int32) &&& 31)))])) _
        refine XS.iand X250.here hx rfl (hb hby at_146) rfl ?_
        show Steps p.tables e below (T250.setTop (mkF m 147 #[.val (.int p1), .val (.int p2), .val (.int p3), .val (.int p4), .val (.int p5), .val (.int (2 : Int32)), .val (.ref y150b), .val (.ref y218b), .val (.ref y219b), .val (.ref b220), .val (.ref b235), .val (.ref y250b), .val (.int (1 : Int32)), .val (.int p4), .val .null] [(.int ((p2 >>> ((1 : Int32) &&& 31)) &&& (1 : Int32)))])) _
        refine XS.ifNo X250.here hx rfl (hb hby at_147) rfl ((if0 _ _).trans (feq hc152).1) ?_
        show Steps p.tables e below (T250.setTop (mkF m 150 #[.val (.int p1), .val (.int p2), .val (.int p3), .val (.int p4), .val (.int p5), .val (.int (2 : Int32)), .val (.ref y150b), .val (.ref y218b), .val (.ref y219b), .val (.ref b220), .val (.ref b235), .val (.ref y250b), .val (.int (1 : Int32)), .val (.int p4), .val .null] [])) _
        refine XS.iload X250.here hx rfl (hb hby at_150) rfl ?_
        show Steps p.tables e below (T250.setTop (mkF m 152 #[.val (.int p1), .val (.int p2), .val (.int p3), .val (.int p4), .val (.int p5), .val (.int (2 : Int32)), .val (.ref y150b), .val (.ref y218b), .val (.ref y219b), .val (.ref b220), .val (.ref b235), .val (.ref y250b), .val (.int (1 : Int32)), .val (.int p4), .val .null] [(.int p4)])) _
        refine st299 _ ?_
        show Steps p.tables e below (T299.setTop (mkF m 155 #[.val (.int p1), .val (.int p2), .val (.int p3), .val (.int p4), .val (.int p5), .val (.int (2 : Int32)), .val (.ref y150b), .val (.ref y218b), .val (.ref y219b), .val (.ref b220), .val (.ref b235), .val (.ref y250b), .val (.int (1 : Int32)), .val (.int p4), .val .null] [(.ref (own_pk W p4))])) _
        refine XS.astore X299.here hx rfl (hb hby at_155) rfl rfl (l' := #[.val (.int p1), .val (.int p2), .val (.int p3), .val (.int p4), .val (.int p5), .val (.int (2 : Int32)), .val (.ref y150b), .val (.ref y218b), .val (.ref y219b), .val (.ref b220), .val (.ref b235), .val (.ref y250b), .val (.int (1 : Int32)), .val (.int p4), .val (.ref (own_pk W p4))]) rfl ?_
        show Steps p.tables e below (T299.setTop (mkF m 157 #[.val (.int p1), .val (.int p2), .val (.int p3), .val (.int p4), .val (.int p5), .val (.int (2 : Int32)), .val (.ref y150b), .val (.ref y218b), .val (.ref y219b), .val (.ref b220), .val (.ref b235), .val (.ref y250b), .val (.int (1 : Int32)), .val (.int p4), .val (.ref (own_pk W p4))] [])) _
        refine XS.aload X299.here hx rfl (hb hby at_157) rfl rfl ?_
        show Steps p.tables e below (T299.setTop (mkF m 159 #[.val (.int p1), .val (.int p2), .val (.int p3), .val (.int p4), .val (.int p5), .val (.int (2 : Int32)), .val (.ref y150b), .val (.ref y218b), .val (.ref y219b), .val (.ref b220), .val (.ref b235), .val (.ref y250b), .val (.int (1 : Int32)), .val (.int p4), .val (.ref (own_pk W p4))] [(.ref y250b)])) _
        refine XS.ifnullNo X299.here hx rfl (hb hby at_159) rfl ?_
        show Steps p.tables e below (T299.setTop (mkF m 162 #[.val (.int p1), .val (.int p2), .val (.int p3), .val (.int p4), .val (.int p5), .val (.int (2 : Int32)), .val (.ref y150b), .val (.ref y218b), .val (.ref y219b), .val (.ref b220), .val (.ref b235), .val (.ref y250b), .val (.int (1 : Int32)), .val (.int p4), .val (.ref (own_pk W p4))] [])) _
        refine XS.aload X299.here hx rfl (hb hby at_162) rfl rfl ?_
        show Steps p.tables e below (T299.setTop (mkF m 164 #[.val (.int p1), .val (.int p2), .val (.int p3), .val (.int p4), .val (.int p5), .val (.int (2 : Int32)), .val (.ref y150b), .val (.ref y218b), .val (.ref y219b), .val (.ref b220), .val (.ref b235), .val (.ref y250b), .val (.int (1 : Int32)), .val (.int p4), .val (.ref (own_pk W p4))] [(.ref y250b)])) _
        refine XS.aconstNull X299.here hx rfl (hb hby at_164) ?_
        show Steps p.tables e below (T299.setTop (mkF m 165 #[.val (.int p1), .val (.int p2), .val (.int p3), .val (.int p4), .val (.int p5), .val (.int (2 : Int32)), .val (.ref y150b), .val (.ref y218b), .val (.ref y219b), .val (.ref b220), .val (.ref b235), .val (.ref y250b), .val (.int (1 : Int32)), .val (.int p4), .val (.ref (own_pk W p4))] [.null, (.ref y250b)])) _
        refine st300.trans ?_
        show Steps p.tables e below (T300.setTop (mkF m 168 #[.val (.int p1), .val (.int p2), .val (.int p3), .val (.int p4), .val (.int p5), .val (.int (2 : Int32)), .val (.ref y150b), .val (.ref y218b), .val (.ref y219b), .val (.ref b220), .val (.ref b235), .val (.ref y250b), .val (.int (1 : Int32)), .val (.int p4), .val (.ref (own_pk W p4))] [(.ref (own_pk W p4))])) _
        refine XS.aload X300.here hx rfl (hb hby at_168) rfl rfl ?_
        show Steps p.tables e below (T300.setTop (mkF m 170 #[.val (.int p1), .val (.int p2), .val (.int p3), .val (.int p4), .val (.int p5), .val (.int (2 : Int32)), .val (.ref y150b), .val (.ref y218b), .val (.ref y219b), .val (.ref b220), .val (.ref b235), .val (.ref y250b), .val (.int (1 : Int32)), .val (.int p4), .val (.ref (own_pk W p4))] [(.ref (own_pk W p4)), (.ref (own_pk W p4))])) _
        refine Jvm.RoadKit.acmp (g := (mkF m 170 #[.val (.int p1), .val (.int p2), .val (.int p3), .val (.int p4), .val (.int p5), .val (.int (2 : Int32)), .val (.ref y150b), .val (.ref y218b), .val (.ref y219b), .val (.ref b220), .val (.ref b235), .val (.ref y250b), .val (.int (1 : Int32)), .val (.int p4), .val (.ref (own_pk W p4))] [(.ref (own_pk W p4)), (.ref (own_pk W p4))])) X300 hx rfl rfl rfl (pc0 := 170) (pc' := 173) (same := true) rfl (hb hby at_170) rfl (decide_eq_true rfl) (by decide) (by decide) ?_
        show Steps p.tables e below (T300.setTop (mkF m 173 #[.val (.int p1), .val (.int p2), .val (.int p3), .val (.int p4), .val (.int p5), .val (.int (2 : Int32)), .val (.ref y150b), .val (.ref y218b), .val (.ref y219b), .val (.ref b220), .val (.ref b235), .val (.ref y250b), .val (.int (1 : Int32)), .val (.int p4), .val (.ref (own_pk W p4))] [])) _
        refine XS.iconst X300.here hx rfl (hb hby at_173) ?_
        show Steps p.tables e below (T300.setTop (mkF m 174 #[.val (.int p1), .val (.int p2), .val (.int p3), .val (.int p4), .val (.int p5), .val (.int (2 : Int32)), .val (.ref y150b), .val (.ref y218b), .val (.ref y219b), .val (.ref b220), .val (.ref b235), .val (.ref y250b), .val (.int (1 : Int32)), .val (.int p4), .val (.ref (own_pk W p4))] [(.int (1 : Int32))])) _
        refine XS.goto X300.here hx rfl (pc0 := 174) (pc' := 178) rfl (hb hby at_174) (by decide) (by decide) ?_
        exact k_
      obtain ⟨fs, hr, hrun, hended, hEW⟩ := X300.leaveW (s := s) hS240 (show k240 ≤ _ by rw [e300]; omega) (v := some (.int (1 : Int32))) (fun h => by rw [Bd.returns] at h; cases h)
      refine ⟨_, _, go303 _ ?_, hrun, hended, _, _, rfl, ?_, hEW.1, hEW.2.1, hEW.2.2.1, hEW.2.2.2.mono (by decide) (by decide)⟩
      · skip
        show Steps p.tables e below (T300.setTop (mkF m 178 #[.val (.int p1), .val (.int p2), .val (.int p3), .val (.int p4), .val (.int p5), .val (.int (2 : Int32)), .val (.ref y150b), .val (.ref y218b), .val (.ref y219b), .val (.ref b220), .val (.ref b235), .val (.ref y250b), .val (.int (1 : Int32)), .val (.int p4), .val (.ref (own_pk W p4))] [(.int (1 : Int32))])) _
        exact retN X300 hx (t := .boolean) Bd.returns (by simp) (hb hby at_178) hr
      · show Q_rm0 Z p1 p2 p3 p4 p5 W ed kd wE h0 n0 _ T300.heap _
        rw [e300]
        exact ⟨rfl, N300⟩
  · skip
    have go304 : ∀ t_, Steps p.tables e below (s₁.setTop (mkF m 10 #[.val (.int p1), .val (.int p2), .val (.int p3), .val (.int p4), .val (.int p5), .val (.int (3 : Int32)), .unset, .unset, .unset, .unset, .unset, .unset, .unset, .unset, .unset] [])) t_ → Steps p.tables e below (s₁.setTop (entryFrame m #[(.int p1), (.int p2), (.int p3), (.int p4), (.int p5)] maxLocals)) t_ := by
      intro t_ k_
      refine go1 t_ ?_
      rw [hk2]
      exact k_
    obtain ⟨_, _, ⟨T305, L305, k305, n305⟩, -, X305, ⟨Lc305, hQ305, l305, y305, z305⟩, st305⟩ := Jvm.LawKit.callS X0 hx (y := (⟨"com/example/maksu/maksu/catalog/PlanBillingPeriodPinLaw", "phase", "(III)Lcom/example/maksu/maksu/catalog/Phase;"⟩ : MethodName)) hown (mvT hZ hw_1) (mvT hZ hw_2) (mvT hZ hw_3) (mvT hZ hw_4) (by decide) (backOf (W := 0) (rmPhA l Z a0 hw [] p2 (0 : Int32) p3 W h0 n0 Z0 BPs O0) hZ hw_4 hw_3 (by decide) (by decide)) (g := (mkF m 13 #[.val (.int p1), .val (.int p2), .val (.int p3), .val (.int p4), .val (.int p5), .val (.int (3 : Int32)), .unset, .unset, .unset, .unset, .unset, .unset, .unset, .unset, .unset] [(.int p3), (.int (0 : Int32)), (.int p2)])) rfl (by rw [hml]; rfl) (argsL := [(.int p2), (.int (0 : Int32)), (.int p3)]) (rest := []) (lenOf pd_15 rfl) rfl (by show 2 * 0 + _ ≤ _; exact Nat.le_of_eq rfl) (hb hby at_13) (fun _ _ => ⟨rfl, e0, (by decide : 0 + 3 ≤ _), (by decide : 0 + 22 ≤ _)⟩)
    dsimp only [Pt.U, Pt.locs, Pt.cells, Pt.slots] at X305 l305 y305 z305 st305 hQ305
    subst l305 y305 z305
    obtain ⟨y305b, rfl, N305q, Kc305, lo305, hi305, Ec305⟩ := hQ305
    have N305 := Fr.app N0 N305q
    have sz305 : h0.size ≤ T305.heap.size := Kc305.1
    have Z305 : n0 ≤ T305.heap.size := Nat.le_trans Z0 sz305
    have O305 : Old Z n0 T305.heap := O0.keep Kc305 all0
    obtain ⟨_, _, ⟨T306, L306, k306, n306⟩, -, X306, ⟨Lc306, hQ306, l306, y306, z306⟩, st306⟩ := Jvm.LawKit.callS X305 hx (y := (⟨"com/example/maksu/maksu/catalog/PlanBillingPeriodPinLaw", "phase", "(III)Lcom/example/maksu/maksu/catalog/Phase;"⟩ : MethodName)) hown (mvT hZ hw_1) (mvT hZ hw_2) (mvT hZ hw_3) (mvT hZ hw_4) (by decide) (backOf (W := 0) (rmPhA l Z a0 hw [] p2 (1 : Int32) p4 W T305.heap n0 Z305 BPs O305) hZ hw_4 hw_3 (by decide) (by decide)) (g := (mkF m 21 #[.val (.int p1), .val (.int p2), .val (.int p3), .val (.int p4), .val (.int p5), .val (.int (3 : Int32)), .val (.ref y305b), .unset, .unset, .unset, .unset, .unset, .unset, .unset, .unset] [(.int p4), (.int (1 : Int32)), (.int p2)])) rfl (by rw [hml]; rfl) (argsL := [(.int p2), (.int (1 : Int32)), (.int p4)]) (rest := []) (lenOf pd_15 rfl) rfl (by show 2 * 0 + _ ≤ _; exact Nat.le_of_eq rfl) (hb hby at_21) (fun _ _ => ⟨rfl, rfl, (by decide : 3 + 3 ≤ _), (by decide : 22 + 22 ≤ _)⟩)
    dsimp only [Pt.U, Pt.locs, Pt.cells, Pt.slots] at X306 l306 y306 z306 st306 hQ306
    subst l306 y306 z306
    obtain ⟨y306b, rfl, N306q, Kc306, lo306, hi306, Ec306⟩ := hQ306
    have N306 := Fr.app N305 N306q
    have sz306 : T305.heap.size ≤ T306.heap.size := Kc306.1
    have Z306 : n0 ≤ T306.heap.size := Nat.le_trans Z305 sz306
    have O306 : Old Z n0 T306.heap := O305.keep Kc306 all0
    have go307 : ∀ t_, Steps p.tables e below (T306.setTop (mkF m 30 #[.val (.int p1), .val (.int p2), .val (.int p3), .val (.int p4), .val (.int p5), .val (.int (3 : Int32)), .val (.ref y305b), .val (.ref y306b), .unset, .unset, .unset, .unset, .unset, .unset, .unset] [(.int p5), (.int (2 : Int32)), (.int p2)])) t_ → Steps p.tables e below (s₁.setTop (entryFrame m #[(.int p1), (.int p2), (.int p3), (.int p4), (.int p5)] maxLocals)) t_ := by
      intro t_ k_
      refine go304 t_ ?_
      show Steps p.tables e below (s₁.setTop (mkF m 10 #[.val (.int p1), .val (.int p2), .val (.int p3), .val (.int p4), .val (.int p5), .val (.int (3 : Int32)), .unset, .unset, .unset, .unset, .unset, .unset, .unset, .unset, .unset] [])) _
      refine XS.iloadN X0.here hx rfl (hb hby at_10) rfl ?_
      show Steps p.tables e below (s₁.setTop (mkF m 11 #[.val (.int p1), .val (.int p2), .val (.int p3), .val (.int p4), .val (.int p5), .val (.int (3 : Int32)), .unset, .unset, .unset, .unset, .unset, .unset, .unset, .unset, .unset] [(.int p2)])) _
      refine XS.iconst X0.here hx rfl (hb hby at_11) ?_
      show Steps p.tables e below (s₁.setTop (mkF m 12 #[.val (.int p1), .val (.int p2), .val (.int p3), .val (.int p4), .val (.int p5), .val (.int (3 : Int32)), .unset, .unset, .unset, .unset, .unset, .unset, .unset, .unset, .unset] [(.int (0 : Int32)), (.int p2)])) _
      refine XS.iloadN X0.here hx rfl (hb hby at_12) rfl ?_
      show Steps p.tables e below (s₁.setTop (mkF m 13 #[.val (.int p1), .val (.int p2), .val (.int p3), .val (.int p4), .val (.int p5), .val (.int (3 : Int32)), .unset, .unset, .unset, .unset, .unset, .unset, .unset, .unset, .unset] [(.int p3), (.int (0 : Int32)), (.int p2)])) _
      refine st305 _ ?_
      show Steps p.tables e below (T305.setTop (mkF m 16 #[.val (.int p1), .val (.int p2), .val (.int p3), .val (.int p4), .val (.int p5), .val (.int (3 : Int32)), .unset, .unset, .unset, .unset, .unset, .unset, .unset, .unset, .unset] [(.ref y305b)])) _
      refine XS.astore X305.here hx rfl (hb hby at_16) rfl rfl (l' := #[.val (.int p1), .val (.int p2), .val (.int p3), .val (.int p4), .val (.int p5), .val (.int (3 : Int32)), .val (.ref y305b), .unset, .unset, .unset, .unset, .unset, .unset, .unset, .unset]) rfl ?_
      show Steps p.tables e below (T305.setTop (mkF m 18 #[.val (.int p1), .val (.int p2), .val (.int p3), .val (.int p4), .val (.int p5), .val (.int (3 : Int32)), .val (.ref y305b), .unset, .unset, .unset, .unset, .unset, .unset, .unset, .unset] [])) _
      refine XS.iloadN X305.here hx rfl (hb hby at_18) rfl ?_
      show Steps p.tables e below (T305.setTop (mkF m 19 #[.val (.int p1), .val (.int p2), .val (.int p3), .val (.int p4), .val (.int p5), .val (.int (3 : Int32)), .val (.ref y305b), .unset, .unset, .unset, .unset, .unset, .unset, .unset, .unset] [(.int p2)])) _
      refine XS.iconst X305.here hx rfl (hb hby at_19) ?_
      show Steps p.tables e below (T305.setTop (mkF m 20 #[.val (.int p1), .val (.int p2), .val (.int p3), .val (.int p4), .val (.int p5), .val (.int (3 : Int32)), .val (.ref y305b), .unset, .unset, .unset, .unset, .unset, .unset, .unset, .unset] [(.int (1 : Int32)), (.int p2)])) _
      refine XS.iloadN X305.here hx rfl (hb hby at_20) rfl ?_
      show Steps p.tables e below (T305.setTop (mkF m 21 #[.val (.int p1), .val (.int p2), .val (.int p3), .val (.int p4), .val (.int p5), .val (.int (3 : Int32)), .val (.ref y305b), .unset, .unset, .unset, .unset, .unset, .unset, .unset, .unset] [(.int p4), (.int (1 : Int32)), (.int p2)])) _
      refine st306 _ ?_
      show Steps p.tables e below (T306.setTop (mkF m 24 #[.val (.int p1), .val (.int p2), .val (.int p3), .val (.int p4), .val (.int p5), .val (.int (3 : Int32)), .val (.ref y305b), .unset, .unset, .unset, .unset, .unset, .unset, .unset, .unset] [(.ref y306b)])) _
      refine XS.astore X306.here hx rfl (hb hby at_24) rfl rfl (l' := #[.val (.int p1), .val (.int p2), .val (.int p3), .val (.int p4), .val (.int p5), .val (.int (3 : Int32)), .val (.ref y305b), .val (.ref y306b), .unset, .unset, .unset, .unset, .unset, .unset, .unset]) rfl ?_
      show Steps p.tables e below (T306.setTop (mkF m 26 #[.val (.int p1), .val (.int p2), .val (.int p3), .val (.int p4), .val (.int p5), .val (.int (3 : Int32)), .val (.ref y305b), .val (.ref y306b), .unset, .unset, .unset, .unset, .unset, .unset, .unset] [])) _
      refine XS.iloadN X306.here hx rfl (hb hby at_26) rfl ?_
      show Steps p.tables e below (T306.setTop (mkF m 27 #[.val (.int p1), .val (.int p2), .val (.int p3), .val (.int p4), .val (.int p5), .val (.int (3 : Int32)), .val (.ref y305b), .val (.ref y306b), .unset, .unset, .unset, .unset, .unset, .unset, .unset] [(.int p2)])) _
      refine XS.iconst X306.here hx rfl (hb hby at_27) ?_
      show Steps p.tables e below (T306.setTop (mkF m 28 #[.val (.int p1), .val (.int p2), .val (.int p3), .val (.int p4), .val (.int p5), .val (.int (3 : Int32)), .val (.ref y305b), .val (.ref y306b), .unset, .unset, .unset, .unset, .unset, .unset, .unset] [(.int (2 : Int32)), (.int p2)])) _
      refine XS.iload X306.here hx rfl (hb hby at_28) rfl ?_
      exact k_
    by_cases hc308 : ((p2 >>> ((2 : Int32) &&& 31)) &&& (1 : Int32)) = (0 : Int32)
    · skip
      obtain ⟨_, _, ⟨T309, L309, k309, n309⟩, -, X309, ⟨Lc309, hQ309, l309, y309, z309⟩, st309⟩ := Jvm.LawKit.callS X306 hx (y := (⟨"com/example/maksu/maksu/catalog/PlanBillingPeriodPinLaw", "phase", "(III)Lcom/example/maksu/maksu/catalog/Phase;"⟩ : MethodName)) hown (mvT hZ hw_1) (mvT hZ hw_2) (mvT hZ hw_3) (mvT hZ hw_4) (by decide) (backOf (W := 0) (rmPh0 l Z a0 hw [] p2 (2 : Int32) p5 W T306.heap n0 Z306 BPs hc308 O306) hZ hw_4 hw_3 (by decide) (by decide)) (g := (mkF m 30 #[.val (.int p1), .val (.int p2), .val (.int p3), .val (.int p4), .val (.int p5), .val (.int (3 : Int32)), .val (.ref y305b), .val (.ref y306b), .unset, .unset, .unset, .unset, .unset, .unset, .unset] [(.int p5), (.int (2 : Int32)), (.int p2)])) rfl (by rw [hml]; rfl) (argsL := [(.int p2), (.int (2 : Int32)), (.int p5)]) (rest := []) (lenOf pd_15 rfl) rfl (by show 2 * 0 + _ ≤ _; exact Nat.le_of_eq rfl) (hb hby at_30) (fun _ _ => ⟨rfl, rfl, (by decide : 6 + 1 ≤ _), (by decide : 44 + 4 ≤ _)⟩)
      dsimp only [Pt.U, Pt.locs, Pt.cells, Pt.slots] at X309 l309 y309 z309 st309 hQ309
      subst l309 y309 z309
      obtain ⟨y309b, rfl, N309q, Kc309, lo309, hi309, Ec309, Fc309⟩ := hQ309
      have N309 := Fr.app N306 N309q
      have sz309 : T306.heap.size ≤ T309.heap.size := Kc309.1
      have Z309 : n0 ≤ T309.heap.size := Nat.le_trans Z306 sz309
      have O309 : Old Z n0 T309.heap := O306.keep Kc309 all0
      obtain ⟨T310, h310, X310, e310, E310, A310, D310, -, st310⟩ := newO X309 hx hZ hown hw_77 hw_78 hw_79 rfl (g := (mkF m 35 #[.val (.int p1), .val (.int p2), .val (.int p3), .val (.int p4), .val (.int p5), .val (.int (3 : Int32)), .val (.ref y305b), .val (.ref y306b), .val (.ref y309b), .unset, .unset, .unset, .unset, .unset, .unset] [])) rfl (hb hby at_35) (by decide) (by decide)
      obtain ⟨b310, g310⟩ : ∃ z, z = T309.heap.size := ⟨_, rfl⟩
      rw [← g310] at A310 D310 st310
      have lt310 : b310 < h310.size := A310.lt
      have sz310 : T309.heap.size ≤ h310.size := E310.1
      have Z310 : n0 ≤ h310.size := Nat.le_trans Z309 sz310
      have O310 : Old Z n0 h310 := O309.ext E310
      have F311 : Fld Z h310 b310 "java/util/AbstractList" "modCount" "I" (.int (0 : Int32)) := D310 (Or.inl hw_97) (ty := .int) (by decide)
      have F312 : Fld Z h310 b310 "java/util/ArrayList" "elementData" "[Ljava/lang/Object;" .null := D310 (Or.inl hw_100) (ty := (.array (.object "java/lang/Object"))) (by decide)
      have F313 : Fld Z h310 b310 "java/util/ArrayList" "size" "I" (.int (0 : Int32)) := D310 (Or.inl hw_113) (ty := .int) (by decide)
      obtain ⟨_, _, ⟨T314, L314, k314, n314⟩, -, X314, ⟨Lc314, hQ314, l314, y314, z314⟩, st314⟩ := X310.specialBack hx (y := (⟨"java/util/ArrayList", "<init>", "()V"⟩ : MethodName)) rfl hown (mvT hZ hw_80) (mvT hZ hw_81) (mvT hZ hw_82) (by decide) (backOf (W := 1) (rmALI l Z a0 hw [] b310 ed h310 n0 Z310 A310 F311 F313 F312 (by omega) S_D O310) hZ hw_82 hw_79 (by decide) (by decide)) (g := (mkF m 39 #[.val (.int p1), .val (.int p2), .val (.int p3), .val (.int p4), .val (.int p5), .val (.int (3 : Int32)), .val (.ref y305b), .val (.ref y306b), .val (.ref y309b), .unset, .unset, .unset, .unset, .unset, .unset] [(.ref b310), (.ref b310)])) rfl (by rw [hml]; rfl) (Steps.refl _) (a := b310) (argsL := []) (rest := [(.ref b310)]) (lenOf pd_0 rfl) rfl (by show 2 * 0 + _ ≤ _; exact Nat.le_of_eq rfl) (hb hby at_39) (fun _ _ => ⟨rfl, e310, (by decide : 8 + 0 ≤ _), (by decide : 51 + 0 ≤ _)⟩)
      dsimp only [Pt.U, Pt.locs, Pt.cells, Pt.slots] at X314 l314 y314 z314 st314 hQ314
      subst l314 y314 z314
      obtain ⟨rfl, N314q, Kc314, Ec314, Fm314, Fs314, Fe314⟩ := hQ314
      have N314 := Fr.app N309 N314q
      have sz314 : h310.size ≤ T314.heap.size := Kc314.1
      have Z314 : n0 ≤ T314.heap.size := Nat.le_trans Z310 sz314
      have O314 : Old Z n0 T314.heap := O310.keep Kc314 (allS (show n0 ≤ b310 by omega) all0)
      have f316 := (Ec305.keep Kc306)
      have f317 := (f316.keep Kc309)
      have f318 := (f317.ext E310)
      have f319 := (f318.keep Kc314)
      obtain ⟨cq315, kq315, q315a, q315b, q315c⟩ := isOf hZ rfl Ec314
      obtain ⟨_, _, ⟨T315, L315, k315, n315⟩, -, X315, ⟨Lc315, hQ315, l315, y315, z315⟩, st315⟩ := X314.interfaceBack hx (xi := (⟨"java/util/List", "add", "(Ljava/lang/Object;)Z"⟩ : MethodName)) (y := (⟨"java/util/ArrayList", "add", "(Ljava/lang/Object;)Z"⟩ : MethodName)) hown (mvT hZ hw_101) (mvT hZ hw_102) (mvT hZ hw_103) (mvT hZ hw_104) (mvT hZ hw_105) (mvT hZ hw_106) (mvT hZ hw_107) (mvT hZ hw_108) (by decide) (backOf (W := 0) (rmAd0 l Z a0 hw [] b310 y305b ed kd (0 : Int32) T314.heap n0 Z314 Ec314 Fm314 Fs314 Fe314 (by omega) (by omega) S_D V_D f319 (by omega) O314) hZ hw_109 hw_79 (by decide) (by decide)) q315a q315b q315c (g := (mkF m 48 #[.val (.int p1), .val (.int p2), .val (.int p3), .val (.int p4), .val (.int p5), .val (.int (3 : Int32)), .val (.ref y305b), .val (.ref y306b), .val (.ref y309b), .val (.ref b310), .unset, .unset, .unset, .unset, .unset] [(.ref y305b), (.ref b310)])) rfl (by rw [hml]; rfl) (Steps.refl _) (argsL := [(.ref y305b)]) (rest := []) (lenOf pd_16 rfl) rfl (by show 2 * 0 + _ ≤ _; exact Nat.le_of_eq rfl) (hb hby at_48) (fun _ _ => ⟨rfl, rfl, (by decide : 8 + 1 ≤ _), (by decide : 51 + 10 ≤ _)⟩)
      dsimp only [Pt.U, Pt.locs, Pt.cells, Pt.slots] at X315 l315 y315 z315 st315 hQ315
      subst l315 y315 z315
      obtain ⟨y315b, y315k, rfl, N315q, Kc315, lo315, hi315, Ec315, Fm315, Fs315, Fe315, Ov315, Vc315⟩ := hQ315
      have N315 := Fr.app N314 N315q
      have sz315 : T314.heap.size ≤ T315.heap.size := Kc315.1
      have Z315 : n0 ≤ T315.heap.size := Nat.le_trans Z314 sz315
      have O315 : Old Z n0 T315.heap := O314.keep Kc315 (allS (show n0 ≤ b310 by omega) all0)
      have f321 := (Ec306.keep Kc309)
      have f322 := (f321.ext E310)
      have f323 := (f322.keep Kc314)
      have f324 := (f323.keep Kc315)
      obtain ⟨cq320, kq320, q320a, q320b, q320c⟩ := isOf hZ rfl Ec315
      obtain ⟨_, _, ⟨T320, L320, k320, n320⟩, -, X320, ⟨Lc320, hQ320, l320, y320, z320⟩, st320⟩ := X315.interfaceBack hx (xi := (⟨"java/util/List", "add", "(Ljava/lang/Object;)Z"⟩ : MethodName)) (y := (⟨"java/util/ArrayList", "add", "(Ljava/lang/Object;)Z"⟩ : MethodName)) hown (mvT hZ hw_101) (mvT hZ hw_102) (mvT hZ hw_103) (mvT hZ hw_104) (mvT hZ hw_105) (mvT hZ hw_106) (mvT hZ hw_107) (mvT hZ hw_108) (by decide) (backOf (W := 0) (rmAd1 l Z a0 hw [] b310 y306b y315b y315k ((0 : Int32) + (1 : Int32)) y305b T315.heap n0 Z315 Ec315 Fm315 Fs315 Fe315 (by omega) (by omega) (show b310 ≠ y315b by omega) Ov315 Vc315 f324) hZ hw_109 hw_79 (by decide) (by decide)) q320a q320b q320c (g := (mkF m 64 #[.val (.int p1), .val (.int p2), .val (.int p3), .val (.int p4), .val (.int p5), .val (.int (3 : Int32)), .val (.ref y305b), .val (.ref y306b), .val (.ref y309b), .val (.ref b310), .unset, .unset, .unset, .unset, .unset] [(.ref y306b), (.ref b310)])) rfl (by rw [hml]; rfl) (Steps.refl _) (argsL := [(.ref y306b)]) (rest := []) (lenOf pd_16 rfl) rfl (by show 2 * 0 + _ ≤ _; exact Nat.le_of_eq rfl) (hb hby at_64) (fun _ _ => ⟨rfl, rfl, (by decide : 9 + 0 ≤ _), (by decide : 61 + 0 ≤ _)⟩)
      dsimp only [Pt.U, Pt.locs, Pt.cells, Pt.slots] at X320 l320 y320 z320 st320 hQ320
      subst l320 y320 z320
      obtain ⟨rfl, N320q, Kc320, Ec320, Fm320, Fs320, Fe320, Vc320⟩ := hQ320
      have N320 := Fr.app N315 N320q
      have sz320 : T315.heap.size ≤ T320.heap.size := Kc320.1
      have Z320 : n0 ≤ T320.heap.size := Nat.le_trans Z315 sz320
      have O320 : Old Z n0 T320.heap := O315.keep Kc320 (allS (show n0 ≤ b310 by omega) (allS (show n0 ≤ y315b by omega) all0))
      have f326 := (Ec309.ext E310)
      have f327 := (f326.keep Kc314)
      have f328 := (f327.keep Kc315)
      have f329 := (f328.keep Kc320)
      obtain ⟨cq325, kq325, q325a, q325b, q325c⟩ := isOf hZ rfl Ec320
      obtain ⟨_, _, ⟨T325, L325, k325, n325⟩, -, X325, ⟨Lc325, hQ325, l325, y325, z325⟩, st325⟩ := X320.interfaceBack hx (xi := (⟨"java/util/List", "add", "(Ljava/lang/Object;)Z"⟩ : MethodName)) (y := (⟨"java/util/ArrayList", "add", "(Ljava/lang/Object;)Z"⟩ : MethodName)) hown (mvT hZ hw_101) (mvT hZ hw_102) (mvT hZ hw_103) (mvT hZ hw_104) (mvT hZ hw_105) (mvT hZ hw_106) (mvT hZ hw_107) (mvT hZ hw_108) (by decide) (backOf (W := 0) (rmAd2 l Z a0 hw [] b310 y309b y315b y315k (((0 : Int32) + (1 : Int32)) + (1 : Int32)) y305b y306b T320.heap n0 Z320 Ec320 Fm320 Fs320 Fe320 (by omega) (by omega) (show b310 ≠ y315b by omega) Ov315 Vc320 f329) hZ hw_109 hw_79 (by decide) (by decide)) q325a q325b q325c (g := (mkF m 80 #[.val (.int p1), .val (.int p2), .val (.int p3), .val (.int p4), .val (.int p5), .val (.int (3 : Int32)), .val (.ref y305b), .val (.ref y306b), .val (.ref y309b), .val (.ref b310), .unset, .unset, .unset, .unset, .unset] [(.ref y309b), (.ref b310)])) rfl (by rw [hml]; rfl) (Steps.refl _) (argsL := [(.ref y309b)]) (rest := []) (lenOf pd_16 rfl) rfl (by show 2 * 0 + _ ≤ _; exact Nat.le_of_eq rfl) (hb hby at_80) (fun _ _ => ⟨rfl, rfl, (by decide : 9 + 0 ≤ _), (by decide : 61 + 0 ≤ _)⟩)
      dsimp only [Pt.U, Pt.locs, Pt.cells, Pt.slots] at X325 l325 y325 z325 st325 hQ325
      subst l325 y325 z325
      obtain ⟨rfl, N325q, Kc325, Ec325, Fm325, Fs325, Fe325, Vc325⟩ := hQ325
      have N325 := Fr.app N320 N325q
      have sz325 : T320.heap.size ≤ T325.heap.size := Kc325.1
      have Z325 : n0 ≤ T325.heap.size := Nat.le_trans Z320 sz325
      have O325 : Old Z n0 T325.heap := O320.keep Kc325 (allS (show n0 ≤ b310 by omega) (allS (show n0 ≤ y315b by omega) all0))
      obtain ⟨T330, h330, X330, e330, E330, A330, D330, -, st330⟩ := newO X325 hx hZ hown hw_136 hw_137 hw_138 rfl (g := (mkF m 86 #[.val (.int p1), .val (.int p2), .val (.int p3), .val (.int p4), .val (.int p5), .val (.int (3 : Int32)), .val (.ref y305b), .val (.ref y306b), .val (.ref y309b), .val (.ref b310), .unset, .unset, .unset, .unset, .unset] [])) rfl (hb hby at_86) (by decide) (by decide)
      obtain ⟨b330, g330⟩ : ∃ z, z = T325.heap.size := ⟨_, rfl⟩
      rw [← g330] at A330 D330 st330
      have lt330 : b330 < h330.size := A330.lt
      have sz330 : T325.heap.size ≤ h330.size := E330.1
      have Z330 : n0 ≤ h330.size := Nat.le_trans Z325 sz330
      have O330 : Old Z n0 h330 := O325.ext E330
      have F331 : Fld Z h330 b330 "com/example/maksu/maksu/catalog/Plan" "name" "Ljava/lang/String;" .null := D330 (Or.inr hw_153) (ty := (.object "java/lang/String")) (by decide)
      have F332 : Fld Z h330 b330 "com/example/maksu/maksu/catalog/Plan" "product" "Ljava/lang/String;" .null := D330 (Or.inr hw_155) (ty := (.object "java/lang/String")) (by decide)
      have F333 : Fld Z h330 b330 "com/example/maksu/maksu/catalog/Plan" "phases" "Ljava/util/List;" .null := D330 (Or.inr hw_157) (ty := (.object "java/util/List")) (by decide)
      have wS : ∀ a ∈ Bundle.stringAtoms, a.before a0 Z = true := by
        intro a ha
        simp only [Bundle.stringAtoms, List.mem_cons, List.not_mem_nil, or_false] at ha
        rcases ha with rfl | rfl | rfl | rfl | rfl | rfl | rfl
        · exact hw_140
        · exact hw_141
        · exact hw_142
        · exact hw_143
        · exact hw_144
        · exact hw_145
        · exact hw_146
      have Xw : Stand p l e room_1 (s.setVm s.vm) m #[(.int p1), (.int p2), (.int p3), (.int p4), (.int p5)] below meth c T330 _ _ _ := X330
      obtain ⟨a334, T334, h334, k334, X334, e334, E334, hS334, hk334, hZ334, hown334, st334⟩ := ldcS (s := s) (vm0 := s.vm) Xw hx hZ hown hw_139 wS e330 ((State.WarmedH.refl s).since 0) (Nat.zero_le _) (g := (mkF m 90 #[.val (.int p1), .val (.int p2), .val (.int p3), .val (.int p4), .val (.int p5), .val (.int (3 : Int32)), .val (.ref y305b), .val (.ref y306b), .val (.ref y309b), .val (.ref b310), .unset, .unset, .unset, .unset, .unset] [(.ref b330), (.ref b330)])) rfl (hb hby at_90) (n := 32) (by decide) (by decide) (by decide) (by decide)
      have sz334 : h330.size ≤ h334.size := E334.1
      have Z334 : n0 ≤ h334.size := Nat.le_trans Z330 sz334
      have O334 : Old Z n0 h334 := O330.ext E334
      obtain ⟨a335, T335, h335, k335, X335, e335, E335, hS335, hk335, hZ335, hown335, st335⟩ := ldcS (s := s) (vm0 := T334.vm) X334 hx hZ334 hown334 hw_147 wS e334 hS334 (show k334 ≤ _ by omega) (g := (mkF m 92 #[.val (.int p1), .val (.int p2), .val (.int p3), .val (.int p4), .val (.int p5), .val (.int (3 : Int32)), .val (.ref y305b), .val (.ref y306b), .val (.ref y309b), .val (.ref b310), .unset, .unset, .unset, .unset, .unset] [(.ref a334), (.ref b330), (.ref b330)])) rfl (hb hby at_92) (n := 24) (by decide) (by decide) (by decide) (by decide)
      have sz335 : h334.size ≤ h335.size := E335.1
      have Z335 : n0 ≤ h335.size := Nat.le_trans Z334 sz335
      have O335 : Old Z n0 h335 := O334.ext E335
      have f337 := (A330.ext E334)
      have f338 := (f337.ext E335)
      have f339 := (F331.ext E334)
      have f340 := (f339.ext E335)
      have f341 := (F332.ext E334)
      have f342 := (f341.ext E335)
      have f343 := (F333.ext E334)
      have f344 := (f343.ext E335)
      obtain ⟨_, _, ⟨T336, L336, k336, n336⟩, -, X336, ⟨Lc336, hQ336, l336, y336, z336⟩, st336⟩ := X335.specialBack hx (y := (⟨"com/example/maksu/maksu/catalog/Plan", "<init>", "(Ljava/lang/String;Ljava/lang/String;Ljava/util/List;)V"⟩ : MethodName)) rfl hown335 (mvT hZ335 hw_148) (mvT hZ335 hw_149) (mvT hZ335 hw_150) (by decide) (backOf (W := 1) (rmPln l Z a0 hw [] b330 a334 a335 b310 h335 n0 Z335 f338 f340 f342 f344 (by omega)) hZ335 hw_150 hw_138 (by decide) (by decide)) (g := (mkF m 96 #[.val (.int p1), .val (.int p2), .val (.int p3), .val (.int p4), .val (.int p5), .val (.int (3 : Int32)), .val (.ref y305b), .val (.ref y306b), .val (.ref y309b), .val (.ref b310), .unset, .unset, .unset, .unset, .unset] [(.ref b310), (.ref a335), (.ref a334), (.ref b330), (.ref b330)])) rfl (by rw [hml]; rfl) (Steps.refl _) (a := b330) (argsL := [(.ref a334), (.ref a335), (.ref b310)]) (rest := [(.ref b330)]) (lenOf pd_17 rfl) rfl (by show 2 * 0 + _ ≤ _; exact Nat.le_of_eq rfl) (hb hby at_96) (fun _ _ => ⟨rfl, e335, (by decide : 14 + 0 ≤ _), (by decide : 128 + 0 ≤ _)⟩)
      dsimp only [Pt.U, Pt.locs, Pt.cells, Pt.slots] at X336 l336 y336 z336 st336 hQ336
      subst l336 y336 z336
      obtain ⟨rfl, N336q, Kc336, Ec336, Fc336⟩ := hQ336
      have N336 := Fr.app N325 N336q
      have sz336 : h335.size ≤ T336.heap.size := Kc336.1
      have Z336 : n0 ≤ T336.heap.size := Nat.le_trans Z335 sz336
      have O336 : Old Z n0 T336.heap := O335.keep Kc336 (allS (show n0 ≤ b330 by omega) all0)
      have f346 := (Ec325.ext E330)
      have f347 := (f346.ext E334)
      have f348 := (f347.ext E335)
      have f349 := (f348.keep Kc336)
      have f350 := (Fs325.ext E330)
      have f351 := (f350.ext E334)
      have f352 := (f351.ext E335)
      have f353 := (f352.keep Kc336 (ninS (show b310 ≠ b330 by omega) nin0))
      have f354 := (Fe325.ext E330)
      have f355 := (f354.ext E334)
      have f356 := (f355.ext E335)
      have f357 := (f356.keep Kc336 (ninS (show b310 ≠ b330 by omega) nin0))
      have f358 := (Vc325.ext E330)
      have f359 := (f358.ext E334)
      have f360 := (f359.ext E335)
      have f361 := (f360.keep Kc336 (ninS (show y315b ≠ b330 by omega) nin0))
      have f362 := (f329.keep Kc325)
      have f363 := (f362.ext E330)
      have f364 := (f363.ext E334)
      have f365 := (f364.ext E335)
      have f366 := (f365.keep Kc336)
      have f367 := (Fc309.ext E310)
      have f368 := (f367.keep Kc314 (ninS (show y309b ≠ b310 by omega) nin0))
      have f369 := (f368.keep Kc315 (ninS (show y309b ≠ b310 by omega) nin0))
      have f370 := (f369.keep Kc320 (ninS (show y309b ≠ b310 by omega) (ninS (show y309b ≠ y315b by omega) nin0)))
      have f371 := (f370.keep Kc325 (ninS (show y309b ≠ b310 by omega) (ninS (show y309b ≠ y315b by omega) nin0)))
      have f372 := (f371.ext E330)
      have f373 := (f372.ext E334)
      have f374 := (f373.ext E335)
      have f375 := (f374.keep Kc336 (ninS (show y309b ≠ b330 by omega) nin0))
      obtain ⟨cq345, kq345, q345a, q345b, q345c⟩ := isOf hZ335 rfl Ec336
      obtain ⟨_, _, ⟨T345, L345, k345, n345⟩, -, X345, ⟨Lc345, hQ345, l345, y345, z345⟩, st345⟩ := X336.virtualBack hx (y := (⟨"com/example/maksu/maksu/catalog/Plan", "billingPeriod", "()Ljava/util/Optional;"⟩ : MethodName)) (z := (⟨"com/example/maksu/maksu/catalog/Plan", "billingPeriod", "()Ljava/util/Optional;"⟩ : MethodName)) hown335 (mvT hZ335 hw_158) (mvT hZ335 hw_159) (notFace_of_selects (args := #[]) (mvT hZ335 hw_161)) (mvT hZ335 hw_161) (mvT hZ335 hw_160) (by decide) (backOf (W := 0) (rmBP0 l Z a0 hw [] b330 b310 (3 : Int32) y315b y315k [(.ref y305b), (.ref y306b), (.ref y309b), .null, .null, .null, .null, .null, .null, .null] y309b wE T336.heap n0 Z336 Fc336 f349 f353 f357 f361 ⟨by decide, by decide⟩ rfl (by decide) (by decide) f366 f375 S_E O336) hZ335 hw_162 hw_138 (by decide) (by decide)) q345a q345c (g := (mkF m 103 #[.val (.int p1), .val (.int p2), .val (.int p3), .val (.int p4), .val (.int p5), .val (.int (3 : Int32)), .val (.ref y305b), .val (.ref y306b), .val (.ref y309b), .val (.ref b310), .val (.ref b330), .unset, .unset, .unset, .unset] [(.ref b330)])) rfl (by rw [hml]; rfl) (Steps.refl _) (argsL := []) (rest := []) (lenOf pd_18 rfl) rfl (by show 2 * 0 + _ ≤ _; exact Nat.le_of_eq rfl) (hb hby at_103) (fun _ _ => ⟨rfl, rfl, (by decide : 14 + 0 ≤ _), (by decide : 128 + 0 ≤ _)⟩)
      dsimp only [Pt.U, Pt.locs, Pt.cells, Pt.slots] at X345 l345 y345 z345 st345 hQ345
      subst l345 y345 z345
      obtain ⟨rfl, N345q, e345⟩ := hQ345
      have N345 := Fr.app N336 N345q
      obtain ⟨cq376, kq376, q376a, q376b, q376c⟩ := isOf hZ335 e345 (E_E.ext O336.2)
      obtain ⟨_, _, ⟨T376, L376, k376, n376⟩, -, X376, ⟨Lc376, hQ376, l376, y376, z376⟩, st376⟩ := X345.virtualBack hx (y := (⟨"java/util/Optional", "orElse", "(Ljava/lang/Object;)Ljava/lang/Object;"⟩ : MethodName)) (z := (⟨"java/util/Optional", "orElse", "(Ljava/lang/Object;)Ljava/lang/Object;"⟩ : MethodName)) hown335 (mvT hZ335 hw_217) (mvT hZ335 hw_218) (notFace_of_selects (args := #[]) (mvT hZ335 hw_220)) (mvT hZ335 hw_220) (mvT hZ335 hw_219) (by decide) (backOf (W := 0) (rmOr0 l Z a0 hw [] wE T336.heap n0 Z336 (F_E.ext O336.2)) hZ335 hw_221 hw_206 (by decide) (by decide)) q376a q376c (g := (mkF m 165 #[.val (.int p1), .val (.int p2), .val (.int p3), .val (.int p4), .val (.int p5), .val (.int (3 : Int32)), .val (.ref y305b), .val (.ref y306b), .val (.ref y309b), .val (.ref b310), .val (.ref b330), .val (.ref wE), .val (.int (2 : Int32)), .val (.int p5), .val .null] [.null, (.ref wE)])) rfl (by rw [hml]; rfl) (Steps.refl _) (argsL := [.null]) (rest := []) (lenOf pd_19 rfl) rfl (by show 2 * 0 + _ ≤ _; exact Nat.le_of_eq rfl) (hb hby at_165) (fun _ _ => ⟨rfl, e345, (by decide : 14 + 0 ≤ _), (by decide : 128 + 0 ≤ _)⟩)
      dsimp only [Pt.U, Pt.locs, Pt.cells, Pt.slots] at X376 l376 y376 z376 st376 hQ376
      subst l376 y376 z376
      obtain ⟨rfl, N376q, e376⟩ := hQ376
      have N376 := Fr.app N345 N376q
      have go377 : ∀ t_, Steps p.tables e below (T376.setTop (mkF m 178 #[.val (.int p1), .val (.int p2), .val (.int p3), .val (.int p4), .val (.int p5), .val (.int (3 : Int32)), .val (.ref y305b), .val (.ref y306b), .val (.ref y309b), .val (.ref b310), .val (.ref b330), .val (.ref wE), .val (.int (2 : Int32)), .val (.int p5), .val .null] [(.int (1 : Int32))])) t_ → Steps p.tables e below (s₁.setTop (entryFrame m #[(.int p1), (.int p2), (.int p3), (.int p4), (.int p5)] maxLocals)) t_ := by
        intro t_ k_
        refine go307 t_ ?_
        show Steps p.tables e below (T306.setTop (mkF m 30 #[.val (.int p1), .val (.int p2), .val (.int p3), .val (.int p4), .val (.int p5), .val (.int (3 : Int32)), .val (.ref y305b), .val (.ref y306b), .unset, .unset, .unset, .unset, .unset, .unset, .unset] [(.int p5), (.int (2 : Int32)), (.int p2)])) _
        refine st309 _ ?_
        show Steps p.tables e below (T309.setTop (mkF m 33 #[.val (.int p1), .val (.int p2), .val (.int p3), .val (.int p4), .val (.int p5), .val (.int (3 : Int32)), .val (.ref y305b), .val (.ref y306b), .unset, .unset, .unset, .unset, .unset, .unset, .unset] [(.ref y309b)])) _
        refine XS.astore X309.here hx rfl (hb hby at_33) rfl rfl (l' := #[.val (.int p1), .val (.int p2), .val (.int p3), .val (.int p4), .val (.int p5), .val (.int (3 : Int32)), .val (.ref y305b), .val (.ref y306b), .val (.ref y309b), .unset, .unset, .unset, .unset, .unset, .unset]) rfl ?_
        show Steps p.tables e below (T309.setTop (mkF m 35 #[.val (.int p1), .val (.int p2), .val (.int p3), .val (.int p4), .val (.int p5), .val (.int (3 : Int32)), .val (.ref y305b), .val (.ref y306b), .val (.ref y309b), .unset, .unset, .unset, .unset, .unset, .unset] [])) _
        refine st310 _ ?_
        show Steps p.tables e below (T310.setTop (mkF m 38 #[.val (.int p1), .val (.int p2), .val (.int p3), .val (.int p4), .val (.int p5), .val (.int (3 : Int32)), .val (.ref y305b), .val (.ref y306b), .val (.ref y309b), .unset, .unset, .unset, .unset, .unset, .unset] [(.ref b310)])) _
        refine XS.dup X310.here hx rfl (hb hby at_38) rfl rfl ?_
        show Steps p.tables e below (T310.setTop (mkF m 39 #[.val (.int p1), .val (.int p2), .val (.int p3), .val (.int p4), .val (.int p5), .val (.int (3 : Int32)), .val (.ref y305b), .val (.ref y306b), .val (.ref y309b), .unset, .unset, .unset, .unset, .unset, .unset] [(.ref b310), (.ref b310)])) _
        refine st314.trans ?_
        show Steps p.tables e below (T314.setTop (mkF m 42 #[.val (.int p1), .val (.int p2), .val (.int p3), .val (.int p4), .val (.int p5), .val (.int (3 : Int32)), .val (.ref y305b), .val (.ref y306b), .val (.ref y309b), .unset, .unset, .unset, .unset, .unset, .unset] [(.ref b310)])) _
        refine XS.astore X314.here hx rfl (hb hby at_42) rfl rfl (l' := #[.val (.int p1), .val (.int p2), .val (.int p3), .val (.int p4), .val (.int p5), .val (.int (3 : Int32)), .val (.ref y305b), .val (.ref y306b), .val (.ref y309b), .val (.ref b310), .unset, .unset, .unset, .unset, .unset]) rfl ?_
        show Steps p.tables e below (T314.setTop (mkF m 44 #[.val (.int p1), .val (.int p2), .val (.int p3), .val (.int p4), .val (.int p5), .val (.int (3 : Int32)), .val (.ref y305b), .val (.ref y306b), .val (.ref y309b), .val (.ref b310), .unset, .unset, .unset, .unset, .unset] [])) _
        refine XS.aload X314.here hx rfl (hb hby at_44) rfl rfl ?_
        show Steps p.tables e below (T314.setTop (mkF m 46 #[.val (.int p1), .val (.int p2), .val (.int p3), .val (.int p4), .val (.int p5), .val (.int (3 : Int32)), .val (.ref y305b), .val (.ref y306b), .val (.ref y309b), .val (.ref b310), .unset, .unset, .unset, .unset, .unset] [(.ref b310)])) _
        refine XS.aload X314.here hx rfl (hb hby at_46) rfl rfl ?_
        show Steps p.tables e below (T314.setTop (mkF m 48 #[.val (.int p1), .val (.int p2), .val (.int p3), .val (.int p4), .val (.int p5), .val (.int (3 : Int32)), .val (.ref y305b), .val (.ref y306b), .val (.ref y309b), .val (.ref b310), .unset, .unset, .unset, .unset, .unset] [(.ref y305b), (.ref b310)])) _
        refine st315.trans ?_
        show Steps p.tables e below (T315.setTop (mkF m 53 #[.val (.int p1), .val (.int p2), .val (.int p3), .val (.int p4), .val (.int p5), .val (.int (3 : Int32)), .val (.ref y305b), .val (.ref y306b), .val (.ref y309b), .val (.ref b310), .unset, .unset, .unset, .unset, .unset] [(.int (1 : Int32))])) _
        refine XS.pop X315.here hx rfl (hb hby at_53) rfl rfl ?_
        show Steps p.tables e below (T315.setTop (mkF m 54 #[.val (.int p1), .val (.int p2), .val (.int p3), .val (.int p4), .val (.int p5), .val (.int (3 : Int32)), .val (.ref y305b), .val (.ref y306b), .val (.ref y309b), .val (.ref b310), .unset, .unset, .unset, .unset, .unset] [])) _
        refine XS.iload X315.here hx rfl (hb hby at_54) rfl ?_
        show Steps p.tables e below (T315.setTop (mkF m 56 #[.val (.int p1), .val (.int p2), .val (.int p3), .val (.int p4), .val (.int p5), .val (.int (3 : Int32)), .val (.ref y305b), .val (.ref y306b), .val (.ref y309b), .val (.ref b310), .unset, .unset, .unset, .unset, .unset] [(.int (3 : Int32))])) _
        refine XS.iconst X315.here hx rfl (hb hby at_56) ?_
        show Steps p.tables e below (T315.setTop (mkF m 57 #[.val (.int p1), .val (.int p2), .val (.int p3), .val (.int p4), .val (.int p5), .val (.int (3 : Int32)), .val (.ref y305b), .val (.ref y306b), .val (.ref y309b), .val (.ref b310), .unset, .unset, .unset, .unset, .unset] [(.int (2 : Int32)), (.int (3 : Int32))])) _
        refine XS.icmpNo X315.here hx rfl (hb hby at_57) rfl (flt (by decide : ¬ ((3 : Int32) < (2 : Int32)))).1 ?_
        show Steps p.tables e below (T315.setTop (mkF m 60 #[.val (.int p1), .val (.int p2), .val (.int p3), .val (.int p4), .val (.int p5), .val (.int (3 : Int32)), .val (.ref y305b), .val (.ref y306b), .val (.ref y309b), .val (.ref b310), .unset, .unset, .unset, .unset, .unset] [])) _
        refine XS.aload X315.here hx rfl (hb hby at_60) rfl rfl ?_
        show Steps p.tables e below (T315.setTop (mkF m 62 #[.val (.int p1), .val (.int p2), .val (.int p3), .val (.int p4), .val (.int p5), .val (.int (3 : Int32)), .val (.ref y305b), .val (.ref y306b), .val (.ref y309b), .val (.ref b310), .unset, .unset, .unset, .unset, .unset] [(.ref b310)])) _
        refine XS.aload X315.here hx rfl (hb hby at_62) rfl rfl ?_
        show Steps p.tables e below (T315.setTop (mkF m 64 #[.val (.int p1), .val (.int p2), .val (.int p3), .val (.int p4), .val (.int p5), .val (.int (3 : Int32)), .val (.ref y305b), .val (.ref y306b), .val (.ref y309b), .val (.ref b310), .unset, .unset, .unset, .unset, .unset] [(.ref y306b), (.ref b310)])) _
        refine st320.trans ?_
        show Steps p.tables e below (T320.setTop (mkF m 69 #[.val (.int p1), .val (.int p2), .val (.int p3), .val (.int p4), .val (.int p5), .val (.int (3 : Int32)), .val (.ref y305b), .val (.ref y306b), .val (.ref y309b), .val (.ref b310), .unset, .unset, .unset, .unset, .unset] [(.int (1 : Int32))])) _
        refine XS.pop X320.here hx rfl (hb hby at_69) rfl rfl ?_
        show Steps p.tables e below (T320.setTop (mkF m 70 #[.val (.int p1), .val (.int p2), .val (.int p3), .val (.int p4), .val (.int p5), .val (.int (3 : Int32)), .val (.ref y305b), .val (.ref y306b), .val (.ref y309b), .val (.ref b310), .unset, .unset, .unset, .unset, .unset] [])) _
        refine XS.iload X320.here hx rfl (hb hby at_70) rfl ?_
        show Steps p.tables e below (T320.setTop (mkF m 72 #[.val (.int p1), .val (.int p2), .val (.int p3), .val (.int p4), .val (.int p5), .val (.int (3 : Int32)), .val (.ref y305b), .val (.ref y306b), .val (.ref y309b), .val (.ref b310), .unset, .unset, .unset, .unset, .unset] [(.int (3 : Int32))])) _
        refine XS.iconst X320.here hx rfl (hb hby at_72) ?_
        show Steps p.tables e below (T320.setTop (mkF m 73 #[.val (.int p1), .val (.int p2), .val (.int p3), .val (.int p4), .val (.int p5), .val (.int (3 : Int32)), .val (.ref y305b), .val (.ref y306b), .val (.ref y309b), .val (.ref b310), .unset, .unset, .unset, .unset, .unset] [(.int (3 : Int32)), (.int (3 : Int32))])) _
        refine XS.icmpNo X320.here hx rfl (hb hby at_73) rfl (flt (by decide : ¬ ((3 : Int32) < (3 : Int32)))).1 ?_
        show Steps p.tables e below (T320.setTop (mkF m 76 #[.val (.int p1), .val (.int p2), .val (.int p3), .val (.int p4), .val (.int p5), .val (.int (3 : Int32)), .val (.ref y305b), .val (.ref y306b), .val (.ref y309b), .val (.ref b310), .unset, .unset, .unset, .unset, .unset] [])) _
        refine XS.aload X320.here hx rfl (hb hby at_76) rfl rfl ?_
        show Steps p.tables e below (T320.setTop (mkF m 78 #[.val (.int p1), .val (.int p2), .val (.int p3), .val (.int p4), .val (.int p5), .val (.int (3 : Int32)), .val (.ref y305b), .val (.ref y306b), .val (.ref y309b), .val (.ref b310), .unset, .unset, .unset, .unset, .unset] [(.ref b310)])) _
        refine XS.aload X320.here hx rfl (hb hby at_78) rfl rfl ?_
        show Steps p.tables e below (T320.setTop (mkF m 80 #[.val (.int p1), .val (.int p2), .val (.int p3), .val (.int p4), .val (.int p5), .val (.int (3 : Int32)), .val (.ref y305b), .val (.ref y306b), .val (.ref y309b), .val (.ref b310), .unset, .unset, .unset, .unset, .unset] [(.ref y309b), (.ref b310)])) _
        refine st325.trans ?_
        show Steps p.tables e below (T325.setTop (mkF m 85 #[.val (.int p1), .val (.int p2), .val (.int p3), .val (.int p4), .val (.int p5), .val (.int (3 : Int32)), .val (.ref y305b), .val (.ref y306b), .val (.ref y309b), .val (.ref b310), .unset, .unset, .unset, .unset, .unset] [(.int (1 : Int32))])) _
        refine XS.pop X325.here hx rfl (hb hby at_85) rfl rfl ?_
        show Steps p.tables e below (T325.setTop (mkF m 86 #[.val (.int p1), .val (.int p2), .val (.int p3), .val (.int p4), .val (.int p5), .val (.int (3 : Int32)), .val (.ref y305b), .val (.ref y306b), .val (.ref y309b), .val (.ref b310), .unset, .unset, .unset, .unset, .unset] [])) _
        refine st330 _ ?_
        show Steps p.tables e below (T330.setTop (mkF m 89 #[.val (.int p1), .val (.int p2), .val (.int p3), .val (.int p4), .val (.int p5), .val (.int (3 : Int32)), .val (.ref y305b), .val (.ref y306b), .val (.ref y309b), .val (.ref b310), .unset, .unset, .unset, .unset, .unset] [(.ref b330)])) _
        refine XS.dup X330.here hx rfl (hb hby at_89) rfl rfl ?_
        show Steps p.tables e below (T330.setTop (mkF m 90 #[.val (.int p1), .val (.int p2), .val (.int p3), .val (.int p4), .val (.int p5), .val (.int (3 : Int32)), .val (.ref y305b), .val (.ref y306b), .val (.ref y309b), .val (.ref b310), .unset, .unset, .unset, .unset, .unset] [(.ref b330), (.ref b330)])) _
        refine st334 _ ?_
        show Steps p.tables e below (T334.setTop (mkF m 92 #[.val (.int p1), .val (.int p2), .val (.int p3), .val (.int p4), .val (.int p5), .val (.int (3 : Int32)), .val (.ref y305b), .val (.ref y306b), .val (.ref y309b), .val (.ref b310), .unset, .unset, .unset, .unset, .unset] [(.ref a334), (.ref b330), (.ref b330)])) _
        refine st335 _ ?_
        show Steps p.tables e below (T335.setTop (mkF m 94 #[.val (.int p1), .val (.int p2), .val (.int p3), .val (.int p4), .val (.int p5), .val (.int (3 : Int32)), .val (.ref y305b), .val (.ref y306b), .val (.ref y309b), .val (.ref b310), .unset, .unset, .unset, .unset, .unset] [(.ref a335), (.ref a334), (.ref b330), (.ref b330)])) _
        refine XS.aload X335.here hx rfl (hb hby at_94) rfl rfl ?_
        show Steps p.tables e below (T335.setTop (mkF m 96 #[.val (.int p1), .val (.int p2), .val (.int p3), .val (.int p4), .val (.int p5), .val (.int (3 : Int32)), .val (.ref y305b), .val (.ref y306b), .val (.ref y309b), .val (.ref b310), .unset, .unset, .unset, .unset, .unset] [(.ref b310), (.ref a335), (.ref a334), (.ref b330), (.ref b330)])) _
        refine st336.trans ?_
        show Steps p.tables e below (T336.setTop (mkF m 99 #[.val (.int p1), .val (.int p2), .val (.int p3), .val (.int p4), .val (.int p5), .val (.int (3 : Int32)), .val (.ref y305b), .val (.ref y306b), .val (.ref y309b), .val (.ref b310), .unset, .unset, .unset, .unset, .unset] [(.ref b330)])) _
        refine XS.astore X336.here hx rfl (hb hby at_99) rfl rfl (l' := #[.val (.int p1), .val (.int p2), .val (.int p3), .val (.int p4), .val (.int p5), .val (.int (3 : Int32)), .val (.ref y305b), .val (.ref y306b), .val (.ref y309b), .val (.ref b310), .val (.ref b330), .unset, .unset, .unset, .unset]) rfl ?_
        show Steps p.tables e below (T336.setTop (mkF m 101 #[.val (.int p1), .val (.int p2), .val (.int p3), .val (.int p4), .val (.int p5), .val (.int (3 : Int32)), .val (.ref y305b), .val (.ref y306b), .val (.ref y309b), .val (.ref b310), .val (.ref b330), .unset, .unset, .unset, .unset] [])) _
        refine XS.aload X336.here hx rfl (hb hby at_101) rfl rfl ?_
        show Steps p.tables e below (T336.setTop (mkF m 103 #[.val (.int p1), .val (.int p2), .val (.int p3), .val (.int p4), .val (.int p5), .val (.int (3 : Int32)), .val (.ref y305b), .val (.ref y306b), .val (.ref y309b), .val (.ref b310), .val (.ref b330), .unset, .unset, .unset, .unset] [(.ref b330)])) _
        refine st345.trans ?_
        show Steps p.tables e below (T345.setTop (mkF m 106 #[.val (.int p1), .val (.int p2), .val (.int p3), .val (.int p4), .val (.int p5), .val (.int (3 : Int32)), .val (.ref y305b), .val (.ref y306b), .val (.ref y309b), .val (.ref b310), .val (.ref b330), .unset, .unset, .unset, .unset] [(.ref wE)])) _
        refine XS.astore X345.here hx rfl (hb hby at_106) rfl rfl (l' := #[.val (.int p1), .val (.int p2), .val (.int p3), .val (.int p4), .val (.int p5), .val (.int (3 : Int32)), .val (.ref y305b), .val (.ref y306b), .val (.ref y309b), .val (.ref b310), .val (.ref b330), .val (.ref wE), .unset, .unset, .unset]) rfl ?_
        show Steps p.tables e below (T345.setTop (mkF m 108 #[.val (.int p1), .val (.int p2), .val (.int p3), .val (.int p4), .val (.int p5), .val (.int (3 : Int32)), .val (.ref y305b), .val (.ref y306b), .val (.ref y309b), .val (.ref b310), .val (.ref b330), .val (.ref wE), .unset, .unset, .unset] [])) _
        refine XS.iload X345.here hx rfl (hb hby at_108) rfl ?_
        show Steps p.tables e below (T345.setTop (mkF m 110 #[.val (.int p1), .val (.int p2), .val (.int p3), .val (.int p4), .val (.int p5), .val (.int (3 : Int32)), .val (.ref y305b), .val (.ref y306b), .val (.ref y309b), .val (.ref b310), .val (.ref b330), .val (.ref wE), .unset, .unset, .unset] [(.int (3 : Int32))])) _
        refine XS.iconst X345.here hx rfl (hb hby at_110) ?_
        show Steps p.tables e below (T345.setTop (mkF m 111 #[.val (.int p1), .val (.int p2), .val (.int p3), .val (.int p4), .val (.int p5), .val (.int (3 : Int32)), .val (.ref y305b), .val (.ref y306b), .val (.ref y309b), .val (.ref b310), .val (.ref b330), .val (.ref wE), .unset, .unset, .unset] [(.int (1 : Int32)), (.int (3 : Int32))])) _
        refine XS.isub X345.here hx rfl (hb hby at_111) rfl ?_
        show Steps p.tables e below (T345.setTop (mkF m 112 #[.val (.int p1), .val (.int p2), .val (.int p3), .val (.int p4), .val (.int p5), .val (.int (3 : Int32)), .val (.ref y305b), .val (.ref y306b), .val (.ref y309b), .val (.ref b310), .val (.ref b330), .val (.ref wE), .unset, .unset, .unset] [(.int (2 : Int32))])) _
        refine XS.istore X345.here hx rfl (hb hby at_112) rfl (l' := #[.val (.int p1), .val (.int p2), .val (.int p3), .val (.int p4), .val (.int p5), .val (.int (3 : Int32)), .val (.ref y305b), .val (.ref y306b), .val (.ref y309b), .val (.ref b310), .val (.ref b330), .val (.ref wE), .val (.int (2 : Int32)), .unset, .unset]) rfl ?_
        show Steps p.tables e below (T345.setTop (mkF m 114 #[.val (.int p1), .val (.int p2), .val (.int p3), .val (.int p4), .val (.int p5), .val (.int (3 : Int32)), .val (.ref y305b), .val (.ref y306b), .val (.ref y309b), .val (.ref b310), .val (.ref b330), .val (.ref wE), .val (.int (2 : Int32)), .unset, .unset] [])) _
        refine XS.iload X345.here hx rfl (hb hby at_114) rfl ?_
        show Steps p.tables e below (T345.setTop (mkF m 116 #[.val (.int p1), .val (.int p2), .val (.int p3), .val (.int p4), .val (.int p5), .val (.int (3 : Int32)), .val (.ref y305b), .val (.ref y306b), .val (.ref y309b), .val (.ref b310), .val (.ref b330), .val (.ref wE), .val (.int (2 : Int32)), .unset, .unset] [(.int (3 : Int32))])) _
        refine XS.iconst X345.here hx rfl (hb hby at_116) ?_
        show Steps p.tables e below (T345.setTop (mkF m 117 #[.val (.int p1), .val (.int p2), .val (.int p3), .val (.int p4), .val (.int p5), .val (.int (3 : Int32)), .val (.ref y305b), .val (.ref y306b), .val (.ref y309b), .val (.ref b310), .val (.ref b330), .val (.ref wE), .val (.int (2 : Int32)), .unset, .unset] [(.int (1 : Int32)), (.int (3 : Int32))])) _
        refine XS.icmpYes X345.here hx rfl (pc0 := 117) (pc' := 124) rfl (hb hby at_117) rfl (feq (by decide : ¬ ((3 : Int32) = (1 : Int32)))).2 (by decide) (by decide) ?_
        show Steps p.tables e below (T345.setTop (mkF m 124 #[.val (.int p1), .val (.int p2), .val (.int p3), .val (.int p4), .val (.int p5), .val (.int (3 : Int32)), .val (.ref y305b), .val (.ref y306b), .val (.ref y309b), .val (.ref b310), .val (.ref b330), .val (.ref wE), .val (.int (2 : Int32)), .unset, .unset] [])) _
        refine XS.iload X345.here hx rfl (hb hby at_124) rfl ?_
        show Steps p.tables e below (T345.setTop (mkF m 126 #[.val (.int p1), .val (.int p2), .val (.int p3), .val (.int p4), .val (.int p5), .val (.int (3 : Int32)), .val (.ref y305b), .val (.ref y306b), .val (.ref y309b), .val (.ref b310), .val (.ref b330), .val (.ref wE), .val (.int (2 : Int32)), .unset, .unset] [(.int (3 : Int32))])) _
        refine XS.iconst X345.here hx rfl (hb hby at_126) ?_
        show Steps p.tables e below (T345.setTop (mkF m 127 #[.val (.int p1), .val (.int p2), .val (.int p3), .val (.int p4), .val (.int p5), .val (.int (3 : Int32)), .val (.ref y305b), .val (.ref y306b), .val (.ref y309b), .val (.ref b310), .val (.ref b330), .val (.ref wE), .val (.int (2 : Int32)), .unset, .unset] [(.int (2 : Int32)), (.int (3 : Int32))])) _
        refine XS.icmpYes X345.here hx rfl (pc0 := 127) (pc' := 134) rfl (hb hby at_127) rfl (feq (by decide : ¬ ((3 : Int32) = (2 : Int32)))).2 (by decide) (by decide) ?_
        show Steps p.tables e below (T345.setTop (mkF m 134 #[.val (.int p1), .val (.int p2), .val (.int p3), .val (.int p4), .val (.int p5), .val (.int (3 : Int32)), .val (.ref y305b), .val (.ref y306b), .val (.ref y309b), .val (.ref b310), .val (.ref b330), .val (.ref wE), .val (.int (2 : Int32)), .unset, .unset] [])) _
        refine XS.iload X345.here hx rfl (hb hby at_134) rfl ?_
        show Steps p.tables e below (T345.setTop (mkF m 136 #[.val (.int p1), .val (.int p2), .val (.int p3), .val (.int p4), .val (.int p5), .val (.int (3 : Int32)), .val (.ref y305b), .val (.ref y306b), .val (.ref y309b), .val (.ref b310), .val (.ref b330), .val (.ref wE), .val (.int (2 : Int32)), .unset, .unset] [(.int p5)])) _
        refine XS.istore X345.here hx rfl (hb hby at_136) rfl (l' := #[.val (.int p1), .val (.int p2), .val (.int p3), .val (.int p4), .val (.int p5), .val (.int (3 : Int32)), .val (.ref y305b), .val (.ref y306b), .val (.ref y309b), .val (.ref b310), .val (.ref b330), .val (.ref wE), .val (.int (2 : Int32)), .val (.int p5), .unset]) rfl ?_
        show Steps p.tables e below (T345.setTop (mkF m 138 #[.val (.int p1), .val (.int p2), .val (.int p3), .val (.int p4), .val (.int p5), .val (.int (3 : Int32)), .val (.ref y305b), .val (.ref y306b), .val (.ref y309b), .val (.ref b310), .val (.ref b330), .val (.ref wE), .val (.int (2 : Int32)), .val (.int p5), .unset] [])) _
        refine XS.aconstNull X345.here hx rfl (hb hby at_138) ?_
        show Steps p.tables e below (T345.setTop (mkF m 139 #[.val (.int p1), .val (.int p2), .val (.int p3), .val (.int p4), .val (.int p5), .val (.int (3 : Int32)), .val (.ref y305b), .val (.ref y306b), .val (.ref y309b), .val (.ref b310), .val (.ref b330), .val (.ref wE), .val (.int (2 : Int32)), .val (.int p5), .unset] [.null])) _
        refine XS.astore X345.here hx rfl (hb hby at_139) rfl rfl (l' := #[.val (.int p1), .val (.int p2), .val (.int p3), .val (.int p4), .val (.int p5), .val (.int (3 : Int32)), .val (.ref y305b), .val (.ref y306b), .val (.ref y309b), .val (.ref b310), .val (.ref b330), .val (.ref wE), .val (.int (2 : Int32)), .val (.int p5), .val .null]) rfl ?_
        show Steps p.tables e below (T345.setTop (mkF m 141 #[.val (.int p1), .val (.int p2), .val (.int p3), .val (.int p4), .val (.int p5), .val (.int (3 : Int32)), .val (.ref y305b), .val (.ref y306b), .val (.ref y309b), .val (.ref b310), .val (.ref b330), .val (.ref wE), .val (.int (2 : Int32)), .val (.int p5), .val .null] [])) _
        refine XS.iloadN X345.here hx rfl (hb hby at_141) rfl ?_
        show Steps p.tables e below (T345.setTop (mkF m 142 #[.val (.int p1), .val (.int p2), .val (.int p3), .val (.int p4), .val (.int p5), .val (.int (3 : Int32)), .val (.ref y305b), .val (.ref y306b), .val (.ref y309b), .val (.ref b310), .val (.ref b330), .val (.ref wE), .val (.int (2 : Int32)), .val (.int p5), .val .null] [(.int p2)])) _
        refine XS.iload X345.here hx rfl (hb hby at_142) rfl ?_
        show Steps p.tables e below (T345.setTop (mkF m 144 #[.val (.int p1), .val (.int p2), .val (.int p3), .val (.int p4), .val (.int p5), .val (.int (3 : Int32)), .val (.ref y305b), .val (.ref y306b), .val (.ref y309b), .val (.ref b310), .val (.ref b330), .val (.ref wE), .val (.int (2 : Int32)), .val (.int p5), .val .null] [(.int (2 : Int32)), (.int p2)])) _
        refine XS.ishr X345.here hx rfl (hb hby at_144) rfl ?_
        show Steps p.tables e below (T345.setTop (mkF m 145 #[.val (.int p1), .val (.int p2), .val (.int p3), .val (.int p4), .val (.int p5), .val (.int (3 : Int32)), .val (.ref y305b), .val (.ref y306b), .val (.ref y309b), .val (.ref b310), .val (.ref b330), .val (.ref wE), .val (.int (2 : Int32)), .val (.int p5), .val .null] [(.int (p2 >>> ((2 : Int32) &&& 31)))])) _
        refine XS.iconst X345.here hx rfl (hb hby at_145) ?_
        show Steps p.tables e below (T345.setTop (mkF m 146 #[.val (.int p1), .val (.int p2), .val (.int p3), .val (.int p4), .val (.int p5), .val (.int (3 : Int32)), .val (.ref y305b), .val (.ref y306b), .val (.ref y309b), .val (.ref b310), .val (.ref b330), .val (.ref wE), .val (.int (2 : Int32)), .val (.int p5), .val .null] [(.int (1 : Int32)), (.int (p2 >>> ((2 : Int32) &&& 31)))])) _
        refine XS.iand X345.here hx rfl (hb hby at_146) rfl ?_
        show Steps p.tables e below (T345.setTop (mkF m 147 #[.val (.int p1), .val (.int p2), .val (.int p3), .val (.int p4), .val (.int p5), .val (.int (3 : Int32)), .val (.ref y305b), .val (.ref y306b), .val (.ref y309b), .val (.ref b310), .val (.ref b330), .val (.ref wE), .val (.int (2 : Int32)), .val (.int p5), .val .null] [(.int ((p2 >>> ((2 : Int32) &&& 31)) &&& (1 : Int32)))])) _
        refine XS.ifYes X345.here hx rfl (pc0 := 147) (pc' := 157) rfl (hb hby at_147) rfl ((if0 _ _).trans (teq hc308).1) (by decide) (by decide) ?_
        show Steps p.tables e below (T345.setTop (mkF m 157 #[.val (.int p1), .val (.int p2), .val (.int p3), .val (.int p4), .val (.int p5), .val (.int (3 : Int32)), .val (.ref y305b), .val (.ref y306b), .val (.ref y309b), .val (.ref b310), .val (.ref b330), .val (.ref wE), .val (.int (2 : Int32)), .val (.int p5), .val .null] [])) _
        refine XS.aload X345.here hx rfl (hb hby at_157) rfl rfl ?_
        show Steps p.tables e below (T345.setTop (mkF m 159 #[.val (.int p1), .val (.int p2), .val (.int p3), .val (.int p4), .val (.int p5), .val (.int (3 : Int32)), .val (.ref y305b), .val (.ref y306b), .val (.ref y309b), .val (.ref b310), .val (.ref b330), .val (.ref wE), .val (.int (2 : Int32)), .val (.int p5), .val .null] [(.ref wE)])) _
        refine XS.ifnullNo X345.here hx rfl (hb hby at_159) rfl ?_
        show Steps p.tables e below (T345.setTop (mkF m 162 #[.val (.int p1), .val (.int p2), .val (.int p3), .val (.int p4), .val (.int p5), .val (.int (3 : Int32)), .val (.ref y305b), .val (.ref y306b), .val (.ref y309b), .val (.ref b310), .val (.ref b330), .val (.ref wE), .val (.int (2 : Int32)), .val (.int p5), .val .null] [])) _
        refine XS.aload X345.here hx rfl (hb hby at_162) rfl rfl ?_
        show Steps p.tables e below (T345.setTop (mkF m 164 #[.val (.int p1), .val (.int p2), .val (.int p3), .val (.int p4), .val (.int p5), .val (.int (3 : Int32)), .val (.ref y305b), .val (.ref y306b), .val (.ref y309b), .val (.ref b310), .val (.ref b330), .val (.ref wE), .val (.int (2 : Int32)), .val (.int p5), .val .null] [(.ref wE)])) _
        refine XS.aconstNull X345.here hx rfl (hb hby at_164) ?_
        show Steps p.tables e below (T345.setTop (mkF m 165 #[.val (.int p1), .val (.int p2), .val (.int p3), .val (.int p4), .val (.int p5), .val (.int (3 : Int32)), .val (.ref y305b), .val (.ref y306b), .val (.ref y309b), .val (.ref b310), .val (.ref b330), .val (.ref wE), .val (.int (2 : Int32)), .val (.int p5), .val .null] [.null, (.ref wE)])) _
        refine st376.trans ?_
        show Steps p.tables e below (T376.setTop (mkF m 168 #[.val (.int p1), .val (.int p2), .val (.int p3), .val (.int p4), .val (.int p5), .val (.int (3 : Int32)), .val (.ref y305b), .val (.ref y306b), .val (.ref y309b), .val (.ref b310), .val (.ref b330), .val (.ref wE), .val (.int (2 : Int32)), .val (.int p5), .val .null] [.null])) _
        refine XS.aload X376.here hx rfl (hb hby at_168) rfl rfl ?_
        show Steps p.tables e below (T376.setTop (mkF m 170 #[.val (.int p1), .val (.int p2), .val (.int p3), .val (.int p4), .val (.int p5), .val (.int (3 : Int32)), .val (.ref y305b), .val (.ref y306b), .val (.ref y309b), .val (.ref b310), .val (.ref b330), .val (.ref wE), .val (.int (2 : Int32)), .val (.int p5), .val .null] [.null, .null])) _
        refine Jvm.RoadKit.acmp (g := (mkF m 170 #[.val (.int p1), .val (.int p2), .val (.int p3), .val (.int p4), .val (.int p5), .val (.int (3 : Int32)), .val (.ref y305b), .val (.ref y306b), .val (.ref y309b), .val (.ref b310), .val (.ref b330), .val (.ref wE), .val (.int (2 : Int32)), .val (.int p5), .val .null] [.null, .null])) X376 hx rfl rfl rfl (pc0 := 170) (pc' := 173) (same := true) rfl (hb hby at_170) rfl (decide_eq_true rfl) (by decide) (by decide) ?_
        show Steps p.tables e below (T376.setTop (mkF m 173 #[.val (.int p1), .val (.int p2), .val (.int p3), .val (.int p4), .val (.int p5), .val (.int (3 : Int32)), .val (.ref y305b), .val (.ref y306b), .val (.ref y309b), .val (.ref b310), .val (.ref b330), .val (.ref wE), .val (.int (2 : Int32)), .val (.int p5), .val .null] [])) _
        refine XS.iconst X376.here hx rfl (hb hby at_173) ?_
        show Steps p.tables e below (T376.setTop (mkF m 174 #[.val (.int p1), .val (.int p2), .val (.int p3), .val (.int p4), .val (.int p5), .val (.int (3 : Int32)), .val (.ref y305b), .val (.ref y306b), .val (.ref y309b), .val (.ref b310), .val (.ref b330), .val (.ref wE), .val (.int (2 : Int32)), .val (.int p5), .val .null] [(.int (1 : Int32))])) _
        refine XS.goto X376.here hx rfl (pc0 := 174) (pc' := 178) rfl (hb hby at_174) (by decide) (by decide) ?_
        exact k_
      obtain ⟨fs, hr, hrun, hended, hEW⟩ := X376.leaveW (s := s) hS335 (show k335 ≤ _ by rw [e376]; omega) (v := some (.int (1 : Int32))) (fun h => by rw [Bd.returns] at h; cases h)
      refine ⟨_, _, go377 _ ?_, hrun, hended, _, _, rfl, ?_, hEW.1, hEW.2.1, hEW.2.2.1, hEW.2.2.2.mono (by decide) (by decide)⟩
      · skip
        show Steps p.tables e below (T376.setTop (mkF m 178 #[.val (.int p1), .val (.int p2), .val (.int p3), .val (.int p4), .val (.int p5), .val (.int (3 : Int32)), .val (.ref y305b), .val (.ref y306b), .val (.ref y309b), .val (.ref b310), .val (.ref b330), .val (.ref wE), .val (.int (2 : Int32)), .val (.int p5), .val .null] [(.int (1 : Int32))])) _
        exact retN X376 hx (t := .boolean) Bd.returns (by simp) (hb hby at_178) hr
      · show Q_rm0 Z p1 p2 p3 p4 p5 W ed kd wE h0 n0 _ T376.heap _
        rw [e376]
        exact ⟨rfl, N376⟩
    · skip
      obtain ⟨_, _, ⟨T378, L378, k378, n378⟩, -, X378, ⟨Lc378, hQ378, l378, y378, z378⟩, st378⟩ := Jvm.LawKit.callS X306 hx (y := (⟨"com/example/maksu/maksu/catalog/PlanBillingPeriodPinLaw", "phase", "(III)Lcom/example/maksu/maksu/catalog/Phase;"⟩ : MethodName)) hown (mvT hZ hw_1) (mvT hZ hw_2) (mvT hZ hw_3) (mvT hZ hw_4) (by decide) (backOf (W := 0) (rmPh1 l Z a0 hw [] p2 (2 : Int32) p5 W T306.heap n0 Z306 BPs hc308 O306) hZ hw_4 hw_3 (by decide) (by decide)) (g := (mkF m 30 #[.val (.int p1), .val (.int p2), .val (.int p3), .val (.int p4), .val (.int p5), .val (.int (3 : Int32)), .val (.ref y305b), .val (.ref y306b), .unset, .unset, .unset, .unset, .unset, .unset, .unset] [(.int p5), (.int (2 : Int32)), (.int p2)])) rfl (by rw [hml]; rfl) (argsL := [(.int p2), (.int (2 : Int32)), (.int p5)]) (rest := []) (lenOf pd_15 rfl) rfl (by show 2 * 0 + _ ≤ _; exact Nat.le_of_eq rfl) (hb hby at_30) (fun _ _ => ⟨rfl, rfl, (by decide : 6 + 3 ≤ _), (by decide : 44 + 22 ≤ _)⟩)
      dsimp only [Pt.U, Pt.locs, Pt.cells, Pt.slots] at X378 l378 y378 z378 st378 hQ378
      subst l378 y378 z378
      obtain ⟨y378b, y378r, rfl, N378q, Kc378, lo378, hi378, lr378, hr378_, Ec378, Fc378, Er378, Fb378⟩ := hQ378
      have N378 := Fr.app N306 N378q
      have sz378 : T306.heap.size ≤ T378.heap.size := Kc378.1
      have Z378 : n0 ≤ T378.heap.size := Nat.le_trans Z306 sz378
      have O378 : Old Z n0 T378.heap := O306.keep Kc378 all0
      obtain ⟨T379, h379, X379, e379, E379, A379, D379, -, st379⟩ := newO X378 hx hZ hown hw_77 hw_78 hw_79 rfl (g := (mkF m 35 #[.val (.int p1), .val (.int p2), .val (.int p3), .val (.int p4), .val (.int p5), .val (.int (3 : Int32)), .val (.ref y305b), .val (.ref y306b), .val (.ref y378b), .unset, .unset, .unset, .unset, .unset, .unset] [])) rfl (hb hby at_35) (by decide) (by decide)
      obtain ⟨b379, g379⟩ : ∃ z, z = T378.heap.size := ⟨_, rfl⟩
      rw [← g379] at A379 D379 st379
      have lt379 : b379 < h379.size := A379.lt
      have sz379 : T378.heap.size ≤ h379.size := E379.1
      have Z379 : n0 ≤ h379.size := Nat.le_trans Z378 sz379
      have O379 : Old Z n0 h379 := O378.ext E379
      have F380 : Fld Z h379 b379 "java/util/AbstractList" "modCount" "I" (.int (0 : Int32)) := D379 (Or.inl hw_97) (ty := .int) (by decide)
      have F381 : Fld Z h379 b379 "java/util/ArrayList" "elementData" "[Ljava/lang/Object;" .null := D379 (Or.inl hw_100) (ty := (.array (.object "java/lang/Object"))) (by decide)
      have F382 : Fld Z h379 b379 "java/util/ArrayList" "size" "I" (.int (0 : Int32)) := D379 (Or.inl hw_113) (ty := .int) (by decide)
      obtain ⟨_, _, ⟨T383, L383, k383, n383⟩, -, X383, ⟨Lc383, hQ383, l383, y383, z383⟩, st383⟩ := X379.specialBack hx (y := (⟨"java/util/ArrayList", "<init>", "()V"⟩ : MethodName)) rfl hown (mvT hZ hw_80) (mvT hZ hw_81) (mvT hZ hw_82) (by decide) (backOf (W := 1) (rmALI l Z a0 hw [] b379 ed h379 n0 Z379 A379 F380 F382 F381 (by omega) S_D O379) hZ hw_82 hw_79 (by decide) (by decide)) (g := (mkF m 39 #[.val (.int p1), .val (.int p2), .val (.int p3), .val (.int p4), .val (.int p5), .val (.int (3 : Int32)), .val (.ref y305b), .val (.ref y306b), .val (.ref y378b), .unset, .unset, .unset, .unset, .unset, .unset] [(.ref b379), (.ref b379)])) rfl (by rw [hml]; rfl) (Steps.refl _) (a := b379) (argsL := []) (rest := [(.ref b379)]) (lenOf pd_0 rfl) rfl (by show 2 * 0 + _ ≤ _; exact Nat.le_of_eq rfl) (hb hby at_39) (fun _ _ => ⟨rfl, e379, (by decide : 10 + 0 ≤ _), (by decide : 69 + 0 ≤ _)⟩)
      dsimp only [Pt.U, Pt.locs, Pt.cells, Pt.slots] at X383 l383 y383 z383 st383 hQ383
      subst l383 y383 z383
      obtain ⟨rfl, N383q, Kc383, Ec383, Fm383, Fs383, Fe383⟩ := hQ383
      have N383 := Fr.app N378 N383q
      have sz383 : h379.size ≤ T383.heap.size := Kc383.1
      have Z383 : n0 ≤ T383.heap.size := Nat.le_trans Z379 sz383
      have O383 : Old Z n0 T383.heap := O379.keep Kc383 (allS (show n0 ≤ b379 by omega) all0)
      have f385 := (Ec305.keep Kc306)
      have f386 := (f385.keep Kc378)
      have f387 := (f386.ext E379)
      have f388 := (f387.keep Kc383)
      obtain ⟨cq384, kq384, q384a, q384b, q384c⟩ := isOf hZ rfl Ec383
      obtain ⟨_, _, ⟨T384, L384, k384, n384⟩, -, X384, ⟨Lc384, hQ384, l384, y384, z384⟩, st384⟩ := X383.interfaceBack hx (xi := (⟨"java/util/List", "add", "(Ljava/lang/Object;)Z"⟩ : MethodName)) (y := (⟨"java/util/ArrayList", "add", "(Ljava/lang/Object;)Z"⟩ : MethodName)) hown (mvT hZ hw_101) (mvT hZ hw_102) (mvT hZ hw_103) (mvT hZ hw_104) (mvT hZ hw_105) (mvT hZ hw_106) (mvT hZ hw_107) (mvT hZ hw_108) (by decide) (backOf (W := 0) (rmAd0 l Z a0 hw [] b379 y305b ed kd (0 : Int32) T383.heap n0 Z383 Ec383 Fm383 Fs383 Fe383 (by omega) (by omega) S_D V_D f388 (by omega) O383) hZ hw_109 hw_79 (by decide) (by decide)) q384a q384b q384c (g := (mkF m 48 #[.val (.int p1), .val (.int p2), .val (.int p3), .val (.int p4), .val (.int p5), .val (.int (3 : Int32)), .val (.ref y305b), .val (.ref y306b), .val (.ref y378b), .val (.ref b379), .unset, .unset, .unset, .unset, .unset] [(.ref y305b), (.ref b379)])) rfl (by rw [hml]; rfl) (Steps.refl _) (argsL := [(.ref y305b)]) (rest := []) (lenOf pd_16 rfl) rfl (by show 2 * 0 + _ ≤ _; exact Nat.le_of_eq rfl) (hb hby at_48) (fun _ _ => ⟨rfl, rfl, (by decide : 10 + 1 ≤ _), (by decide : 69 + 10 ≤ _)⟩)
      dsimp only [Pt.U, Pt.locs, Pt.cells, Pt.slots] at X384 l384 y384 z384 st384 hQ384
      subst l384 y384 z384
      obtain ⟨y384b, y384k, rfl, N384q, Kc384, lo384, hi384, Ec384, Fm384, Fs384, Fe384, Ov384, Vc384⟩ := hQ384
      have N384 := Fr.app N383 N384q
      have sz384 : T383.heap.size ≤ T384.heap.size := Kc384.1
      have Z384 : n0 ≤ T384.heap.size := Nat.le_trans Z383 sz384
      have O384 : Old Z n0 T384.heap := O383.keep Kc384 (allS (show n0 ≤ b379 by omega) all0)
      have f390 := (Ec306.keep Kc378)
      have f391 := (f390.ext E379)
      have f392 := (f391.keep Kc383)
      have f393 := (f392.keep Kc384)
      obtain ⟨cq389, kq389, q389a, q389b, q389c⟩ := isOf hZ rfl Ec384
      obtain ⟨_, _, ⟨T389, L389, k389, n389⟩, -, X389, ⟨Lc389, hQ389, l389, y389, z389⟩, st389⟩ := X384.interfaceBack hx (xi := (⟨"java/util/List", "add", "(Ljava/lang/Object;)Z"⟩ : MethodName)) (y := (⟨"java/util/ArrayList", "add", "(Ljava/lang/Object;)Z"⟩ : MethodName)) hown (mvT hZ hw_101) (mvT hZ hw_102) (mvT hZ hw_103) (mvT hZ hw_104) (mvT hZ hw_105) (mvT hZ hw_106) (mvT hZ hw_107) (mvT hZ hw_108) (by decide) (backOf (W := 0) (rmAd1 l Z a0 hw [] b379 y306b y384b y384k ((0 : Int32) + (1 : Int32)) y305b T384.heap n0 Z384 Ec384 Fm384 Fs384 Fe384 (by omega) (by omega) (show b379 ≠ y384b by omega) Ov384 Vc384 f393) hZ hw_109 hw_79 (by decide) (by decide)) q389a q389b q389c (g := (mkF m 64 #[.val (.int p1), .val (.int p2), .val (.int p3), .val (.int p4), .val (.int p5), .val (.int (3 : Int32)), .val (.ref y305b), .val (.ref y306b), .val (.ref y378b), .val (.ref b379), .unset, .unset, .unset, .unset, .unset] [(.ref y306b), (.ref b379)])) rfl (by rw [hml]; rfl) (Steps.refl _) (argsL := [(.ref y306b)]) (rest := []) (lenOf pd_16 rfl) rfl (by show 2 * 0 + _ ≤ _; exact Nat.le_of_eq rfl) (hb hby at_64) (fun _ _ => ⟨rfl, rfl, (by decide : 11 + 0 ≤ _), (by decide : 79 + 0 ≤ _)⟩)
      dsimp only [Pt.U, Pt.locs, Pt.cells, Pt.slots] at X389 l389 y389 z389 st389 hQ389
      subst l389 y389 z389
      obtain ⟨rfl, N389q, Kc389, Ec389, Fm389, Fs389, Fe389, Vc389⟩ := hQ389
      have N389 := Fr.app N384 N389q
      have sz389 : T384.heap.size ≤ T389.heap.size := Kc389.1
      have Z389 : n0 ≤ T389.heap.size := Nat.le_trans Z384 sz389
      have O389 : Old Z n0 T389.heap := O384.keep Kc389 (allS (show n0 ≤ b379 by omega) (allS (show n0 ≤ y384b by omega) all0))
      have f395 := (Ec378.ext E379)
      have f396 := (f395.keep Kc383)
      have f397 := (f396.keep Kc384)
      have f398 := (f397.keep Kc389)
      obtain ⟨cq394, kq394, q394a, q394b, q394c⟩ := isOf hZ rfl Ec389
      obtain ⟨_, _, ⟨T394, L394, k394, n394⟩, -, X394, ⟨Lc394, hQ394, l394, y394, z394⟩, st394⟩ := X389.interfaceBack hx (xi := (⟨"java/util/List", "add", "(Ljava/lang/Object;)Z"⟩ : MethodName)) (y := (⟨"java/util/ArrayList", "add", "(Ljava/lang/Object;)Z"⟩ : MethodName)) hown (mvT hZ hw_101) (mvT hZ hw_102) (mvT hZ hw_103) (mvT hZ hw_104) (mvT hZ hw_105) (mvT hZ hw_106) (mvT hZ hw_107) (mvT hZ hw_108) (by decide) (backOf (W := 0) (rmAd2 l Z a0 hw [] b379 y378b y384b y384k (((0 : Int32) + (1 : Int32)) + (1 : Int32)) y305b y306b T389.heap n0 Z389 Ec389 Fm389 Fs389 Fe389 (by omega) (by omega) (show b379 ≠ y384b by omega) Ov384 Vc389 f398) hZ hw_109 hw_79 (by decide) (by decide)) q394a q394b q394c (g := (mkF m 80 #[.val (.int p1), .val (.int p2), .val (.int p3), .val (.int p4), .val (.int p5), .val (.int (3 : Int32)), .val (.ref y305b), .val (.ref y306b), .val (.ref y378b), .val (.ref b379), .unset, .unset, .unset, .unset, .unset] [(.ref y378b), (.ref b379)])) rfl (by rw [hml]; rfl) (Steps.refl _) (argsL := [(.ref y378b)]) (rest := []) (lenOf pd_16 rfl) rfl (by show 2 * 0 + _ ≤ _; exact Nat.le_of_eq rfl) (hb hby at_80) (fun _ _ => ⟨rfl, rfl, (by decide : 11 + 0 ≤ _), (by decide : 79 + 0 ≤ _)⟩)
      dsimp only [Pt.U, Pt.locs, Pt.cells, Pt.slots] at X394 l394 y394 z394 st394 hQ394
      subst l394 y394 z394
      obtain ⟨rfl, N394q, Kc394, Ec394, Fm394, Fs394, Fe394, Vc394⟩ := hQ394
      have N394 := Fr.app N389 N394q
      have sz394 : T389.heap.size ≤ T394.heap.size := Kc394.1
      have Z394 : n0 ≤ T394.heap.size := Nat.le_trans Z389 sz394
      have O394 : Old Z n0 T394.heap := O389.keep Kc394 (allS (show n0 ≤ b379 by omega) (allS (show n0 ≤ y384b by omega) all0))
      obtain ⟨T399, h399, X399, e399, E399, A399, D399, -, st399⟩ := newO X394 hx hZ hown hw_136 hw_137 hw_138 rfl (g := (mkF m 86 #[.val (.int p1), .val (.int p2), .val (.int p3), .val (.int p4), .val (.int p5), .val (.int (3 : Int32)), .val (.ref y305b), .val (.ref y306b), .val (.ref y378b), .val (.ref b379), .unset, .unset, .unset, .unset, .unset] [])) rfl (hb hby at_86) (by decide) (by decide)
      obtain ⟨b399, g399⟩ : ∃ z, z = T394.heap.size := ⟨_, rfl⟩
      rw [← g399] at A399 D399 st399
      have lt399 : b399 < h399.size := A399.lt
      have sz399 : T394.heap.size ≤ h399.size := E399.1
      have Z399 : n0 ≤ h399.size := Nat.le_trans Z394 sz399
      have O399 : Old Z n0 h399 := O394.ext E399
      have F400 : Fld Z h399 b399 "com/example/maksu/maksu/catalog/Plan" "name" "Ljava/lang/String;" .null := D399 (Or.inr hw_153) (ty := (.object "java/lang/String")) (by decide)
      have F401 : Fld Z h399 b399 "com/example/maksu/maksu/catalog/Plan" "product" "Ljava/lang/String;" .null := D399 (Or.inr hw_155) (ty := (.object "java/lang/String")) (by decide)
      have F402 : Fld Z h399 b399 "com/example/maksu/maksu/catalog/Plan" "phases" "Ljava/util/List;" .null := D399 (Or.inr hw_157) (ty := (.object "java/util/List")) (by decide)
      have wS : ∀ a ∈ Bundle.stringAtoms, a.before a0 Z = true := by
        intro a ha
        simp only [Bundle.stringAtoms, List.mem_cons, List.not_mem_nil, or_false] at ha
        rcases ha with rfl | rfl | rfl | rfl | rfl | rfl | rfl
        · exact hw_140
        · exact hw_141
        · exact hw_142
        · exact hw_143
        · exact hw_144
        · exact hw_145
        · exact hw_146
      have Xw : Stand p l e room_1 (s.setVm s.vm) m #[(.int p1), (.int p2), (.int p3), (.int p4), (.int p5)] below meth c T399 _ _ _ := X399
      obtain ⟨a403, T403, h403, k403, X403, e403, E403, hS403, hk403, hZ403, hown403, st403⟩ := ldcS (s := s) (vm0 := s.vm) Xw hx hZ hown hw_139 wS e399 ((State.WarmedH.refl s).since 0) (Nat.zero_le _) (g := (mkF m 90 #[.val (.int p1), .val (.int p2), .val (.int p3), .val (.int p4), .val (.int p5), .val (.int (3 : Int32)), .val (.ref y305b), .val (.ref y306b), .val (.ref y378b), .val (.ref b379), .unset, .unset, .unset, .unset, .unset] [(.ref b399), (.ref b399)])) rfl (hb hby at_90) (n := 32) (by decide) (by decide) (by decide) (by decide)
      have sz403 : h399.size ≤ h403.size := E403.1
      have Z403 : n0 ≤ h403.size := Nat.le_trans Z399 sz403
      have O403 : Old Z n0 h403 := O399.ext E403
      obtain ⟨a404, T404, h404, k404, X404, e404, E404, hS404, hk404, hZ404, hown404, st404⟩ := ldcS (s := s) (vm0 := T403.vm) X403 hx hZ403 hown403 hw_147 wS e403 hS403 (show k403 ≤ _ by omega) (g := (mkF m 92 #[.val (.int p1), .val (.int p2), .val (.int p3), .val (.int p4), .val (.int p5), .val (.int (3 : Int32)), .val (.ref y305b), .val (.ref y306b), .val (.ref y378b), .val (.ref b379), .unset, .unset, .unset, .unset, .unset] [(.ref a403), (.ref b399), (.ref b399)])) rfl (hb hby at_92) (n := 24) (by decide) (by decide) (by decide) (by decide)
      have sz404 : h403.size ≤ h404.size := E404.1
      have Z404 : n0 ≤ h404.size := Nat.le_trans Z403 sz404
      have O404 : Old Z n0 h404 := O403.ext E404
      have f406 := (A399.ext E403)
      have f407 := (f406.ext E404)
      have f408 := (F400.ext E403)
      have f409 := (f408.ext E404)
      have f410 := (F401.ext E403)
      have f411 := (f410.ext E404)
      have f412 := (F402.ext E403)
      have f413 := (f412.ext E404)
      obtain ⟨_, _, ⟨T405, L405, k405, n405⟩, -, X405, ⟨Lc405, hQ405, l405, y405, z405⟩, st405⟩ := X404.specialBack hx (y := (⟨"com/example/maksu/maksu/catalog/Plan", "<init>", "(Ljava/lang/String;Ljava/lang/String;Ljava/util/List;)V"⟩ : MethodName)) rfl hown404 (mvT hZ404 hw_148) (mvT hZ404 hw_149) (mvT hZ404 hw_150) (by decide) (backOf (W := 1) (rmPln l Z a0 hw [] b399 a403 a404 b379 h404 n0 Z404 f407 f409 f411 f413 (by omega)) hZ404 hw_150 hw_138 (by decide) (by decide)) (g := (mkF m 96 #[.val (.int p1), .val (.int p2), .val (.int p3), .val (.int p4), .val (.int p5), .val (.int (3 : Int32)), .val (.ref y305b), .val (.ref y306b), .val (.ref y378b), .val (.ref b379), .unset, .unset, .unset, .unset, .unset] [(.ref b379), (.ref a404), (.ref a403), (.ref b399), (.ref b399)])) rfl (by rw [hml]; rfl) (Steps.refl _) (a := b399) (argsL := [(.ref a403), (.ref a404), (.ref b379)]) (rest := [(.ref b399)]) (lenOf pd_17 rfl) rfl (by show 2 * 0 + _ ≤ _; exact Nat.le_of_eq rfl) (hb hby at_96) (fun _ _ => ⟨rfl, e404, (by decide : 16 + 0 ≤ _), (by decide : 146 + 0 ≤ _)⟩)
      dsimp only [Pt.U, Pt.locs, Pt.cells, Pt.slots] at X405 l405 y405 z405 st405 hQ405
      subst l405 y405 z405
      obtain ⟨rfl, N405q, Kc405, Ec405, Fc405⟩ := hQ405
      have N405 := Fr.app N394 N405q
      have sz405 : h404.size ≤ T405.heap.size := Kc405.1
      have Z405 : n0 ≤ T405.heap.size := Nat.le_trans Z404 sz405
      have O405 : Old Z n0 T405.heap := O404.keep Kc405 (allS (show n0 ≤ b399 by omega) all0)
      have f415 := (Ec394.ext E399)
      have f416 := (f415.ext E403)
      have f417 := (f416.ext E404)
      have f418 := (f417.keep Kc405)
      have f419 := (Fs394.ext E399)
      have f420 := (f419.ext E403)
      have f421 := (f420.ext E404)
      have f422 := (f421.keep Kc405 (ninS (show b379 ≠ b399 by omega) nin0))
      have f423 := (Fe394.ext E399)
      have f424 := (f423.ext E403)
      have f425 := (f424.ext E404)
      have f426 := (f425.keep Kc405 (ninS (show b379 ≠ b399 by omega) nin0))
      have f427 := (Vc394.ext E399)
      have f428 := (f427.ext E403)
      have f429 := (f428.ext E404)
      have f430 := (f429.keep Kc405 (ninS (show y384b ≠ b399 by omega) nin0))
      have f431 := (f398.keep Kc394)
      have f432 := (f431.ext E399)
      have f433 := (f432.ext E403)
      have f434 := (f433.ext E404)
      have f435 := (f434.keep Kc405)
      have f436 := (Fc378.ext E379)
      have f437 := (f436.keep Kc383 (ninS (show y378b ≠ b379 by omega) nin0))
      have f438 := (f437.keep Kc384 (ninS (show y378b ≠ b379 by omega) nin0))
      have f439 := (f438.keep Kc389 (ninS (show y378b ≠ b379 by omega) (ninS (show y378b ≠ y384b by omega) nin0)))
      have f440 := (f439.keep Kc394 (ninS (show y378b ≠ b379 by omega) (ninS (show y378b ≠ y384b by omega) nin0)))
      have f441 := (f440.ext E399)
      have f442 := (f441.ext E403)
      have f443 := (f442.ext E404)
      have f444 := (f443.keep Kc405 (ninS (show y378b ≠ b399 by omega) nin0))
      have f445 := (Er378.ext E379)
      have f446 := (f445.keep Kc383)
      have f447 := (f446.keep Kc384)
      have f448 := (f447.keep Kc389)
      have f449 := (f448.keep Kc394)
      have f450 := (f449.ext E399)
      have f451 := (f450.ext E403)
      have f452 := (f451.ext E404)
      have f453 := (f452.keep Kc405)
      have f454 := (Fb378.ext E379)
      have f455 := (f454.keep Kc383 (ninS (show y378r ≠ b379 by omega) nin0))
      have f456 := (f455.keep Kc384 (ninS (show y378r ≠ b379 by omega) nin0))
      have f457 := (f456.keep Kc389 (ninS (show y378r ≠ b379 by omega) (ninS (show y378r ≠ y384b by omega) nin0)))
      have f458 := (f457.keep Kc394 (ninS (show y378r ≠ b379 by omega) (ninS (show y378r ≠ y384b by omega) nin0)))
      have f459 := (f458.ext E399)
      have f460 := (f459.ext E403)
      have f461 := (f460.ext E404)
      have f462 := (f461.keep Kc405 (ninS (show y378r ≠ b399 by omega) nin0))
      obtain ⟨cq414, kq414, q414a, q414b, q414c⟩ := isOf hZ404 rfl Ec405
      obtain ⟨_, _, ⟨T414, L414, k414, n414⟩, -, X414, ⟨Lc414, hQ414, l414, y414, z414⟩, st414⟩ := X405.virtualBack hx (y := (⟨"com/example/maksu/maksu/catalog/Plan", "billingPeriod", "()Ljava/util/Optional;"⟩ : MethodName)) (z := (⟨"com/example/maksu/maksu/catalog/Plan", "billingPeriod", "()Ljava/util/Optional;"⟩ : MethodName)) hown404 (mvT hZ404 hw_158) (mvT hZ404 hw_159) (notFace_of_selects (args := #[]) (mvT hZ404 hw_161)) (mvT hZ404 hw_161) (mvT hZ404 hw_160) (by decide) (backOf (W := 0) (rmBP1 l Z a0 hw [] b399 b379 (3 : Int32) y384b y384k [(.ref y305b), (.ref y306b), (.ref y378b), .null, .null, .null, .null, .null, .null, .null] y378b y378r (own_pk W p5) T405.heap n0 Z405 Fc405 f418 f422 f426 f430 ⟨by decide, by decide⟩ rfl (by decide) (by decide) f435 f444 f453 f462) hZ404 hw_162 hw_138 (by decide) (by decide)) q414a q414c (g := (mkF m 103 #[.val (.int p1), .val (.int p2), .val (.int p3), .val (.int p4), .val (.int p5), .val (.int (3 : Int32)), .val (.ref y305b), .val (.ref y306b), .val (.ref y378b), .val (.ref b379), .val (.ref b399), .unset, .unset, .unset, .unset] [(.ref b399)])) rfl (by rw [hml]; rfl) (Steps.refl _) (argsL := []) (rest := []) (lenOf pd_18 rfl) rfl (by show 2 * 0 + _ ≤ _; exact Nat.le_of_eq rfl) (hb hby at_103) (fun _ _ => ⟨rfl, rfl, (by decide : 16 + 1 ≤ _), (by decide : 146 + 1 ≤ _)⟩)
      dsimp only [Pt.U, Pt.locs, Pt.cells, Pt.slots] at X414 l414 y414 z414 st414 hQ414
      subst l414 y414 z414
      obtain ⟨y414b, rfl, N414q, Kc414, lo414, hi414, Ec414, Fc414⟩ := hQ414
      have N414 := Fr.app N405 N414q
      have sz414 : T405.heap.size ≤ T414.heap.size := Kc414.1
      have Z414 : n0 ≤ T414.heap.size := Nat.le_trans Z405 sz414
      have O414 : Old Z n0 T414.heap := O405.keep Kc414 all0
      obtain ⟨_, _, ⟨T463, L463, k463, n463⟩, -, X463, ⟨Lc463, hQ463, l463, y463, z463⟩, st463⟩ := Jvm.LawKit.callS X414 hx (y := (⟨"com/example/maksu/maksu/catalog/PlanBillingPeriodPinLaw", "pick", "(I)Lcom/example/maksu/maksu/catalog/BillingPeriod;"⟩ : MethodName)) hown404 (mvT hZ404 hw_8) (mvT hZ404 hw_9) (mvT hZ404 hw_3) (mvT hZ404 hw_10) (by decide) (backOf (W := 0) (rmPick l Z a0 hw [] p5 W T414.heap n0 Z414 BPs O414) hZ404 hw_10 hw_3 (by decide) (by decide)) (g := (mkF m 152 #[.val (.int p1), .val (.int p2), .val (.int p3), .val (.int p4), .val (.int p5), .val (.int (3 : Int32)), .val (.ref y305b), .val (.ref y306b), .val (.ref y378b), .val (.ref b379), .val (.ref b399), .val (.ref y414b), .val (.int (2 : Int32)), .val (.int p5), .val .null] [(.int p5)])) rfl (by rw [hml]; rfl) (argsL := [(.int p5)]) (rest := []) (lenOf pd_2 rfl) rfl (by show 2 * 0 + _ ≤ _; exact Nat.le_of_eq rfl) (hb hby at_152) (fun _ _ => ⟨rfl, rfl, (by decide : 17 + 1 ≤ _), (by decide : 147 + 16 ≤ _)⟩)
      dsimp only [Pt.U, Pt.locs, Pt.cells, Pt.slots] at X463 l463 y463 z463 st463 hQ463
      subst l463 y463 z463
      obtain ⟨rfl, N463q, Kc463⟩ := hQ463
      have N463 := Fr.app N414 N463q
      have sz463 : T414.heap.size ≤ T463.heap.size := Kc463.1
      have Z463 : n0 ≤ T463.heap.size := Nat.le_trans Z414 sz463
      have O463 : Old Z n0 T463.heap := O414.keep Kc463 all0
      have f465 := (Fc414.keep Kc463 nin0)
      have f466 := (Ec414.keep Kc463)
      obtain ⟨cq464, kq464, q464a, q464b, q464c⟩ := isOf hZ404 rfl f466
      obtain ⟨_, _, ⟨T464, L464, k464, n464⟩, -, X464, ⟨Lc464, hQ464, l464, y464, z464⟩, st464⟩ := X463.virtualBack hx (y := (⟨"java/util/Optional", "orElse", "(Ljava/lang/Object;)Ljava/lang/Object;"⟩ : MethodName)) (z := (⟨"java/util/Optional", "orElse", "(Ljava/lang/Object;)Ljava/lang/Object;"⟩ : MethodName)) hown404 (mvT hZ404 hw_217) (mvT hZ404 hw_218) (notFace_of_selects (args := #[]) (mvT hZ404 hw_220)) (mvT hZ404 hw_220) (mvT hZ404 hw_219) (by decide) (backOf (W := 0) (rmOr1 l Z a0 hw [] y414b (own_pk W p5) T463.heap n0 Z463 f465) hZ404 hw_221 hw_206 (by decide) (by decide)) q464a q464c (g := (mkF m 165 #[.val (.int p1), .val (.int p2), .val (.int p3), .val (.int p4), .val (.int p5), .val (.int (3 : Int32)), .val (.ref y305b), .val (.ref y306b), .val (.ref y378b), .val (.ref b379), .val (.ref b399), .val (.ref y414b), .val (.int (2 : Int32)), .val (.int p5), .val (.ref (own_pk W p5))] [.null, (.ref y414b)])) rfl (by rw [hml]; rfl) (Steps.refl _) (argsL := [.null]) (rest := []) (lenOf pd_19 rfl) rfl (by show 2 * 0 + _ ≤ _; exact Nat.le_of_eq rfl) (hb hby at_165) (fun _ _ => ⟨rfl, rfl, (by decide : 18 + 0 ≤ _), (by decide : 163 + 0 ≤ _)⟩)
      dsimp only [Pt.U, Pt.locs, Pt.cells, Pt.slots] at X464 l464 y464 z464 st464 hQ464
      subst l464 y464 z464
      obtain ⟨rfl, N464q, e464⟩ := hQ464
      have N464 := Fr.app N463 N464q
      have go467 : ∀ t_, Steps p.tables e below (T464.setTop (mkF m 178 #[.val (.int p1), .val (.int p2), .val (.int p3), .val (.int p4), .val (.int p5), .val (.int (3 : Int32)), .val (.ref y305b), .val (.ref y306b), .val (.ref y378b), .val (.ref b379), .val (.ref b399), .val (.ref y414b), .val (.int (2 : Int32)), .val (.int p5), .val (.ref (own_pk W p5))] [(.int (1 : Int32))])) t_ → Steps p.tables e below (s₁.setTop (entryFrame m #[(.int p1), (.int p2), (.int p3), (.int p4), (.int p5)] maxLocals)) t_ := by
        intro t_ k_
        refine go307 t_ ?_
        show Steps p.tables e below (T306.setTop (mkF m 30 #[.val (.int p1), .val (.int p2), .val (.int p3), .val (.int p4), .val (.int p5), .val (.int (3 : Int32)), .val (.ref y305b), .val (.ref y306b), .unset, .unset, .unset, .unset, .unset, .unset, .unset] [(.int p5), (.int (2 : Int32)), (.int p2)])) _
        refine st378 _ ?_
        show Steps p.tables e below (T378.setTop (mkF m 33 #[.val (.int p1), .val (.int p2), .val (.int p3), .val (.int p4), .val (.int p5), .val (.int (3 : Int32)), .val (.ref y305b), .val (.ref y306b), .unset, .unset, .unset, .unset, .unset, .unset, .unset] [(.ref y378b)])) _
        refine XS.astore X378.here hx rfl (hb hby at_33) rfl rfl (l' := #[.val (.int p1), .val (.int p2), .val (.int p3), .val (.int p4), .val (.int p5), .val (.int (3 : Int32)), .val (.ref y305b), .val (.ref y306b), .val (.ref y378b), .unset, .unset, .unset, .unset, .unset, .unset]) rfl ?_
        show Steps p.tables e below (T378.setTop (mkF m 35 #[.val (.int p1), .val (.int p2), .val (.int p3), .val (.int p4), .val (.int p5), .val (.int (3 : Int32)), .val (.ref y305b), .val (.ref y306b), .val (.ref y378b), .unset, .unset, .unset, .unset, .unset, .unset] [])) _
        refine st379 _ ?_
        show Steps p.tables e below (T379.setTop (mkF m 38 #[.val (.int p1), .val (.int p2), .val (.int p3), .val (.int p4), .val (.int p5), .val (.int (3 : Int32)), .val (.ref y305b), .val (.ref y306b), .val (.ref y378b), .unset, .unset, .unset, .unset, .unset, .unset] [(.ref b379)])) _
        refine XS.dup X379.here hx rfl (hb hby at_38) rfl rfl ?_
        show Steps p.tables e below (T379.setTop (mkF m 39 #[.val (.int p1), .val (.int p2), .val (.int p3), .val (.int p4), .val (.int p5), .val (.int (3 : Int32)), .val (.ref y305b), .val (.ref y306b), .val (.ref y378b), .unset, .unset, .unset, .unset, .unset, .unset] [(.ref b379), (.ref b379)])) _
        refine st383.trans ?_
        show Steps p.tables e below (T383.setTop (mkF m 42 #[.val (.int p1), .val (.int p2), .val (.int p3), .val (.int p4), .val (.int p5), .val (.int (3 : Int32)), .val (.ref y305b), .val (.ref y306b), .val (.ref y378b), .unset, .unset, .unset, .unset, .unset, .unset] [(.ref b379)])) _
        refine XS.astore X383.here hx rfl (hb hby at_42) rfl rfl (l' := #[.val (.int p1), .val (.int p2), .val (.int p3), .val (.int p4), .val (.int p5), .val (.int (3 : Int32)), .val (.ref y305b), .val (.ref y306b), .val (.ref y378b), .val (.ref b379), .unset, .unset, .unset, .unset, .unset]) rfl ?_
        show Steps p.tables e below (T383.setTop (mkF m 44 #[.val (.int p1), .val (.int p2), .val (.int p3), .val (.int p4), .val (.int p5), .val (.int (3 : Int32)), .val (.ref y305b), .val (.ref y306b), .val (.ref y378b), .val (.ref b379), .unset, .unset, .unset, .unset, .unset] [])) _
        refine XS.aload X383.here hx rfl (hb hby at_44) rfl rfl ?_
        show Steps p.tables e below (T383.setTop (mkF m 46 #[.val (.int p1), .val (.int p2), .val (.int p3), .val (.int p4), .val (.int p5), .val (.int (3 : Int32)), .val (.ref y305b), .val (.ref y306b), .val (.ref y378b), .val (.ref b379), .unset, .unset, .unset, .unset, .unset] [(.ref b379)])) _
        refine XS.aload X383.here hx rfl (hb hby at_46) rfl rfl ?_
        show Steps p.tables e below (T383.setTop (mkF m 48 #[.val (.int p1), .val (.int p2), .val (.int p3), .val (.int p4), .val (.int p5), .val (.int (3 : Int32)), .val (.ref y305b), .val (.ref y306b), .val (.ref y378b), .val (.ref b379), .unset, .unset, .unset, .unset, .unset] [(.ref y305b), (.ref b379)])) _
        refine st384.trans ?_
        show Steps p.tables e below (T384.setTop (mkF m 53 #[.val (.int p1), .val (.int p2), .val (.int p3), .val (.int p4), .val (.int p5), .val (.int (3 : Int32)), .val (.ref y305b), .val (.ref y306b), .val (.ref y378b), .val (.ref b379), .unset, .unset, .unset, .unset, .unset] [(.int (1 : Int32))])) _
        refine XS.pop X384.here hx rfl (hb hby at_53) rfl rfl ?_
        show Steps p.tables e below (T384.setTop (mkF m 54 #[.val (.int p1), .val (.int p2), .val (.int p3), .val (.int p4), .val (.int p5), .val (.int (3 : Int32)), .val (.ref y305b), .val (.ref y306b), .val (.ref y378b), .val (.ref b379), .unset, .unset, .unset, .unset, .unset] [])) _
        refine XS.iload X384.here hx rfl (hb hby at_54) rfl ?_
        show Steps p.tables e below (T384.setTop (mkF m 56 #[.val (.int p1), .val (.int p2), .val (.int p3), .val (.int p4), .val (.int p5), .val (.int (3 : Int32)), .val (.ref y305b), .val (.ref y306b), .val (.ref y378b), .val (.ref b379), .unset, .unset, .unset, .unset, .unset] [(.int (3 : Int32))])) _
        refine XS.iconst X384.here hx rfl (hb hby at_56) ?_
        show Steps p.tables e below (T384.setTop (mkF m 57 #[.val (.int p1), .val (.int p2), .val (.int p3), .val (.int p4), .val (.int p5), .val (.int (3 : Int32)), .val (.ref y305b), .val (.ref y306b), .val (.ref y378b), .val (.ref b379), .unset, .unset, .unset, .unset, .unset] [(.int (2 : Int32)), (.int (3 : Int32))])) _
        refine XS.icmpNo X384.here hx rfl (hb hby at_57) rfl (flt (by decide : ¬ ((3 : Int32) < (2 : Int32)))).1 ?_
        show Steps p.tables e below (T384.setTop (mkF m 60 #[.val (.int p1), .val (.int p2), .val (.int p3), .val (.int p4), .val (.int p5), .val (.int (3 : Int32)), .val (.ref y305b), .val (.ref y306b), .val (.ref y378b), .val (.ref b379), .unset, .unset, .unset, .unset, .unset] [])) _
        refine XS.aload X384.here hx rfl (hb hby at_60) rfl rfl ?_
        show Steps p.tables e below (T384.setTop (mkF m 62 #[.val (.int p1), .val (.int p2), .val (.int p3), .val (.int p4), .val (.int p5), .val (.int (3 : Int32)), .val (.ref y305b), .val (.ref y306b), .val (.ref y378b), .val (.ref b379), .unset, .unset, .unset, .unset, .unset] [(.ref b379)])) _
        refine XS.aload X384.here hx rfl (hb hby at_62) rfl rfl ?_
        show Steps p.tables e below (T384.setTop (mkF m 64 #[.val (.int p1), .val (.int p2), .val (.int p3), .val (.int p4), .val (.int p5), .val (.int (3 : Int32)), .val (.ref y305b), .val (.ref y306b), .val (.ref y378b), .val (.ref b379), .unset, .unset, .unset, .unset, .unset] [(.ref y306b), (.ref b379)])) _
        refine st389.trans ?_
        show Steps p.tables e below (T389.setTop (mkF m 69 #[.val (.int p1), .val (.int p2), .val (.int p3), .val (.int p4), .val (.int p5), .val (.int (3 : Int32)), .val (.ref y305b), .val (.ref y306b), .val (.ref y378b), .val (.ref b379), .unset, .unset, .unset, .unset, .unset] [(.int (1 : Int32))])) _
        refine XS.pop X389.here hx rfl (hb hby at_69) rfl rfl ?_
        show Steps p.tables e below (T389.setTop (mkF m 70 #[.val (.int p1), .val (.int p2), .val (.int p3), .val (.int p4), .val (.int p5), .val (.int (3 : Int32)), .val (.ref y305b), .val (.ref y306b), .val (.ref y378b), .val (.ref b379), .unset, .unset, .unset, .unset, .unset] [])) _
        refine XS.iload X389.here hx rfl (hb hby at_70) rfl ?_
        show Steps p.tables e below (T389.setTop (mkF m 72 #[.val (.int p1), .val (.int p2), .val (.int p3), .val (.int p4), .val (.int p5), .val (.int (3 : Int32)), .val (.ref y305b), .val (.ref y306b), .val (.ref y378b), .val (.ref b379), .unset, .unset, .unset, .unset, .unset] [(.int (3 : Int32))])) _
        refine XS.iconst X389.here hx rfl (hb hby at_72) ?_
        show Steps p.tables e below (T389.setTop (mkF m 73 #[.val (.int p1), .val (.int p2), .val (.int p3), .val (.int p4), .val (.int p5), .val (.int (3 : Int32)), .val (.ref y305b), .val (.ref y306b), .val (.ref y378b), .val (.ref b379), .unset, .unset, .unset, .unset, .unset] [(.int (3 : Int32)), (.int (3 : Int32))])) _
        refine XS.icmpNo X389.here hx rfl (hb hby at_73) rfl (flt (by decide : ¬ ((3 : Int32) < (3 : Int32)))).1 ?_
        show Steps p.tables e below (T389.setTop (mkF m 76 #[.val (.int p1), .val (.int p2), .val (.int p3), .val (.int p4), .val (.int p5), .val (.int (3 : Int32)), .val (.ref y305b), .val (.ref y306b), .val (.ref y378b), .val (.ref b379), .unset, .unset, .unset, .unset, .unset] [])) _
        refine XS.aload X389.here hx rfl (hb hby at_76) rfl rfl ?_
        show Steps p.tables e below (T389.setTop (mkF m 78 #[.val (.int p1), .val (.int p2), .val (.int p3), .val (.int p4), .val (.int p5), .val (.int (3 : Int32)), .val (.ref y305b), .val (.ref y306b), .val (.ref y378b), .val (.ref b379), .unset, .unset, .unset, .unset, .unset] [(.ref b379)])) _
        refine XS.aload X389.here hx rfl (hb hby at_78) rfl rfl ?_
        show Steps p.tables e below (T389.setTop (mkF m 80 #[.val (.int p1), .val (.int p2), .val (.int p3), .val (.int p4), .val (.int p5), .val (.int (3 : Int32)), .val (.ref y305b), .val (.ref y306b), .val (.ref y378b), .val (.ref b379), .unset, .unset, .unset, .unset, .unset] [(.ref y378b), (.ref b379)])) _
        refine st394.trans ?_
        show Steps p.tables e below (T394.setTop (mkF m 85 #[.val (.int p1), .val (.int p2), .val (.int p3), .val (.int p4), .val (.int p5), .val (.int (3 : Int32)), .val (.ref y305b), .val (.ref y306b), .val (.ref y378b), .val (.ref b379), .unset, .unset, .unset, .unset, .unset] [(.int (1 : Int32))])) _
        refine XS.pop X394.here hx rfl (hb hby at_85) rfl rfl ?_
        show Steps p.tables e below (T394.setTop (mkF m 86 #[.val (.int p1), .val (.int p2), .val (.int p3), .val (.int p4), .val (.int p5), .val (.int (3 : Int32)), .val (.ref y305b), .val (.ref y306b), .val (.ref y378b), .val (.ref b379), .unset, .unset, .unset, .unset, .unset] [])) _
        refine st399 _ ?_
        show Steps p.tables e below (T399.setTop (mkF m 89 #[.val (.int p1), .val (.int p2), .val (.int p3), .val (.int p4), .val (.int p5), .val (.int (3 : Int32)), .val (.ref y305b), .val (.ref y306b), .val (.ref y378b), .val (.ref b379), .unset, .unset, .unset, .unset, .unset] [(.ref b399)])) _
        refine XS.dup X399.here hx rfl (hb hby at_89) rfl rfl ?_
        show Steps p.tables e below (T399.setTop (mkF m 90 #[.val (.int p1), .val (.int p2), .val (.int p3), .val (.int p4), .val (.int p5), .val (.int (3 : Int32)), .val (.ref y305b), .val (.ref y306b), .val (.ref y378b), .val (.ref b379), .unset, .unset, .unset, .unset, .unset] [(.ref b399), (.ref b399)])) _
        refine st403 _ ?_
        show Steps p.tables e below (T403.setTop (mkF m 92 #[.val (.int p1), .val (.int p2), .val (.int p3), .val (.int p4), .val (.int p5), .val (.int (3 : Int32)), .val (.ref y305b), .val (.ref y306b), .val (.ref y378b), .val (.ref b379), .unset, .unset, .unset, .unset, .unset] [(.ref a403), (.ref b399), (.ref b399)])) _
        refine st404 _ ?_
        show Steps p.tables e below (T404.setTop (mkF m 94 #[.val (.int p1), .val (.int p2), .val (.int p3), .val (.int p4), .val (.int p5), .val (.int (3 : Int32)), .val (.ref y305b), .val (.ref y306b), .val (.ref y378b), .val (.ref b379), .unset, .unset, .unset, .unset, .unset] [(.ref a404), (.ref a403), (.ref b399), (.ref b399)])) _
        refine XS.aload X404.here hx rfl (hb hby at_94) rfl rfl ?_
        show Steps p.tables e below (T404.setTop (mkF m 96 #[.val (.int p1), .val (.int p2), .val (.int p3), .val (.int p4), .val (.int p5), .val (.int (3 : Int32)), .val (.ref y305b), .val (.ref y306b), .val (.ref y378b), .val (.ref b379), .unset, .unset, .unset, .unset, .unset] [(.ref b379), (.ref a404), (.ref a403), (.ref b399), (.ref b399)])) _
        refine st405.trans ?_
        show Steps p.tables e below (T405.setTop (mkF m 99 #[.val (.int p1), .val (.int p2), .val (.int p3), .val (.int p4), .val (.int p5), .val (.int (3 : Int32)), .val (.ref y305b), .val (.ref y306b), .val (.ref y378b), .val (.ref b379), .unset, .unset, .unset, .unset, .unset] [(.ref b399)])) _
        refine XS.astore X405.here hx rfl (hb hby at_99) rfl rfl (l' := #[.val (.int p1), .val (.int p2), .val (.int p3), .val (.int p4), .val (.int p5), .val (.int (3 : Int32)), .val (.ref y305b), .val (.ref y306b), .val (.ref y378b), .val (.ref b379), .val (.ref b399), .unset, .unset, .unset, .unset]) rfl ?_
        show Steps p.tables e below (T405.setTop (mkF m 101 #[.val (.int p1), .val (.int p2), .val (.int p3), .val (.int p4), .val (.int p5), .val (.int (3 : Int32)), .val (.ref y305b), .val (.ref y306b), .val (.ref y378b), .val (.ref b379), .val (.ref b399), .unset, .unset, .unset, .unset] [])) _
        refine XS.aload X405.here hx rfl (hb hby at_101) rfl rfl ?_
        show Steps p.tables e below (T405.setTop (mkF m 103 #[.val (.int p1), .val (.int p2), .val (.int p3), .val (.int p4), .val (.int p5), .val (.int (3 : Int32)), .val (.ref y305b), .val (.ref y306b), .val (.ref y378b), .val (.ref b379), .val (.ref b399), .unset, .unset, .unset, .unset] [(.ref b399)])) _
        refine st414.trans ?_
        show Steps p.tables e below (T414.setTop (mkF m 106 #[.val (.int p1), .val (.int p2), .val (.int p3), .val (.int p4), .val (.int p5), .val (.int (3 : Int32)), .val (.ref y305b), .val (.ref y306b), .val (.ref y378b), .val (.ref b379), .val (.ref b399), .unset, .unset, .unset, .unset] [(.ref y414b)])) _
        refine XS.astore X414.here hx rfl (hb hby at_106) rfl rfl (l' := #[.val (.int p1), .val (.int p2), .val (.int p3), .val (.int p4), .val (.int p5), .val (.int (3 : Int32)), .val (.ref y305b), .val (.ref y306b), .val (.ref y378b), .val (.ref b379), .val (.ref b399), .val (.ref y414b), .unset, .unset, .unset]) rfl ?_
        show Steps p.tables e below (T414.setTop (mkF m 108 #[.val (.int p1), .val (.int p2), .val (.int p3), .val (.int p4), .val (.int p5), .val (.int (3 : Int32)), .val (.ref y305b), .val (.ref y306b), .val (.ref y378b), .val (.ref b379), .val (.ref b399), .val (.ref y414b), .unset, .unset, .unset] [])) _
        refine XS.iload X414.here hx rfl (hb hby at_108) rfl ?_
        show Steps p.tables e below (T414.setTop (mkF m 110 #[.val (.int p1), .val (.int p2), .val (.int p3), .val (.int p4), .val (.int p5), .val (.int (3 : Int32)), .val (.ref y305b), .val (.ref y306b), .val (.ref y378b), .val (.ref b379), .val (.ref b399), .val (.ref y414b), .unset, .unset, .unset] [(.int (3 : Int32))])) _
        refine XS.iconst X414.here hx rfl (hb hby at_110) ?_
        show Steps p.tables e below (T414.setTop (mkF m 111 #[.val (.int p1), .val (.int p2), .val (.int p3), .val (.int p4), .val (.int p5), .val (.int (3 : Int32)), .val (.ref y305b), .val (.ref y306b), .val (.ref y378b), .val (.ref b379), .val (.ref b399), .val (.ref y414b), .unset, .unset, .unset] [(.int (1 : Int32)), (.int (3 : Int32))])) _
        refine XS.isub X414.here hx rfl (hb hby at_111) rfl ?_
        show Steps p.tables e below (T414.setTop (mkF m 112 #[.val (.int p1), .val (.int p2), .val (.int p3), .val (.int p4), .val (.int p5), .val (.int (3 : Int32)), .val (.ref y305b), .val (.ref y306b), .val (.ref y378b), .val (.ref b379), .val (.ref b399), .val (.ref y414b), .unset, .unset, .unset] [(.int (2 : Int32))])) _
        refine XS.istore X414.here hx rfl (hb hby at_112) rfl (l' := #[.val (.int p1), .val (.int p2), .val (.int p3), .val (.int p4), .val (.int p5), .val (.int (3 : Int32)), .val (.ref y305b), .val (.ref y306b), .val (.ref y378b), .val (.ref b379), .val (.ref b399), .val (.ref y414b), .val (.int (2 : Int32)), .unset, .unset]) rfl ?_
        show Steps p.tables e below (T414.setTop (mkF m 114 #[.val (.int p1), .val (.int p2), .val (.int p3), .val (.int p4), .val (.int p5), .val (.int (3 : Int32)), .val (.ref y305b), .val (.ref y306b), .val (.ref y378b), .val (.ref b379), .val (.ref b399), .val (.ref y414b), .val (.int (2 : Int32)), .unset, .unset] [])) _
        refine XS.iload X414.here hx rfl (hb hby at_114) rfl ?_
        show Steps p.tables e below (T414.setTop (mkF m 116 #[.val (.int p1), .val (.int p2), .val (.int p3), .val (.int p4), .val (.int p5), .val (.int (3 : Int32)), .val (.ref y305b), .val (.ref y306b), .val (.ref y378b), .val (.ref b379), .val (.ref b399), .val (.ref y414b), .val (.int (2 : Int32)), .unset, .unset] [(.int (3 : Int32))])) _
        refine XS.iconst X414.here hx rfl (hb hby at_116) ?_
        show Steps p.tables e below (T414.setTop (mkF m 117 #[.val (.int p1), .val (.int p2), .val (.int p3), .val (.int p4), .val (.int p5), .val (.int (3 : Int32)), .val (.ref y305b), .val (.ref y306b), .val (.ref y378b), .val (.ref b379), .val (.ref b399), .val (.ref y414b), .val (.int (2 : Int32)), .unset, .unset] [(.int (1 : Int32)), (.int (3 : Int32))])) _
        refine XS.icmpYes X414.here hx rfl (pc0 := 117) (pc' := 124) rfl (hb hby at_117) rfl (feq (by decide : ¬ ((3 : Int32) = (1 : Int32)))).2 (by decide) (by decide) ?_
        show Steps p.tables e below (T414.setTop (mkF m 124 #[.val (.int p1), .val (.int p2), .val (.int p3), .val (.int p4), .val (.int p5), .val (.int (3 : Int32)), .val (.ref y305b), .val (.ref y306b), .val (.ref y378b), .val (.ref b379), .val (.ref b399), .val (.ref y414b), .val (.int (2 : Int32)), .unset, .unset] [])) _
        refine XS.iload X414.here hx rfl (hb hby at_124) rfl ?_
        show Steps p.tables e below (T414.setTop (mkF m 126 #[.val (.int p1), .val (.int p2), .val (.int p3), .val (.int p4), .val (.int p5), .val (.int (3 : Int32)), .val (.ref y305b), .val (.ref y306b), .val (.ref y378b), .val (.ref b379), .val (.ref b399), .val (.ref y414b), .val (.int (2 : Int32)), .unset, .unset] [(.int (3 : Int32))])) _
        refine XS.iconst X414.here hx rfl (hb hby at_126) ?_
        show Steps p.tables e below (T414.setTop (mkF m 127 #[.val (.int p1), .val (.int p2), .val (.int p3), .val (.int p4), .val (.int p5), .val (.int (3 : Int32)), .val (.ref y305b), .val (.ref y306b), .val (.ref y378b), .val (.ref b379), .val (.ref b399), .val (.ref y414b), .val (.int (2 : Int32)), .unset, .unset] [(.int (2 : Int32)), (.int (3 : Int32))])) _
        refine XS.icmpYes X414.here hx rfl (pc0 := 127) (pc' := 134) rfl (hb hby at_127) rfl (feq (by decide : ¬ ((3 : Int32) = (2 : Int32)))).2 (by decide) (by decide) ?_
        show Steps p.tables e below (T414.setTop (mkF m 134 #[.val (.int p1), .val (.int p2), .val (.int p3), .val (.int p4), .val (.int p5), .val (.int (3 : Int32)), .val (.ref y305b), .val (.ref y306b), .val (.ref y378b), .val (.ref b379), .val (.ref b399), .val (.ref y414b), .val (.int (2 : Int32)), .unset, .unset] [])) _
        refine XS.iload X414.here hx rfl (hb hby at_134) rfl ?_
        show Steps p.tables e below (T414.setTop (mkF m 136 #[.val (.int p1), .val (.int p2), .val (.int p3), .val (.int p4), .val (.int p5), .val (.int (3 : Int32)), .val (.ref y305b), .val (.ref y306b), .val (.ref y378b), .val (.ref b379), .val (.ref b399), .val (.ref y414b), .val (.int (2 : Int32)), .unset, .unset] [(.int p5)])) _
        refine XS.istore X414.here hx rfl (hb hby at_136) rfl (l' := #[.val (.int p1), .val (.int p2), .val (.int p3), .val (.int p4), .val (.int p5), .val (.int (3 : Int32)), .val (.ref y305b), .val (.ref y306b), .val (.ref y378b), .val (.ref b379), .val (.ref b399), .val (.ref y414b), .val (.int (2 : Int32)), .val (.int p5), .unset]) rfl ?_
        show Steps p.tables e below (T414.setTop (mkF m 138 #[.val (.int p1), .val (.int p2), .val (.int p3), .val (.int p4), .val (.int p5), .val (.int (3 : Int32)), .val (.ref y305b), .val (.ref y306b), .val (.ref y378b), .val (.ref b379), .val (.ref b399), .val (.ref y414b), .val (.int (2 : Int32)), .val (.int p5), .unset] [])) _
        refine XS.aconstNull X414.here hx rfl (hb hby at_138) ?_
        show Steps p.tables e below (T414.setTop (mkF m 139 #[.val (.int p1), .val (.int p2), .val (.int p3), .val (.int p4), .val (.int p5), .val (.int (3 : Int32)), .val (.ref y305b), .val (.ref y306b), .val (.ref y378b), .val (.ref b379), .val (.ref b399), .val (.ref y414b), .val (.int (2 : Int32)), .val (.int p5), .unset] [.null])) _
        refine XS.astore X414.here hx rfl (hb hby at_139) rfl rfl (l' := #[.val (.int p1), .val (.int p2), .val (.int p3), .val (.int p4), .val (.int p5), .val (.int (3 : Int32)), .val (.ref y305b), .val (.ref y306b), .val (.ref y378b), .val (.ref b379), .val (.ref b399), .val (.ref y414b), .val (.int (2 : Int32)), .val (.int p5), .val .null]) rfl ?_
        show Steps p.tables e below (T414.setTop (mkF m 141 #[.val (.int p1), .val (.int p2), .val (.int p3), .val (.int p4), .val (.int p5), .val (.int (3 : Int32)), .val (.ref y305b), .val (.ref y306b), .val (.ref y378b), .val (.ref b379), .val (.ref b399), .val (.ref y414b), .val (.int (2 : Int32)), .val (.int p5), .val .null] [])) _
        refine XS.iloadN X414.here hx rfl (hb hby at_141) rfl ?_
        show Steps p.tables e below (T414.setTop (mkF m 142 #[.val (.int p1), .val (.int p2), .val (.int p3), .val (.int p4), .val (.int p5), .val (.int (3 : Int32)), .val (.ref y305b), .val (.ref y306b), .val (.ref y378b), .val (.ref b379), .val (.ref b399), .val (.ref y414b), .val (.int (2 : Int32)), .val (.int p5), .val .null] [(.int p2)])) _
        refine XS.iload X414.here hx rfl (hb hby at_142) rfl ?_
        show Steps p.tables e below (T414.setTop (mkF m 144 #[.val (.int p1), .val (.int p2), .val (.int p3), .val (.int p4), .val (.int p5), .val (.int (3 : Int32)), .val (.ref y305b), .val (.ref y306b), .val (.ref y378b), .val (.ref b379), .val (.ref b399), .val (.ref y414b), .val (.int (2 : Int32)), .val (.int p5), .val .null] [(.int (2 : Int32)), (.int p2)])) _
        refine XS.ishr X414.here hx rfl (hb hby at_144) rfl ?_
        show Steps p.tables e below (T414.setTop (mkF m 145 #[.val (.int p1), .val (.int p2), .val (.int p3), .val (.int p4), .val (.int p5), .val (.int (3 : Int32)), .val (.ref y305b), .val (.ref y306b), .val (.ref y378b), .val (.ref b379), .val (.ref b399), .val (.ref y414b), .val (.int (2 : Int32)), .val (.int p5), .val .null] [(.int (p2 >>> ((2 : Int32) &&& 31)))])) _
        refine XS.iconst X414.here hx rfl (hb hby at_145) ?_
        show Steps p.tables e below (T414.setTop (mkF m 146 #[.val (.int p1), .val (.int p2), .val (.int p3), .val (.int p4), .val (.int p5), .val (.int (3 : Int32)), .val (.ref y305b), .val (.ref y306b), .val (.ref y378b), .val (.ref b379), .val (.ref b399), .val (.ref y414b), .val (.int (2 : Int32)), .val (.int p5), .val .null] [(.int (1 : Int32)), (.int (p2 >>> ((2 : Int32) &&& 31)))])) _
        refine XS.iand X414.here hx rfl (hb hby at_146) rfl ?_
        show Steps p.tables e below (T414.setTop (mkF m 147 #[.val (.int p1), .val (.int p2), .val (.int p3), .val (.int p4), .val (.int p5), .val (.int (3 : Int32)), .val (.ref y305b), .val (.ref y306b), .val (.ref y378b), .val (.ref b379), .val (.ref b399), .val (.ref y414b), .val (.int (2 : Int32)), .val (.int p5), .val .null] [(.int ((p2 >>> ((2 : Int32) &&& 31)) &&& (1 : Int32)))])) _
        refine XS.ifNo X414.here hx rfl (hb hby at_147) rfl ((if0 _ _).trans (feq hc308).1) ?_
        show Steps p.tables e below (T414.setTop (mkF m 150 #[.val (.int p1), .val (.int p2), .val (.int p3), .val (.int p4), .val (.int p5), .val (.int (3 : Int32)), .val (.ref y305b), .val (.ref y306b), .val (.ref y378b), .val (.ref b379), .val (.ref b399), .val (.ref y414b), .val (.int (2 : Int32)), .val (.int p5), .val .null] [])) _
        refine XS.iload X414.here hx rfl (hb hby at_150) rfl ?_
        show Steps p.tables e below (T414.setTop (mkF m 152 #[.val (.int p1), .val (.int p2), .val (.int p3), .val (.int p4), .val (.int p5), .val (.int (3 : Int32)), .val (.ref y305b), .val (.ref y306b), .val (.ref y378b), .val (.ref b379), .val (.ref b399), .val (.ref y414b), .val (.int (2 : Int32)), .val (.int p5), .val .null] [(.int p5)])) _
        refine st463 _ ?_
        show Steps p.tables e below (T463.setTop (mkF m 155 #[.val (.int p1), .val (.int p2), .val (.int p3), .val (.int p4), .val (.int p5), .val (.int (3 : Int32)), .val (.ref y305b), .val (.ref y306b), .val (.ref y378b), .val (.ref b379), .val (.ref b399), .val (.ref y414b), .val (.int (2 : Int32)), .val (.int p5), .val .null] [(.ref (own_pk W p5))])) _
        refine XS.astore X463.here hx rfl (hb hby at_155) rfl rfl (l' := #[.val (.int p1), .val (.int p2), .val (.int p3), .val (.int p4), .val (.int p5), .val (.int (3 : Int32)), .val (.ref y305b), .val (.ref y306b), .val (.ref y378b), .val (.ref b379), .val (.ref b399), .val (.ref y414b), .val (.int (2 : Int32)), .val (.int p5), .val (.ref (own_pk W p5))]) rfl ?_
        show Steps p.tables e below (T463.setTop (mkF m 157 #[.val (.int p1), .val (.int p2), .val (.int p3), .val (.int p4), .val (.int p5), .val (.int (3 : Int32)), .val (.ref y305b), .val (.ref y306b), .val (.ref y378b), .val (.ref b379), .val (.ref b399), .val (.ref y414b), .val (.int (2 : Int32)), .val (.int p5), .val (.ref (own_pk W p5))] [])) _
        refine XS.aload X463.here hx rfl (hb hby at_157) rfl rfl ?_
        show Steps p.tables e below (T463.setTop (mkF m 159 #[.val (.int p1), .val (.int p2), .val (.int p3), .val (.int p4), .val (.int p5), .val (.int (3 : Int32)), .val (.ref y305b), .val (.ref y306b), .val (.ref y378b), .val (.ref b379), .val (.ref b399), .val (.ref y414b), .val (.int (2 : Int32)), .val (.int p5), .val (.ref (own_pk W p5))] [(.ref y414b)])) _
        refine XS.ifnullNo X463.here hx rfl (hb hby at_159) rfl ?_
        show Steps p.tables e below (T463.setTop (mkF m 162 #[.val (.int p1), .val (.int p2), .val (.int p3), .val (.int p4), .val (.int p5), .val (.int (3 : Int32)), .val (.ref y305b), .val (.ref y306b), .val (.ref y378b), .val (.ref b379), .val (.ref b399), .val (.ref y414b), .val (.int (2 : Int32)), .val (.int p5), .val (.ref (own_pk W p5))] [])) _
        refine XS.aload X463.here hx rfl (hb hby at_162) rfl rfl ?_
        show Steps p.tables e below (T463.setTop (mkF m 164 #[.val (.int p1), .val (.int p2), .val (.int p3), .val (.int p4), .val (.int p5), .val (.int (3 : Int32)), .val (.ref y305b), .val (.ref y306b), .val (.ref y378b), .val (.ref b379), .val (.ref b399), .val (.ref y414b), .val (.int (2 : Int32)), .val (.int p5), .val (.ref (own_pk W p5))] [(.ref y414b)])) _
        refine XS.aconstNull X463.here hx rfl (hb hby at_164) ?_
        show Steps p.tables e below (T463.setTop (mkF m 165 #[.val (.int p1), .val (.int p2), .val (.int p3), .val (.int p4), .val (.int p5), .val (.int (3 : Int32)), .val (.ref y305b), .val (.ref y306b), .val (.ref y378b), .val (.ref b379), .val (.ref b399), .val (.ref y414b), .val (.int (2 : Int32)), .val (.int p5), .val (.ref (own_pk W p5))] [.null, (.ref y414b)])) _
        refine st464.trans ?_
        show Steps p.tables e below (T464.setTop (mkF m 168 #[.val (.int p1), .val (.int p2), .val (.int p3), .val (.int p4), .val (.int p5), .val (.int (3 : Int32)), .val (.ref y305b), .val (.ref y306b), .val (.ref y378b), .val (.ref b379), .val (.ref b399), .val (.ref y414b), .val (.int (2 : Int32)), .val (.int p5), .val (.ref (own_pk W p5))] [(.ref (own_pk W p5))])) _
        refine XS.aload X464.here hx rfl (hb hby at_168) rfl rfl ?_
        show Steps p.tables e below (T464.setTop (mkF m 170 #[.val (.int p1), .val (.int p2), .val (.int p3), .val (.int p4), .val (.int p5), .val (.int (3 : Int32)), .val (.ref y305b), .val (.ref y306b), .val (.ref y378b), .val (.ref b379), .val (.ref b399), .val (.ref y414b), .val (.int (2 : Int32)), .val (.int p5), .val (.ref (own_pk W p5))] [(.ref (own_pk W p5)), (.ref (own_pk W p5))])) _
        refine Jvm.RoadKit.acmp (g := (mkF m 170 #[.val (.int p1), .val (.int p2), .val (.int p3), .val (.int p4), .val (.int p5), .val (.int (3 : Int32)), .val (.ref y305b), .val (.ref y306b), .val (.ref y378b), .val (.ref b379), .val (.ref b399), .val (.ref y414b), .val (.int (2 : Int32)), .val (.int p5), .val (.ref (own_pk W p5))] [(.ref (own_pk W p5)), (.ref (own_pk W p5))])) X464 hx rfl rfl rfl (pc0 := 170) (pc' := 173) (same := true) rfl (hb hby at_170) rfl (decide_eq_true rfl) (by decide) (by decide) ?_
        show Steps p.tables e below (T464.setTop (mkF m 173 #[.val (.int p1), .val (.int p2), .val (.int p3), .val (.int p4), .val (.int p5), .val (.int (3 : Int32)), .val (.ref y305b), .val (.ref y306b), .val (.ref y378b), .val (.ref b379), .val (.ref b399), .val (.ref y414b), .val (.int (2 : Int32)), .val (.int p5), .val (.ref (own_pk W p5))] [])) _
        refine XS.iconst X464.here hx rfl (hb hby at_173) ?_
        show Steps p.tables e below (T464.setTop (mkF m 174 #[.val (.int p1), .val (.int p2), .val (.int p3), .val (.int p4), .val (.int p5), .val (.int (3 : Int32)), .val (.ref y305b), .val (.ref y306b), .val (.ref y378b), .val (.ref b379), .val (.ref b399), .val (.ref y414b), .val (.int (2 : Int32)), .val (.int p5), .val (.ref (own_pk W p5))] [(.int (1 : Int32))])) _
        refine XS.goto X464.here hx rfl (pc0 := 174) (pc' := 178) rfl (hb hby at_174) (by decide) (by decide) ?_
        exact k_
      obtain ⟨fs, hr, hrun, hended, hEW⟩ := X464.leaveW (s := s) hS404 (show k404 ≤ _ by rw [e464]; omega) (v := some (.int (1 : Int32))) (fun h => by rw [Bd.returns] at h; cases h)
      refine ⟨_, _, go467 _ ?_, hrun, hended, _, _, rfl, ?_, hEW.1, hEW.2.1, hEW.2.2.1, hEW.2.2.2.mono (by decide) (by decide)⟩
      · skip
        show Steps p.tables e below (T464.setTop (mkF m 178 #[.val (.int p1), .val (.int p2), .val (.int p3), .val (.int p4), .val (.int p5), .val (.int (3 : Int32)), .val (.ref y305b), .val (.ref y306b), .val (.ref y378b), .val (.ref b379), .val (.ref b399), .val (.ref y414b), .val (.int (2 : Int32)), .val (.int p5), .val (.ref (own_pk W p5))] [(.int (1 : Int32))])) _
        exact retN X464 hx (t := .boolean) Bd.returns (by simp) (hb hby at_178) hr
      · show Q_rm0 Z p1 p2 p3 p4 p5 W ed kd wE h0 n0 _ T464.heap _
        rw [e464]
        exact ⟨rfl, N464⟩
theorem own_len {args : Array Value} {s : State} {t : Term} {x : Addr} {cl : Cell} {v : Value} (ht : t.eval args s none [] s = some (.ref x)) (ha : s.arrayAt? x = some cl) (h : (Term.length t).eval args s none [] s = some v) : cl.slots.size < 2 ^ 31 := by
  by_cases q : cl.slots.size < 2 ^ 31
  · exact q
  · simp [Term.eval, ht, ha, q] at h
set_option maxRecDepth 65536 in
set_option maxHeartbeats 40000000 in
theorem comes_1 {Post : Tables → Env → Array Value → State → Outcome → State → Prop} (hpost : ∀ tb e args s v u, (limb_1_1.after args s (.returned v) u = true ∧ limb_1_2.after args s (.returned v) u = true ∧ True) → FramedW s (.returned v) u (Jvm.fieldLocs frame_1_writes args s ++ Jvm.arrayLocs frame_1_arrays args s ++ Jvm.staticLocs frame_1_statics s) 40 2368 → Post tb e args s (.returned v) u) :
    ArmFor flags0 classFile x code maxLocals ret World_1 tables_1 room_1 Calls_1 rest_1 Pre_1 Post := by
  intro l hfl _ _ p e ha hc hk s m args below hf hA hF happ hP
  obtain ⟨hcalls, hrest, hpre⟩ := hP
  obtain ⟨-, -, -, hnamed, -, -, -, hat⟩ := (Spec.applies_iff hf).mp happ
  obtain ⟨hg, hn⟩ := and_e (Cond.before_iff.mp (show (Jvm.Cond.and given_1 narrow_1).before args s = true from hpre))
  obtain ⟨gc, hg⟩ := and_e hg
  obtain ⟨gk0, hg⟩ := and_e hg
  obtain ⟨gk1, hg⟩ := and_e hg
  obtain ⟨gk2, hg⟩ := and_e hg
  obtain ⟨gk3, hg⟩ := and_e hg
  have gk4 := hg
  obtain ⟨w0, w1, w2, w3, w4, rfl⟩ : ∃ w0 w1 w2 w3 w4 : Value, args = #[w0, w1, w2, w3, w4] := by
    have hs : args.size = 5 := by simpa [Cond.value, given_1] using gc
    obtain ⟨L⟩ := args
    match L, hs with
    | [w0, w1, w2, w3, w4], _ => exact ⟨w0, w1, w2, w3, w4, rfl⟩
  have hw := fun d (hd : d ∈ tables_1) => atoms_spec (ws := Jvm.Cond.code x code maxLocals ret :: tables_1) hat d (List.mem_cons_of_mem _ hd)
  have hfit : Fit s := fun {y c} hc i hi => by
    obtain ⟨ha, rfl⟩ := Array.getElem?_eq_some_iff.mp hc
    have q := List.all_eq_true.mp ((Array.all_eq_true_iff_forall_mem.mp hF) _ (Array.getElem_mem ha)) i (List.mem_range.mpr hi)
    simpa [Array.getElem?_eq_getElem hi] using q
  obtain ⟨hsets, hown0⟩ := atoms_of _ (rest_1_c_eq ▸ (show rest_1_c.before _ s = true from hrest))
  have hr0 := Cond.before_iff.mp hown0
  obtain ⟨i0, ei0⟩ := is_v gk0
  obtain rfl : w0 = (.int i0) := Option.some.inj ei0
  obtain ⟨i1, ei1⟩ := is_v gk1
  obtain rfl : w1 = (.int i1) := Option.some.inj ei1
  obtain ⟨i2, ei2⟩ := is_v gk2
  obtain rfl : w2 = (.int i2) := Option.some.inj ei2
  obtain ⟨i3, ei3⟩ := is_v gk3
  obtain rfl : w3 = (.int i3) := Option.some.inj ei3
  obtain ⟨i4, ei4⟩ := is_v gk4
  obtain rfl : w4 = (.int i4) := Option.some.inj ei4
  obtain ⟨x0, hn⟩ := and_e hn
  obtain ⟨x1, hn⟩ := and_e hn
  obtain ⟨x2, hn⟩ := and_e hn
  obtain ⟨x3, hn⟩ := and_e hn
  obtain ⟨x4, hn⟩ := and_e hn
  obtain ⟨x5, hn⟩ := and_e hn
  obtain ⟨x6, hn⟩ := and_e hn
  obtain ⟨x7, hn⟩ := and_e hn
  obtain ⟨x8, hn⟩ := and_e hn
  obtain ⟨x9, hn⟩ := and_e hn
  obtain ⟨x10, hn⟩ := and_e hn
  obtain ⟨x11, hn⟩ := and_e hn
  obtain ⟨x12, hn⟩ := and_e hn
  obtain ⟨x13, hn⟩ := and_e hn
  obtain ⟨x14, hn⟩ := and_e hn
  have x15 := hn
  obtain ⟨w_DAILY, ev_DAILY⟩ := exa_v x0
  have E_DAILY := Exa.start ev_DAILY x0
  have S_DAILY := Sta.start ev_DAILY (Or.inr ⟨(hw _ (List.mem_of_getElem? (i := 14) rfl)), (hw _ (List.mem_of_getElem? (i := 15) rfl))⟩)
  obtain ⟨w_WEEKLY, ev_WEEKLY⟩ := exa_v x1
  have E_WEEKLY := Exa.start ev_WEEKLY x1
  have S_WEEKLY := Sta.start ev_WEEKLY (Or.inr ⟨(hw _ (List.mem_of_getElem? (i := 14) rfl)), (hw _ (List.mem_of_getElem? (i := 18) rfl))⟩)
  obtain ⟨w_BIWEEKLY, ev_BIWEEKLY⟩ := exa_v x2
  have E_BIWEEKLY := Exa.start ev_BIWEEKLY x2
  have S_BIWEEKLY := Sta.start ev_BIWEEKLY (Or.inr ⟨(hw _ (List.mem_of_getElem? (i := 14) rfl)), (hw _ (List.mem_of_getElem? (i := 20) rfl))⟩)
  obtain ⟨w_THIRTY_DAYS, ev_THIRTY_DAYS⟩ := exa_v x3
  have E_THIRTY_DAYS := Exa.start ev_THIRTY_DAYS x3
  have S_THIRTY_DAYS := Sta.start ev_THIRTY_DAYS (Or.inr ⟨(hw _ (List.mem_of_getElem? (i := 14) rfl)), (hw _ (List.mem_of_getElem? (i := 22) rfl))⟩)
  obtain ⟨w_THIRTY_ONE_DAYS, ev_THIRTY_ONE_DAYS⟩ := exa_v x4
  have E_THIRTY_ONE_DAYS := Exa.start ev_THIRTY_ONE_DAYS x4
  have S_THIRTY_ONE_DAYS := Sta.start ev_THIRTY_ONE_DAYS (Or.inr ⟨(hw _ (List.mem_of_getElem? (i := 14) rfl)), (hw _ (List.mem_of_getElem? (i := 24) rfl))⟩)
  obtain ⟨w_SIXTY_DAYS, ev_SIXTY_DAYS⟩ := exa_v x5
  have E_SIXTY_DAYS := Exa.start ev_SIXTY_DAYS x5
  have S_SIXTY_DAYS := Sta.start ev_SIXTY_DAYS (Or.inr ⟨(hw _ (List.mem_of_getElem? (i := 14) rfl)), (hw _ (List.mem_of_getElem? (i := 26) rfl))⟩)
  obtain ⟨w_NINETY_DAYS, ev_NINETY_DAYS⟩ := exa_v x6
  have E_NINETY_DAYS := Exa.start ev_NINETY_DAYS x6
  have S_NINETY_DAYS := Sta.start ev_NINETY_DAYS (Or.inr ⟨(hw _ (List.mem_of_getElem? (i := 14) rfl)), (hw _ (List.mem_of_getElem? (i := 28) rfl))⟩)
  obtain ⟨w_MONTHLY, ev_MONTHLY⟩ := exa_v x7
  have E_MONTHLY := Exa.start ev_MONTHLY x7
  have S_MONTHLY := Sta.start ev_MONTHLY (Or.inr ⟨(hw _ (List.mem_of_getElem? (i := 14) rfl)), (hw _ (List.mem_of_getElem? (i := 30) rfl))⟩)
  obtain ⟨w_BIMESTRIAL, ev_BIMESTRIAL⟩ := exa_v x8
  have E_BIMESTRIAL := Exa.start ev_BIMESTRIAL x8
  have S_BIMESTRIAL := Sta.start ev_BIMESTRIAL (Or.inr ⟨(hw _ (List.mem_of_getElem? (i := 14) rfl)), (hw _ (List.mem_of_getElem? (i := 32) rfl))⟩)
  obtain ⟨w_QUARTERLY, ev_QUARTERLY⟩ := exa_v x9
  have E_QUARTERLY := Exa.start ev_QUARTERLY x9
  have S_QUARTERLY := Sta.start ev_QUARTERLY (Or.inr ⟨(hw _ (List.mem_of_getElem? (i := 14) rfl)), (hw _ (List.mem_of_getElem? (i := 34) rfl))⟩)
  obtain ⟨w_TRIANNUAL, ev_TRIANNUAL⟩ := exa_v x10
  have E_TRIANNUAL := Exa.start ev_TRIANNUAL x10
  have S_TRIANNUAL := Sta.start ev_TRIANNUAL (Or.inr ⟨(hw _ (List.mem_of_getElem? (i := 14) rfl)), (hw _ (List.mem_of_getElem? (i := 36) rfl))⟩)
  obtain ⟨w_BIANNUAL, ev_BIANNUAL⟩ := exa_v x11
  have E_BIANNUAL := Exa.start ev_BIANNUAL x11
  have S_BIANNUAL := Sta.start ev_BIANNUAL (Or.inr ⟨(hw _ (List.mem_of_getElem? (i := 14) rfl)), (hw _ (List.mem_of_getElem? (i := 38) rfl))⟩)
  obtain ⟨w_ANNUAL, ev_ANNUAL⟩ := exa_v x12
  have E_ANNUAL := Exa.start ev_ANNUAL x12
  have S_ANNUAL := Sta.start ev_ANNUAL (Or.inr ⟨(hw _ (List.mem_of_getElem? (i := 14) rfl)), (hw _ (List.mem_of_getElem? (i := 40) rfl))⟩)
  obtain ⟨w_SESQUIENNIAL, ev_SESQUIENNIAL⟩ := exa_v x13
  have E_SESQUIENNIAL := Exa.start ev_SESQUIENNIAL x13
  have S_SESQUIENNIAL := Sta.start ev_SESQUIENNIAL (Or.inr ⟨(hw _ (List.mem_of_getElem? (i := 14) rfl)), (hw _ (List.mem_of_getElem? (i := 42) rfl))⟩)
  obtain ⟨w_BIENNIAL, ev_BIENNIAL⟩ := exa_v x14
  have E_BIENNIAL := Exa.start ev_BIENNIAL x14
  have S_BIENNIAL := Sta.start ev_BIENNIAL (Or.inr ⟨(hw _ (List.mem_of_getElem? (i := 14) rfl)), (hw _ (List.mem_of_getElem? (i := 44) rfl))⟩)
  obtain ⟨w_TRIENNIAL, ev_TRIENNIAL⟩ := exa_v x15
  have E_TRIENNIAL := Exa.start ev_TRIENNIAL x15
  have S_TRIENNIAL := Sta.start ev_TRIENNIAL (Or.inr ⟨(hw _ (List.mem_of_getElem? (i := 14) rfl)), (hw _ (List.mem_of_getElem? (i := 46) rfl))⟩)
  have BPs : own_bp s (fun i => ([w_DAILY, w_WEEKLY, w_BIWEEKLY, w_THIRTY_DAYS, w_THIRTY_ONE_DAYS, w_SIXTY_DAYS, w_NINETY_DAYS, w_MONTHLY, w_BIMESTRIAL, w_QUARTERLY, w_TRIANNUAL, w_BIANNUAL, w_ANNUAL, w_SESQUIENNIAL, w_BIENNIAL, w_TRIENNIAL] : List Addr).getD i 0) := ⟨S_DAILY, E_DAILY, S_WEEKLY, E_WEEKLY, S_BIWEEKLY, E_BIWEEKLY, S_THIRTY_DAYS, E_THIRTY_DAYS, S_THIRTY_ONE_DAYS, E_THIRTY_ONE_DAYS, S_SIXTY_DAYS, E_SIXTY_DAYS, S_NINETY_DAYS, E_NINETY_DAYS, S_MONTHLY, E_MONTHLY, S_BIMESTRIAL, E_BIMESTRIAL, S_QUARTERLY, E_QUARTERLY, S_TRIANNUAL, E_TRIANNUAL, S_BIANNUAL, E_BIANNUAL, S_ANNUAL, E_ANNUAL, S_SESQUIENNIAL, E_SESQUIENNIAL, S_BIENNIAL, E_BIENNIAL, S_TRIENNIAL, E_TRIENNIAL⟩
  obtain ⟨ed, evD⟩ := arr_v (Cond.before_iff.mp (hsets _ (List.mem_of_getElem? (i := 6) rfl)))
  have S_D := Sta.start evD (Or.inr ⟨(hw _ (List.mem_of_getElem? (i := 79) rfl)), hsets _ (List.mem_of_getElem? (i := 2) rfl)⟩)
  obtain ⟨cd, Ad⟩ := Arr.start evD (Cond.before_iff.mp (hsets _ (List.mem_of_getElem? (i := 6) rfl)))
  have evN := eqv_i (Term.int_eval 0) (Cond.before_iff.mp (hsets _ (List.mem_of_getElem? (i := 8) rfl)))
  have hlen : cd.slots.size < 2 ^ 31 ∧ cd.slots.size.toInt32 = 0 := by
    have ha := Ad.fin (Vm.Alike.refl _)
    have q := own_len evD ha evN
    exact ⟨q, Value.int.inj (Option.some.inj ((len_f evD ha q).symm.trans evN))⟩
  have V_D : Arv s s.heap ed cd.cls (.object "java/lang/Object") (0 : Int32) [] .null := Arv.start hfit Ad hlen.1 hlen.2 (by decide) rfl trivial
  obtain ⟨wE, evE⟩ := exa_v (Cond.before_iff.mp (hsets _ (List.mem_of_getElem? (i := 11) rfl)))
  have S_E := Sta.start evE (Or.inl (hsets _ (List.mem_of_getElem? (i := 10) rfl)))
  have E_E := Exa.start evE (Cond.before_iff.mp (hsets _ (List.mem_of_getElem? (i := 11) rfl)))
  have F_E := Fld.start ((fld_at evE).symm.trans (null_v (Cond.before_iff.mp (hsets _ (List.mem_of_getElem? (i := 12) rfl)))))
  obtain ⟨n, o, h1, h2, h3, _, L, rfl, ⟨rfl, N⟩, hq⟩ := rm0 l s _ hw tables_1 i0 i1 i2 i3 i4 _ ed cd.cls wE s.heap s.heap.size (Nat.le_refl _) BPs S_D V_D S_E E_E F_E (Old.start s) p e ha hc hk s m _ below hf ((Spec.applies_iff_loose hf).mp happ).1 ⟨rfl, State.Warmed39.refl s, rfl⟩ trivial
  refine ⟨n, _, h1, h2, h3, hpost _ _ _ _ _ _ ⟨Cond.after_iff.mpr rfl, Cond.after_iff.mpr (eq_i res_at (Term.int_eval (1)) rfl), trivial⟩ ⟨hq.1, hq.2.1, hq.2.2.1, (hq.2.2.2.sift fun y hy => Or.inr (N y hy)).mono (by decide) (by decide)⟩⟩
theorem main_1_1 : Claimed_1_1 := comes_1 fun _ _ _ _ _ _ h hF => ⟨h.1, hF⟩
theorem main_1_2 : Claimed_1_2 := comes_1 fun _ _ _ _ _ _ h hF => ⟨h.2.1, hF⟩
end Jvm.Pilot.@@N@@
namespace Jvm.Pilot.@@N@@
open Jvm Jvm.ClassFile Sem Op Lib Jvm.Free Jvm.Stand Jvm.Pilot.@@N@@.Jvm.D
/-! MADE BY PROGRAM (witnessworld.py) out of the Statement's table words and the real class files: 33 classes; the members and pool entries that the words name. The judged class is class 1, her method 3. -/
namespace start1
open Jvm.ClassFile
def u (s : String) : CpInfo := .utf8 (stringToUtf16 s)
/-- a pool by its gaps: so many unusable entries, then the entry; so many at the end -/
def gap : Nat → List CpInfo → List CpInfo
  | 0, r => r
  | n + 1, r => .unusable :: gap n r
def poolList (es : List (Nat × CpInfo)) (last : Nat) : List CpInfo := es.foldr (fun e r => gap e.1 (e.2 :: r)) (gap last [])
def pool (es : List (Nat × CpInfo)) (last : Nat) : Array CpInfo := ⟨poolList es last⟩
def fileOf (pool : Array CpInfo) (this : Nat) (attrs : Array Attribute := #[]) (ms : Array MethodInfo := #[]) (fl : Nat := 33) (sup : Nat := 0) (ifs : Array Nat := #[]) (fds : Array FieldInfo := #[]) : ClassFile where
  minorVersion := 0
  majorVersion := 65
  constantPool := pool
  accessFlags := fl
  thisClass := this
  superClass := sup
  interfaces := ifs
  fields := fds
  methods := ms
  attributes := attrs
def plain (name : String) (sup : Option ClassId) : Class where
  name := name
  kind := .ordinary
  loader := none
  accessFlags := 33
  super := sup
  interfaces := #[]
  cf := none
  fields := #[]
  methods := #[]
  instanceTypes := #[]
  staticTypes := #[]
  resolved := #[]
  callSites := []
  init := .initialized
  statics := none
  mirror := none

def pool0 : Array CpInfo := pool [(5, u "<init>"), (0, u "()V"), (1, .class_ 10), (1, u "java/lang/Object")] 113

def k0c0 : Code := { maxStack := 0, maxLocals := 1, code := object_method_1_code, exceptionTable := #[], attributes := #[] }
def k0m0 : Method := { name := "<init>", desc := "()V", sig := { parameters := [], returnType := none }, accessFlags := 1, code := some k0c0 }
/-- java/lang/Object -/
def k0 : Class := { plain "java/lang/Object" none with
  accessFlags := 33
  interfaces := #[]
  cf := some (fileOf pool0 8 #[] #[{ accessFlags := 1, nameIndex := 5, descriptorIndex := 6, attributes := #[] }] 33 0 #[] #[])
  fields := #[]
  methods := #[k0m0]
  instanceTypes := #[]
  staticTypes := #[]
  resolved := Array.replicate 124 none
  statics := none }

def pool1 : Array CpInfo := pool [(2, .class_ 4), (0, .nameAndType 5 6), (0, u "java/lang/Object"), (0, u "<init>"), (0, u "()V"), (0, .class_ 8), (0, u "com/example/maksu/maksu/catalog/BillingPeriod"), (0, .fieldref 7 10), (0, .nameAndType 11 12), (0, u "DAILY"), (0, u "Lcom/example/maksu/maksu/catalog/BillingPeriod;"), (0, .fieldref 7 14), (0, .nameAndType 15 12), (0, u "WEEKLY"), (0, .fieldref 7 17), (0, .nameAndType 18 12), (0, u "BIWEEKLY"), (0, .fieldref 7 20), (0, .nameAndType 21 12), (0, u "THIRTY_DAYS"), (0, .fieldref 7 23), (0, .nameAndType 24 12), (0, u "THIRTY_ONE_DAYS"), (0, .fieldref 7 26), (0, .nameAndType 27 12), (0, u "SIXTY_DAYS"), (0, .fieldref 7 29), (0, .nameAndType 30 12), (0, u "NINETY_DAYS"), (0, .fieldref 7 32), (0, .nameAndType 33 12), (0, u "MONTHLY"), (0, .fieldref 7 35), (0, .nameAndType 36 12), (0, u "BIMESTRIAL"), (0, .fieldref 7 38), (0, .nameAndType 39 12), (0, u "QUARTERLY"), (0, .fieldref 7 41), (0, .nameAndType 42 12), (0, u "TRIANNUAL"), (0, .fieldref 7 44), (0, .nameAndType 45 12), (0, u "BIANNUAL"), (0, .fieldref 7 47), (0, .nameAndType 48 12), (0, u "ANNUAL"), (0, .fieldref 7 50), (0, .nameAndType 51 12), (0, u "SESQUIENNIAL"), (0, .fieldref 7 53), (0, .nameAndType 54 12), (0, u "BIENNIAL"), (0, .fieldref 7 56), (0, .nameAndType 57 12), (0, u "TRIENNIAL"), (0, .integer 2147483647), (0, .class_ 60), (0, u "com/example/maksu/maksu/catalog/Phase$Recurring"), (0, .methodref 62 63), (0, .class_ 64), (0, .nameAndType 65 66), (0, u "com/example/maksu/maksu/catalog/PlanBillingPeriodPinLaw"), (0, u "pick"), (0, u "(I)Lcom/example/maksu/maksu/catalog/BillingPeriod;"), (0, .methodref 59 68), (0, .nameAndType 5 69), (0, u "(Lcom/example/maksu/maksu/catalog/BillingPeriod;Ljava/util/Map;)V"), (0, .class_ 71), (0, u "com/example/maksu/maksu/catalog/Phase"), (0, .methodref 70 73), (0, .nameAndType 5 74), (0, u "(Lcom/example/maksu/maksu/catalog/Phase$Type;Lcom/example/maksu/maksu/catalog/Phase$Duration;Ljava/util/Map;Lcom/example/maksu/maksu/catalog/Phase$Recurring;)V"), (0, .methodref 62 76), (0, .nameAndType 77 78), (0, u "phase"), (0, u "(III)Lcom/example/maksu/maksu/catalog/Phase;"), (0, .class_ 80), (0, u "java/util/ArrayList"), (0, .methodref 79 3), (0, .interfaceMethodref 83 84), (0, .class_ 85), (0, .nameAndType 86 87), (0, u "java/util/List"), (0, u "add"), (0, u "(Ljava/lang/Object;)Z"), (0, .class_ 89), (0, u "com/example/maksu/maksu/catalog/Plan"), (0, .string 91), (0, u "standard"), (0, .string 93), (0, u "widget"), (0, .methodref 88 95), (0, .nameAndType 5 96), (0, u "(Ljava/lang/String;Ljava/lang/String;Ljava/util/List;)V"), (0, .methodref 88 98), (0, .nameAndType 99 100), (0, u "billingPeriod"), (0, u "()Ljava/util/Optional;"), (0, .methodref 102 103), (0, .class_ 104), (0, .nameAndType 105 106), (0, u "java/util/Optional"), (0, u "orElse"), (0, u "(Ljava/lang/Object;)Ljava/lang/Object;"), (3, u "law"), (0, u "(IIIII)Z")] 10

def k1m0 : Method := { name := "<init>", desc := "()V", sig := { parameters := [], returnType := none }, accessFlags := 1, code := none }
def k1c1 : Code := { maxStack := 4, maxLocals := 2, code := method_2_code, exceptionTable := #[], attributes := #[] }
def k1m1 : Method := { name := "pick", desc := "(I)Lcom/example/maksu/maksu/catalog/BillingPeriod;", sig := { parameters := [.int], returnType := some (.object "com/example/maksu/maksu/catalog/BillingPeriod") }, accessFlags := 10, code := some k1c1 }
def k1c2 : Code := { maxStack := 6, maxLocals := 4, code := method_3_code, exceptionTable := #[], attributes := #[] }
def k1m2 : Method := { name := "phase", desc := "(III)Lcom/example/maksu/maksu/catalog/Phase;", sig := { parameters := [.int, .int, .int], returnType := some (.object "com/example/maksu/maksu/catalog/Phase") }, accessFlags := 10, code := some k1c2 }
def k1c3 : Code := { maxStack := 5, maxLocals := 15, code := code, exceptionTable := #[], attributes := #[] }
def k1m3 : Method := { name := "law", desc := "(IIIII)Z", sig := { parameters := [.int, .int, .int, .int, .int], returnType := some .boolean }, accessFlags := 9, code := some k1c3 }
/-- com/example/maksu/maksu/catalog/PlanBillingPeriodPinLaw -/
def k1 : Class := { plain "com/example/maksu/maksu/catalog/PlanBillingPeriodPinLaw" (some 0) with
  accessFlags := 49
  interfaces := #[]
  cf := some (fileOf pool1 62 #[] #[{ accessFlags := 1, nameIndex := 5, descriptorIndex := 6, attributes := #[] }, { accessFlags := 10, nameIndex := 65, descriptorIndex := 66, attributes := #[] }, { accessFlags := 10, nameIndex := 77, descriptorIndex := 78, attributes := #[] }, { accessFlags := 9, nameIndex := 110, descriptorIndex := 111, attributes := #[] }] 49 2 #[] #[])
  fields := #[]
  methods := #[k1m0, k1m1, k1m2, k1m3]
  instanceTypes := #[]
  staticTypes := #[]
  resolved := Array.replicate 122 none
  statics := none }

def pool2 : Array CpInfo := pool [(1, .methodref 2 3), (0, .class_ 4), (0, .nameAndType 5 6), (0, u "java/lang/Object"), (0, u "<init>"), (0, u "()V"), (0, .class_ 8), (0, u "java/lang/Record")] 13

def k2c0 : Code := { maxStack := 1, maxLocals := 1, code := jdk_30_method_1_code, exceptionTable := #[], attributes := #[] }
def k2m0 : Method := { name := "<init>", desc := "()V", sig := { parameters := [], returnType := none }, accessFlags := 4, code := some k2c0 }
/-- java/lang/Record -/
def k2 : Class := { plain "java/lang/Record" (some 0) with
  accessFlags := 1057
  interfaces := #[]
  cf := some (fileOf pool2 7 #[] #[{ accessFlags := 4, nameIndex := 5, descriptorIndex := 6, attributes := #[] }] 1057 2 #[] #[])
  fields := #[]
  methods := #[k2m0]
  instanceTypes := #[]
  staticTypes := #[]
  resolved := Array.replicate 22 none
  statics := none }

def pool3 : Array CpInfo := pool [(1, .methodref 2 3), (0, .class_ 4), (0, .nameAndType 5 6), (0, u "java/lang/Record"), (0, u "<init>"), (0, u "()V"), (0, .fieldref 8 9), (0, .class_ 10), (0, .nameAndType 11 12), (0, u "com/example/maksu/maksu/catalog/Phase$Recurring"), (0, u "billingPeriod"), (0, u "Lcom/example/maksu/maksu/catalog/BillingPeriod;"), (0, .fieldref 8 14), (0, .nameAndType 15 16), (0, u "price"), (0, u "Ljava/util/Map;"), (14, u "(Lcom/example/maksu/maksu/catalog/BillingPeriod;Ljava/util/Map;)V"), (7, u "()Lcom/example/maksu/maksu/catalog/BillingPeriod;"), (5, .class_ 46), (0, u "com/example/maksu/maksu/catalog/Phase")] 20

def k3c0 : Code := { maxStack := 2, maxLocals := 3, code := prog_6_method_1_code, exceptionTable := #[], attributes := #[] }
def k3m0 : Method := { name := "<init>", desc := "(Lcom/example/maksu/maksu/catalog/BillingPeriod;Ljava/util/Map;)V", sig := { parameters := [(.object "com/example/maksu/maksu/catalog/BillingPeriod"), (.object "java/util/Map")], returnType := none }, accessFlags := 1, code := some k3c0 }
def k3c1 : Code := { maxStack := 1, maxLocals := 1, code := prog_6_method_5_code, exceptionTable := #[], attributes := #[] }
def k3m1 : Method := { name := "billingPeriod", desc := "()Lcom/example/maksu/maksu/catalog/BillingPeriod;", sig := { parameters := [], returnType := some (.object "com/example/maksu/maksu/catalog/BillingPeriod") }, accessFlags := 1, code := some k3c1 }
/-- com/example/maksu/maksu/catalog/Phase$Recurring -/
def k3 : Class := { plain "com/example/maksu/maksu/catalog/Phase$Recurring" (some 2) with
  accessFlags := 49
  interfaces := #[]
  cf := some (fileOf pool3 8 #[.nestHost 45] #[{ accessFlags := 1, nameIndex := 5, descriptorIndex := 31, attributes := #[] }, { accessFlags := 1, nameIndex := 11, descriptorIndex := 39, attributes := #[] }] 49 2 #[] #[{ accessFlags := 18, nameIndex := 11, descriptorIndex := 12, attributes := #[] }, { accessFlags := 18, nameIndex := 15, descriptorIndex := 16, attributes := #[] }])
  fields := #[{ name := "billingPeriod", type := (.object "com/example/maksu/maksu/catalog/BillingPeriod"), accessFlags := 18, slot := 0, constantValue := 0 }, { name := "price", type := (.object "java/util/Map"), accessFlags := 18, slot := 1, constantValue := 0 }]
  methods := #[k3m0, k3m1]
  instanceTypes := #[(.object "com/example/maksu/maksu/catalog/BillingPeriod"), (.object "java/util/Map")]
  staticTypes := #[]
  resolved := Array.replicate 67 none
  statics := none }

def pool4 : Array CpInfo := pool [(1, .class_ 2), (0, u "java/lang/constant/Constable"), (0, .class_ 4), (0, u "java/lang/Object")] 6

/-- java/lang/constant/Constable -/
def k4 : Class := { plain "java/lang/constant/Constable" (some 0) with
  accessFlags := 1537
  interfaces := #[]
  cf := some (fileOf pool4 1 #[] #[] 1537 3 #[] #[])
  fields := #[]
  methods := #[]
  instanceTypes := #[]
  staticTypes := #[]
  resolved := Array.replicate 11 none
  statics := none }

def pool5 : Array CpInfo := pool [(1, .class_ 2), (0, u "java/lang/Comparable"), (0, .class_ 4), (0, u "java/lang/Object")] 7

/-- java/lang/Comparable -/
def k5 : Class := { plain "java/lang/Comparable" (some 0) with
  accessFlags := 1537
  interfaces := #[]
  cf := some (fileOf pool5 1 #[] #[] 1537 3 #[] #[])
  fields := #[]
  methods := #[]
  instanceTypes := #[]
  staticTypes := #[]
  resolved := Array.replicate 12 none
  statics := none }

def pool6 : Array CpInfo := pool [(1, .class_ 2), (0, u "java/io/Serializable"), (0, .class_ 4), (0, u "java/lang/Object")] 2

/-- java/io/Serializable -/
def k6 : Class := { plain "java/io/Serializable" (some 0) with
  accessFlags := 1537
  interfaces := #[]
  cf := some (fileOf pool6 1 #[] #[] 1537 3 #[] #[])
  fields := #[]
  methods := #[]
  instanceTypes := #[]
  staticTypes := #[]
  resolved := Array.replicate 7 none
  statics := none }

def pool7 : Array CpInfo := pool [(2, .class_ 4), (1, u "java/lang/Enum"), (0, u "name"), (0, u "Ljava/lang/String;"), (2, u "ordinal"), (0, u "I"), (1, .class_ 14), (1, u "java/lang/Object"), (4, u "hash"), (86, .class_ 108), (1, u "java/lang/Enum$EnumDesc"), (2, .class_ 112), (0, u "java/lang/constant/Constable"), (0, .class_ 114), (0, u "java/lang/Comparable"), (0, .class_ 116), (0, u "java/io/Serializable")] 87

/-- java/lang/Enum -/
def k7 : Class := { plain "java/lang/Enum" (some 0) with
  accessFlags := 1057
  interfaces := #[4, 5, 6]
  cf := some (fileOf pool7 2 #[.nestMembers #[106]] #[] 1057 12 #[111, 113, 115] #[{ accessFlags := 18, nameIndex := 5, descriptorIndex := 6, attributes := #[] }, { accessFlags := 18, nameIndex := 9, descriptorIndex := 10, attributes := #[] }, { accessFlags := 2, nameIndex := 19, descriptorIndex := 10, attributes := #[] }])
  fields := #[{ name := "name", type := (.object "java/lang/String"), accessFlags := 18, slot := 0, constantValue := 0 }, { name := "ordinal", type := .int, accessFlags := 18, slot := 1, constantValue := 0 }, { name := "hash", type := .int, accessFlags := 2, slot := 2, constantValue := 0 }]
  methods := #[]
  instanceTypes := #[(.object "java/lang/String"), .int, .int]
  staticTypes := #[]
  resolved := Array.replicate 204 none
  statics := none }

def pool8 : Array CpInfo := pool [(1, .class_ 2), (0, u "com/example/maksu/maksu/catalog/BillingPeriod"), (2, u "DAILY"), (0, u "Lcom/example/maksu/maksu/catalog/BillingPeriod;"), (2, u "WEEKLY"), (2, u "BIWEEKLY"), (2, u "THIRTY_DAYS"), (2, u "THIRTY_ONE_DAYS"), (2, u "SIXTY_DAYS"), (2, u "NINETY_DAYS"), (2, u "MONTHLY"), (2, u "BIMESTRIAL"), (2, u "QUARTERLY"), (2, u "TRIANNUAL"), (2, u "BIANNUAL"), (2, u "ANNUAL"), (2, u "SESQUIENNIAL"), (2, u "BIENNIAL"), (2, u "TRIENNIAL"), (2, u "$VALUES"), (0, u "[Lcom/example/maksu/maksu/catalog/BillingPeriod;"), (6, .class_ 64), (1, u "java/lang/Enum")] 70

/-- com/example/maksu/maksu/catalog/BillingPeriod -/
def k8 : Class := { plain "com/example/maksu/maksu/catalog/BillingPeriod" (some 7) with
  accessFlags := 16433
  interfaces := #[]
  cf := some (fileOf pool8 1 #[] #[] 16433 62 #[] #[{ accessFlags := 16409, nameIndex := 5, descriptorIndex := 6, attributes := #[] }, { accessFlags := 16409, nameIndex := 9, descriptorIndex := 6, attributes := #[] }, { accessFlags := 16409, nameIndex := 12, descriptorIndex := 6, attributes := #[] }, { accessFlags := 16409, nameIndex := 15, descriptorIndex := 6, attributes := #[] }, { accessFlags := 16409, nameIndex := 18, descriptorIndex := 6, attributes := #[] }, { accessFlags := 16409, nameIndex := 21, descriptorIndex := 6, attributes := #[] }, { accessFlags := 16409, nameIndex := 24, descriptorIndex := 6, attributes := #[] }, { accessFlags := 16409, nameIndex := 27, descriptorIndex := 6, attributes := #[] }, { accessFlags := 16409, nameIndex := 30, descriptorIndex := 6, attributes := #[] }, { accessFlags := 16409, nameIndex := 33, descriptorIndex := 6, attributes := #[] }, { accessFlags := 16409, nameIndex := 36, descriptorIndex := 6, attributes := #[] }, { accessFlags := 16409, nameIndex := 39, descriptorIndex := 6, attributes := #[] }, { accessFlags := 16409, nameIndex := 42, descriptorIndex := 6, attributes := #[] }, { accessFlags := 16409, nameIndex := 45, descriptorIndex := 6, attributes := #[] }, { accessFlags := 16409, nameIndex := 48, descriptorIndex := 6, attributes := #[] }, { accessFlags := 16409, nameIndex := 51, descriptorIndex := 6, attributes := #[] }, { accessFlags := 4122, nameIndex := 54, descriptorIndex := 55, attributes := #[] }])
  fields := #[{ name := "DAILY", type := (.object "com/example/maksu/maksu/catalog/BillingPeriod"), accessFlags := 16409, slot := 0, constantValue := 0 }, { name := "WEEKLY", type := (.object "com/example/maksu/maksu/catalog/BillingPeriod"), accessFlags := 16409, slot := 1, constantValue := 0 }, { name := "BIWEEKLY", type := (.object "com/example/maksu/maksu/catalog/BillingPeriod"), accessFlags := 16409, slot := 2, constantValue := 0 }, { name := "THIRTY_DAYS", type := (.object "com/example/maksu/maksu/catalog/BillingPeriod"), accessFlags := 16409, slot := 3, constantValue := 0 }, { name := "THIRTY_ONE_DAYS", type := (.object "com/example/maksu/maksu/catalog/BillingPeriod"), accessFlags := 16409, slot := 4, constantValue := 0 }, { name := "SIXTY_DAYS", type := (.object "com/example/maksu/maksu/catalog/BillingPeriod"), accessFlags := 16409, slot := 5, constantValue := 0 }, { name := "NINETY_DAYS", type := (.object "com/example/maksu/maksu/catalog/BillingPeriod"), accessFlags := 16409, slot := 6, constantValue := 0 }, { name := "MONTHLY", type := (.object "com/example/maksu/maksu/catalog/BillingPeriod"), accessFlags := 16409, slot := 7, constantValue := 0 }, { name := "BIMESTRIAL", type := (.object "com/example/maksu/maksu/catalog/BillingPeriod"), accessFlags := 16409, slot := 8, constantValue := 0 }, { name := "QUARTERLY", type := (.object "com/example/maksu/maksu/catalog/BillingPeriod"), accessFlags := 16409, slot := 9, constantValue := 0 }, { name := "TRIANNUAL", type := (.object "com/example/maksu/maksu/catalog/BillingPeriod"), accessFlags := 16409, slot := 10, constantValue := 0 }, { name := "BIANNUAL", type := (.object "com/example/maksu/maksu/catalog/BillingPeriod"), accessFlags := 16409, slot := 11, constantValue := 0 }, { name := "ANNUAL", type := (.object "com/example/maksu/maksu/catalog/BillingPeriod"), accessFlags := 16409, slot := 12, constantValue := 0 }, { name := "SESQUIENNIAL", type := (.object "com/example/maksu/maksu/catalog/BillingPeriod"), accessFlags := 16409, slot := 13, constantValue := 0 }, { name := "BIENNIAL", type := (.object "com/example/maksu/maksu/catalog/BillingPeriod"), accessFlags := 16409, slot := 14, constantValue := 0 }, { name := "TRIENNIAL", type := (.object "com/example/maksu/maksu/catalog/BillingPeriod"), accessFlags := 16409, slot := 15, constantValue := 0 }, { name := "$VALUES", type := (.array (.object "com/example/maksu/maksu/catalog/BillingPeriod")), accessFlags := 4122, slot := 16, constantValue := 0 }]
  methods := #[]
  instanceTypes := #[(.object "java/lang/String"), .int, .int]
  staticTypes := #[(.object "com/example/maksu/maksu/catalog/BillingPeriod"), (.object "com/example/maksu/maksu/catalog/BillingPeriod"), (.object "com/example/maksu/maksu/catalog/BillingPeriod"), (.object "com/example/maksu/maksu/catalog/BillingPeriod"), (.object "com/example/maksu/maksu/catalog/BillingPeriod"), (.object "com/example/maksu/maksu/catalog/BillingPeriod"), (.object "com/example/maksu/maksu/catalog/BillingPeriod"), (.object "com/example/maksu/maksu/catalog/BillingPeriod"), (.object "com/example/maksu/maksu/catalog/BillingPeriod"), (.object "com/example/maksu/maksu/catalog/BillingPeriod"), (.object "com/example/maksu/maksu/catalog/BillingPeriod"), (.object "com/example/maksu/maksu/catalog/BillingPeriod"), (.object "com/example/maksu/maksu/catalog/BillingPeriod"), (.object "com/example/maksu/maksu/catalog/BillingPeriod"), (.object "com/example/maksu/maksu/catalog/BillingPeriod"), (.object "com/example/maksu/maksu/catalog/BillingPeriod"), (.array (.object "com/example/maksu/maksu/catalog/BillingPeriod"))]
  resolved := Array.replicate 135 none
  statics := some 0 }

def pool9 : Array CpInfo := pool [(1, .methodref 2 3), (0, .class_ 4), (0, .nameAndType 5 6), (0, u "java/lang/Record"), (0, u "<init>"), (0, u "()V"), (0, .fieldref 8 9), (0, .class_ 10), (0, .nameAndType 11 12), (0, u "com/example/maksu/maksu/catalog/Phase"), (0, u "type"), (0, u "Lcom/example/maksu/maksu/catalog/Phase$Type;"), (0, .fieldref 8 14), (0, .nameAndType 15 16), (0, u "duration"), (0, u "Lcom/example/maksu/maksu/catalog/Phase$Duration;"), (0, .fieldref 8 18), (0, .nameAndType 19 20), (0, u "fixedPrice"), (0, u "Ljava/util/Map;"), (0, .fieldref 8 22), (0, .nameAndType 23 24), (0, u "recurring"), (0, u "Lcom/example/maksu/maksu/catalog/Phase$Recurring;"), (14, u "(Lcom/example/maksu/maksu/catalog/Phase$Type;Lcom/example/maksu/maksu/catalog/Phase$Duration;Ljava/util/Map;Lcom/example/maksu/maksu/catalog/Phase$Recurring;)V"), (11, u "()Lcom/example/maksu/maksu/catalog/Phase$Recurring;"), (3, .class_ 56), (0, u "com/example/maksu/maksu/catalog/Phase$Recurring"), (0, .class_ 58), (0, u "com/example/maksu/maksu/catalog/Phase$Duration"), (0, .class_ 60), (0, u "com/example/maksu/maksu/catalog/Phase$Duration$Unit"), (0, .class_ 62), (0, u "com/example/maksu/maksu/catalog/Phase$Type")] 25

def k9c0 : Code := { maxStack := 2, maxLocals := 5, code := prog_3_method_1_code, exceptionTable := #[], attributes := #[] }
def k9m0 : Method := { name := "<init>", desc := "(Lcom/example/maksu/maksu/catalog/Phase$Type;Lcom/example/maksu/maksu/catalog/Phase$Duration;Ljava/util/Map;Lcom/example/maksu/maksu/catalog/Phase$Recurring;)V", sig := { parameters := [(.object "com/example/maksu/maksu/catalog/Phase$Type"), (.object "com/example/maksu/maksu/catalog/Phase$Duration"), (.object "java/util/Map"), (.object "com/example/maksu/maksu/catalog/Phase$Recurring")], returnType := none }, accessFlags := 1, code := some k9c0 }
def k9c1 : Code := { maxStack := 1, maxLocals := 1, code := prog_3_method_8_code, exceptionTable := #[], attributes := #[] }
def k9m1 : Method := { name := "recurring", desc := "()Lcom/example/maksu/maksu/catalog/Phase$Recurring;", sig := { parameters := [], returnType := some (.object "com/example/maksu/maksu/catalog/Phase$Recurring") }, accessFlags := 1, code := some k9c1 }
/-- com/example/maksu/maksu/catalog/Phase -/
def k9 : Class := { plain "com/example/maksu/maksu/catalog/Phase" (some 2) with
  accessFlags := 49
  interfaces := #[]
  cf := some (fileOf pool9 8 #[.nestMembers #[55, 57, 59, 61]] #[{ accessFlags := 1, nameIndex := 5, descriptorIndex := 39, attributes := #[] }, { accessFlags := 1, nameIndex := 23, descriptorIndex := 51, attributes := #[] }] 49 2 #[] #[{ accessFlags := 18, nameIndex := 11, descriptorIndex := 12, attributes := #[] }, { accessFlags := 18, nameIndex := 15, descriptorIndex := 16, attributes := #[] }, { accessFlags := 18, nameIndex := 19, descriptorIndex := 20, attributes := #[] }, { accessFlags := 18, nameIndex := 23, descriptorIndex := 24, attributes := #[] }])
  fields := #[{ name := "type", type := (.object "com/example/maksu/maksu/catalog/Phase$Type"), accessFlags := 18, slot := 0, constantValue := 0 }, { name := "duration", type := (.object "com/example/maksu/maksu/catalog/Phase$Duration"), accessFlags := 18, slot := 1, constantValue := 0 }, { name := "fixedPrice", type := (.object "java/util/Map"), accessFlags := 18, slot := 2, constantValue := 0 }, { name := "recurring", type := (.object "com/example/maksu/maksu/catalog/Phase$Recurring"), accessFlags := 18, slot := 3, constantValue := 0 }]
  methods := #[k9m0, k9m1]
  instanceTypes := #[(.object "com/example/maksu/maksu/catalog/Phase$Type"), (.object "com/example/maksu/maksu/catalog/Phase$Duration"), (.object "java/util/Map"), (.object "com/example/maksu/maksu/catalog/Phase$Recurring")]
  staticTypes := #[]
  resolved := Array.replicate 88 none
  statics := none }

def pool10 : Array CpInfo := pool [(8, .class_ 10), (1, u "java/lang/Iterable"), (24, .class_ 36), (0, u "java/lang/Object")] 25

/-- java/lang/Iterable -/
def k10 : Class := { plain "java/lang/Iterable" (some 0) with
  accessFlags := 1537
  interfaces := #[]
  cf := some (fileOf pool10 8 #[] #[] 1537 35 #[] #[])
  fields := #[]
  methods := #[]
  instanceTypes := #[]
  staticTypes := #[]
  resolved := Array.replicate 62 none
  statics := none }

def pool11 : Array CpInfo := pool [(10, .class_ 12), (1, u "java/util/Collection"), (47, .class_ 61), (0, u "java/lang/Object"), (0, .class_ 63), (0, u "java/lang/Iterable")] 51

/-- java/util/Collection -/
def k11 : Class := { plain "java/util/Collection" (some 0) with
  accessFlags := 1537
  interfaces := #[10]
  cf := some (fileOf pool11 10 #[] #[] 1537 60 #[62] #[])
  fields := #[]
  methods := #[]
  instanceTypes := #[]
  staticTypes := #[]
  resolved := Array.replicate 115 none
  statics := none }

def pool12 : Array CpInfo := pool [(1, .methodref 2 3), (0, .class_ 4), (0, .nameAndType 5 6), (0, u "java/lang/Object"), (0, u "<init>"), (0, u "()V"), (1, .class_ 10), (1, u "java/util/AbstractCollection"), (66, .class_ 78), (0, u "java/util/Collection")] 81

def k12c0 : Code := { maxStack := 1, maxLocals := 1, code := jdk_22_method_1_code, exceptionTable := #[], attributes := #[] }
def k12m0 : Method := { name := "<init>", desc := "()V", sig := { parameters := [], returnType := none }, accessFlags := 4, code := some k12c0 }
/-- java/util/AbstractCollection -/
def k12 : Class := { plain "java/util/AbstractCollection" (some 0) with
  accessFlags := 1057
  interfaces := #[11]
  cf := some (fileOf pool12 8 #[] #[{ accessFlags := 4, nameIndex := 5, descriptorIndex := 6, attributes := #[] }] 1057 2 #[77] #[])
  fields := #[]
  methods := #[k12m0]
  instanceTypes := #[]
  staticTypes := #[]
  resolved := Array.replicate 160 none
  statics := none }

def pool13 : Array CpInfo := pool [(8, .class_ 10), (1, u "java/util/SequencedCollection"), (15, .class_ 27), (0, u "java/lang/Object"), (0, .class_ 29), (0, u "java/util/Collection")] 27

/-- java/util/SequencedCollection -/
def k13 : Class := { plain "java/util/SequencedCollection" (some 0) with
  accessFlags := 1537
  interfaces := #[11]
  cf := some (fileOf pool13 8 #[] #[] 1537 26 #[28] #[])
  fields := #[]
  methods := #[]
  instanceTypes := #[]
  staticTypes := #[]
  resolved := Array.replicate 57 none
  statics := none }

def pool14 : Array CpInfo := pool [(8, .class_ 10), (1, u "java/util/List"), (49, u "add"), (3, u "(Ljava/lang/Object;)Z"), (10, u "get"), (0, u "(I)Ljava/lang/Object;"), (2, u "size"), (0, u "()I"), (22, .class_ 104), (0, u "java/lang/Object"), (15, .class_ 121), (0, u "java/util/SequencedCollection")] 129

def k14m0 : Method := { name := "size", desc := "()I", sig := { parameters := [], returnType := some .int }, accessFlags := 1025, code := none }
def k14m1 : Method := { name := "add", desc := "(Ljava/lang/Object;)Z", sig := { parameters := [(.object "java/lang/Object")], returnType := some .boolean }, accessFlags := 1025, code := none }
def k14m2 : Method := { name := "get", desc := "(I)Ljava/lang/Object;", sig := { parameters := [.int], returnType := some (.object "java/lang/Object") }, accessFlags := 1025, code := none }
/-- java/util/List -/
def k14 : Class := { plain "java/util/List" (some 0) with
  accessFlags := 1537
  interfaces := #[13]
  cf := some (fileOf pool14 8 #[] #[{ accessFlags := 1025, nameIndex := 79, descriptorIndex := 80, attributes := #[] }, { accessFlags := 1025, nameIndex := 60, descriptorIndex := 64, attributes := #[] }, { accessFlags := 1025, nameIndex := 75, descriptorIndex := 76, attributes := #[] }] 1537 103 #[120] #[])
  fields := #[]
  methods := #[k14m0, k14m1, k14m2]
  instanceTypes := #[]
  staticTypes := #[]
  resolved := Array.replicate 251 none
  statics := none }

def pool15 : Array CpInfo := pool [(1, .methodref 2 3), (0, .class_ 4), (0, .nameAndType 5 6), (0, u "java/util/AbstractCollection"), (0, u "<init>"), (0, u "()V"), (0, .fieldref 8 9), (0, .class_ 10), (0, .nameAndType 11 12), (0, u "java/util/AbstractList"), (0, u "modCount"), (0, u "I"), (64, .class_ 78), (0, u "java/util/AbstractList$Itr"), (3, .class_ 83), (0, u "java/util/AbstractList$ListItr"), (9, .class_ 94), (0, u "java/util/AbstractList$RandomAccessSubList"), (3, .class_ 99), (0, u "java/util/AbstractList$SubList"), (33, .class_ 134), (0, u "java/util/List"), (73, .class_ 209), (0, u "java/util/AbstractList$SubList$1"), (0, .class_ 211), (0, u "java/util/AbstractList$RandomAccessSpliterator")] 6

def k15c0 : Code := { maxStack := 2, maxLocals := 1, code := jdk_39_method_1_code, exceptionTable := #[], attributes := #[] }
def k15m0 : Method := { name := "<init>", desc := "()V", sig := { parameters := [], returnType := none }, accessFlags := 4, code := some k15c0 }
/-- java/util/AbstractList -/
def k15 : Class := { plain "java/util/AbstractList" (some 12) with
  accessFlags := 1057
  interfaces := #[14]
  cf := some (fileOf pool15 8 #[.nestMembers #[93, 98, 208, 210, 82, 77]] #[{ accessFlags := 4, nameIndex := 5, descriptorIndex := 6, attributes := #[] }] 1057 2 #[133] #[{ accessFlags := 132, nameIndex := 11, descriptorIndex := 12, attributes := #[] }])
  fields := #[{ name := "modCount", type := .int, accessFlags := 132, slot := 0, constantValue := 0 }]
  methods := #[k15m0]
  instanceTypes := #[.int]
  staticTypes := #[]
  resolved := Array.replicate 218 none
  statics := none }

def pool16 : Array CpInfo := pool [(1, .class_ 2), (0, u "java/util/RandomAccess"), (0, .class_ 4), (0, u "java/lang/Object")] 2

/-- java/util/RandomAccess -/
def k16 : Class := { plain "java/util/RandomAccess" (some 0) with
  accessFlags := 1537
  interfaces := #[]
  cf := some (fileOf pool16 1 #[] #[] 1537 3 #[] #[])
  fields := #[]
  methods := #[]
  instanceTypes := #[]
  staticTypes := #[]
  resolved := Array.replicate 7 none
  statics := none }

def pool17 : Array CpInfo := pool [(1, .class_ 2), (0, u "java/lang/Cloneable"), (0, .class_ 4), (0, u "java/lang/Object")] 2

/-- java/lang/Cloneable -/
def k17 : Class := { plain "java/lang/Cloneable" (some 0) with
  accessFlags := 1537
  interfaces := #[]
  cf := some (fileOf pool17 1 #[] #[] 1537 3 #[] #[])
  fields := #[]
  methods := #[]
  instanceTypes := #[]
  staticTypes := #[]
  resolved := Array.replicate 7 none
  statics := none }

def pool18 : Array CpInfo := pool [(1, .methodref 2 3), (0, .class_ 4), (0, .nameAndType 5 6), (0, u "java/util/AbstractList"), (0, u "<init>"), (0, u "()V"), (0, .class_ 8), (0, u "java/lang/Object"), (0, .fieldref 10 11), (0, .class_ 12), (0, .nameAndType 13 14), (0, u "java/util/ArrayList"), (0, u "elementData"), (0, u "[Ljava/lang/Object;"), (2, u "EMPTY_ELEMENTDATA"), (21, .fieldref 10 40), (0, .nameAndType 41 14), (0, u "DEFAULTCAPACITY_EMPTY_ELEMENTDATA"), (5, u "()[Ljava/lang/Object;"), (0, .fieldref 10 49), (0, .nameAndType 50 51), (0, u "size"), (0, u "I"), (11, .fieldref 10 64), (0, .nameAndType 65 51), (0, u "modCount"), (3, .methodref 10 70), (0, .nameAndType 71 72), (0, u "grow"), (0, u "(I)[Ljava/lang/Object;"), (6, .methodref 80 81), (0, .class_ 82), (0, .nameAndType 83 84), (0, u "java/lang/Math"), (0, u "max"), (0, u "(II)I"), (11, u "(Ljava/lang/Object;)Z"), (21, .methodref 119 120), (0, .class_ 121), (0, .nameAndType 122 84), (0, u "java/util/Objects"), (0, u "checkIndex"), (0, .methodref 10 124), (0, .nameAndType 13 125), (0, u "(I)Ljava/lang/Object;"), (3, .methodref 10 130), (0, .nameAndType 71 47), (0, .methodref 10 132), (0, .nameAndType 133 134), (0, u "add"), (0, u "(Ljava/lang/Object;[Ljava/lang/Object;I)V"), (13, .class_ 149), (0, u "java/util/List"), (36, u "()I"), (75, .class_ 263), (0, u "java/util/ArrayList$ListItr"), (3, .class_ 268), (0, u "java/util/ArrayList$Itr"), (7, .class_ 277), (0, u "java/util/ArrayList$SubList"), (12, .class_ 291), (0, u "java/util/ArrayList$ArrayListSpliterator"), (37, .class_ 330), (0, u "java/util/RandomAccess"), (0, .class_ 332), (0, u "java/lang/Cloneable"), (0, .class_ 334), (0, u "java/io/Serializable"), (0, u "serialVersionUID"), (0, u "J"), (3, u "DEFAULT_CAPACITY"), (40, u "get"), (118, .class_ 501), (0, u "java/util/ArrayList$SubList$2"), (0, .class_ 503), (0, u "java/util/ArrayList$SubList$1")] 5

def k18c0 : Code := { maxStack := 2, maxLocals := 1, code := jdk_38_method_2_code, exceptionTable := #[], attributes := #[] }
def k18m0 : Method := { name := "<init>", desc := "()V", sig := { parameters := [], returnType := none }, accessFlags := 1, code := some k18c0 }
def k18c1 : Code := { maxStack := 4, maxLocals := 4, code := jdk_38_method_6_code, exceptionTable := #[], attributes := #[] }
def k18m1 : Method := { name := "grow", desc := "(I)[Ljava/lang/Object;", sig := { parameters := [.int], returnType := some (.array (.object "java/lang/Object")) }, accessFlags := 2, code := some k18c1 }
def k18c2 : Code := { maxStack := 3, maxLocals := 1, code := jdk_38_method_7_code, exceptionTable := #[], attributes := #[] }
def k18m2 : Method := { name := "grow", desc := "()[Ljava/lang/Object;", sig := { parameters := [], returnType := some (.array (.object "java/lang/Object")) }, accessFlags := 2, code := some k18c2 }
def k18c3 : Code := { maxStack := 1, maxLocals := 1, code := jdk_38_method_8_code, exceptionTable := #[], attributes := #[] }
def k18m3 : Method := { name := "size", desc := "()I", sig := { parameters := [], returnType := some .int }, accessFlags := 1, code := some k18c3 }
def k18c4 : Code := { maxStack := 2, maxLocals := 2, code := jdk_38_method_18_code, exceptionTable := #[], attributes := #[] }
def k18m4 : Method := { name := "elementData", desc := "(I)Ljava/lang/Object;", sig := { parameters := [.int], returnType := some (.object "java/lang/Object") }, accessFlags := 0, code := some k18c4 }
def k18c5 : Code := { maxStack := 2, maxLocals := 2, code := jdk_38_method_20_code, exceptionTable := #[], attributes := #[] }
def k18m5 : Method := { name := "get", desc := "(I)Ljava/lang/Object;", sig := { parameters := [.int], returnType := some (.object "java/lang/Object") }, accessFlags := 1, code := some k18c5 }
def k18c6 : Code := { maxStack := 3, maxLocals := 4, code := jdk_38_method_24_code, exceptionTable := #[], attributes := #[] }
def k18m6 : Method := { name := "add", desc := "(Ljava/lang/Object;[Ljava/lang/Object;I)V", sig := { parameters := [(.object "java/lang/Object"), (.array (.object "java/lang/Object")), .int], returnType := none }, accessFlags := 2, code := some k18c6 }
def k18c7 : Code := { maxStack := 4, maxLocals := 2, code := jdk_38_method_25_code, exceptionTable := #[], attributes := #[] }
def k18m7 : Method := { name := "add", desc := "(Ljava/lang/Object;)Z", sig := { parameters := [(.object "java/lang/Object")], returnType := some .boolean }, accessFlags := 1, code := some k18c7 }
/-- java/util/ArrayList -/
def k18 : Class := { plain "java/util/ArrayList" (some 15) with
  accessFlags := 33
  interfaces := #[14, 16, 17, 6]
  cf := some (fileOf pool18 10 #[.nestMembers #[290, 276, 500, 502, 262, 267]] #[{ accessFlags := 1, nameIndex := 5, descriptorIndex := 6, attributes := #[] }, { accessFlags := 2, nameIndex := 71, descriptorIndex := 72, attributes := #[] }, { accessFlags := 2, nameIndex := 71, descriptorIndex := 47, attributes := #[] }, { accessFlags := 1, nameIndex := 50, descriptorIndex := 186, attributes := #[] }, { accessFlags := 0, nameIndex := 13, descriptorIndex := 125, attributes := #[] }, { accessFlags := 1, nameIndex := 381, descriptorIndex := 125, attributes := #[] }, { accessFlags := 2, nameIndex := 133, descriptorIndex := 134, attributes := #[] }, { accessFlags := 1, nameIndex := 133, descriptorIndex := 96, attributes := #[] }] 33 2 #[148, 329, 331, 333] #[{ accessFlags := 26, nameIndex := 335, descriptorIndex := 336, attributes := #[] }, { accessFlags := 26, nameIndex := 340, descriptorIndex := 51, attributes := #[] }, { accessFlags := 26, nameIndex := 17, descriptorIndex := 14, attributes := #[] }, { accessFlags := 26, nameIndex := 41, descriptorIndex := 14, attributes := #[] }, { accessFlags := 128, nameIndex := 13, descriptorIndex := 14, attributes := #[] }, { accessFlags := 2, nameIndex := 50, descriptorIndex := 51, attributes := #[] }])
  fields := #[{ name := "serialVersionUID", type := .long, accessFlags := 26, slot := 0, constantValue := 0 }, { name := "DEFAULT_CAPACITY", type := .int, accessFlags := 26, slot := 1, constantValue := 0 }, { name := "EMPTY_ELEMENTDATA", type := (.array (.object "java/lang/Object")), accessFlags := 26, slot := 2, constantValue := 0 }, { name := "DEFAULTCAPACITY_EMPTY_ELEMENTDATA", type := (.array (.object "java/lang/Object")), accessFlags := 26, slot := 3, constantValue := 0 }, { name := "elementData", type := (.array (.object "java/lang/Object")), accessFlags := 128, slot := 1, constantValue := 0 }, { name := "size", type := .int, accessFlags := 2, slot := 2, constantValue := 0 }]
  methods := #[k18m0, k18m1, k18m2, k18m3, k18m4, k18m5, k18m6, k18m7]
  instanceTypes := #[.int, (.array (.object "java/lang/Object")), .int]
  staticTypes := #[.long, .int, (.array (.object "java/lang/Object")), (.array (.object "java/lang/Object"))]
  resolved := Array.replicate 509 none
  statics := some 1 }

def pool19 : Array CpInfo := pool [(1, .class_ 2), (0, u "java/lang/Math"), (1, .class_ 6), (1, u "java/lang/Object"), (0, u "<init>"), (0, u "()V"), (89, .class_ 100), (1, u "java/lang/Math$RandomNumberGeneratorHolder"), (71, u "negativeZeroFloatBits"), (0, u "J"), (2, u "negativeZeroDoubleBits"), (21, u "max"), (46, u "$assertionsDisabled"), (0, u "Z"), (88, u "(II)I"), (2, u "twoToTheDoubleScaleDown"), (0, u "D"), (4, u "twoToTheDoubleScaleUp"), (9, u "E"), (3, u "PI"), (2, u "TAU"), (2, u "DEGREES_TO_RADIANS"), (0, u "RADIANS_TO_DEGREES")] 94

def k19m0 : Method := { name := "<init>", desc := "()V", sig := { parameters := [], returnType := none }, accessFlags := 2, code := none }
def k19c1 : Code := { maxStack := 2, maxLocals := 2, code := jdk_29_method_65_code, exceptionTable := #[], attributes := #[] }
def k19m1 : Method := { name := "max", desc := "(II)I", sig := { parameters := [.int, .int], returnType := some .int }, accessFlags := 9, code := some k19c1 }
/-- java/lang/Math -/
def k19 : Class := { plain "java/lang/Math" (some 0) with
  accessFlags := 49
  interfaces := #[]
  cf := some (fileOf pool19 1 #[.nestMembers #[98]] #[{ accessFlags := 2, nameIndex := 7, descriptorIndex := 8, attributes := #[] }, { accessFlags := 9, nameIndex := 198, descriptorIndex := 335, attributes := #[] }] 49 4 #[] #[{ accessFlags := 25, nameIndex := 354, descriptorIndex := 339, attributes := #[] }, { accessFlags := 25, nameIndex := 358, descriptorIndex := 339, attributes := #[] }, { accessFlags := 25, nameIndex := 361, descriptorIndex := 339, attributes := #[] }, { accessFlags := 26, nameIndex := 364, descriptorIndex := 339, attributes := #[] }, { accessFlags := 26, nameIndex := 365, descriptorIndex := 339, attributes := #[] }, { accessFlags := 26, nameIndex := 172, descriptorIndex := 173, attributes := #[] }, { accessFlags := 26, nameIndex := 176, descriptorIndex := 173, attributes := #[] }, { accessFlags := 8, nameIndex := 344, descriptorIndex := 339, attributes := #[] }, { accessFlags := 8, nameIndex := 338, descriptorIndex := 339, attributes := #[] }, { accessFlags := 4120, nameIndex := 245, descriptorIndex := 246, attributes := #[] }])
  fields := #[{ name := "E", type := .double, accessFlags := 25, slot := 0, constantValue := 0 }, { name := "PI", type := .double, accessFlags := 25, slot := 1, constantValue := 0 }, { name := "TAU", type := .double, accessFlags := 25, slot := 2, constantValue := 0 }, { name := "DEGREES_TO_RADIANS", type := .double, accessFlags := 26, slot := 3, constantValue := 0 }, { name := "RADIANS_TO_DEGREES", type := .double, accessFlags := 26, slot := 4, constantValue := 0 }, { name := "negativeZeroFloatBits", type := .long, accessFlags := 26, slot := 5, constantValue := 0 }, { name := "negativeZeroDoubleBits", type := .long, accessFlags := 26, slot := 6, constantValue := 0 }, { name := "twoToTheDoubleScaleUp", type := .double, accessFlags := 8, slot := 7, constantValue := 0 }, { name := "twoToTheDoubleScaleDown", type := .double, accessFlags := 8, slot := 8, constantValue := 0 }, { name := "$assertionsDisabled", type := .boolean, accessFlags := 4120, slot := 9, constantValue := 0 }]
  methods := #[k19m0, k19m1]
  instanceTypes := #[]
  staticTypes := #[.double, .double, .double, .double, .double, .long, .long, .double, .double, .boolean]
  resolved := Array.replicate 460 none
  statics := none }

def pool20 : Array CpInfo := pool [(1, .methodref 2 3), (0, .class_ 4), (0, .nameAndType 5 6), (0, u "java/lang/Record"), (0, u "<init>"), (0, u "()V"), (0, .fieldref 8 9), (0, .class_ 10), (0, .nameAndType 11 12), (0, u "com/example/maksu/maksu/catalog/Plan"), (0, u "name"), (0, u "Ljava/lang/String;"), (0, .fieldref 8 14), (0, .nameAndType 15 12), (0, u "product"), (0, .fieldref 8 17), (0, .nameAndType 18 19), (0, u "phases"), (0, u "Ljava/util/List;"), (0, .interfaceMethodref 21 22), (0, .class_ 23), (0, .nameAndType 24 25), (0, u "java/util/List"), (0, u "size"), (0, u "()I"), (0, .interfaceMethodref 21 27), (0, .nameAndType 28 29), (0, u "get"), (0, u "(I)Ljava/lang/Object;"), (0, .class_ 31), (0, u "com/example/maksu/maksu/catalog/Phase"), (0, .methodref 30 33), (0, .nameAndType 34 35), (0, u "recurring"), (0, u "()Lcom/example/maksu/maksu/catalog/Phase$Recurring;"), (0, .methodref 37 38), (0, .class_ 39), (0, .nameAndType 40 41), (0, u "com/example/maksu/maksu/catalog/Phase$Recurring"), (0, u "billingPeriod"), (0, u "()Lcom/example/maksu/maksu/catalog/BillingPeriod;"), (0, .methodref 43 44), (0, .class_ 45), (0, .nameAndType 46 47), (0, u "java/util/Optional"), (0, u "ofNullable"), (0, u "(Ljava/lang/Object;)Ljava/util/Optional;"), (2, u "()Ljava/util/Optional;"), (9, u "NO_BILLING_PERIOD"), (99, u "(Ljava/lang/String;Ljava/lang/String;Ljava/util/List;)V")] 68

def k20c0 : Code := { maxStack := 2, maxLocals := 4, code := prog_8_method_1_code, exceptionTable := #[], attributes := #[] }
def k20m0 : Method := { name := "<init>", desc := "(Ljava/lang/String;Ljava/lang/String;Ljava/util/List;)V", sig := { parameters := [(.object "java/lang/String"), (.object "java/lang/String"), (.object "java/util/List")], returnType := none }, accessFlags := 1, code := some k20c0 }
def k20c1 : Code := { maxStack := 3, maxLocals := 2, code := prog_8_method_2_code, exceptionTable := #[], attributes := #[] }
def k20m1 : Method := { name := "billingPeriod", desc := "()Ljava/util/Optional;", sig := { parameters := [], returnType := some (.object "java/util/Optional") }, accessFlags := 1, code := some k20c1 }
/-- com/example/maksu/maksu/catalog/Plan -/
def k20 : Class := { plain "com/example/maksu/maksu/catalog/Plan" (some 2) with
  accessFlags := 49
  interfaces := #[]
  cf := some (fileOf pool20 8 #[] #[{ accessFlags := 1, nameIndex := 5, descriptorIndex := 160, attributes := #[] }, { accessFlags := 1, nameIndex := 40, descriptorIndex := 50, attributes := #[] }] 49 2 #[] #[{ accessFlags := 18, nameIndex := 11, descriptorIndex := 12, attributes := #[] }, { accessFlags := 18, nameIndex := 15, descriptorIndex := 12, attributes := #[] }, { accessFlags := 18, nameIndex := 18, descriptorIndex := 19, attributes := #[] }, { accessFlags := 26, nameIndex := 60, descriptorIndex := 12, attributes := #[] }])
  fields := #[{ name := "name", type := (.object "java/lang/String"), accessFlags := 18, slot := 0, constantValue := 0 }, { name := "product", type := (.object "java/lang/String"), accessFlags := 18, slot := 1, constantValue := 0 }, { name := "phases", type := (.object "java/util/List"), accessFlags := 18, slot := 2, constantValue := 0 }, { name := "NO_BILLING_PERIOD", type := (.object "java/lang/String"), accessFlags := 26, slot := 0, constantValue := 0 }]
  methods := #[k20m0, k20m1]
  instanceTypes := #[(.object "java/lang/String"), (.object "java/lang/String"), (.object "java/util/List")]
  staticTypes := #[(.object "java/lang/String")]
  resolved := Array.replicate 229 none
  statics := none }

def pool21 : Array CpInfo := pool [(2, .class_ 4), (1, u "java/lang/CharSequence"), (42, .class_ 48), (0, u "java/lang/CharSequence$1CodePointIterator"), (10, .class_ 60), (0, u "java/lang/CharSequence$1CharIterator"), (5, .class_ 67), (0, u "java/lang/Object")] 63

/-- java/lang/CharSequence -/
def k21 : Class := { plain "java/lang/CharSequence" (some 0) with
  accessFlags := 1537
  interfaces := #[]
  cf := some (fileOf pool21 2 #[.nestMembers #[47, 59]] #[] 1537 66 #[] #[])
  fields := #[]
  methods := #[]
  instanceTypes := #[]
  staticTypes := #[]
  resolved := Array.replicate 131 none
  statics := none }

def pool22 : Array CpInfo := pool [(1, .class_ 2), (0, u "java/lang/constant/ConstantDesc"), (0, .class_ 4), (0, u "java/lang/Object")] 32

/-- java/lang/constant/ConstantDesc -/
def k22 : Class := { plain "java/lang/constant/ConstantDesc" (some 0) with
  accessFlags := 1537
  interfaces := #[]
  cf := some (fileOf pool22 1 #[] #[] 1537 3 #[] #[])
  fields := #[]
  methods := #[]
  instanceTypes := #[]
  staticTypes := #[]
  resolved := Array.replicate 37 none
  statics := none }

def pool23 : Array CpInfo := pool [(2, .class_ 4), (1, u "java/lang/Object"), (0, u "<init>"), (0, u "()V"), (3, .class_ 12), (1, u "java/lang/String"), (0, u "value"), (0, u "[B"), (2, u "coder"), (0, u "B"), (2, u "hash"), (0, u "I"), (2, u "hashIsZero"), (0, u "Z"), (13, u "COMPACT_STRINGS"), (534, .class_ 576), (0, u "java/lang/CharSequence"), (22, u "CASE_INSENSITIVE_ORDER"), (0, u "Ljava/util/Comparator;"), (500, u "serialPersistentFields"), (0, u "[Ljava/io/ObjectStreamField;"), (0, .class_ 1104), (0, u "java/lang/String$CaseInsensitiveComparator"), (1, .class_ 1107), (0, u "java/io/Serializable"), (0, .class_ 1109), (0, u "java/lang/Comparable"), (0, .class_ 1111), (0, u "java/lang/constant/Constable"), (0, .class_ 1113), (0, u "java/lang/constant/ConstantDesc"), (2, u "serialVersionUID"), (0, u "J"), (3, u "REPL"), (0, u "C"), (2, u "LATIN1"), (1, u "UTF16")] 323

def k23m0 : Method := { name := "<init>", desc := "()V", sig := { parameters := [], returnType := none }, accessFlags := 1, code := none }
/-- java/lang/String -/
def k23 : Class := { plain "java/lang/String" (some 0) with
  accessFlags := 49
  interfaces := #[6, 5, 21, 4, 22]
  cf := some (fileOf pool23 10 #[.nestMembers #[1103]] #[{ accessFlags := 1, nameIndex := 5, descriptorIndex := 6, attributes := #[] }] 49 2 #[1106, 1108, 575, 1110, 1112] #[{ accessFlags := 18, nameIndex := 13, descriptorIndex := 14, attributes := #[] }, { accessFlags := 18, nameIndex := 17, descriptorIndex := 18, attributes := #[] }, { accessFlags := 2, nameIndex := 21, descriptorIndex := 22, attributes := #[] }, { accessFlags := 2, nameIndex := 25, descriptorIndex := 26, attributes := #[] }, { accessFlags := 26, nameIndex := 1116, descriptorIndex := 1117, attributes := #[] }, { accessFlags := 24, nameIndex := 40, descriptorIndex := 26, attributes := #[] }, { accessFlags := 26, nameIndex := 1101, descriptorIndex := 1102, attributes := #[] }, { accessFlags := 26, nameIndex := 1121, descriptorIndex := 1122, attributes := #[] }, { accessFlags := 25, nameIndex := 599, descriptorIndex := 600, attributes := #[] }, { accessFlags := 24, nameIndex := 1125, descriptorIndex := 18, attributes := #[] }, { accessFlags := 24, nameIndex := 1127, descriptorIndex := 18, attributes := #[] }])
  fields := #[{ name := "value", type := (.array .byte), accessFlags := 18, slot := 0, constantValue := 0 }, { name := "coder", type := .byte, accessFlags := 18, slot := 1, constantValue := 0 }, { name := "hash", type := .int, accessFlags := 2, slot := 2, constantValue := 0 }, { name := "hashIsZero", type := .boolean, accessFlags := 2, slot := 3, constantValue := 0 }, { name := "serialVersionUID", type := .long, accessFlags := 26, slot := 0, constantValue := 0 }, { name := "COMPACT_STRINGS", type := .boolean, accessFlags := 24, slot := 1, constantValue := 0 }, { name := "serialPersistentFields", type := (.array (.object "java/io/ObjectStreamField")), accessFlags := 26, slot := 2, constantValue := 0 }, { name := "REPL", type := .char, accessFlags := 26, slot := 3, constantValue := 0 }, { name := "CASE_INSENSITIVE_ORDER", type := (.object "java/util/Comparator"), accessFlags := 25, slot := 4, constantValue := 0 }, { name := "LATIN1", type := .byte, accessFlags := 24, slot := 5, constantValue := 0 }, { name := "UTF16", type := .byte, accessFlags := 24, slot := 6, constantValue := 0 }]
  methods := #[k23m0]
  instanceTypes := #[(.array .byte), .byte, .int, .boolean]
  staticTypes := #[.long, .boolean, (.array (.object "java/io/ObjectStreamField")), .char, (.object "java/util/Comparator"), .byte, .byte]
  resolved := Array.replicate 1451 none
  statics := none }

def pool24 : Array CpInfo := pool [(2, .class_ 4), (1, u "java/lang/Object"), (0, u "<init>"), (0, u "()V"), (35, .class_ 44), (1, u "java/util/Objects"), (60, .methodref 106 107), (0, .class_ 108), (0, .nameAndType 109 110), (0, u "jdk/internal/util/Preconditions"), (0, u "checkIndex"), (0, u "(IILjava/util/function/BiFunction;)I"), (60, u "(II)I")] 12

def k24m0 : Method := { name := "<init>", desc := "()V", sig := { parameters := [], returnType := none }, accessFlags := 2, code := none }
def k24c1 : Code := { maxStack := 3, maxLocals := 2, code := jdk_31_method_17_code, exceptionTable := #[], attributes := #[] }
def k24m1 : Method := { name := "checkIndex", desc := "(II)I", sig := { parameters := [.int, .int], returnType := some .int }, accessFlags := 9, code := some k24c1 }
/-- java/util/Objects -/
def k24 : Class := { plain "java/util/Objects" (some 0) with
  accessFlags := 49
  interfaces := #[]
  cf := some (fileOf pool24 42 #[] #[{ accessFlags := 2, nameIndex := 5, descriptorIndex := 6, attributes := #[] }, { accessFlags := 9, nameIndex := 109, descriptorIndex := 171, attributes := #[] }] 49 2 #[] #[])
  fields := #[]
  methods := #[k24m0, k24m1]
  instanceTypes := #[]
  staticTypes := #[]
  resolved := Array.replicate 184 none
  statics := none }

def pool25 : Array CpInfo := pool [(2, .class_ 4), (1, u "java/lang/Object"), (0, u "<init>"), (0, u "()V"), (17, .class_ 26), (1, u "jdk/internal/util/Preconditions"), (6, u "checkIndex"), (21, .class_ 56), (0, u "jdk/internal/util/Preconditions$4"), (57, .class_ 115), (0, u "jdk/internal/util/Preconditions$1"), (7, u "SIOOBE_FORMATTER"), (0, u "Ljava/util/function/BiFunction;"), (0, .class_ 126), (0, u "jdk/internal/util/Preconditions$2"), (3, u "AIOOBE_FORMATTER"), (0, .class_ 132), (0, u "jdk/internal/util/Preconditions$3"), (3, u "IOOBE_FORMATTER"), (41, u "(IILjava/util/function/BiFunction;)I")] 15

def k25m0 : Method := { name := "<init>", desc := "()V", sig := { parameters := [], returnType := none }, accessFlags := 1, code := none }
def k25c1 : Code := { maxStack := 3, maxLocals := 3, code := jdk_41_method_11_code, exceptionTable := #[], attributes := #[] }
def k25m1 : Method := { name := "checkIndex", desc := "(IILjava/util/function/BiFunction;)I", sig := { parameters := [.int, .int, (.object "java/util/function/BiFunction")], returnType := some .int }, accessFlags := 9, code := some k25c1 }
/-- jdk/internal/util/Preconditions -/
def k25 : Class := { plain "jdk/internal/util/Preconditions" (some 0) with
  accessFlags := 33
  interfaces := #[]
  cf := some (fileOf pool25 24 #[.nestMembers #[55, 131, 125, 114]] #[{ accessFlags := 1, nameIndex := 5, descriptorIndex := 6, attributes := #[] }, { accessFlags := 9, nameIndex := 33, descriptorIndex := 178, attributes := #[] }] 33 2 #[] #[{ accessFlags := 25, nameIndex := 123, descriptorIndex := 124, attributes := #[] }, { accessFlags := 25, nameIndex := 130, descriptorIndex := 124, attributes := #[] }, { accessFlags := 25, nameIndex := 136, descriptorIndex := 124, attributes := #[] }])
  fields := #[{ name := "SIOOBE_FORMATTER", type := (.object "java/util/function/BiFunction"), accessFlags := 25, slot := 0, constantValue := 0 }, { name := "AIOOBE_FORMATTER", type := (.object "java/util/function/BiFunction"), accessFlags := 25, slot := 1, constantValue := 0 }, { name := "IOOBE_FORMATTER", type := (.object "java/util/function/BiFunction"), accessFlags := 25, slot := 2, constantValue := 0 }]
  methods := #[k25m0, k25m1]
  instanceTypes := #[]
  staticTypes := #[(.object "java/util/function/BiFunction"), (.object "java/util/function/BiFunction"), (.object "java/util/function/BiFunction")]
  resolved := Array.replicate 194 none
  statics := none }

def pool26 : Array CpInfo := pool [(1, .fieldref 2 3), (0, .class_ 4), (0, .nameAndType 5 6), (0, u "java/util/Optional"), (0, u "EMPTY"), (0, u "Ljava/util/Optional;"), (0, .methodref 8 9), (0, .class_ 10), (0, .nameAndType 11 12), (0, u "java/lang/Object"), (0, u "<init>"), (0, u "()V"), (0, .fieldref 2 14), (0, .nameAndType 15 16), (0, u "value"), (0, u "Ljava/lang/Object;"), (5, u "(Ljava/lang/Object;)Ljava/lang/Object;"), (0, .methodref 2 24), (0, .nameAndType 11 25), (0, u "(Ljava/lang/Object;)V"), (38, u "ofNullable"), (0, u "(Ljava/lang/Object;)Ljava/util/Optional;"), (99, u "orElse")] 21

def k26c0 : Code := { maxStack := 2, maxLocals := 2, code := jdk_32_method_2_code, exceptionTable := #[], attributes := #[] }
def k26m0 : Method := { name := "<init>", desc := "(Ljava/lang/Object;)V", sig := { parameters := [(.object "java/lang/Object")], returnType := none }, accessFlags := 2, code := some k26c0 }
def k26c1 : Code := { maxStack := 3, maxLocals := 1, code := jdk_32_method_4_code, exceptionTable := #[], attributes := #[] }
def k26m1 : Method := { name := "ofNullable", desc := "(Ljava/lang/Object;)Ljava/util/Optional;", sig := { parameters := [(.object "java/lang/Object")], returnType := some (.object "java/util/Optional") }, accessFlags := 9, code := some k26c1 }
def k26c2 : Code := { maxStack := 1, maxLocals := 2, code := jdk_32_method_15_code, exceptionTable := #[], attributes := #[] }
def k26m2 : Method := { name := "orElse", desc := "(Ljava/lang/Object;)Ljava/lang/Object;", sig := { parameters := [(.object "java/lang/Object")], returnType := some (.object "java/lang/Object") }, accessFlags := 1, code := some k26c2 }
/-- java/util/Optional -/
def k26 : Class := { plain "java/util/Optional" (some 0) with
  accessFlags := 49
  interfaces := #[]
  cf := some (fileOf pool26 2 #[] #[{ accessFlags := 2, nameIndex := 11, descriptorIndex := 25, attributes := #[] }, { accessFlags := 9, nameIndex := 64, descriptorIndex := 65, attributes := #[] }, { accessFlags := 1, nameIndex := 165, descriptorIndex := 22, attributes := #[] }] 49 8 #[] #[{ accessFlags := 26, nameIndex := 5, descriptorIndex := 6, attributes := #[] }, { accessFlags := 18, nameIndex := 15, descriptorIndex := 16, attributes := #[] }])
  fields := #[{ name := "EMPTY", type := (.object "java/util/Optional"), accessFlags := 26, slot := 0, constantValue := 0 }, { name := "value", type := (.object "java/lang/Object"), accessFlags := 18, slot := 0, constantValue := 0 }]
  methods := #[k26m0, k26m1, k26m2]
  instanceTypes := #[(.object "java/lang/Object")]
  staticTypes := #[(.object "java/util/Optional")]
  resolved := Array.replicate 187 none
  statics := some 2 }

/-- the primitive byte -/
def k27 : Class := { plain "byte" none with kind := .primitive 'B', accessFlags := 0x411 }
/-- [B -/
def k28 : Class := { plain "[B" (some 0) with kind := .array 27 .byte, interfaces := #[17, 6], accessFlags := 1041 }

/-- the primitive int -/
def k29 : Class := { plain "int" none with kind := .primitive 'I', accessFlags := 0x411 }
/-- [I -/
def k30 : Class := { plain "[I" (some 0) with kind := .array 29 .int, interfaces := #[17, 6], accessFlags := 1041 }

/-- [Lcom/example/maksu/maksu/catalog/BillingPeriod; -/
def k31 : Class := { plain "[Lcom/example/maksu/maksu/catalog/BillingPeriod;" (some 0) with kind := .array 8 (.object "com/example/maksu/maksu/catalog/BillingPeriod"), interfaces := #[17, 6], accessFlags := 1041 }

/-- [Ljava/lang/Object; -/
def k32 : Class := { plain "[Ljava/lang/Object;" (some 0) with kind := .array 0 (.object "java/lang/Object"), interfaces := #[17, 6], accessFlags := 1041 }

def heap : Heap := #[{ cls := 8, slots := #[.ref 3, .ref 4, .ref 5, .ref 6, .ref 7, .ref 8, .ref 9, .ref 10, .ref 11, .ref 12, .ref 13, .ref 14, .ref 15, .ref 16, .ref 17, .ref 18, .null], vm := .statics 8 },
  { cls := 18, slots := #[.long 0, .int 0, .ref 19, .ref 20], vm := .statics 18 },
  { cls := 26, slots := #[.ref 21], vm := .statics 26 },
  { cls := 8, slots := #[.null, .int 0, .int 0], vm := .none },
  { cls := 8, slots := #[.null, .int 1, .int 0], vm := .none },
  { cls := 8, slots := #[.null, .int 2, .int 0], vm := .none },
  { cls := 8, slots := #[.null, .int 3, .int 0], vm := .none },
  { cls := 8, slots := #[.null, .int 4, .int 0], vm := .none },
  { cls := 8, slots := #[.null, .int 5, .int 0], vm := .none },
  { cls := 8, slots := #[.null, .int 6, .int 0], vm := .none },
  { cls := 8, slots := #[.null, .int 7, .int 0], vm := .none },
  { cls := 8, slots := #[.null, .int 8, .int 0], vm := .none },
  { cls := 8, slots := #[.null, .int 9, .int 0], vm := .none },
  { cls := 8, slots := #[.null, .int 10, .int 0], vm := .none },
  { cls := 8, slots := #[.null, .int 11, .int 0], vm := .none },
  { cls := 8, slots := #[.null, .int 12, .int 0], vm := .none },
  { cls := 8, slots := #[.null, .int 13, .int 0], vm := .none },
  { cls := 8, slots := #[.null, .int 14, .int 0], vm := .none },
  { cls := 8, slots := #[.null, .int 15, .int 0], vm := .none },
  { cls := 32, slots := #[], vm := .none },
  { cls := 32, slots := #[], vm := .none },
  { cls := 26, slots := #[.null], vm := .none }]
def classes : Array Class := #[k0, k1, k2, k3, k4, k5, k6, k7, k8, k9, k10, k11, k12, k13, k14, k15, k16, k17, k18, k19, k20, k21, k22, k23, k24, k25, k26, k27, k28, k29, k30, k31, k32]
def interned : List (Array UInt16 × Addr) := []
def slotsUsed : Nat := 71
def theMethod : MethodId := ⟨1, 3⟩
def args0 : Array Value := #[.int 5, .int 7, .int 1, .int 2, .int 3]
def aboutOver (below : List Frame) : State where
  vm := { classes := classes, interned := interned.toArray }
  heap := heap
  slotsUsed := slotsUsed
  threads := #[{ frames := .invoking theMethod args0 :: below }]
def below0 : List Frame := [.native { method := ⟨0, 0⟩, args := #[] }]
def about1 : State := aboutOver below0
def p0 : Program := .bare "" "" ""
def e0 : Env := launch0.env 0 0 0
theorem w_frames : about1.frames = Frame.invoking theMethod args0 :: below0 := rfl
set_option maxRecDepth 65536 in
theorem w_args : argsFit about1.vm theMethod args0 = true := by decide +kernel
set_option maxRecDepth 65536 in
theorem w_heap : heapFits about1 = true := by decide +kernel
set_option maxRecDepth 65536 in
theorem w_runnable : about1.curStatus? = some .runnable := by decide +kernel
set_option maxRecDepth 65536 in
theorem w_alone : about1.alone = true := by decide +kernel
set_option maxRecDepth 65536 in
theorem w_named : about1.methodNamed? x = some theMethod := by decide +kernel
set_option maxRecDepth 65536 in
theorem w_hears : about1.hears theMethod below0 = true := by decide +kernel
set_option maxRecDepth 65536 in
theorem w_ripe : about1.ripe theMethod args0 below0 = true := by decide +kernel
theorem w_running : about1.status = .running := rfl
set_option maxRecDepth 65536 in
theorem w_room : about1.hasRoom e0.platform room_1 = true :=
  launch0.hasRoom_least _ room_1 (by decide +kernel) (by decide +kernel) (by decide +kernel) (by decide +kernel) (by decide +kernel) (by decide +kernel)
theorem allAtoms_all (ts : List Jvm.Cond) (a : Array Jvm.Value) (st : Jvm.State) : (allAtoms ts).before a st = ts.all (fun c => c.before a st) := by
  induction ts with
  | nil => rfl
  | cons c t ih =>
    show (Jvm.Cond.and c (allAtoms t)).before a st = _
    rw [Jvm.Cond.before_and, ih, List.all_cons]
def words1 : List Jvm.Cond := Jvm.Cond.code x code maxLocals ret :: tables_1
/-- a 'code' word, met by the world's own term for the bytes: nothing is compared byte by byte -/
theorem code_word {y : MethodName} {bytes : ByteArray} {mx : Nat} {rt : Option FieldType} {a : Array Value} {s : State} {m : MethodId} {meth : Method} {c : Code} (h1 : s.methodNamed? y = some m) (h2 : s.vm.method? m = some meth) (h3 : meth.code = some c) (h4 : c.code = bytes)
    (h5 : (c.maxLocals == mx && c.exceptionTable.isEmpty && decide (c.maxStack ≤ mostOperands) && decide (meth.sig.returnType = rt) && !meth.locks && decide (parseMethodDescriptor y.desc = some meth.sig)) = true) : (Jvm.Cond.code y bytes mx rt).before a s = true := by
  simp only [Bool.and_eq_true, beq_iff_eq, Bool.not_eq_true', decide_eq_true_eq] at h5
  obtain ⟨⟨⟨⟨⟨g1, g2⟩, g3⟩, g4⟩, g5⟩, g6⟩ := h5
  simp [Cond.before, Cond.holds, Cond.value, h1, h2, h3, h4, g1, g2, g3, g4, g5, g6]
def isCode : Jvm.Cond → Bool
  | .code _ _ _ _ => true
  | _ => false
theorem all_split {L : List Jvm.Cond} {P : Jvm.Cond → Bool} (h1 : L.all (fun c => isCode c || P c) = true) (h2 : ∀ c ∈ L.filter isCode, P c = true) : L.all P = true := by
  refine List.all_eq_true.mpr fun c hc => ?_
  have h := List.all_eq_true.mp h1 c hc
  rcases Bool.eq_false_or_eq_true (isCode c) with hi | hi
  · exact h2 c (List.mem_filter.mpr ⟨hc, hi⟩)
  · simpa [hi] using h
set_option maxRecDepth 65536 in
theorem w_c0 : (Jvm.Cond.code x code maxLocals ret).before args0 about1 = true := code_word (m := ⟨1, 3⟩) (meth := k1m3) (c := k1c3) (by decide +kernel) rfl rfl rfl (by decide +kernel)
set_option maxRecDepth 65536 in
theorem w_c1 : (Jvm.Cond.code ({ cls := "com/example/maksu/maksu/catalog/PlanBillingPeriodPinLaw", name := "phase", desc := "(III)Lcom/example/maksu/maksu/catalog/Phase;" } : Jvm.MethodName) method_3_code (4 : Nat) (Option.some (Jvm.ClassFile.FieldType.object "com/example/maksu/maksu/catalog/Phase"))).before args0 about1 = true := code_word (m := ⟨1, 2⟩) (meth := k1m2) (c := k1c2) (by decide +kernel) rfl rfl rfl (by decide +kernel)
set_option maxRecDepth 65536 in
theorem w_c2 : (Jvm.Cond.code ({ cls := "com/example/maksu/maksu/catalog/PlanBillingPeriodPinLaw", name := "pick", desc := "(I)Lcom/example/maksu/maksu/catalog/BillingPeriod;" } : Jvm.MethodName) method_2_code (2 : Nat) (Option.some (Jvm.ClassFile.FieldType.object "com/example/maksu/maksu/catalog/BillingPeriod"))).before args0 about1 = true := code_word (m := ⟨1, 1⟩) (meth := k1m1) (c := k1c1) (by decide +kernel) rfl rfl rfl (by decide +kernel)
set_option maxRecDepth 65536 in
theorem w_c3 : (Jvm.Cond.code ({ cls := "com/example/maksu/maksu/catalog/Phase$Recurring", name := "<init>", desc := "(Lcom/example/maksu/maksu/catalog/BillingPeriod;Ljava/util/Map;)V" } : Jvm.MethodName) prog_6_method_1_code (3 : Nat) (Option.none : Option Jvm.ClassFile.FieldType)).before args0 about1 = true := code_word (m := ⟨3, 0⟩) (meth := k3m0) (c := k3c0) (by decide +kernel) rfl rfl rfl (by decide +kernel)
set_option maxRecDepth 65536 in
theorem w_c4 : (Jvm.Cond.code ({ cls := "java/lang/Record", name := "<init>", desc := "()V" } : Jvm.MethodName) jdk_30_method_1_code (1 : Nat) (Option.none : Option Jvm.ClassFile.FieldType)).before args0 about1 = true := code_word (m := ⟨2, 0⟩) (meth := k2m0) (c := k2c0) (by decide +kernel) rfl rfl rfl (by decide +kernel)
set_option maxRecDepth 65536 in
theorem w_c5 : (Jvm.Cond.code ({ cls := "java/lang/Object", name := "<init>", desc := "()V" } : Jvm.MethodName) object_method_1_code (1 : Nat) (Option.none : Option Jvm.ClassFile.FieldType)).before args0 about1 = true := code_word (m := ⟨0, 0⟩) (meth := k0m0) (c := k0c0) (by decide +kernel) rfl rfl rfl (by decide +kernel)
set_option maxRecDepth 65536 in
theorem w_c6 : (Jvm.Cond.code ({ cls := "com/example/maksu/maksu/catalog/Phase", name := "<init>", desc := "(Lcom/example/maksu/maksu/catalog/Phase$Type;Lcom/example/maksu/maksu/catalog/Phase$Duration;Ljava/util/Map;Lcom/example/maksu/maksu/catalog/Phase$Recurring;)V" } : Jvm.MethodName) prog_3_method_1_code (5 : Nat) (Option.none : Option Jvm.ClassFile.FieldType)).before args0 about1 = true := code_word (m := ⟨9, 0⟩) (meth := k9m0) (c := k9c0) (by decide +kernel) rfl rfl rfl (by decide +kernel)
set_option maxRecDepth 65536 in
theorem w_c7 : (Jvm.Cond.code ({ cls := "java/util/ArrayList", name := "<init>", desc := "()V" } : Jvm.MethodName) jdk_38_method_2_code (1 : Nat) (Option.none : Option Jvm.ClassFile.FieldType)).before args0 about1 = true := code_word (m := ⟨18, 0⟩) (meth := k18m0) (c := k18c0) (by decide +kernel) rfl rfl rfl (by decide +kernel)
set_option maxRecDepth 65536 in
theorem w_c8 : (Jvm.Cond.code ({ cls := "java/util/AbstractList", name := "<init>", desc := "()V" } : Jvm.MethodName) jdk_39_method_1_code (1 : Nat) (Option.none : Option Jvm.ClassFile.FieldType)).before args0 about1 = true := code_word (m := ⟨15, 0⟩) (meth := k15m0) (c := k15c0) (by decide +kernel) rfl rfl rfl (by decide +kernel)
set_option maxRecDepth 65536 in
theorem w_c9 : (Jvm.Cond.code ({ cls := "java/util/AbstractCollection", name := "<init>", desc := "()V" } : Jvm.MethodName) jdk_22_method_1_code (1 : Nat) (Option.none : Option Jvm.ClassFile.FieldType)).before args0 about1 = true := code_word (m := ⟨12, 0⟩) (meth := k12m0) (c := k12c0) (by decide +kernel) rfl rfl rfl (by decide +kernel)
set_option maxRecDepth 65536 in
theorem w_c10 : (Jvm.Cond.code ({ cls := "java/util/ArrayList", name := "add", desc := "(Ljava/lang/Object;)Z" } : Jvm.MethodName) jdk_38_method_25_code (2 : Nat) (Option.some Jvm.ClassFile.FieldType.boolean)).before args0 about1 = true := code_word (m := ⟨18, 7⟩) (meth := k18m7) (c := k18c7) (by decide +kernel) rfl rfl rfl (by decide +kernel)
set_option maxRecDepth 65536 in
theorem w_c11 : (Jvm.Cond.code ({ cls := "java/util/ArrayList", name := "add", desc := "(Ljava/lang/Object;[Ljava/lang/Object;I)V" } : Jvm.MethodName) jdk_38_method_24_code (4 : Nat) (Option.none : Option Jvm.ClassFile.FieldType)).before args0 about1 = true := code_word (m := ⟨18, 6⟩) (meth := k18m6) (c := k18c6) (by decide +kernel) rfl rfl rfl (by decide +kernel)
set_option maxRecDepth 65536 in
theorem w_c12 : (Jvm.Cond.code ({ cls := "java/util/ArrayList", name := "grow", desc := "()[Ljava/lang/Object;" } : Jvm.MethodName) jdk_38_method_7_code (1 : Nat) (Option.some (Jvm.ClassFile.FieldType.array (Jvm.ClassFile.FieldType.object "java/lang/Object")))).before args0 about1 = true := code_word (m := ⟨18, 2⟩) (meth := k18m2) (c := k18c2) (by decide +kernel) rfl rfl rfl (by decide +kernel)
set_option maxRecDepth 65536 in
theorem w_c13 : (Jvm.Cond.code ({ cls := "java/util/ArrayList", name := "grow", desc := "(I)[Ljava/lang/Object;" } : Jvm.MethodName) jdk_38_method_6_code (4 : Nat) (Option.some (Jvm.ClassFile.FieldType.array (Jvm.ClassFile.FieldType.object "java/lang/Object")))).before args0 about1 = true := code_word (m := ⟨18, 1⟩) (meth := k18m1) (c := k18c1) (by decide +kernel) rfl rfl rfl (by decide +kernel)
set_option maxRecDepth 65536 in
theorem w_c14 : (Jvm.Cond.code ({ cls := "java/lang/Math", name := "max", desc := "(II)I" } : Jvm.MethodName) jdk_29_method_65_code (2 : Nat) (Option.some Jvm.ClassFile.FieldType.int)).before args0 about1 = true := code_word (m := ⟨19, 1⟩) (meth := k19m1) (c := k19c1) (by decide +kernel) rfl rfl rfl (by decide +kernel)
set_option maxRecDepth 65536 in
theorem w_c15 : (Jvm.Cond.code ({ cls := "com/example/maksu/maksu/catalog/Plan", name := "<init>", desc := "(Ljava/lang/String;Ljava/lang/String;Ljava/util/List;)V" } : Jvm.MethodName) prog_8_method_1_code (4 : Nat) (Option.none : Option Jvm.ClassFile.FieldType)).before args0 about1 = true := code_word (m := ⟨20, 0⟩) (meth := k20m0) (c := k20c0) (by decide +kernel) rfl rfl rfl (by decide +kernel)
set_option maxRecDepth 65536 in
theorem w_c16 : (Jvm.Cond.code ({ cls := "com/example/maksu/maksu/catalog/Plan", name := "billingPeriod", desc := "()Ljava/util/Optional;" } : Jvm.MethodName) prog_8_method_2_code (2 : Nat) (Option.some (Jvm.ClassFile.FieldType.object "java/util/Optional"))).before args0 about1 = true := code_word (m := ⟨20, 1⟩) (meth := k20m1) (c := k20c1) (by decide +kernel) rfl rfl rfl (by decide +kernel)
set_option maxRecDepth 65536 in
theorem w_c17 : (Jvm.Cond.code ({ cls := "java/util/ArrayList", name := "size", desc := "()I" } : Jvm.MethodName) jdk_38_method_8_code (1 : Nat) (Option.some Jvm.ClassFile.FieldType.int)).before args0 about1 = true := code_word (m := ⟨18, 3⟩) (meth := k18m3) (c := k18c3) (by decide +kernel) rfl rfl rfl (by decide +kernel)
set_option maxRecDepth 65536 in
theorem w_c18 : (Jvm.Cond.code ({ cls := "java/util/ArrayList", name := "get", desc := "(I)Ljava/lang/Object;" } : Jvm.MethodName) jdk_38_method_20_code (2 : Nat) (Option.some (Jvm.ClassFile.FieldType.object "java/lang/Object"))).before args0 about1 = true := code_word (m := ⟨18, 5⟩) (meth := k18m5) (c := k18c5) (by decide +kernel) rfl rfl rfl (by decide +kernel)
set_option maxRecDepth 65536 in
theorem w_c19 : (Jvm.Cond.code ({ cls := "java/util/Objects", name := "checkIndex", desc := "(II)I" } : Jvm.MethodName) jdk_31_method_17_code (2 : Nat) (Option.some Jvm.ClassFile.FieldType.int)).before args0 about1 = true := code_word (m := ⟨24, 1⟩) (meth := k24m1) (c := k24c1) (by decide +kernel) rfl rfl rfl (by decide +kernel)
set_option maxRecDepth 65536 in
theorem w_c20 : (Jvm.Cond.code ({ cls := "jdk/internal/util/Preconditions", name := "checkIndex", desc := "(IILjava/util/function/BiFunction;)I" } : Jvm.MethodName) jdk_41_method_11_code (3 : Nat) (Option.some Jvm.ClassFile.FieldType.int)).before args0 about1 = true := code_word (m := ⟨25, 1⟩) (meth := k25m1) (c := k25c1) (by decide +kernel) rfl rfl rfl (by decide +kernel)
set_option maxRecDepth 65536 in
theorem w_c21 : (Jvm.Cond.code ({ cls := "java/util/ArrayList", name := "elementData", desc := "(I)Ljava/lang/Object;" } : Jvm.MethodName) jdk_38_method_18_code (2 : Nat) (Option.some (Jvm.ClassFile.FieldType.object "java/lang/Object"))).before args0 about1 = true := code_word (m := ⟨18, 4⟩) (meth := k18m4) (c := k18c4) (by decide +kernel) rfl rfl rfl (by decide +kernel)
set_option maxRecDepth 65536 in
theorem w_c22 : (Jvm.Cond.code ({ cls := "com/example/maksu/maksu/catalog/Phase", name := "recurring", desc := "()Lcom/example/maksu/maksu/catalog/Phase$Recurring;" } : Jvm.MethodName) prog_3_method_8_code (1 : Nat) (Option.some (Jvm.ClassFile.FieldType.object "com/example/maksu/maksu/catalog/Phase$Recurring"))).before args0 about1 = true := code_word (m := ⟨9, 1⟩) (meth := k9m1) (c := k9c1) (by decide +kernel) rfl rfl rfl (by decide +kernel)
set_option maxRecDepth 65536 in
theorem w_c23 : (Jvm.Cond.code ({ cls := "com/example/maksu/maksu/catalog/Phase$Recurring", name := "billingPeriod", desc := "()Lcom/example/maksu/maksu/catalog/BillingPeriod;" } : Jvm.MethodName) prog_6_method_5_code (1 : Nat) (Option.some (Jvm.ClassFile.FieldType.object "com/example/maksu/maksu/catalog/BillingPeriod"))).before args0 about1 = true := code_word (m := ⟨3, 1⟩) (meth := k3m1) (c := k3c1) (by decide +kernel) rfl rfl rfl (by decide +kernel)
set_option maxRecDepth 65536 in
theorem w_c24 : (Jvm.Cond.code ({ cls := "java/util/Optional", name := "ofNullable", desc := "(Ljava/lang/Object;)Ljava/util/Optional;" } : Jvm.MethodName) jdk_32_method_4_code (1 : Nat) (Option.some (Jvm.ClassFile.FieldType.object "java/util/Optional"))).before args0 about1 = true := code_word (m := ⟨26, 1⟩) (meth := k26m1) (c := k26c1) (by decide +kernel) rfl rfl rfl (by decide +kernel)
set_option maxRecDepth 65536 in
theorem w_c25 : (Jvm.Cond.code ({ cls := "java/util/Optional", name := "<init>", desc := "(Ljava/lang/Object;)V" } : Jvm.MethodName) jdk_32_method_2_code (2 : Nat) (Option.none : Option Jvm.ClassFile.FieldType)).before args0 about1 = true := code_word (m := ⟨26, 0⟩) (meth := k26m0) (c := k26c0) (by decide +kernel) rfl rfl rfl (by decide +kernel)
set_option maxRecDepth 65536 in
theorem w_c26 : (Jvm.Cond.code ({ cls := "java/util/Optional", name := "orElse", desc := "(Ljava/lang/Object;)Ljava/lang/Object;" } : Jvm.MethodName) jdk_32_method_15_code (2 : Nat) (Option.some (Jvm.ClassFile.FieldType.object "java/lang/Object"))).before args0 about1 = true := code_word (m := ⟨26, 2⟩) (meth := k26m2) (c := k26c2) (by decide +kernel) rfl rfl rfl (by decide +kernel)
def codes1 : List Jvm.Cond := [Jvm.Cond.code x code maxLocals ret, Jvm.Cond.code ({ cls := "com/example/maksu/maksu/catalog/PlanBillingPeriodPinLaw", name := "phase", desc := "(III)Lcom/example/maksu/maksu/catalog/Phase;" } : Jvm.MethodName) method_3_code (4 : Nat) (Option.some (Jvm.ClassFile.FieldType.object "com/example/maksu/maksu/catalog/Phase")), Jvm.Cond.code ({ cls := "com/example/maksu/maksu/catalog/PlanBillingPeriodPinLaw", name := "pick", desc := "(I)Lcom/example/maksu/maksu/catalog/BillingPeriod;" } : Jvm.MethodName) method_2_code (2 : Nat) (Option.some (Jvm.ClassFile.FieldType.object "com/example/maksu/maksu/catalog/BillingPeriod")), Jvm.Cond.code ({ cls := "com/example/maksu/maksu/catalog/Phase$Recurring", name := "<init>", desc := "(Lcom/example/maksu/maksu/catalog/BillingPeriod;Ljava/util/Map;)V" } : Jvm.MethodName) prog_6_method_1_code (3 : Nat) (Option.none : Option Jvm.ClassFile.FieldType), Jvm.Cond.code ({ cls := "java/lang/Record", name := "<init>", desc := "()V" } : Jvm.MethodName) jdk_30_method_1_code (1 : Nat) (Option.none : Option Jvm.ClassFile.FieldType), Jvm.Cond.code ({ cls := "java/lang/Object", name := "<init>", desc := "()V" } : Jvm.MethodName) object_method_1_code (1 : Nat) (Option.none : Option Jvm.ClassFile.FieldType), Jvm.Cond.code ({ cls := "com/example/maksu/maksu/catalog/Phase", name := "<init>", desc := "(Lcom/example/maksu/maksu/catalog/Phase$Type;Lcom/example/maksu/maksu/catalog/Phase$Duration;Ljava/util/Map;Lcom/example/maksu/maksu/catalog/Phase$Recurring;)V" } : Jvm.MethodName) prog_3_method_1_code (5 : Nat) (Option.none : Option Jvm.ClassFile.FieldType), Jvm.Cond.code ({ cls := "java/util/ArrayList", name := "<init>", desc := "()V" } : Jvm.MethodName) jdk_38_method_2_code (1 : Nat) (Option.none : Option Jvm.ClassFile.FieldType), Jvm.Cond.code ({ cls := "java/util/AbstractList", name := "<init>", desc := "()V" } : Jvm.MethodName) jdk_39_method_1_code (1 : Nat) (Option.none : Option Jvm.ClassFile.FieldType), Jvm.Cond.code ({ cls := "java/util/AbstractCollection", name := "<init>", desc := "()V" } : Jvm.MethodName) jdk_22_method_1_code (1 : Nat) (Option.none : Option Jvm.ClassFile.FieldType), Jvm.Cond.code ({ cls := "java/util/ArrayList", name := "add", desc := "(Ljava/lang/Object;)Z" } : Jvm.MethodName) jdk_38_method_25_code (2 : Nat) (Option.some Jvm.ClassFile.FieldType.boolean), Jvm.Cond.code ({ cls := "java/util/ArrayList", name := "add", desc := "(Ljava/lang/Object;[Ljava/lang/Object;I)V" } : Jvm.MethodName) jdk_38_method_24_code (4 : Nat) (Option.none : Option Jvm.ClassFile.FieldType), Jvm.Cond.code ({ cls := "java/util/ArrayList", name := "grow", desc := "()[Ljava/lang/Object;" } : Jvm.MethodName) jdk_38_method_7_code (1 : Nat) (Option.some (Jvm.ClassFile.FieldType.array (Jvm.ClassFile.FieldType.object "java/lang/Object"))), Jvm.Cond.code ({ cls := "java/util/ArrayList", name := "grow", desc := "(I)[Ljava/lang/Object;" } : Jvm.MethodName) jdk_38_method_6_code (4 : Nat) (Option.some (Jvm.ClassFile.FieldType.array (Jvm.ClassFile.FieldType.object "java/lang/Object"))), Jvm.Cond.code ({ cls := "java/lang/Math", name := "max", desc := "(II)I" } : Jvm.MethodName) jdk_29_method_65_code (2 : Nat) (Option.some Jvm.ClassFile.FieldType.int), Jvm.Cond.code ({ cls := "com/example/maksu/maksu/catalog/Plan", name := "<init>", desc := "(Ljava/lang/String;Ljava/lang/String;Ljava/util/List;)V" } : Jvm.MethodName) prog_8_method_1_code (4 : Nat) (Option.none : Option Jvm.ClassFile.FieldType), Jvm.Cond.code ({ cls := "com/example/maksu/maksu/catalog/Plan", name := "billingPeriod", desc := "()Ljava/util/Optional;" } : Jvm.MethodName) prog_8_method_2_code (2 : Nat) (Option.some (Jvm.ClassFile.FieldType.object "java/util/Optional")), Jvm.Cond.code ({ cls := "java/util/ArrayList", name := "size", desc := "()I" } : Jvm.MethodName) jdk_38_method_8_code (1 : Nat) (Option.some Jvm.ClassFile.FieldType.int), Jvm.Cond.code ({ cls := "java/util/ArrayList", name := "get", desc := "(I)Ljava/lang/Object;" } : Jvm.MethodName) jdk_38_method_20_code (2 : Nat) (Option.some (Jvm.ClassFile.FieldType.object "java/lang/Object")), Jvm.Cond.code ({ cls := "java/util/Objects", name := "checkIndex", desc := "(II)I" } : Jvm.MethodName) jdk_31_method_17_code (2 : Nat) (Option.some Jvm.ClassFile.FieldType.int), Jvm.Cond.code ({ cls := "jdk/internal/util/Preconditions", name := "checkIndex", desc := "(IILjava/util/function/BiFunction;)I" } : Jvm.MethodName) jdk_41_method_11_code (3 : Nat) (Option.some Jvm.ClassFile.FieldType.int), Jvm.Cond.code ({ cls := "java/util/ArrayList", name := "elementData", desc := "(I)Ljava/lang/Object;" } : Jvm.MethodName) jdk_38_method_18_code (2 : Nat) (Option.some (Jvm.ClassFile.FieldType.object "java/lang/Object")), Jvm.Cond.code ({ cls := "com/example/maksu/maksu/catalog/Phase", name := "recurring", desc := "()Lcom/example/maksu/maksu/catalog/Phase$Recurring;" } : Jvm.MethodName) prog_3_method_8_code (1 : Nat) (Option.some (Jvm.ClassFile.FieldType.object "com/example/maksu/maksu/catalog/Phase$Recurring")), Jvm.Cond.code ({ cls := "com/example/maksu/maksu/catalog/Phase$Recurring", name := "billingPeriod", desc := "()Lcom/example/maksu/maksu/catalog/BillingPeriod;" } : Jvm.MethodName) prog_6_method_5_code (1 : Nat) (Option.some (Jvm.ClassFile.FieldType.object "com/example/maksu/maksu/catalog/BillingPeriod")), Jvm.Cond.code ({ cls := "java/util/Optional", name := "ofNullable", desc := "(Ljava/lang/Object;)Ljava/util/Optional;" } : Jvm.MethodName) jdk_32_method_4_code (1 : Nat) (Option.some (Jvm.ClassFile.FieldType.object "java/util/Optional")), Jvm.Cond.code ({ cls := "java/util/Optional", name := "<init>", desc := "(Ljava/lang/Object;)V" } : Jvm.MethodName) jdk_32_method_2_code (2 : Nat) (Option.none : Option Jvm.ClassFile.FieldType), Jvm.Cond.code ({ cls := "java/util/Optional", name := "orElse", desc := "(Ljava/lang/Object;)Ljava/lang/Object;" } : Jvm.MethodName) jdk_32_method_15_code (2 : Nat) (Option.some (Jvm.ClassFile.FieldType.object "java/lang/Object"))]
set_option maxRecDepth 65536 in
theorem codes_eq : words1.filter isCode = codes1 := rfl
theorem w_codes : ∀ c ∈ words1.filter isCode, c.before args0 about1 = true := by
  rw [codes_eq]
  intro c hc
  simp only [codes1, List.mem_cons, List.not_mem_nil, or_false] at hc
  rcases hc with rfl | rfl | rfl | rfl | rfl | rfl | rfl | rfl | rfl | rfl | rfl | rfl | rfl | rfl | rfl | rfl | rfl | rfl | rfl | rfl | rfl | rfl | rfl | rfl | rfl | rfl | rfl
  · exact w_c0
  · exact w_c1
  · exact w_c2
  · exact w_c3
  · exact w_c4
  · exact w_c5
  · exact w_c6
  · exact w_c7
  · exact w_c8
  · exact w_c9
  · exact w_c10
  · exact w_c11
  · exact w_c12
  · exact w_c13
  · exact w_c14
  · exact w_c15
  · exact w_c16
  · exact w_c17
  · exact w_c18
  · exact w_c19
  · exact w_c20
  · exact w_c21
  · exact w_c22
  · exact w_c23
  · exact w_c24
  · exact w_c25
  · exact w_c26
set_option maxRecDepth 65536 in
theorem w_t1 : (words1.take 24).all (fun c => isCode c || c.before args0 about1) = true := by decide +kernel
set_option maxRecDepth 65536 in
theorem w_t2 : ((words1.drop 24).take 24).all (fun c => isCode c || c.before args0 about1) = true := by decide +kernel
set_option maxRecDepth 65536 in
theorem w_t3 : (((words1.drop 24).drop 24).take 24).all (fun c => isCode c || c.before args0 about1) = true := by decide +kernel
set_option maxRecDepth 65536 in
theorem w_t4 : ((((words1.drop 24).drop 24).drop 24).take 24).all (fun c => isCode c || c.before args0 about1) = true := by decide +kernel
set_option maxRecDepth 65536 in
theorem w_t5 : (((((words1.drop 24).drop 24).drop 24).drop 24).take 24).all (fun c => isCode c || c.before args0 about1) = true := by decide +kernel
set_option maxRecDepth 65536 in
theorem w_t6 : ((((((words1.drop 24).drop 24).drop 24).drop 24).drop 24).take 24).all (fun c => isCode c || c.before args0 about1) = true := by decide +kernel
set_option maxRecDepth 65536 in
theorem w_t7 : (((((((words1.drop 24).drop 24).drop 24).drop 24).drop 24).drop 24).take 24).all (fun c => isCode c || c.before args0 about1) = true := by decide +kernel
set_option maxRecDepth 65536 in
theorem w_t8 : ((((((((words1.drop 24).drop 24).drop 24).drop 24).drop 24).drop 24).drop 24).take 24).all (fun c => isCode c || c.before args0 about1) = true := by decide +kernel
set_option maxRecDepth 65536 in
theorem w_t9 : (((((((((words1.drop 24).drop 24).drop 24).drop 24).drop 24).drop 24).drop 24).drop 24).take 24).all (fun c => isCode c || c.before args0 about1) = true := by decide +kernel
set_option maxRecDepth 65536 in
theorem w_t10 : (((((((((words1.drop 24).drop 24).drop 24).drop 24).drop 24).drop 24).drop 24).drop 24).drop 24).all (fun c => isCode c || c.before args0 about1) = true := by decide +kernel
theorem w_tables : (allAtoms (Jvm.Cond.code x code maxLocals ret :: tables_1)).before args0 about1 = true := by
  rw [allAtoms_all]
  show words1.all (fun c => c.before args0 about1) = true
  refine all_split ?_ w_codes
  rw [← List.take_append_drop 24 words1, List.all_append, w_t1, ← List.take_append_drop 24 (words1.drop 24), List.all_append, w_t2, ← List.take_append_drop 24 ((words1.drop 24).drop 24), List.all_append, w_t3, ← List.take_append_drop 24 (((words1.drop 24).drop 24).drop 24), List.all_append, w_t4, ← List.take_append_drop 24 ((((words1.drop 24).drop 24).drop 24).drop 24), List.all_append, w_t5, ← List.take_append_drop 24 (((((words1.drop 24).drop 24).drop 24).drop 24).drop 24), List.all_append, w_t6, ← List.take_append_drop 24 ((((((words1.drop 24).drop 24).drop 24).drop 24).drop 24).drop 24), List.all_append, w_t7, ← List.take_append_drop 24 (((((((words1.drop 24).drop 24).drop 24).drop 24).drop 24).drop 24).drop 24), List.all_append, w_t8, ← List.take_append_drop 24 ((((((((words1.drop 24).drop 24).drop 24).drop 24).drop 24).drop 24).drop 24).drop 24), List.all_append, w_t9, w_t10]
  rfl
set_option maxRecDepth 65536 in
theorem w_rest : rest_1_c.before args0 about1 = true := by decide +kernel
set_option maxRecDepth 65536 in
theorem w_case : (Jvm.Cond.and given_1 narrow_1).before args0 about1 = true := by decide +kernel
theorem w_applies : (headSpec (Jvm.Cond.code x code maxLocals ret :: tables_1) room_1).applies x e0.platform about1 = true :=
  (Spec.applies_iff w_frames).mpr ⟨w_running, w_runnable, w_alone, w_named, w_hears, w_ripe, w_room, w_tables⟩
theorem atStart : AtStart classFile x code maxLocals ret World_1 tables_1 room_1 Calls_1 rest_1 Pre_1 launch0 p0 e0 about1 theMethod args0 below0 :=
  ⟨lists_1, trivial, launch0.admits_env _ _ _, launch0.least_env, fairChoices_fair.cas, fairChoices_fair.clock, w_frames, w_args, w_heap, w_applies, trivial, w_rest, w_case⟩
end start1
theorem witness_1 : WitnessClaimed_1 := ⟨start1.p0, start1.e0, start1.about1, start1.theMethod, start1.args0, start1.below0, start1.atStart⟩
end Jvm.Pilot.@@N@@
