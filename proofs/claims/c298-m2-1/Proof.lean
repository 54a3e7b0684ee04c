import JvmDerived
import JvmDerived.Pilot.@@N@@Statement
import JvmDerived.Pilot.@@N@@Code
set_option linter.unusedVariables false
set_option linter.unusedSimpArgs false
namespace Jvm.RoadKit
open Sem ClassFile Op Lib Jvm.Stand Jvm.Free Jvm.LawKit
section New
variable {p : Program} {l : Launch} {e : Env} {R : Room} {s : State} {m : MethodId} {args : Array Value} {below : List Frame} {meth : Method} {c : Code} {T : State} {locs : List Loc} {cells slots : Nat}
theorem retI (X : Stand p l e R s m args below meth c T locs cells slots) (hx : p.tables.exec = Jvm.exec) {pc : Nat} {Ls : Array Slot} {z : Int32} {rest : List Value} (hret : meth.sig.returnType = some .int) (hd : decode c.code pc = .ok (.ireturn, 1)) {fs : List Frame}
    (hl : ∀ (f : JFrame) (acts : List Action), f.method = m → f.locked = none → f.entered = [] → (doReturn e (T.setTop f) acts (some (.int z))).1 = T.setFrames fs) : Steps p.tables e below (T.setTop (mkF m pc Ls (.int z :: rest))) (T.setFrames fs) := by
  have hm' : T.vm.method? m = some meth := X.method'
  have hn : narrow .int (.int z) = .int z := rfl
  show Steps p.tables e below (T.setTop { method := m, pc := pc, locals := Ls, stack := _ :: rest, locked := none }) _
  jvm_step X.here [X.here.top, hx, hd, hm', hret, hn]
  first | (intro acts; rw [hl _ acts rfl rfl rfl]) | rw [hl _ _ rfl rfl rfl]
  exact Steps.refl _
end New
end Jvm.RoadKit
namespace Jvm.Pilot.@@N@@
open Jvm Jvm.ClassFile Sem Op Lib Jvm.Free Jvm.Stand Jvm.LawKit Jvm.RoadKit Bundle Jvm.Pilot.@@N@@.Jvm.D
theorem own_sel {Z s : State} {a0 args : Array Value} {y : MethodName} {n : Nat} (hZ : Z.Warmed39 s.vm) (wi : (Jvm.Cond.instantiable y.cls n).before a0 Z = true) (wp : (Jvm.Cond.privateMethod y).before a0 Z = true) (wm : (Jvm.Cond.instanceMethod y).before a0 Z = true) (hy : y.cls ≠ "java/lang/invoke/MethodHandle" ∧ y.cls ≠ "java/lang/invoke/VarHandle") : (Jvm.Cond.selects y.cls y y).before args s = true := by
  obtain ⟨c, k, h1, h2, -, h4, -⟩ := Cond.instantiable_spec (mvT (args := args) hZ wi)
  exact Stand.selects_self_of_private h1 h2 (Bool.or_eq_false_iff.mp h4).1 (Cond.privateMethod_at (mvP hZ wp (args := args))) (mvT hZ wm) hy
def own_lk (i j : Nat) (p nw : Int32) (vs : List Value) : List Value := (((vs.set i (.int nw)).set (i + 1) (.int (0 : Int32))).set j (.int p)).set 0 (.int p)
def own_un (i j : Nat) (a b : Int32) (vs : List Value) : List Value := (vs.set i (.int b)).set j (.int a)
theorem ef_5 (m : MethodId) (x0 : Addr) (x1 : Int32) : entryFrame m #[(.ref x0), (.int x1)] 3 = mkF m 0 #[.val (.ref x0), .val (.int x1), .unset] [] := by first | (simp [entryFrame, mkF, argsToLocals, Value.category]; done) | rfl
theorem pn_UseOrder : plainName "com/example/terrace/terrace/core/UseOrder" = true := by first | (simp [plainName, overriddenIn]; done) | decide +kernel
theorem d5_0 : decode prog_46_method_12_code 0 = .ok (.aload_n 0, 1) := by decide +kernel
theorem d5_1 : decode prog_46_method_12_code 1 = .ok (.getfield 13, 3) := by decide +kernel
theorem d5_4 : decode prog_46_method_12_code 4 = .ok (.iconst 0, 1) := by decide +kernel
theorem d5_5 : decode prog_46_method_12_code 5 = .ok (.iaload, 1) := by decide +kernel
theorem d5_6 : decode prog_46_method_12_code 6 = .ok (.istore_n 2, 1) := by decide +kernel
theorem d5_7 : decode prog_46_method_12_code 7 = .ok (.aload_n 0, 1) := by decide +kernel
theorem d5_8 : decode prog_46_method_12_code 8 = .ok (.getfield 13, 3) := by decide +kernel
theorem d5_11 : decode prog_46_method_12_code 11 = .ok (.iload_n 1, 1) := by decide +kernel
theorem d5_12 : decode prog_46_method_12_code 12 = .ok (.iconst 4, 1) := by decide +kernel
theorem d5_13 : decode prog_46_method_12_code 13 = .ok (.imul, 1) := by decide +kernel
theorem d5_14 : decode prog_46_method_12_code 14 = .ok (.iconst 0, 1) := by decide +kernel
theorem d5_15 : decode prog_46_method_12_code 15 = .ok (.iadd, 1) := by decide +kernel
theorem d5_16 : decode prog_46_method_12_code 16 = .ok (.iload_n 2, 1) := by decide +kernel
theorem d5_17 : decode prog_46_method_12_code 17 = .ok (.iastore, 1) := by decide +kernel
theorem d5_18 : decode prog_46_method_12_code 18 = .ok (.aload_n 0, 1) := by decide +kernel
theorem d5_19 : decode prog_46_method_12_code 19 = .ok (.getfield 13, 3) := by decide +kernel
theorem d5_22 : decode prog_46_method_12_code 22 = .ok (.iload_n 1, 1) := by decide +kernel
theorem d5_23 : decode prog_46_method_12_code 23 = .ok (.iconst 4, 1) := by decide +kernel
theorem d5_24 : decode prog_46_method_12_code 24 = .ok (.imul, 1) := by decide +kernel
theorem d5_25 : decode prog_46_method_12_code 25 = .ok (.iconst 1, 1) := by decide +kernel
theorem d5_26 : decode prog_46_method_12_code 26 = .ok (.iadd, 1) := by decide +kernel
theorem d5_27 : decode prog_46_method_12_code 27 = .ok (.iconst 0, 1) := by decide +kernel
theorem d5_28 : decode prog_46_method_12_code 28 = .ok (.iastore, 1) := by decide +kernel
theorem d5_29 : decode prog_46_method_12_code 29 = .ok (.aload_n 0, 1) := by decide +kernel
theorem d5_30 : decode prog_46_method_12_code 30 = .ok (.getfield 13, 3) := by decide +kernel
theorem d5_33 : decode prog_46_method_12_code 33 = .ok (.iload_n 2, 1) := by decide +kernel
theorem d5_34 : decode prog_46_method_12_code 34 = .ok (.iconst 4, 1) := by decide +kernel
theorem d5_35 : decode prog_46_method_12_code 35 = .ok (.imul, 1) := by decide +kernel
theorem d5_36 : decode prog_46_method_12_code 36 = .ok (.iconst 1, 1) := by decide +kernel
theorem d5_37 : decode prog_46_method_12_code 37 = .ok (.iadd, 1) := by decide +kernel
theorem d5_38 : decode prog_46_method_12_code 38 = .ok (.iload_n 1, 1) := by decide +kernel
theorem d5_39 : decode prog_46_method_12_code 39 = .ok (.iastore, 1) := by decide +kernel
theorem d5_40 : decode prog_46_method_12_code 40 = .ok (.aload_n 0, 1) := by decide +kernel
theorem d5_41 : decode prog_46_method_12_code 41 = .ok (.getfield 13, 3) := by decide +kernel
theorem d5_44 : decode prog_46_method_12_code 44 = .ok (.iconst 0, 1) := by decide +kernel
theorem d5_45 : decode prog_46_method_12_code 45 = .ok (.iload_n 1, 1) := by decide +kernel
theorem d5_46 : decode prog_46_method_12_code 46 = .ok (.iastore, 1) := by decide +kernel
theorem d5_47 : decode prog_46_method_12_code 47 = .ok (.return_, 1) := by decide +kernel
def Q_rmLk (Z : State) (u : Nat) (li : Nat) (kl : ClassId) (vs : List Value) (pz : Int32) (nw : Int32) (i : Nat) (j : Nat) (h0 : Heap) (n0 : Nat) (v : Option Value) (h : Heap) (L : List Loc) : Prop := v = none ∧ Fr n0 L ∧ Keep h0 h [li] ∧ Arv Z h li kl .int (64 : Int32) (own_lk i j pz nw vs) (.int (0 : Int32))
set_option maxRecDepth 65536 in
set_option maxHeartbeats 40000000 in
theorem rmLk (l : Launch) (Z : State) (a0 : Array Value) (hw : ∀ d ∈ tables_1, d.before a0 Z = true) (ws : List Jvm.Cond) (u : Nat) (li : Nat) (kl : ClassId) (vs : List Value) (pz : Int32) (nw : Int32) (i : Nat) (j : Nat) (h0 : Heap) (n0 : Nat) (Z0 : n0 ≤ h0.size) (Fl : Fld Z h0 u "com/example/terrace/terrace/core/UseOrder" "links" "[I" (.ref li)) (Vl : Arv Z h0 li kl .int (64 : Int32) vs (.int (0 : Int32))) (hlen : vs.length = 64) (h0v : vs.getD 0 (.int (0 : Int32)) = .int nw) (gl : n0 ≤ li) (nul : u ≠ li) (ib_p0 : ¬ ((pz * (4 : Int32)) + (0 : Int32)) < 0 ∧ ((pz * (4 : Int32)) + (0 : Int32)) < (64 : Int32)) (ip_p0 : ((pz * (4 : Int32)) + (0 : Int32)).toNatClampNeg = i) (ib_p1 : ¬ ((pz * (4 : Int32)) + (1 : Int32)) < 0 ∧ ((pz * (4 : Int32)) + (1 : Int32)) < (64 : Int32)) (ip_p1 : ((pz * (4 : Int32)) + (1 : Int32)).toNatClampNeg = (i + 1)) (ib_n1 : ¬ ((nw * (4 : Int32)) + (1 : Int32)) < 0 ∧ ((nw * (4 : Int32)) + (1 : Int32)) < (64 : Int32)) (ip_n1 : ((nw * (4 : Int32)) + (1 : Int32)).toNatClampNeg = j) (bi : i + 1 < 64) (bj : j < 64) :
    MetFree l (⟨"com/example/terrace/terrace/core/UseOrder", "linkAsNewest", "(I)V"⟩ : MethodName) (head1 (Jvm.Cond.code (⟨"com/example/terrace/terrace/core/UseOrder", "linkAsNewest", "(I)V"⟩ : MethodName) prog_46_method_12_code 3 none :: ws) ({ frames := 0, cells := 0, slots := 0, locals := 0 } : Room)) (fun a U => a = #[(.ref u), (.int pz)] ∧ Z.Warmed39 U.vm ∧ U.heap = h0) (fun _ _ _ _ _ => True) (fun _ U o U' => ∃ v L, o = .returned v ∧ Q_rmLk Z u li kl vs pz nw i j h0 n0 v U'.heap L ∧ FrameEnd U o U' L ({ frames := 0, cells := 0, slots := 0, locals := 0 } : Room).cells ({ frames := 0, cells := 0, slots := 0, locals := 0 } : Room).slots) := by
  have hw_25 := hw _ (List.mem_of_getElem? (i := 25) rfl)
  refine MetFree.of_bodySF (plainFor_of_name pn_UseOrder) hisR ?_
  intro p e s m args below meth c s₁ Bd hml0 hP hK
  obtain ⟨rfl, hZ, hh⟩ := hP
  have hx := Bd.exec
  have hby := Bd.bytes
  have hml : c.maxLocals = 3 := hml0
  have hown : s.vm.findClass "com/example/terrace/terrace/core/UseOrder" = some m.cls := findClass_of_methodNamed Bd.named
  have hnm := (name_of_methodNamed Bd.named Bd.method).1
  have X0 : Stand p l e ({ frames := 0, cells := 0, slots := 0, locals := 0 } : Room) s m #[(.ref u), (.int pz)] below meth c s₁ [] 0 0 := Stand.of_body Bd
  have e0 : s₁.heap = h0 := by rw [← hh, Bd.state]; rfl
  have N0 := Fr.nil n0
  have pre0 : ∀ t_, Steps p.tables e below (s₁.setTop (mkF m 0 #[.val (.ref u), .val (.int pz), .unset] [])) t_ → Steps p.tables e below (s₁.setTop (entryFrame m #[(.ref u), (.int pz)] 3)) t_ := fun t_ k_ => castTop (ef_5 m u pz) k_
  have K0 : Keep h0 h0 [li] := Keep.refl h0 _
  obtain ⟨T1, X1, e1, st1⟩ := getF X0 hx hZ hown (host := "") (Or.inl hw_25) Via.refl e0 Fl (g := (mkF m 1 #[.val (.ref u), .val (.int pz), .unset] [(.ref u)])) rfl rfl (hb hby d5_1)
  obtain ⟨cl2, Ar2, q2, S2, M2, H2, G2⟩ := Vl
  have f3 : Arv Z h0 li kl .int (64 : Int32) vs (.int (0 : Int32)) := ⟨cl2, Ar2, q2, S2, M2, H2, G2⟩
  have hin2 : ¬ ((0 : Int32) < 0 ∨ cl2.slots.size ≤ ((0 : Int32)).toNatClampNeg) := inb_of S2 ⟨by decide, by decide⟩
  have hat2 : cl2.slots[((0 : Int32)).toNatClampNeg]? = some (.int nw) := Has.at H2 hin2 h0v
  obtain ⟨T4, X4, e4, st4⟩ := getF X1 hx hZ hown (host := "") (Or.inl hw_25) Via.refl e1 Fl (g := (mkF m 8 #[.val (.ref u), .val (.int pz), .val (.int nw)] [(.ref u)])) rfl rfl (hb hby d5_8)
  obtain ⟨cl5, Ar5, q5, S5, M5, H5, G5⟩ := f3
  have hin5 : ¬ (((pz * (4 : Int32)) + (0 : Int32)) < 0 ∨ cl5.slots.size ≤ (((pz * (4 : Int32)) + (0 : Int32))).toNatClampNeg) := inb_of S5 ib_p0
  obtain ⟨T6, h6, X6, e6, W6, st6⟩ := stI X4 hx hZ e4 Ar5 (j := ((pz * (4 : Int32)) + (0 : Int32))) hin5 (g := (mkF m 17 #[.val (.ref u), .val (.int pz), .val (.int nw)] [(.int nw), (.int ((pz * (4 : Int32)) + (0 : Int32))), (.ref li)])) rfl rfl (hb hby d5_17)
  have V6 : Arv Z h6 li kl .int (64 : Int32) (vs.set i (.int nw)) (.int (0 : Int32)) := Arv.set Ar5 q5 S5 M5 H5 G5 rfl W6 i ip_p0 (by have q_ : vs.length = 64 := (by simp [hlen, own_un]); omega)
  have N6 := Fr.snoc X6 N0 (show n0 ≤ li by omega)
  have sz6 : h0.size ≤ h6.size := Nat.le_of_eq W6.size.symm
  have Z6 : n0 ≤ h6.size := Nat.le_trans Z0 sz6
  have K6 : Keep h0 h6 [li] := K0.wr W6 (Or.inl (by simp))
  have f7 := (Fl.other W6 (Or.inl (show u ≠ li by omega)))
  obtain ⟨T8, X8, e8, st8⟩ := getF X6 hx hZ hown (host := "") (Or.inl hw_25) Via.refl e6 f7 (g := (mkF m 19 #[.val (.ref u), .val (.int pz), .val (.int nw)] [(.ref u)])) rfl rfl (hb hby d5_19)
  obtain ⟨cl9, Ar9, q9, S9, M9, H9, G9⟩ := V6
  have hin9 : ¬ (((pz * (4 : Int32)) + (1 : Int32)) < 0 ∨ cl9.slots.size ≤ (((pz * (4 : Int32)) + (1 : Int32))).toNatClampNeg) := inb_of S9 ib_p1
  obtain ⟨T10, h10, X10, e10, W10, st10⟩ := stI X8 hx hZ e8 Ar9 (j := ((pz * (4 : Int32)) + (1 : Int32))) hin9 (g := (mkF m 28 #[.val (.ref u), .val (.int pz), .val (.int nw)] [(.int (0 : Int32)), (.int ((pz * (4 : Int32)) + (1 : Int32))), (.ref li)])) rfl rfl (hb hby d5_28)
  have V10 : Arv Z h10 li kl .int (64 : Int32) ((vs.set i (.int nw)).set (i + 1) (.int (0 : Int32))) (.int (0 : Int32)) := Arv.set Ar9 q9 S9 M9 H9 G9 rfl W10 (i + 1) ip_p1 (by have q_ : (vs.set i (.int nw)).length = 64 := (by simp [hlen, own_un]); omega)
  have N10 := Fr.snoc X10 N6 (show n0 ≤ li by omega)
  have sz10 : h6.size ≤ h10.size := Nat.le_of_eq W10.size.symm
  have Z10 : n0 ≤ h10.size := Nat.le_trans Z6 sz10
  have K10 : Keep h0 h10 [li] := K6.wr W10 (Or.inl (by simp))
  have f11 := (f7.other W10 (Or.inl (show u ≠ li by omega)))
  obtain ⟨T12, X12, e12, st12⟩ := getF X10 hx hZ hown (host := "") (Or.inl hw_25) Via.refl e10 f11 (g := (mkF m 30 #[.val (.ref u), .val (.int pz), .val (.int nw)] [(.ref u)])) rfl rfl (hb hby d5_30)
  obtain ⟨cl13, Ar13, q13, S13, M13, H13, G13⟩ := V10
  have hin13 : ¬ (((nw * (4 : Int32)) + (1 : Int32)) < 0 ∨ cl13.slots.size ≤ (((nw * (4 : Int32)) + (1 : Int32))).toNatClampNeg) := inb_of S13 ib_n1
  obtain ⟨T14, h14, X14, e14, W14, st14⟩ := stI X12 hx hZ e12 Ar13 (j := ((nw * (4 : Int32)) + (1 : Int32))) hin13 (g := (mkF m 39 #[.val (.ref u), .val (.int pz), .val (.int nw)] [(.int pz), (.int ((nw * (4 : Int32)) + (1 : Int32))), (.ref li)])) rfl rfl (hb hby d5_39)
  have V14 : Arv Z h14 li kl .int (64 : Int32) (((vs.set i (.int nw)).set (i + 1) (.int (0 : Int32))).set j (.int pz)) (.int (0 : Int32)) := Arv.set Ar13 q13 S13 M13 H13 G13 rfl W14 j ip_n1 (by have q_ : ((vs.set i (.int nw)).set (i + 1) (.int (0 : Int32))).length = 64 := (by simp [hlen, own_un]); omega)
  have N14 := Fr.snoc X14 N10 (show n0 ≤ li by omega)
  have sz14 : h10.size ≤ h14.size := Nat.le_of_eq W14.size.symm
  have Z14 : n0 ≤ h14.size := Nat.le_trans Z10 sz14
  have K14 : Keep h0 h14 [li] := K10.wr W14 (Or.inl (by simp))
  have f15 := (f11.other W14 (Or.inl (show u ≠ li by omega)))
  obtain ⟨T16, X16, e16, st16⟩ := getF X14 hx hZ hown (host := "") (Or.inl hw_25) Via.refl e14 f15 (g := (mkF m 41 #[.val (.ref u), .val (.int pz), .val (.int nw)] [(.ref u)])) rfl rfl (hb hby d5_41)
  obtain ⟨cl17, Ar17, q17, S17, M17, H17, G17⟩ := V14
  have hin17 : ¬ ((0 : Int32) < 0 ∨ cl17.slots.size ≤ ((0 : Int32)).toNatClampNeg) := inb_of S17 ⟨by decide, by decide⟩
  obtain ⟨T18, h18, X18, e18, W18, st18⟩ := stI X16 hx hZ e16 Ar17 (j := (0 : Int32)) hin17 (g := (mkF m 46 #[.val (.ref u), .val (.int pz), .val (.int nw)] [(.int pz), (.int (0 : Int32)), (.ref li)])) rfl rfl (hb hby d5_46)
  have V18 : Arv Z h18 li kl .int (64 : Int32) ((((vs.set i (.int nw)).set (i + 1) (.int (0 : Int32))).set j (.int pz)).set 0 (.int pz)) (.int (0 : Int32)) := Arv.set Ar17 q17 S17 M17 H17 G17 rfl W18 0 rfl (by have q_ : (((vs.set i (.int nw)).set (i + 1) (.int (0 : Int32))).set j (.int pz)).length = 64 := (by simp [hlen, own_un]); omega)
  have N18 := Fr.snoc X18 N14 (show n0 ≤ li by omega)
  have sz18 : h14.size ≤ h18.size := Nat.le_of_eq W18.size.symm
  have Z18 : n0 ≤ h18.size := Nat.le_trans Z14 sz18
  have K18 : Keep h0 h18 [li] := K14.wr W18 (Or.inl (by simp))
  have go19 : ∀ t_, Steps p.tables e below (T18.setTop (mkF m 47 #[.val (.ref u), .val (.int pz), .val (.int nw)] [])) t_ → Steps p.tables e below (s₁.setTop (entryFrame m #[(.ref u), (.int pz)] 3)) t_ := by
    intro t_ k_
    refine pre0 t_ ?_
    show Steps p.tables e below (s₁.setTop (mkF m 0 #[.val (.ref u), .val (.int pz), .unset] [])) _
    refine XS.aloadN X0.here hx rfl (hb hby d5_0) rfl rfl ?_
    show Steps p.tables e below (s₁.setTop (mkF m 1 #[.val (.ref u), .val (.int pz), .unset] [(.ref u)])) _
    refine st1 _ ?_
    show Steps p.tables e below (T1.setTop (mkF m 4 #[.val (.ref u), .val (.int pz), .unset] [(.ref li)])) _
    refine XS.iconst X1.here hx rfl (hb hby d5_4) ?_
    show Steps p.tables e below (T1.setTop (mkF m 5 #[.val (.ref u), .val (.int pz), .unset] [(.int (0 : Int32)), (.ref li)])) _
    refine X1.iaload hx (j := (0 : Int32)) (v := (.int nw)) (by rw [e1]; exact Ar2.1) (State.isArrayOf_alike hZ.alike Ar2.2.1) Ar2.2.2 hin2 hat2 (g := (mkF m 5 #[.val (.ref u), .val (.int pz), .unset] [(.int (0 : Int32)), (.ref li)])) rfl rfl (hb hby d5_5) _ ?_
    show Steps p.tables e below (T1.setTop (mkF m 6 #[.val (.ref u), .val (.int pz), .unset] [(.int nw)])) _
    refine XS.istoreN X1.here hx rfl (hb hby d5_6) rfl (l' := #[.val (.ref u), .val (.int pz), .val (.int nw)]) rfl ?_
    show Steps p.tables e below (T1.setTop (mkF m 7 #[.val (.ref u), .val (.int pz), .val (.int nw)] [])) _
    refine XS.aloadN X1.here hx rfl (hb hby d5_7) rfl rfl ?_
    show Steps p.tables e below (T1.setTop (mkF m 8 #[.val (.ref u), .val (.int pz), .val (.int nw)] [(.ref u)])) _
    refine st4 _ ?_
    show Steps p.tables e below (T4.setTop (mkF m 11 #[.val (.ref u), .val (.int pz), .val (.int nw)] [(.ref li)])) _
    refine XS.iloadN X4.here hx rfl (hb hby d5_11) rfl ?_
    show Steps p.tables e below (T4.setTop (mkF m 12 #[.val (.ref u), .val (.int pz), .val (.int nw)] [(.int pz), (.ref li)])) _
    refine XS.iconst X4.here hx rfl (hb hby d5_12) ?_
    show Steps p.tables e below (T4.setTop (mkF m 13 #[.val (.ref u), .val (.int pz), .val (.int nw)] [(.int (4 : Int32)), (.int pz), (.ref li)])) _
    refine XS.imul X4.here hx rfl (hb hby d5_13) rfl ?_
    show Steps p.tables e below (T4.setTop (mkF m 14 #[.val (.ref u), .val (.int pz), .val (.int nw)] [(.int (pz * (4 : Int32))), (.ref li)])) _
    refine XS.iconst X4.here hx rfl (hb hby d5_14) ?_
    show Steps p.tables e below (T4.setTop (mkF m 15 #[.val (.ref u), .val (.int pz), .val (.int nw)] [(.int (0 : Int32)), (.int (pz * (4 : Int32))), (.ref li)])) _
    refine XS.iadd X4.here hx rfl (hb hby d5_15) rfl ?_
    show Steps p.tables e below (T4.setTop (mkF m 16 #[.val (.ref u), .val (.int pz), .val (.int nw)] [(.int ((pz * (4 : Int32)) + (0 : Int32))), (.ref li)])) _
    refine XS.iloadN X4.here hx rfl (hb hby d5_16) rfl ?_
    show Steps p.tables e below (T4.setTop (mkF m 17 #[.val (.ref u), .val (.int pz), .val (.int nw)] [(.int nw), (.int ((pz * (4 : Int32)) + (0 : Int32))), (.ref li)])) _
    refine st6 _ ?_
    show Steps p.tables e below (T6.setTop (mkF m 18 #[.val (.ref u), .val (.int pz), .val (.int nw)] [])) _
    refine XS.aloadN X6.here hx rfl (hb hby d5_18) rfl rfl ?_
    show Steps p.tables e below (T6.setTop (mkF m 19 #[.val (.ref u), .val (.int pz), .val (.int nw)] [(.ref u)])) _
    refine st8 _ ?_
    show Steps p.tables e below (T8.setTop (mkF m 22 #[.val (.ref u), .val (.int pz), .val (.int nw)] [(.ref li)])) _
    refine XS.iloadN X8.here hx rfl (hb hby d5_22) rfl ?_
    show Steps p.tables e below (T8.setTop (mkF m 23 #[.val (.ref u), .val (.int pz), .val (.int nw)] [(.int pz), (.ref li)])) _
    refine XS.iconst X8.here hx rfl (hb hby d5_23) ?_
    show Steps p.tables e below (T8.setTop (mkF m 24 #[.val (.ref u), .val (.int pz), .val (.int nw)] [(.int (4 : Int32)), (.int pz), (.ref li)])) _
    refine XS.imul X8.here hx rfl (hb hby d5_24) rfl ?_
    show Steps p.tables e below (T8.setTop (mkF m 25 #[.val (.ref u), .val (.int pz), .val (.int nw)] [(.int (pz * (4 : Int32))), (.ref li)])) _
    refine XS.iconst X8.here hx rfl (hb hby d5_25) ?_
    show Steps p.tables e below (T8.setTop (mkF m 26 #[.val (.ref u), .val (.int pz), .val (.int nw)] [(.int (1 : Int32)), (.int (pz * (4 : Int32))), (.ref li)])) _
    refine XS.iadd X8.here hx rfl (hb hby d5_26) rfl ?_
    show Steps p.tables e below (T8.setTop (mkF m 27 #[.val (.ref u), .val (.int pz), .val (.int nw)] [(.int ((pz * (4 : Int32)) + (1 : Int32))), (.ref li)])) _
    refine XS.iconst X8.here hx rfl (hb hby d5_27) ?_
    show Steps p.tables e below (T8.setTop (mkF m 28 #[.val (.ref u), .val (.int pz), .val (.int nw)] [(.int (0 : Int32)), (.int ((pz * (4 : Int32)) + (1 : Int32))), (.ref li)])) _
    refine st10 _ ?_
    show Steps p.tables e below (T10.setTop (mkF m 29 #[.val (.ref u), .val (.int pz), .val (.int nw)] [])) _
    refine XS.aloadN X10.here hx rfl (hb hby d5_29) rfl rfl ?_
    show Steps p.tables e below (T10.setTop (mkF m 30 #[.val (.ref u), .val (.int pz), .val (.int nw)] [(.ref u)])) _
    refine st12 _ ?_
    show Steps p.tables e below (T12.setTop (mkF m 33 #[.val (.ref u), .val (.int pz), .val (.int nw)] [(.ref li)])) _
    refine XS.iloadN X12.here hx rfl (hb hby d5_33) rfl ?_
    show Steps p.tables e below (T12.setTop (mkF m 34 #[.val (.ref u), .val (.int pz), .val (.int nw)] [(.int nw), (.ref li)])) _
    refine XS.iconst X12.here hx rfl (hb hby d5_34) ?_
    show Steps p.tables e below (T12.setTop (mkF m 35 #[.val (.ref u), .val (.int pz), .val (.int nw)] [(.int (4 : Int32)), (.int nw), (.ref li)])) _
    refine XS.imul X12.here hx rfl (hb hby d5_35) rfl ?_
    show Steps p.tables e below (T12.setTop (mkF m 36 #[.val (.ref u), .val (.int pz), .val (.int nw)] [(.int (nw * (4 : Int32))), (.ref li)])) _
    refine XS.iconst X12.here hx rfl (hb hby d5_36) ?_
    show Steps p.tables e below (T12.setTop (mkF m 37 #[.val (.ref u), .val (.int pz), .val (.int nw)] [(.int (1 : Int32)), (.int (nw * (4 : Int32))), (.ref li)])) _
    refine XS.iadd X12.here hx rfl (hb hby d5_37) rfl ?_
    show Steps p.tables e below (T12.setTop (mkF m 38 #[.val (.ref u), .val (.int pz), .val (.int nw)] [(.int ((nw * (4 : Int32)) + (1 : Int32))), (.ref li)])) _
    refine XS.iloadN X12.here hx rfl (hb hby d5_38) rfl ?_
    show Steps p.tables e below (T12.setTop (mkF m 39 #[.val (.ref u), .val (.int pz), .val (.int nw)] [(.int pz), (.int ((nw * (4 : Int32)) + (1 : Int32))), (.ref li)])) _
    refine st14 _ ?_
    show Steps p.tables e below (T14.setTop (mkF m 40 #[.val (.ref u), .val (.int pz), .val (.int nw)] [])) _
    refine XS.aloadN X14.here hx rfl (hb hby d5_40) rfl rfl ?_
    show Steps p.tables e below (T14.setTop (mkF m 41 #[.val (.ref u), .val (.int pz), .val (.int nw)] [(.ref u)])) _
    refine st16 _ ?_
    show Steps p.tables e below (T16.setTop (mkF m 44 #[.val (.ref u), .val (.int pz), .val (.int nw)] [(.ref li)])) _
    refine XS.iconst X16.here hx rfl (hb hby d5_44) ?_
    show Steps p.tables e below (T16.setTop (mkF m 45 #[.val (.ref u), .val (.int pz), .val (.int nw)] [(.int (0 : Int32)), (.ref li)])) _
    refine XS.iloadN X16.here hx rfl (hb hby d5_45) rfl ?_
    show Steps p.tables e below (T16.setTop (mkF m 46 #[.val (.ref u), .val (.int pz), .val (.int nw)] [(.int pz), (.int (0 : Int32)), (.ref li)])) _
    refine st18 _ ?_
    exact k_
  obtain ⟨fs, hr, hrun, hended, hW, hsame⟩ := X18.leave (v := none) (fun _ => rfl)
  refine ⟨_, _, go19 _ ?_, hrun, hended, _, _, rfl, ?_, ⟨_, rfl⟩, hW, hsame.mono (by decide) (by decide)⟩
  · skip
    show Steps p.tables e below (T18.setTop (mkF m 47 #[.val (.ref u), .val (.int pz), .val (.int nw)] [])) _
    exact X18.returnOut hx Bd.returns (hb hby d5_47) hr
  · show Q_rmLk Z u li kl vs pz nw i j h0 n0 _ T18.heap _
    rw [e18]
    exact ⟨rfl, N18, K18, V18⟩
theorem ef_7 (m : MethodId) (x0 : Addr) (x1 : Int32) : entryFrame m #[(.ref x0), (.int x1)] 4 = mkF m 0 #[.val (.ref x0), .val (.int x1), .unset, .unset] [] := by first | (simp [entryFrame, mkF, argsToLocals, Value.category]; done) | rfl
theorem d7_0 : decode prog_46_method_13_code 0 = .ok (.aload_n 0, 1) := by decide +kernel
theorem d7_1 : decode prog_46_method_13_code 1 = .ok (.getfield 13, 3) := by decide +kernel
theorem d7_4 : decode prog_46_method_13_code 4 = .ok (.iload_n 1, 1) := by decide +kernel
theorem d7_5 : decode prog_46_method_13_code 5 = .ok (.iconst 4, 1) := by decide +kernel
theorem d7_6 : decode prog_46_method_13_code 6 = .ok (.imul, 1) := by decide +kernel
theorem d7_7 : decode prog_46_method_13_code 7 = .ok (.iconst 0, 1) := by decide +kernel
theorem d7_8 : decode prog_46_method_13_code 8 = .ok (.iadd, 1) := by decide +kernel
theorem d7_9 : decode prog_46_method_13_code 9 = .ok (.iaload, 1) := by decide +kernel
theorem d7_10 : decode prog_46_method_13_code 10 = .ok (.istore_n 2, 1) := by decide +kernel
theorem d7_11 : decode prog_46_method_13_code 11 = .ok (.aload_n 0, 1) := by decide +kernel
theorem d7_12 : decode prog_46_method_13_code 12 = .ok (.getfield 13, 3) := by decide +kernel
theorem d7_15 : decode prog_46_method_13_code 15 = .ok (.iload_n 1, 1) := by decide +kernel
theorem d7_16 : decode prog_46_method_13_code 16 = .ok (.iconst 4, 1) := by decide +kernel
theorem d7_17 : decode prog_46_method_13_code 17 = .ok (.imul, 1) := by decide +kernel
theorem d7_18 : decode prog_46_method_13_code 18 = .ok (.iconst 1, 1) := by decide +kernel
theorem d7_19 : decode prog_46_method_13_code 19 = .ok (.iadd, 1) := by decide +kernel
theorem d7_20 : decode prog_46_method_13_code 20 = .ok (.iaload, 1) := by decide +kernel
theorem d7_21 : decode prog_46_method_13_code 21 = .ok (.istore_n 3, 1) := by decide +kernel
theorem d7_22 : decode prog_46_method_13_code 22 = .ok (.aload_n 0, 1) := by decide +kernel
theorem d7_23 : decode prog_46_method_13_code 23 = .ok (.getfield 13, 3) := by decide +kernel
theorem d7_26 : decode prog_46_method_13_code 26 = .ok (.iload_n 2, 1) := by decide +kernel
theorem d7_27 : decode prog_46_method_13_code 27 = .ok (.iconst 4, 1) := by decide +kernel
theorem d7_28 : decode prog_46_method_13_code 28 = .ok (.imul, 1) := by decide +kernel
theorem d7_29 : decode prog_46_method_13_code 29 = .ok (.iconst 1, 1) := by decide +kernel
theorem d7_30 : decode prog_46_method_13_code 30 = .ok (.iadd, 1) := by decide +kernel
theorem d7_31 : decode prog_46_method_13_code 31 = .ok (.iload_n 3, 1) := by decide +kernel
theorem d7_32 : decode prog_46_method_13_code 32 = .ok (.iastore, 1) := by decide +kernel
theorem d7_33 : decode prog_46_method_13_code 33 = .ok (.aload_n 0, 1) := by decide +kernel
theorem d7_34 : decode prog_46_method_13_code 34 = .ok (.getfield 13, 3) := by decide +kernel
theorem d7_37 : decode prog_46_method_13_code 37 = .ok (.iload_n 3, 1) := by decide +kernel
theorem d7_38 : decode prog_46_method_13_code 38 = .ok (.iconst 4, 1) := by decide +kernel
theorem d7_39 : decode prog_46_method_13_code 39 = .ok (.imul, 1) := by decide +kernel
theorem d7_40 : decode prog_46_method_13_code 40 = .ok (.iconst 0, 1) := by decide +kernel
theorem d7_41 : decode prog_46_method_13_code 41 = .ok (.iadd, 1) := by decide +kernel
theorem d7_42 : decode prog_46_method_13_code 42 = .ok (.iload_n 2, 1) := by decide +kernel
theorem d7_43 : decode prog_46_method_13_code 43 = .ok (.iastore, 1) := by decide +kernel
theorem d7_44 : decode prog_46_method_13_code 44 = .ok (.return_, 1) := by decide +kernel
def Q_rmUn (Z : State) (u : Nat) (li : Nat) (kl : ClassId) (vs : List Value) (pz : Int32) (a : Int32) (b : Int32) (k : Nat) (q : Nat) (h0 : Heap) (n0 : Nat) (v : Option Value) (h : Heap) (L : List Loc) : Prop := v = none ∧ Fr n0 L ∧ Keep h0 h [li] ∧ Arv Z h li kl .int (64 : Int32) (own_un k q a b vs) (.int (0 : Int32))
set_option maxRecDepth 65536 in
set_option maxHeartbeats 40000000 in
theorem rmUn (l : Launch) (Z : State) (a0 : Array Value) (hw : ∀ d ∈ tables_1, d.before a0 Z = true) (ws : List Jvm.Cond) (u : Nat) (li : Nat) (kl : ClassId) (vs : List Value) (pz : Int32) (a : Int32) (b : Int32) (k : Nat) (q : Nat) (h0 : Heap) (n0 : Nat) (Z0 : n0 ≤ h0.size) (Fl : Fld Z h0 u "com/example/terrace/terrace/core/UseOrder" "links" "[I" (.ref li)) (Vl : Arv Z h0 li kl .int (64 : Int32) vs (.int (0 : Int32))) (hlen : vs.length = 64) (ib_q0 : ¬ ((pz * (4 : Int32)) + (0 : Int32)) < 0 ∧ ((pz * (4 : Int32)) + (0 : Int32)) < (64 : Int32)) (ib_q1 : ¬ ((pz * (4 : Int32)) + (1 : Int32)) < 0 ∧ ((pz * (4 : Int32)) + (1 : Int32)) < (64 : Int32)) (hav : vs.getD ((pz * (4 : Int32)) + (0 : Int32)).toNatClampNeg (.int (0 : Int32)) = .int a) (hbv : vs.getD ((pz * (4 : Int32)) + (1 : Int32)).toNatClampNeg (.int (0 : Int32)) = .int b) (ib_a1 : ¬ ((a * (4 : Int32)) + (1 : Int32)) < 0 ∧ ((a * (4 : Int32)) + (1 : Int32)) < (64 : Int32)) (ip_a1 : ((a * (4 : Int32)) + (1 : Int32)).toNatClampNeg = k) (ib_b0 : ¬ ((b * (4 : Int32)) + (0 : Int32)) < 0 ∧ ((b * (4 : Int32)) + (0 : Int32)) < (64 : Int32)) (ip_b0 : ((b * (4 : Int32)) + (0 : Int32)).toNatClampNeg = q) (bk : k < 64) (bq : q < 64) (gl : n0 ≤ li) (nul : u ≠ li) :
    MetFree l (⟨"com/example/terrace/terrace/core/UseOrder", "unlink", "(I)V"⟩ : MethodName) (head1 (Jvm.Cond.code (⟨"com/example/terrace/terrace/core/UseOrder", "unlink", "(I)V"⟩ : MethodName) prog_46_method_13_code 4 none :: ws) ({ frames := 0, cells := 0, slots := 0, locals := 0 } : Room)) (fun a U => a = #[(.ref u), (.int pz)] ∧ Z.Warmed39 U.vm ∧ U.heap = h0) (fun _ _ _ _ _ => True) (fun _ U o U' => ∃ v L, o = .returned v ∧ Q_rmUn Z u li kl vs pz a b k q h0 n0 v U'.heap L ∧ FrameEnd U o U' L ({ frames := 0, cells := 0, slots := 0, locals := 0 } : Room).cells ({ frames := 0, cells := 0, slots := 0, locals := 0 } : Room).slots) := by
  have hw_25 := hw _ (List.mem_of_getElem? (i := 25) rfl)
  refine MetFree.of_bodySF (plainFor_of_name pn_UseOrder) hisR ?_
  intro p e s m args below meth c s₁ Bd hml0 hP hK
  obtain ⟨rfl, hZ, hh⟩ := hP
  have hx := Bd.exec
  have hby := Bd.bytes
  have hml : c.maxLocals = 4 := hml0
  have hown : s.vm.findClass "com/example/terrace/terrace/core/UseOrder" = some m.cls := findClass_of_methodNamed Bd.named
  have hnm := (name_of_methodNamed Bd.named Bd.method).1
  have X0 : Stand p l e ({ frames := 0, cells := 0, slots := 0, locals := 0 } : Room) s m #[(.ref u), (.int pz)] below meth c s₁ [] 0 0 := Stand.of_body Bd
  have e0 : s₁.heap = h0 := by rw [← hh, Bd.state]; rfl
  have N0 := Fr.nil n0
  have pre0 : ∀ t_, Steps p.tables e below (s₁.setTop (mkF m 0 #[.val (.ref u), .val (.int pz), .unset, .unset] [])) t_ → Steps p.tables e below (s₁.setTop (entryFrame m #[(.ref u), (.int pz)] 4)) t_ := fun t_ k_ => castTop (ef_7 m u pz) k_
  have K0 : Keep h0 h0 [li] := Keep.refl h0 _
  obtain ⟨T1, X1, e1, st1⟩ := getF X0 hx hZ hown (host := "") (Or.inl hw_25) Via.refl e0 Fl (g := (mkF m 1 #[.val (.ref u), .val (.int pz), .unset, .unset] [(.ref u)])) rfl rfl (hb hby d7_1)
  obtain ⟨cl2, Ar2, q2, S2, M2, H2, G2⟩ := Vl
  have f3 : Arv Z h0 li kl .int (64 : Int32) vs (.int (0 : Int32)) := ⟨cl2, Ar2, q2, S2, M2, H2, G2⟩
  have hin2 : ¬ (((pz * (4 : Int32)) + (0 : Int32)) < 0 ∨ cl2.slots.size ≤ (((pz * (4 : Int32)) + (0 : Int32))).toNatClampNeg) := inb_of S2 ib_q0
  have hat2 : cl2.slots[(((pz * (4 : Int32)) + (0 : Int32))).toNatClampNeg]? = some (.int a) := Has.at H2 hin2 hav
  obtain ⟨T4, X4, e4, st4⟩ := getF X1 hx hZ hown (host := "") (Or.inl hw_25) Via.refl e1 Fl (g := (mkF m 12 #[.val (.ref u), .val (.int pz), .val (.int a), .unset] [(.ref u)])) rfl rfl (hb hby d7_12)
  obtain ⟨cl5, Ar5, q5, S5, M5, H5, G5⟩ := f3
  have f6 : Arv Z h0 li kl .int (64 : Int32) vs (.int (0 : Int32)) := ⟨cl5, Ar5, q5, S5, M5, H5, G5⟩
  have hin5 : ¬ (((pz * (4 : Int32)) + (1 : Int32)) < 0 ∨ cl5.slots.size ≤ (((pz * (4 : Int32)) + (1 : Int32))).toNatClampNeg) := inb_of S5 ib_q1
  have hat5 : cl5.slots[(((pz * (4 : Int32)) + (1 : Int32))).toNatClampNeg]? = some (.int b) := Has.at H5 hin5 hbv
  obtain ⟨T7, X7, e7, st7⟩ := getF X4 hx hZ hown (host := "") (Or.inl hw_25) Via.refl e4 Fl (g := (mkF m 23 #[.val (.ref u), .val (.int pz), .val (.int a), .val (.int b)] [(.ref u)])) rfl rfl (hb hby d7_23)
  obtain ⟨cl8, Ar8, q8, S8, M8, H8, G8⟩ := f6
  have hin8 : ¬ (((a * (4 : Int32)) + (1 : Int32)) < 0 ∨ cl8.slots.size ≤ (((a * (4 : Int32)) + (1 : Int32))).toNatClampNeg) := inb_of S8 ib_a1
  obtain ⟨T9, h9, X9, e9, W9, st9⟩ := stI X7 hx hZ e7 Ar8 (j := ((a * (4 : Int32)) + (1 : Int32))) hin8 (g := (mkF m 32 #[.val (.ref u), .val (.int pz), .val (.int a), .val (.int b)] [(.int b), (.int ((a * (4 : Int32)) + (1 : Int32))), (.ref li)])) rfl rfl (hb hby d7_32)
  have V9 : Arv Z h9 li kl .int (64 : Int32) (vs.set k (.int b)) (.int (0 : Int32)) := Arv.set Ar8 q8 S8 M8 H8 G8 rfl W9 k ip_a1 (by have q_ : vs.length = 64 := (by simp [hlen, own_un]); omega)
  have N9 := Fr.snoc X9 N0 (show n0 ≤ li by omega)
  have sz9 : h0.size ≤ h9.size := Nat.le_of_eq W9.size.symm
  have Z9 : n0 ≤ h9.size := Nat.le_trans Z0 sz9
  have K9 : Keep h0 h9 [li] := K0.wr W9 (Or.inl (by simp))
  have f10 := (Fl.other W9 (Or.inl (show u ≠ li by omega)))
  obtain ⟨T11, X11, e11, st11⟩ := getF X9 hx hZ hown (host := "") (Or.inl hw_25) Via.refl e9 f10 (g := (mkF m 34 #[.val (.ref u), .val (.int pz), .val (.int a), .val (.int b)] [(.ref u)])) rfl rfl (hb hby d7_34)
  obtain ⟨cl12, Ar12, q12, S12, M12, H12, G12⟩ := V9
  have hin12 : ¬ (((b * (4 : Int32)) + (0 : Int32)) < 0 ∨ cl12.slots.size ≤ (((b * (4 : Int32)) + (0 : Int32))).toNatClampNeg) := inb_of S12 ib_b0
  obtain ⟨T13, h13, X13, e13, W13, st13⟩ := stI X11 hx hZ e11 Ar12 (j := ((b * (4 : Int32)) + (0 : Int32))) hin12 (g := (mkF m 43 #[.val (.ref u), .val (.int pz), .val (.int a), .val (.int b)] [(.int a), (.int ((b * (4 : Int32)) + (0 : Int32))), (.ref li)])) rfl rfl (hb hby d7_43)
  have V13 : Arv Z h13 li kl .int (64 : Int32) ((vs.set k (.int b)).set q (.int a)) (.int (0 : Int32)) := Arv.set Ar12 q12 S12 M12 H12 G12 rfl W13 q ip_b0 (by have q_ : (vs.set k (.int b)).length = 64 := (by simp [hlen, own_un]); omega)
  have N13 := Fr.snoc X13 N9 (show n0 ≤ li by omega)
  have sz13 : h9.size ≤ h13.size := Nat.le_of_eq W13.size.symm
  have Z13 : n0 ≤ h13.size := Nat.le_trans Z9 sz13
  have K13 : Keep h0 h13 [li] := K9.wr W13 (Or.inl (by simp))
  have go14 : ∀ t_, Steps p.tables e below (T13.setTop (mkF m 44 #[.val (.ref u), .val (.int pz), .val (.int a), .val (.int b)] [])) t_ → Steps p.tables e below (s₁.setTop (entryFrame m #[(.ref u), (.int pz)] 4)) t_ := by
    intro t_ k_
    refine pre0 t_ ?_
    show Steps p.tables e below (s₁.setTop (mkF m 0 #[.val (.ref u), .val (.int pz), .unset, .unset] [])) _
    refine XS.aloadN X0.here hx rfl (hb hby d7_0) rfl rfl ?_
    show Steps p.tables e below (s₁.setTop (mkF m 1 #[.val (.ref u), .val (.int pz), .unset, .unset] [(.ref u)])) _
    refine st1 _ ?_
    show Steps p.tables e below (T1.setTop (mkF m 4 #[.val (.ref u), .val (.int pz), .unset, .unset] [(.ref li)])) _
    refine XS.iloadN X1.here hx rfl (hb hby d7_4) rfl ?_
    show Steps p.tables e below (T1.setTop (mkF m 5 #[.val (.ref u), .val (.int pz), .unset, .unset] [(.int pz), (.ref li)])) _
    refine XS.iconst X1.here hx rfl (hb hby d7_5) ?_
    show Steps p.tables e below (T1.setTop (mkF m 6 #[.val (.ref u), .val (.int pz), .unset, .unset] [(.int (4 : Int32)), (.int pz), (.ref li)])) _
    refine XS.imul X1.here hx rfl (hb hby d7_6) rfl ?_
    show Steps p.tables e below (T1.setTop (mkF m 7 #[.val (.ref u), .val (.int pz), .unset, .unset] [(.int (pz * (4 : Int32))), (.ref li)])) _
    refine XS.iconst X1.here hx rfl (hb hby d7_7) ?_
    show Steps p.tables e below (T1.setTop (mkF m 8 #[.val (.ref u), .val (.int pz), .unset, .unset] [(.int (0 : Int32)), (.int (pz * (4 : Int32))), (.ref li)])) _
    refine XS.iadd X1.here hx rfl (hb hby d7_8) rfl ?_
    show Steps p.tables e below (T1.setTop (mkF m 9 #[.val (.ref u), .val (.int pz), .unset, .unset] [(.int ((pz * (4 : Int32)) + (0 : Int32))), (.ref li)])) _
    refine X1.iaload hx (j := ((pz * (4 : Int32)) + (0 : Int32))) (v := (.int a)) (by rw [e1]; exact Ar2.1) (State.isArrayOf_alike hZ.alike Ar2.2.1) Ar2.2.2 hin2 hat2 (g := (mkF m 9 #[.val (.ref u), .val (.int pz), .unset, .unset] [(.int ((pz * (4 : Int32)) + (0 : Int32))), (.ref li)])) rfl rfl (hb hby d7_9) _ ?_
    show Steps p.tables e below (T1.setTop (mkF m 10 #[.val (.ref u), .val (.int pz), .unset, .unset] [(.int a)])) _
    refine XS.istoreN X1.here hx rfl (hb hby d7_10) rfl (l' := #[.val (.ref u), .val (.int pz), .val (.int a), .unset]) rfl ?_
    show Steps p.tables e below (T1.setTop (mkF m 11 #[.val (.ref u), .val (.int pz), .val (.int a), .unset] [])) _
    refine XS.aloadN X1.here hx rfl (hb hby d7_11) rfl rfl ?_
    show Steps p.tables e below (T1.setTop (mkF m 12 #[.val (.ref u), .val (.int pz), .val (.int a), .unset] [(.ref u)])) _
    refine st4 _ ?_
    show Steps p.tables e below (T4.setTop (mkF m 15 #[.val (.ref u), .val (.int pz), .val (.int a), .unset] [(.ref li)])) _
    refine XS.iloadN X4.here hx rfl (hb hby d7_15) rfl ?_
    show Steps p.tables e below (T4.setTop (mkF m 16 #[.val (.ref u), .val (.int pz), .val (.int a), .unset] [(.int pz), (.ref li)])) _
    refine XS.iconst X4.here hx rfl (hb hby d7_16) ?_
    show Steps p.tables e below (T4.setTop (mkF m 17 #[.val (.ref u), .val (.int pz), .val (.int a), .unset] [(.int (4 : Int32)), (.int pz), (.ref li)])) _
    refine XS.imul X4.here hx rfl (hb hby d7_17) rfl ?_
    show Steps p.tables e below (T4.setTop (mkF m 18 #[.val (.ref u), .val (.int pz), .val (.int a), .unset] [(.int (pz * (4 : Int32))), (.ref li)])) _
    refine XS.iconst X4.here hx rfl (hb hby d7_18) ?_
    show Steps p.tables e below (T4.setTop (mkF m 19 #[.val (.ref u), .val (.int pz), .val (.int a), .unset] [(.int (1 : Int32)), (.int (pz * (4 : Int32))), (.ref li)])) _
    refine XS.iadd X4.here hx rfl (hb hby d7_19) rfl ?_
    show Steps p.tables e below (T4.setTop (mkF m 20 #[.val (.ref u), .val (.int pz), .val (.int a), .unset] [(.int ((pz * (4 : Int32)) + (1 : Int32))), (.ref li)])) _
    refine X4.iaload hx (j := ((pz * (4 : Int32)) + (1 : Int32))) (v := (.int b)) (by rw [e4]; exact Ar5.1) (State.isArrayOf_alike hZ.alike Ar5.2.1) Ar5.2.2 hin5 hat5 (g := (mkF m 20 #[.val (.ref u), .val (.int pz), .val (.int a), .unset] [(.int ((pz * (4 : Int32)) + (1 : Int32))), (.ref li)])) rfl rfl (hb hby d7_20) _ ?_
    show Steps p.tables e below (T4.setTop (mkF m 21 #[.val (.ref u), .val (.int pz), .val (.int a), .unset] [(.int b)])) _
    refine XS.istoreN X4.here hx rfl (hb hby d7_21) rfl (l' := #[.val (.ref u), .val (.int pz), .val (.int a), .val (.int b)]) rfl ?_
    show Steps p.tables e below (T4.setTop (mkF m 22 #[.val (.ref u), .val (.int pz), .val (.int a), .val (.int b)] [])) _
    refine XS.aloadN X4.here hx rfl (hb hby d7_22) rfl rfl ?_
    show Steps p.tables e below (T4.setTop (mkF m 23 #[.val (.ref u), .val (.int pz), .val (.int a), .val (.int b)] [(.ref u)])) _
    refine st7 _ ?_
    show Steps p.tables e below (T7.setTop (mkF m 26 #[.val (.ref u), .val (.int pz), .val (.int a), .val (.int b)] [(.ref li)])) _
    refine XS.iloadN X7.here hx rfl (hb hby d7_26) rfl ?_
    show Steps p.tables e below (T7.setTop (mkF m 27 #[.val (.ref u), .val (.int pz), .val (.int a), .val (.int b)] [(.int a), (.ref li)])) _
    refine XS.iconst X7.here hx rfl (hb hby d7_27) ?_
    show Steps p.tables e below (T7.setTop (mkF m 28 #[.val (.ref u), .val (.int pz), .val (.int a), .val (.int b)] [(.int (4 : Int32)), (.int a), (.ref li)])) _
    refine XS.imul X7.here hx rfl (hb hby d7_28) rfl ?_
    show Steps p.tables e below (T7.setTop (mkF m 29 #[.val (.ref u), .val (.int pz), .val (.int a), .val (.int b)] [(.int (a * (4 : Int32))), (.ref li)])) _
    refine XS.iconst X7.here hx rfl (hb hby d7_29) ?_
    show Steps p.tables e below (T7.setTop (mkF m 30 #[.val (.ref u), .val (.int pz), .val (.int a), .val (.int b)] [(.int (1 : Int32)), (.int (a * (4 : Int32))), (.ref li)])) _
    refine XS.iadd X7.here hx rfl (hb hby d7_30) rfl ?_
    show Steps p.tables e below (T7.setTop (mkF m 31 #[.val (.ref u), .val (.int pz), .val (.int a), .val (.int b)] [(.int ((a * (4 : Int32)) + (1 : Int32))), (.ref li)])) _
    refine XS.iloadN X7.here hx rfl (hb hby d7_31) rfl ?_
    show Steps p.tables e below (T7.setTop (mkF m 32 #[.val (.ref u), .val (.int pz), .val (.int a), .val (.int b)] [(.int b), (.int ((a * (4 : Int32)) + (1 : Int32))), (.ref li)])) _
    refine st9 _ ?_
    show Steps p.tables e below (T9.setTop (mkF m 33 #[.val (.ref u), .val (.int pz), .val (.int a), .val (.int b)] [])) _
    refine XS.aloadN X9.here hx rfl (hb hby d7_33) rfl rfl ?_
    show Steps p.tables e below (T9.setTop (mkF m 34 #[.val (.ref u), .val (.int pz), .val (.int a), .val (.int b)] [(.ref u)])) _
    refine st11 _ ?_
    show Steps p.tables e below (T11.setTop (mkF m 37 #[.val (.ref u), .val (.int pz), .val (.int a), .val (.int b)] [(.ref li)])) _
    refine XS.iloadN X11.here hx rfl (hb hby d7_37) rfl ?_
    show Steps p.tables e below (T11.setTop (mkF m 38 #[.val (.ref u), .val (.int pz), .val (.int a), .val (.int b)] [(.int b), (.ref li)])) _
    refine XS.iconst X11.here hx rfl (hb hby d7_38) ?_
    show Steps p.tables e below (T11.setTop (mkF m 39 #[.val (.ref u), .val (.int pz), .val (.int a), .val (.int b)] [(.int (4 : Int32)), (.int b), (.ref li)])) _
    refine XS.imul X11.here hx rfl (hb hby d7_39) rfl ?_
    show Steps p.tables e below (T11.setTop (mkF m 40 #[.val (.ref u), .val (.int pz), .val (.int a), .val (.int b)] [(.int (b * (4 : Int32))), (.ref li)])) _
    refine XS.iconst X11.here hx rfl (hb hby d7_40) ?_
    show Steps p.tables e below (T11.setTop (mkF m 41 #[.val (.ref u), .val (.int pz), .val (.int a), .val (.int b)] [(.int (0 : Int32)), (.int (b * (4 : Int32))), (.ref li)])) _
    refine XS.iadd X11.here hx rfl (hb hby d7_41) rfl ?_
    show Steps p.tables e below (T11.setTop (mkF m 42 #[.val (.ref u), .val (.int pz), .val (.int a), .val (.int b)] [(.int ((b * (4 : Int32)) + (0 : Int32))), (.ref li)])) _
    refine XS.iloadN X11.here hx rfl (hb hby d7_42) rfl ?_
    show Steps p.tables e below (T11.setTop (mkF m 43 #[.val (.ref u), .val (.int pz), .val (.int a), .val (.int b)] [(.int a), (.int ((b * (4 : Int32)) + (0 : Int32))), (.ref li)])) _
    refine st13 _ ?_
    exact k_
  obtain ⟨fs, hr, hrun, hended, hW, hsame⟩ := X13.leave (v := none) (fun _ => rfl)
  refine ⟨_, _, go14 _ ?_, hrun, hended, _, _, rfl, ?_, ⟨_, rfl⟩, hW, hsame.mono (by decide) (by decide)⟩
  · skip
    show Steps p.tables e below (T13.setTop (mkF m 44 #[.val (.ref u), .val (.int pz), .val (.int a), .val (.int b)] [])) _
    exact X13.returnOut hx Bd.returns (hb hby d7_44) hr
  · show Q_rmUn Z u li kl vs pz a b k q h0 n0 _ T13.heap _
    rw [e13]
    exact ⟨rfl, N13, K13, V13⟩
theorem own_getS {vs : List Value} {i j : Nat} {x d : Value} (h : i ≠ j) : (vs.set i x).getD j d = vs.getD j d := by simp [List.getD, List.getElem?_set, h]
theorem ef_6 (m : MethodId) (x0 : Addr) (x1 : Int32) : entryFrame m #[(.ref x0), (.int x1)] 2 = mkF m 0 #[.val (.ref x0), .val (.int x1)] [] := by first | (simp [entryFrame, mkF, argsToLocals, Value.category]; done) | rfl
theorem d6_0 : decode prog_46_method_3_code 0 = .ok (.aload_n 0, 1) := by decide +kernel
theorem d6_1 : decode prog_46_method_3_code 1 = .ok (.getfield 13, 3) := by decide +kernel
theorem d6_4 : decode prog_46_method_3_code 4 = .ok (.iconst 0, 1) := by decide +kernel
theorem d6_5 : decode prog_46_method_3_code 5 = .ok (.iaload, 1) := by decide +kernel
theorem d6_6 : decode prog_46_method_3_code 6 = .ok (.iload_n 1, 1) := by decide +kernel
theorem d6_7 : decode prog_46_method_3_code 7 = .ok (.if_icmp .eq 13, 3) := by decide +kernel
theorem d6_20 : decode prog_46_method_3_code 20 = .ok (.return_, 1) := by decide +kernel
def Q_rmUseN (Z : State) (u : Nat) (li : Nat) (kl : ClassId) (vs : List Value) (pz : Int32) (h0 : Heap) (n0 : Nat) (v : Option Value) (h : Heap) (L : List Loc) : Prop := v = none ∧ Fr n0 L ∧ Keep h0 h [li] ∧ Arv Z h li kl .int (64 : Int32) vs (.int (0 : Int32))
set_option maxRecDepth 65536 in
set_option maxHeartbeats 40000000 in
theorem rmUseN (l : Launch) (Z : State) (a0 : Array Value) (hw : ∀ d ∈ tables_1, d.before a0 Z = true) (ws : List Jvm.Cond) (u : Nat) (li : Nat) (kl : ClassId) (vs : List Value) (pz : Int32) (h0 : Heap) (n0 : Nat) (Z0 : n0 ≤ h0.size) (Fl : Fld Z h0 u "com/example/terrace/terrace/core/UseOrder" "links" "[I" (.ref li)) (Vl : Arv Z h0 li kl .int (64 : Int32) vs (.int (0 : Int32))) (h0v : vs.getD 0 (.int (0 : Int32)) = .int pz) :
    MetFree l (⟨"com/example/terrace/terrace/core/UseOrder", "use", "(I)V"⟩ : MethodName) (head1 (Jvm.Cond.code (⟨"com/example/terrace/terrace/core/UseOrder", "use", "(I)V"⟩ : MethodName) prog_46_method_3_code 2 none :: ws) ({ frames := 0, cells := 0, slots := 0, locals := 0 } : Room)) (fun a U => a = #[(.ref u), (.int pz)] ∧ Z.Warmed39 U.vm ∧ U.heap = h0) (fun _ _ _ _ _ => True) (fun _ U o U' => ∃ v L, o = .returned v ∧ Q_rmUseN Z u li kl vs pz h0 n0 v U'.heap L ∧ FrameEnd U o U' L ({ frames := 0, cells := 0, slots := 0, locals := 0 } : Room).cells ({ frames := 0, cells := 0, slots := 0, locals := 0 } : Room).slots) := by
  have hw_25 := hw _ (List.mem_of_getElem? (i := 25) rfl)
  refine MetFree.of_bodySF (plainFor_of_name pn_UseOrder) hisR ?_
  intro p e s m args below meth c s₁ Bd hml0 hP hK
  obtain ⟨rfl, hZ, hh⟩ := hP
  have hx := Bd.exec
  have hby := Bd.bytes
  have hml : c.maxLocals = 2 := hml0
  have hown : s.vm.findClass "com/example/terrace/terrace/core/UseOrder" = some m.cls := findClass_of_methodNamed Bd.named
  have hnm := (name_of_methodNamed Bd.named Bd.method).1
  have X0 : Stand p l e ({ frames := 0, cells := 0, slots := 0, locals := 0 } : Room) s m #[(.ref u), (.int pz)] below meth c s₁ [] 0 0 := Stand.of_body Bd
  have e0 : s₁.heap = h0 := by rw [← hh, Bd.state]; rfl
  have N0 := Fr.nil n0
  have pre0 : ∀ t_, Steps p.tables e below (s₁.setTop (mkF m 0 #[.val (.ref u), .val (.int pz)] [])) t_ → Steps p.tables e below (s₁.setTop (entryFrame m #[(.ref u), (.int pz)] 2)) t_ := fun t_ k_ => castTop (ef_6 m u pz) k_
  have K0 : Keep h0 h0 [li] := Keep.refl h0 _
  obtain ⟨T1, X1, e1, st1⟩ := getF X0 hx hZ hown (host := "") (Or.inl hw_25) Via.refl e0 Fl (g := (mkF m 1 #[.val (.ref u), .val (.int pz)] [(.ref u)])) rfl rfl (hb hby d6_1)
  obtain ⟨cl2, Ar2, q2, S2, M2, H2, G2⟩ := Vl
  have f3 : Arv Z h0 li kl .int (64 : Int32) vs (.int (0 : Int32)) := ⟨cl2, Ar2, q2, S2, M2, H2, G2⟩
  have hin2 : ¬ ((0 : Int32) < 0 ∨ cl2.slots.size ≤ ((0 : Int32)).toNatClampNeg) := inb_of S2 ⟨by decide, by decide⟩
  have hat2 : cl2.slots[((0 : Int32)).toNatClampNeg]? = some (.int pz) := Has.at H2 hin2 h0v
  have go4 : ∀ t_, Steps p.tables e below (T1.setTop (mkF m 20 #[.val (.ref u), .val (.int pz)] [])) t_ → Steps p.tables e below (s₁.setTop (entryFrame m #[(.ref u), (.int pz)] 2)) t_ := by
    intro t_ k_
    refine pre0 t_ ?_
    show Steps p.tables e below (s₁.setTop (mkF m 0 #[.val (.ref u), .val (.int pz)] [])) _
    refine XS.aloadN X0.here hx rfl (hb hby d6_0) rfl rfl ?_
    show Steps p.tables e below (s₁.setTop (mkF m 1 #[.val (.ref u), .val (.int pz)] [(.ref u)])) _
    refine st1 _ ?_
    show Steps p.tables e below (T1.setTop (mkF m 4 #[.val (.ref u), .val (.int pz)] [(.ref li)])) _
    refine XS.iconst X1.here hx rfl (hb hby d6_4) ?_
    show Steps p.tables e below (T1.setTop (mkF m 5 #[.val (.ref u), .val (.int pz)] [(.int (0 : Int32)), (.ref li)])) _
    refine X1.iaload hx (j := (0 : Int32)) (v := (.int pz)) (by rw [e1]; exact Ar2.1) (State.isArrayOf_alike hZ.alike Ar2.2.1) Ar2.2.2 hin2 hat2 (g := (mkF m 5 #[.val (.ref u), .val (.int pz)] [(.int (0 : Int32)), (.ref li)])) rfl rfl (hb hby d6_5) _ ?_
    show Steps p.tables e below (T1.setTop (mkF m 6 #[.val (.ref u), .val (.int pz)] [(.int pz)])) _
    refine XS.iloadN X1.here hx rfl (hb hby d6_6) rfl ?_
    show Steps p.tables e below (T1.setTop (mkF m 7 #[.val (.ref u), .val (.int pz)] [(.int pz), (.int pz)])) _
    refine XS.icmpYes X1.here hx rfl (pc0 := 7) (pc' := 20) rfl (hb hby d6_7) rfl (teq (rfl : pz = pz)).1 (by decide) (by decide) ?_
    exact k_
  obtain ⟨fs, hr, hrun, hended, hW, hsame⟩ := X1.leave (v := none) (fun _ => rfl)
  refine ⟨_, _, go4 _ ?_, hrun, hended, _, _, rfl, ?_, ⟨_, rfl⟩, hW, hsame.mono (by decide) (by decide)⟩
  · skip
    show Steps p.tables e below (T1.setTop (mkF m 20 #[.val (.ref u), .val (.int pz)] [])) _
    exact X1.returnOut hx Bd.returns (hb hby d6_20) hr
  · show Q_rmUseN Z u li kl vs pz h0 n0 _ T1.heap _
    rw [e1]
    exact ⟨rfl, N0, K0, f3⟩
theorem d6_10 : decode prog_46_method_3_code 10 = .ok (.aload_n 0, 1) := by decide +kernel
theorem d6_11 : decode prog_46_method_3_code 11 = .ok (.iload_n 1, 1) := by decide +kernel
theorem d6_12 : decode prog_46_method_3_code 12 = .ok (.invokevirtual 31, 3) := by decide +kernel
theorem pd_0 : parseMethodDescriptor "(I)V" = some ⟨[.int], none⟩ := by decide +kernel
theorem d6_15 : decode prog_46_method_3_code 15 = .ok (.aload_n 0, 1) := by decide +kernel
theorem d6_16 : decode prog_46_method_3_code 16 = .ok (.iload_n 1, 1) := by decide +kernel
theorem d6_17 : decode prog_46_method_3_code 17 = .ok (.invokevirtual 27, 3) := by decide +kernel
def Q_rmUse (Z : State) (u : Nat) (li : Nat) (kl : ClassId) (vs : List Value) (pz : Int32) (nw : Int32) (i : Nat) (j : Nat) (a : Int32) (b : Int32) (k : Nat) (q : Nat) (h0 : Heap) (n0 : Nat) (v : Option Value) (h : Heap) (L : List Loc) : Prop := v = none ∧ Fr n0 L ∧ Keep h0 h [li] ∧ Arv Z h li kl .int (64 : Int32) (own_lk i j pz nw (own_un k q a b vs)) (.int (0 : Int32))
set_option maxRecDepth 65536 in
set_option maxHeartbeats 40000000 in
theorem rmUse (l : Launch) (Z : State) (a0 : Array Value) (hw : ∀ d ∈ tables_1, d.before a0 Z = true) (ws : List Jvm.Cond) (u : Nat) (li : Nat) (kl : ClassId) (vs : List Value) (pz : Int32) (nw : Int32) (i : Nat) (j : Nat) (a : Int32) (b : Int32) (k : Nat) (q : Nat) (h0 : Heap) (n0 : Nat) (Z0 : n0 ≤ h0.size) (Fl : Fld Z h0 u "com/example/terrace/terrace/core/UseOrder" "links" "[I" (.ref li)) (Vl : Arv Z h0 li kl .int (64 : Int32) vs (.int (0 : Int32))) (hlen : vs.length = 64) (h0v : vs.getD 0 (.int (0 : Int32)) = .int nw) (gl : n0 ≤ li) (nul : u ≠ li) (ib_p0 : ¬ ((pz * (4 : Int32)) + (0 : Int32)) < 0 ∧ ((pz * (4 : Int32)) + (0 : Int32)) < (64 : Int32)) (ip_p0 : ((pz * (4 : Int32)) + (0 : Int32)).toNatClampNeg = i) (ib_p1 : ¬ ((pz * (4 : Int32)) + (1 : Int32)) < 0 ∧ ((pz * (4 : Int32)) + (1 : Int32)) < (64 : Int32)) (ip_p1 : ((pz * (4 : Int32)) + (1 : Int32)).toNatClampNeg = (i + 1)) (ib_n1 : ¬ ((nw * (4 : Int32)) + (1 : Int32)) < 0 ∧ ((nw * (4 : Int32)) + (1 : Int32)) < (64 : Int32)) (ip_n1 : ((nw * (4 : Int32)) + (1 : Int32)).toNatClampNeg = j) (bi : i + 1 < 64) (bj : j < 64) (ib_q0 : ¬ ((pz * (4 : Int32)) + (0 : Int32)) < 0 ∧ ((pz * (4 : Int32)) + (0 : Int32)) < (64 : Int32)) (ib_q1 : ¬ ((pz * (4 : Int32)) + (1 : Int32)) < 0 ∧ ((pz * (4 : Int32)) + (1 : Int32)) < (64 : Int32)) (hav : vs.getD ((pz * (4 : Int32)) + (0 : Int32)).toNatClampNeg (.int (0 : Int32)) = .int a) (hbv : vs.getD ((pz * (4 : Int32)) + (1 : Int32)).toNatClampNeg (.int (0 : Int32)) = .int b) (ib_a1 : ¬ ((a * (4 : Int32)) + (1 : Int32)) < 0 ∧ ((a * (4 : Int32)) + (1 : Int32)) < (64 : Int32)) (ip_a1 : ((a * (4 : Int32)) + (1 : Int32)).toNatClampNeg = k) (ib_b0 : ¬ ((b * (4 : Int32)) + (0 : Int32)) < 0 ∧ ((b * (4 : Int32)) + (0 : Int32)) < (64 : Int32)) (ip_b0 : ((b * (4 : Int32)) + (0 : Int32)).toNatClampNeg = q) (bk : k < 64) (bq : q < 64) (Eu : Exa Z h0 u "com/example/terrace/terrace/core/UseOrder") (hne : ¬ (nw = pz)) (bk0 : k ≠ 0) (bq0 : q ≠ 0) :
    MetFree l (⟨"com/example/terrace/terrace/core/UseOrder", "use", "(I)V"⟩ : MethodName) (head1 (Jvm.Cond.code (⟨"com/example/terrace/terrace/core/UseOrder", "use", "(I)V"⟩ : MethodName) prog_46_method_3_code 2 none :: ws) ({ frames := 1, cells := 0, slots := 0, locals := 15 } : Room)) (fun a U => a = #[(.ref u), (.int pz)] ∧ Z.Warmed39 U.vm ∧ U.heap = h0) (fun _ _ _ _ _ => True) (fun _ U o U' => ∃ v L, o = .returned v ∧ Q_rmUse Z u li kl vs pz nw i j a b k q h0 n0 v U'.heap L ∧ FrameEnd U o U' L ({ frames := 1, cells := 0, slots := 0, locals := 15 } : Room).cells ({ frames := 1, cells := 0, slots := 0, locals := 15 } : Room).slots) := by
  have hw_13 := hw _ (List.mem_of_getElem? (i := 13) rfl)
  have hw_14 := hw _ (List.mem_of_getElem? (i := 14) rfl)
  have hw_25 := hw _ (List.mem_of_getElem? (i := 25) rfl)
  have hw_37 := hw _ (List.mem_of_getElem? (i := 37) rfl)
  have hw_38 := hw _ (List.mem_of_getElem? (i := 38) rfl)
  have hw_39 := hw _ (List.mem_of_getElem? (i := 39) rfl)
  have hw_40 := hw _ (List.mem_of_getElem? (i := 40) rfl)
  have hw_46 := hw _ (List.mem_of_getElem? (i := 46) rfl)
  have hw_47 := hw _ (List.mem_of_getElem? (i := 47) rfl)
  have hw_48 := hw _ (List.mem_of_getElem? (i := 48) rfl)
  have hw_49 := hw _ (List.mem_of_getElem? (i := 49) rfl)
  refine MetFree.of_bodySF (plainFor_of_name pn_UseOrder) hisR ?_
  intro p e s m args below meth c s₁ Bd hml0 hP hK
  obtain ⟨rfl, hZ, hh⟩ := hP
  have hx := Bd.exec
  have hby := Bd.bytes
  have hml : c.maxLocals = 2 := hml0
  have hown : s.vm.findClass "com/example/terrace/terrace/core/UseOrder" = some m.cls := findClass_of_methodNamed Bd.named
  have hnm := (name_of_methodNamed Bd.named Bd.method).1
  have X0 : Stand p l e ({ frames := 1, cells := 0, slots := 0, locals := 15 } : Room) s m #[(.ref u), (.int pz)] below meth c s₁ [] 0 0 := Stand.of_body Bd
  have e0 : s₁.heap = h0 := by rw [← hh, Bd.state]; rfl
  have N0 := Fr.nil n0
  have pre0 : ∀ t_, Steps p.tables e below (s₁.setTop (mkF m 0 #[.val (.ref u), .val (.int pz)] [])) t_ → Steps p.tables e below (s₁.setTop (entryFrame m #[(.ref u), (.int pz)] 2)) t_ := fun t_ k_ => castTop (ef_6 m u pz) k_
  have K0 : Keep h0 h0 [li] := Keep.refl h0 _
  obtain ⟨T1, X1, e1, st1⟩ := getF X0 hx hZ hown (host := "") (Or.inl hw_25) Via.refl e0 Fl (g := (mkF m 1 #[.val (.ref u), .val (.int pz)] [(.ref u)])) rfl rfl (hb hby d6_1)
  obtain ⟨cl2, Ar2, q2, S2, M2, H2, G2⟩ := Vl
  have f3 : Arv Z h0 li kl .int (64 : Int32) vs (.int (0 : Int32)) := ⟨cl2, Ar2, q2, S2, M2, H2, G2⟩
  have hin2 : ¬ ((0 : Int32) < 0 ∨ cl2.slots.size ≤ ((0 : Int32)).toNatClampNeg) := inb_of S2 ⟨by decide, by decide⟩
  have hat2 : cl2.slots[((0 : Int32)).toNatClampNeg]? = some (.int nw) := Has.at H2 hin2 h0v
  obtain ⟨cq4, q4, q4'⟩ := Eu.cell
  obtain ⟨_, _, ⟨T4, L4, k4, n4⟩, -, X4, ⟨Lc4, hQ4, l4, y4, z4⟩, st4⟩ := X1.privateBack hx (y := (⟨"com/example/terrace/terrace/core/UseOrder", "unlink", "(I)V"⟩ : MethodName)) hown (mvT hZ hw_46) (mvT hZ hw_47) (own_sel hZ hw_13 hw_48 hw_47 (by decide)) (Cond.privateMethod_at (mvP hZ hw_48 (args := #[]))) (mvT hZ hw_49) (by decide) (backOf (W := 0) (rmUn l Z a0 hw [] u li kl vs pz a b k q h0 n0 Z0 Fl f3 (by simp [own_lk, own_un, List.length_set, hlen]) ib_q0 ib_q1 hav hbv ib_a1 ip_a1 ib_b0 ip_b0 bk bq (by omega) (show u ≠ li by omega)) hZ hw_49 hw_14 (by decide) (by decide)) (g := (mkF m 12 #[.val (.ref u), .val (.int pz)] [(.int pz), (.ref u)])) rfl (by rw [hml]; rfl) (Steps.refl _) (a := u) (by rw [e1]; exact q4) q4' (argsL := [(.int pz)]) (rest := []) (lenOf pd_0 rfl) rfl (by show 2 * 0 + _ ≤ _; exact Nat.le_of_eq rfl) (hb hby d6_12) (fun _ _ => ⟨rfl, e1, (by decide : 0 + 0 ≤ _), (by decide : 0 + 0 ≤ _)⟩)
  dsimp only [Pt.U, Pt.locs, Pt.cells, Pt.slots] at X4 l4 y4 z4 st4 hQ4
  subst l4 y4 z4
  obtain ⟨rfl, N4q, Kc4, Vc4⟩ := hQ4
  have N4 := Fr.app N0 N4q
  have sz4 : h0.size ≤ T4.heap.size := Kc4.1
  have Z4 : n0 ≤ T4.heap.size := Nat.le_trans Z0 sz4
  have K4 : Keep h0 T4.heap [li] := K0.trans Kc4 (allS (Or.inl (by simp)) all0)
  have f6 := (Fl.keep Kc4 (ninS (show u ≠ li by omega) nin0))
  have f7 := (Eu.keep Kc4)
  obtain ⟨cq5, q5, q5'⟩ := f7.cell
  obtain ⟨_, _, ⟨T5, L5, k5, n5⟩, -, X5, ⟨Lc5, hQ5, l5, y5, z5⟩, st5⟩ := X4.privateBack hx (y := (⟨"com/example/terrace/terrace/core/UseOrder", "linkAsNewest", "(I)V"⟩ : MethodName)) hown (mvT hZ hw_37) (mvT hZ hw_38) (own_sel hZ hw_13 hw_39 hw_38 (by decide)) (Cond.privateMethod_at (mvP hZ hw_39 (args := #[]))) (mvT hZ hw_40) (by decide) (backOf (W := 0) (rmLk l Z a0 hw [] u li kl (own_un k q a b vs) pz nw i j T4.heap n0 Z4 f6 Vc4 (by simp [own_lk, own_un, List.length_set, hlen]) ((own_getS bq0).trans ((own_getS bk0).trans h0v)) (by omega) (show u ≠ li by omega) ib_p0 ip_p0 ib_p1 ip_p1 ib_n1 ip_n1 bi bj) hZ hw_40 hw_14 (by decide) (by decide)) (g := (mkF m 17 #[.val (.ref u), .val (.int pz)] [(.int pz), (.ref u)])) rfl (by rw [hml]; rfl) (Steps.refl _) (a := u) q5 q5' (argsL := [(.int pz)]) (rest := []) (lenOf pd_0 rfl) rfl (by show 2 * 0 + _ ≤ _; exact Nat.le_of_eq rfl) (hb hby d6_17) (fun _ _ => ⟨rfl, rfl, (by decide : 0 + 0 ≤ _), (by decide : 0 + 0 ≤ _)⟩)
  dsimp only [Pt.U, Pt.locs, Pt.cells, Pt.slots] at X5 l5 y5 z5 st5 hQ5
  subst l5 y5 z5
  obtain ⟨rfl, N5q, Kc5, Vc5⟩ := hQ5
  have N5 := Fr.app N4 N5q
  have sz5 : T4.heap.size ≤ T5.heap.size := Kc5.1
  have Z5 : n0 ≤ T5.heap.size := Nat.le_trans Z4 sz5
  have K5 : Keep h0 T5.heap [li] := K4.trans Kc5 (allS (Or.inl (by simp)) all0)
  have go8 : ∀ t_, Steps p.tables e below (T5.setTop (mkF m 20 #[.val (.ref u), .val (.int pz)] [])) t_ → Steps p.tables e below (s₁.setTop (entryFrame m #[(.ref u), (.int pz)] 2)) t_ := by
    intro t_ k_
    refine pre0 t_ ?_
    show Steps p.tables e below (s₁.setTop (mkF m 0 #[.val (.ref u), .val (.int pz)] [])) _
    refine XS.aloadN X0.here hx rfl (hb hby d6_0) rfl rfl ?_
    show Steps p.tables e below (s₁.setTop (mkF m 1 #[.val (.ref u), .val (.int pz)] [(.ref u)])) _
    refine st1 _ ?_
    show Steps p.tables e below (T1.setTop (mkF m 4 #[.val (.ref u), .val (.int pz)] [(.ref li)])) _
    refine XS.iconst X1.here hx rfl (hb hby d6_4) ?_
    show Steps p.tables e below (T1.setTop (mkF m 5 #[.val (.ref u), .val (.int pz)] [(.int (0 : Int32)), (.ref li)])) _
    refine X1.iaload hx (j := (0 : Int32)) (v := (.int nw)) (by rw [e1]; exact Ar2.1) (State.isArrayOf_alike hZ.alike Ar2.2.1) Ar2.2.2 hin2 hat2 (g := (mkF m 5 #[.val (.ref u), .val (.int pz)] [(.int (0 : Int32)), (.ref li)])) rfl rfl (hb hby d6_5) _ ?_
    show Steps p.tables e below (T1.setTop (mkF m 6 #[.val (.ref u), .val (.int pz)] [(.int nw)])) _
    refine XS.iloadN X1.here hx rfl (hb hby d6_6) rfl ?_
    show Steps p.tables e below (T1.setTop (mkF m 7 #[.val (.ref u), .val (.int pz)] [(.int pz), (.int nw)])) _
    refine XS.icmpNo X1.here hx rfl (hb hby d6_7) rfl (feq hne).1 ?_
    show Steps p.tables e below (T1.setTop (mkF m 10 #[.val (.ref u), .val (.int pz)] [])) _
    refine XS.aloadN X1.here hx rfl (hb hby d6_10) rfl rfl ?_
    show Steps p.tables e below (T1.setTop (mkF m 11 #[.val (.ref u), .val (.int pz)] [(.ref u)])) _
    refine XS.iloadN X1.here hx rfl (hb hby d6_11) rfl ?_
    show Steps p.tables e below (T1.setTop (mkF m 12 #[.val (.ref u), .val (.int pz)] [(.int pz), (.ref u)])) _
    refine st4.trans ?_
    show Steps p.tables e below (T4.setTop (mkF m 15 #[.val (.ref u), .val (.int pz)] [])) _
    refine XS.aloadN X4.here hx rfl (hb hby d6_15) rfl rfl ?_
    show Steps p.tables e below (T4.setTop (mkF m 16 #[.val (.ref u), .val (.int pz)] [(.ref u)])) _
    refine XS.iloadN X4.here hx rfl (hb hby d6_16) rfl ?_
    show Steps p.tables e below (T4.setTop (mkF m 17 #[.val (.ref u), .val (.int pz)] [(.int pz), (.ref u)])) _
    refine st5.trans ?_
    exact k_
  obtain ⟨fs, hr, hrun, hended, hW, hsame⟩ := X5.leave (v := none) (fun _ => rfl)
  refine ⟨_, _, go8 _ ?_, hrun, hended, _, _, rfl, ?_, ⟨_, rfl⟩, hW, hsame.mono (by decide) (by decide)⟩
  · skip
    show Steps p.tables e below (T5.setTop (mkF m 20 #[.val (.ref u), .val (.int pz)] [])) _
    exact X5.returnOut hx Bd.returns (hb hby d6_20) hr
  · show Q_rmUse Z u li kl vs pz nw i j a b k q h0 n0 _ T5.heap _
    exact ⟨rfl, N5, K5, Vc5⟩
def own_rm (i : Nat) (p fr : Int32) (vs : List Value) : List Value := (vs.set i (.int fr)).set (i + 1) (.int (-1 : Int32))
theorem ef_11 (m : MethodId) (x0 : Addr) (x1 : Int32) : entryFrame m #[(.ref x0), (.int x1)] 2 = mkF m 0 #[.val (.ref x0), .val (.int x1)] [] := by first | (simp [entryFrame, mkF, argsToLocals, Value.category]; done) | rfl
theorem d11_0 : decode prog_46_method_6_code 0 = .ok (.aload_n 0, 1) := by decide +kernel
theorem d11_1 : decode prog_46_method_6_code 1 = .ok (.iload_n 1, 1) := by decide +kernel
theorem d11_2 : decode prog_46_method_6_code 2 = .ok (.invokevirtual 31, 3) := by decide +kernel
theorem d11_5 : decode prog_46_method_6_code 5 = .ok (.aload_n 0, 1) := by decide +kernel
theorem d11_6 : decode prog_46_method_6_code 6 = .ok (.getfield 9, 3) := by decide +kernel
theorem d11_9 : decode prog_46_method_6_code 9 = .ok (.iload_n 1, 1) := by decide +kernel
theorem d11_10 : decode prog_46_method_6_code 10 = .ok (.aconst_null, 1) := by decide +kernel
theorem d11_11 : decode prog_46_method_6_code 11 = .ok (.aastore, 1) := by decide +kernel
theorem d11_12 : decode prog_46_method_6_code 12 = .ok (.aload_n 0, 1) := by decide +kernel
theorem d11_13 : decode prog_46_method_6_code 13 = .ok (.getfield 13, 3) := by decide +kernel
theorem d11_16 : decode prog_46_method_6_code 16 = .ok (.iload_n 1, 1) := by decide +kernel
theorem d11_17 : decode prog_46_method_6_code 17 = .ok (.iconst 4, 1) := by decide +kernel
theorem d11_18 : decode prog_46_method_6_code 18 = .ok (.imul, 1) := by decide +kernel
theorem d11_19 : decode prog_46_method_6_code 19 = .ok (.iconst 0, 1) := by decide +kernel
theorem d11_20 : decode prog_46_method_6_code 20 = .ok (.iadd, 1) := by decide +kernel
theorem d11_21 : decode prog_46_method_6_code 21 = .ok (.aload_n 0, 1) := by decide +kernel
theorem d11_22 : decode prog_46_method_6_code 22 = .ok (.getfield 17, 3) := by decide +kernel
theorem d11_25 : decode prog_46_method_6_code 25 = .ok (.iastore, 1) := by decide +kernel
theorem d11_26 : decode prog_46_method_6_code 26 = .ok (.aload_n 0, 1) := by decide +kernel
theorem d11_27 : decode prog_46_method_6_code 27 = .ok (.getfield 13, 3) := by decide +kernel
theorem d11_30 : decode prog_46_method_6_code 30 = .ok (.iload_n 1, 1) := by decide +kernel
theorem d11_31 : decode prog_46_method_6_code 31 = .ok (.iconst 4, 1) := by decide +kernel
theorem d11_32 : decode prog_46_method_6_code 32 = .ok (.imul, 1) := by decide +kernel
theorem d11_33 : decode prog_46_method_6_code 33 = .ok (.iconst 1, 1) := by decide +kernel
theorem d11_34 : decode prog_46_method_6_code 34 = .ok (.iadd, 1) := by decide +kernel
theorem d11_35 : decode prog_46_method_6_code 35 = .ok (.iconst (-1), 1) := by decide +kernel
theorem d11_36 : decode prog_46_method_6_code 36 = .ok (.iastore, 1) := by decide +kernel
theorem d11_37 : decode prog_46_method_6_code 37 = .ok (.aload_n 0, 1) := by decide +kernel
theorem d11_38 : decode prog_46_method_6_code 38 = .ok (.iload_n 1, 1) := by decide +kernel
theorem d11_39 : decode prog_46_method_6_code 39 = .ok (.putfield 17, 3) := by decide +kernel
theorem d11_42 : decode prog_46_method_6_code 42 = .ok (.return_, 1) := by decide +kernel
def Q_rmRem (Z : State) (u : Nat) (li : Nat) (kl : ClassId) (vs : List Value) (en : Nat) (ke : ClassId) (es : List Value) (pz : Int32) (fr : Int32) (i : Nat) (t : Nat) (a : Int32) (b : Int32) (k : Nat) (q : Nat) (h0 : Heap) (n0 : Nat) (v : Option Value) (h : Heap) (L : List Loc) : Prop := v = none ∧ Fr n0 L ∧ Keep h0 h [u, li, en] ∧ Exa Z h u "com/example/terrace/terrace/core/UseOrder" ∧ Fld Z h u "com/example/terrace/terrace/core/UseOrder" "links" "[I" (.ref li) ∧ Fld Z h u "com/example/terrace/terrace/core/UseOrder" "entries" "[Ljava/lang/Object;" (.ref en) ∧ Fld Z h u "com/example/terrace/terrace/core/UseOrder" "free" "I" (.int pz) ∧ Arv Z h li kl .int (64 : Int32) (own_rm i pz fr (own_un k q a b vs)) (.int (0 : Int32)) ∧ Arv Z h en ke (.object "java/lang/Object") (16 : Int32) (es.set t .null) .null
set_option maxRecDepth 65536 in
set_option maxHeartbeats 40000000 in
theorem rmRem (l : Launch) (Z : State) (a0 : Array Value) (hw : ∀ d ∈ tables_1, d.before a0 Z = true) (ws : List Jvm.Cond) (u : Nat) (li : Nat) (kl : ClassId) (vs : List Value) (en : Nat) (ke : ClassId) (es : List Value) (pz : Int32) (fr : Int32) (i : Nat) (t : Nat) (a : Int32) (b : Int32) (k : Nat) (q : Nat) (h0 : Heap) (n0 : Nat) (Z0 : n0 ≤ h0.size) (Fl : Fld Z h0 u "com/example/terrace/terrace/core/UseOrder" "links" "[I" (.ref li)) (Vl : Arv Z h0 li kl .int (64 : Int32) vs (.int (0 : Int32))) (hlen : vs.length = 64) (ib_q0 : ¬ ((pz * (4 : Int32)) + (0 : Int32)) < 0 ∧ ((pz * (4 : Int32)) + (0 : Int32)) < (64 : Int32)) (ib_q1 : ¬ ((pz * (4 : Int32)) + (1 : Int32)) < 0 ∧ ((pz * (4 : Int32)) + (1 : Int32)) < (64 : Int32)) (hav : vs.getD ((pz * (4 : Int32)) + (0 : Int32)).toNatClampNeg (.int (0 : Int32)) = .int a) (hbv : vs.getD ((pz * (4 : Int32)) + (1 : Int32)).toNatClampNeg (.int (0 : Int32)) = .int b) (ib_a1 : ¬ ((a * (4 : Int32)) + (1 : Int32)) < 0 ∧ ((a * (4 : Int32)) + (1 : Int32)) < (64 : Int32)) (ip_a1 : ((a * (4 : Int32)) + (1 : Int32)).toNatClampNeg = k) (ib_b0 : ¬ ((b * (4 : Int32)) + (0 : Int32)) < 0 ∧ ((b * (4 : Int32)) + (0 : Int32)) < (64 : Int32)) (ip_b0 : ((b * (4 : Int32)) + (0 : Int32)).toNatClampNeg = q) (bk : k < 64) (bq : q < 64) (gl : n0 ≤ li) (nul : u ≠ li) (Eu : Exa Z h0 u "com/example/terrace/terrace/core/UseOrder") (Fe : Fld Z h0 u "com/example/terrace/terrace/core/UseOrder" "entries" "[Ljava/lang/Object;" (.ref en)) (Ve : Arv Z h0 en ke (.object "java/lang/Object") (16 : Int32) es .null) (hlenE : es.length = 16) (ge : n0 ≤ en) (gu : n0 ≤ u) (Ff : Fld Z h0 u "com/example/terrace/terrace/core/UseOrder" "free" "I" (.int fr)) (nel : en ≠ li) (nue : u ≠ en) (ib_p0 : ¬ ((pz * (4 : Int32)) + (0 : Int32)) < 0 ∧ ((pz * (4 : Int32)) + (0 : Int32)) < (64 : Int32)) (ip_p0 : ((pz * (4 : Int32)) + (0 : Int32)).toNatClampNeg = i) (ib_p1 : ¬ ((pz * (4 : Int32)) + (1 : Int32)) < 0 ∧ ((pz * (4 : Int32)) + (1 : Int32)) < (64 : Int32)) (ip_p1 : ((pz * (4 : Int32)) + (1 : Int32)).toNatClampNeg = (i + 1)) (ib_p : ¬ pz < 0 ∧ pz < (16 : Int32)) (ip_p : pz.toNatClampNeg = t) (bi : i + 1 < 64) (bt : t < 16) :
    MetFree l (⟨"com/example/terrace/terrace/core/UseOrder", "remove", "(I)V"⟩ : MethodName) (head1 (Jvm.Cond.code (⟨"com/example/terrace/terrace/core/UseOrder", "remove", "(I)V"⟩ : MethodName) prog_46_method_6_code 2 none :: ws) ({ frames := 1, cells := 0, slots := 0, locals := 15 } : Room)) (fun a U => a = #[(.ref u), (.int pz)] ∧ Z.Warmed39 U.vm ∧ U.heap = h0) (fun _ _ _ _ _ => True) (fun _ U o U' => ∃ v L, o = .returned v ∧ Q_rmRem Z u li kl vs en ke es pz fr i t a b k q h0 n0 v U'.heap L ∧ FrameEnd U o U' L ({ frames := 1, cells := 0, slots := 0, locals := 15 } : Room).cells ({ frames := 1, cells := 0, slots := 0, locals := 15 } : Room).slots) := by
  have hw_13 := hw _ (List.mem_of_getElem? (i := 13) rfl)
  have hw_14 := hw _ (List.mem_of_getElem? (i := 14) rfl)
  have hw_23 := hw _ (List.mem_of_getElem? (i := 23) rfl)
  have hw_24 := hw _ (List.mem_of_getElem? (i := 24) rfl)
  have hw_25 := hw _ (List.mem_of_getElem? (i := 25) rfl)
  have hw_26 := hw _ (List.mem_of_getElem? (i := 26) rfl)
  have hw_27 := hw _ (List.mem_of_getElem? (i := 27) rfl)
  have hw_28 := hw _ (List.mem_of_getElem? (i := 28) rfl)
  have hw_46 := hw _ (List.mem_of_getElem? (i := 46) rfl)
  have hw_47 := hw _ (List.mem_of_getElem? (i := 47) rfl)
  have hw_48 := hw _ (List.mem_of_getElem? (i := 48) rfl)
  have hw_49 := hw _ (List.mem_of_getElem? (i := 49) rfl)
  refine MetFree.of_bodySF (plainFor_of_name pn_UseOrder) hisR ?_
  intro p e s m args below meth c s₁ Bd hml0 hP hK
  obtain ⟨rfl, hZ, hh⟩ := hP
  have hx := Bd.exec
  have hby := Bd.bytes
  have hml : c.maxLocals = 2 := hml0
  have hown : s.vm.findClass "com/example/terrace/terrace/core/UseOrder" = some m.cls := findClass_of_methodNamed Bd.named
  have hnm := (name_of_methodNamed Bd.named Bd.method).1
  have X0 : Stand p l e ({ frames := 1, cells := 0, slots := 0, locals := 15 } : Room) s m #[(.ref u), (.int pz)] below meth c s₁ [] 0 0 := Stand.of_body Bd
  have e0 : s₁.heap = h0 := by rw [← hh, Bd.state]; rfl
  have N0 := Fr.nil n0
  have pre0 : ∀ t_, Steps p.tables e below (s₁.setTop (mkF m 0 #[.val (.ref u), .val (.int pz)] [])) t_ → Steps p.tables e below (s₁.setTop (entryFrame m #[(.ref u), (.int pz)] 2)) t_ := fun t_ k_ => castTop (ef_11 m u pz) k_
  have K0 : Keep h0 h0 [u, li, en] := Keep.refl h0 _
  obtain ⟨cq1, q1, q1'⟩ := Eu.cell
  obtain ⟨_, _, ⟨T1, L1, k1, n1⟩, -, X1, ⟨Lc1, hQ1, l1, y1, z1⟩, st1⟩ := X0.privateBack hx (y := (⟨"com/example/terrace/terrace/core/UseOrder", "unlink", "(I)V"⟩ : MethodName)) hown (mvT hZ hw_46) (mvT hZ hw_47) (own_sel hZ hw_13 hw_48 hw_47 (by decide)) (Cond.privateMethod_at (mvP hZ hw_48 (args := #[]))) (mvT hZ hw_49) (by decide) (backOf (W := 0) (rmUn l Z a0 hw [] u li kl vs pz a b k q h0 n0 Z0 Fl Vl (by simp [own_lk, own_un, List.length_set, hlen]) ib_q0 ib_q1 hav hbv ib_a1 ip_a1 ib_b0 ip_b0 bk bq (by omega) (show u ≠ li by omega)) hZ hw_49 hw_14 (by decide) (by decide)) (g := (mkF m 2 #[.val (.ref u), .val (.int pz)] [(.int pz), (.ref u)])) rfl (by rw [hml]; rfl) (Steps.refl _) (a := u) (by rw [e0]; exact q1) q1' (argsL := [(.int pz)]) (rest := []) (lenOf pd_0 rfl) rfl (by show 2 * 0 + _ ≤ _; exact Nat.le_of_eq rfl) (hb hby d11_2) (fun _ _ => ⟨rfl, e0, (by decide : 0 + 0 ≤ _), (by decide : 0 + 0 ≤ _)⟩)
  dsimp only [Pt.U, Pt.locs, Pt.cells, Pt.slots] at X1 l1 y1 z1 st1 hQ1
  subst l1 y1 z1
  obtain ⟨rfl, N1q, Kc1, Vc1⟩ := hQ1
  have N1 := Fr.app N0 N1q
  have sz1 : h0.size ≤ T1.heap.size := Kc1.1
  have Z1 : n0 ≤ T1.heap.size := Nat.le_trans Z0 sz1
  have K1 : Keep h0 T1.heap [u, li, en] := K0.trans Kc1 (allS (Or.inl (by simp)) all0)
  have f2 := (Fe.keep Kc1 (ninS (show u ≠ li by omega) nin0))
  obtain ⟨T3, X3, e3, st3⟩ := getF X1 hx hZ hown (host := "") (Or.inl hw_23) Via.refl rfl f2 (g := (mkF m 6 #[.val (.ref u), .val (.int pz)] [(.ref u)])) rfl rfl (hb hby d11_6)
  have f4 := (Ve.keep Kc1 (ninS (show en ≠ li by omega) nin0))
  obtain ⟨cl5, Ar5, q5, S5, M5, H5, G5⟩ := f4
  have hin5 : ¬ (pz < 0 ∨ cl5.slots.size ≤ (pz).toNatClampNeg) := inb_of S5 ib_p
  obtain ⟨T6, h6, X6, e6, W6, st6⟩ := stR X3 hx hZ e3 Ar5 (j := pz) hin5 rfl (Or.inl rfl) (g := (mkF m 11 #[.val (.ref u), .val (.int pz)] [.null, (.int pz), (.ref en)])) rfl rfl (hb hby d11_11)
  have V6 : Arv Z h6 en ke (.object "java/lang/Object") (16 : Int32) (es.set t .null) .null := Arv.set Ar5 q5 S5 M5 H5 G5 rfl W6 t ip_p (by have q_ : es.length = 16 := (by simp [hlenE]); omega)
  have N6 := Fr.snoc X6 N1 (show n0 ≤ en by omega)
  have sz6 : T1.heap.size ≤ h6.size := Nat.le_of_eq W6.size.symm
  have Z6 : n0 ≤ h6.size := Nat.le_trans Z1 sz6
  have K6 : Keep h0 h6 [u, li, en] := K1.wr W6 (Or.inl (by simp))
  have f7 := (Fl.keep Kc1 (ninS (show u ≠ li by omega) nin0))
  have f8 := (f7.other W6 (Or.inl (show u ≠ en by omega)))
  obtain ⟨T9, X9, e9, st9⟩ := getF X6 hx hZ hown (host := "") (Or.inl hw_25) Via.refl e6 f8 (g := (mkF m 13 #[.val (.ref u), .val (.int pz)] [(.ref u)])) rfl rfl (hb hby d11_13)
  have f10 := (Ff.keep Kc1 (ninS (show u ≠ li by omega) nin0))
  have f11 := (f10.other W6 (Or.inl (show u ≠ en by omega)))
  obtain ⟨T12, X12, e12, st12⟩ := getF X9 hx hZ hown (host := "") (Or.inl hw_27) Via.refl e9 f11 (g := (mkF m 22 #[.val (.ref u), .val (.int pz)] [(.ref u), (.int ((pz * (4 : Int32)) + (0 : Int32))), (.ref li)])) rfl rfl (hb hby d11_22)
  have f13 := (Vc1.other W6 (show li ≠ en by omega))
  obtain ⟨cl14, Ar14, q14, S14, M14, H14, G14⟩ := f13
  have hin14 : ¬ (((pz * (4 : Int32)) + (0 : Int32)) < 0 ∨ cl14.slots.size ≤ (((pz * (4 : Int32)) + (0 : Int32))).toNatClampNeg) := inb_of S14 ib_p0
  obtain ⟨T15, h15, X15, e15, W15, st15⟩ := stI X12 hx hZ e12 Ar14 (j := ((pz * (4 : Int32)) + (0 : Int32))) hin14 (g := (mkF m 25 #[.val (.ref u), .val (.int pz)] [(.int fr), (.int ((pz * (4 : Int32)) + (0 : Int32))), (.ref li)])) rfl rfl (hb hby d11_25)
  have V15 : Arv Z h15 li kl .int (64 : Int32) ((own_un k q a b vs).set i (.int fr)) (.int (0 : Int32)) := Arv.set Ar14 q14 S14 M14 H14 G14 rfl W15 i ip_p0 (by have q_ : (own_un k q a b vs).length = 64 := (by simp [hlen, own_un, own_lk]); omega)
  have N15 := Fr.snoc X15 N6 (show n0 ≤ li by omega)
  have sz15 : h6.size ≤ h15.size := Nat.le_of_eq W15.size.symm
  have Z15 : n0 ≤ h15.size := Nat.le_trans Z6 sz15
  have K15 : Keep h0 h15 [u, li, en] := K6.wr W15 (Or.inl (by simp))
  have f16 := (f8.other W15 (Or.inl (show u ≠ li by omega)))
  obtain ⟨T17, X17, e17, st17⟩ := getF X15 hx hZ hown (host := "") (Or.inl hw_25) Via.refl e15 f16 (g := (mkF m 27 #[.val (.ref u), .val (.int pz)] [(.ref u)])) rfl rfl (hb hby d11_27)
  obtain ⟨cl18, Ar18, q18, S18, M18, H18, G18⟩ := V15
  have hin18 : ¬ (((pz * (4 : Int32)) + (1 : Int32)) < 0 ∨ cl18.slots.size ≤ (((pz * (4 : Int32)) + (1 : Int32))).toNatClampNeg) := inb_of S18 ib_p1
  obtain ⟨T19, h19, X19, e19, W19, st19⟩ := stI X17 hx hZ e17 Ar18 (j := ((pz * (4 : Int32)) + (1 : Int32))) hin18 (g := (mkF m 36 #[.val (.ref u), .val (.int pz)] [(.int (-1 : Int32)), (.int ((pz * (4 : Int32)) + (1 : Int32))), (.ref li)])) rfl rfl (hb hby d11_36)
  have V19 : Arv Z h19 li kl .int (64 : Int32) (((own_un k q a b vs).set i (.int fr)).set (i + 1) (.int (-1 : Int32))) (.int (0 : Int32)) := Arv.set Ar18 q18 S18 M18 H18 G18 rfl W19 (i + 1) ip_p1 (by have q_ : ((own_un k q a b vs).set i (.int fr)).length = 64 := (by simp [hlen, own_un, own_lk]); omega)
  have N19 := Fr.snoc X19 N15 (show n0 ≤ li by omega)
  have sz19 : h15.size ≤ h19.size := Nat.le_of_eq W19.size.symm
  have Z19 : n0 ≤ h19.size := Nat.le_trans Z15 sz19
  have K19 : Keep h0 h19 [u, li, en] := K15.wr W19 (Or.inl (by simp))
  have f20 := (f11.other W15 (Or.inl (show u ≠ li by omega)))
  have f21 := (f20.other W19 (Or.inl (show u ≠ li by omega)))
  have f22 := (Eu.keep Kc1)
  have f23 := (f22.wr W6)
  have f24 := (f23.wr W15)
  have f25 := (f24.wr W19)
  obtain ⟨T26, h26, X26, e26, W26, st26⟩ := putF X19 hx hZ hown (host := "") (Or.inl hw_27) Via.refl e19 f21 f25 (Or.inl hw_28) hw_13 (ty := .int) (by decide) rfl rfl (g := (mkF m 39 #[.val (.ref u), .val (.int pz)] [(.int pz), (.ref u)])) rfl rfl (hb hby d11_39)
  have Fw26 := f21.same W26
  have N26 := Fr.snoc X26 N19 (show n0 ≤ u by omega)
  have sz26 : h19.size ≤ h26.size := Nat.le_of_eq W26.size.symm
  have Z26 : n0 ≤ h26.size := Nat.le_trans Z19 sz26
  have K26 : Keep h0 h26 [u, li, en] := K19.wr W26 (Or.inl (by simp))
  have go27 : ∀ t_, Steps p.tables e below (T26.setTop (mkF m 42 #[.val (.ref u), .val (.int pz)] [])) t_ → Steps p.tables e below (s₁.setTop (entryFrame m #[(.ref u), (.int pz)] 2)) t_ := by
    intro t_ k_
    refine pre0 t_ ?_
    show Steps p.tables e below (s₁.setTop (mkF m 0 #[.val (.ref u), .val (.int pz)] [])) _
    refine XS.aloadN X0.here hx rfl (hb hby d11_0) rfl rfl ?_
    show Steps p.tables e below (s₁.setTop (mkF m 1 #[.val (.ref u), .val (.int pz)] [(.ref u)])) _
    refine XS.iloadN X0.here hx rfl (hb hby d11_1) rfl ?_
    show Steps p.tables e below (s₁.setTop (mkF m 2 #[.val (.ref u), .val (.int pz)] [(.int pz), (.ref u)])) _
    refine st1.trans ?_
    show Steps p.tables e below (T1.setTop (mkF m 5 #[.val (.ref u), .val (.int pz)] [])) _
    refine XS.aloadN X1.here hx rfl (hb hby d11_5) rfl rfl ?_
    show Steps p.tables e below (T1.setTop (mkF m 6 #[.val (.ref u), .val (.int pz)] [(.ref u)])) _
    refine st3 _ ?_
    show Steps p.tables e below (T3.setTop (mkF m 9 #[.val (.ref u), .val (.int pz)] [(.ref en)])) _
    refine XS.iloadN X3.here hx rfl (hb hby d11_9) rfl ?_
    show Steps p.tables e below (T3.setTop (mkF m 10 #[.val (.ref u), .val (.int pz)] [(.int pz), (.ref en)])) _
    refine XS.aconstNull X3.here hx rfl (hb hby d11_10) ?_
    show Steps p.tables e below (T3.setTop (mkF m 11 #[.val (.ref u), .val (.int pz)] [.null, (.int pz), (.ref en)])) _
    refine st6 _ ?_
    show Steps p.tables e below (T6.setTop (mkF m 12 #[.val (.ref u), .val (.int pz)] [])) _
    refine XS.aloadN X6.here hx rfl (hb hby d11_12) rfl rfl ?_
    show Steps p.tables e below (T6.setTop (mkF m 13 #[.val (.ref u), .val (.int pz)] [(.ref u)])) _
    refine st9 _ ?_
    show Steps p.tables e below (T9.setTop (mkF m 16 #[.val (.ref u), .val (.int pz)] [(.ref li)])) _
    refine XS.iloadN X9.here hx rfl (hb hby d11_16) rfl ?_
    show Steps p.tables e below (T9.setTop (mkF m 17 #[.val (.ref u), .val (.int pz)] [(.int pz), (.ref li)])) _
    refine XS.iconst X9.here hx rfl (hb hby d11_17) ?_
    show Steps p.tables e below (T9.setTop (mkF m 18 #[.val (.ref u), .val (.int pz)] [(.int (4 : Int32)), (.int pz), (.ref li)])) _
    refine XS.imul X9.here hx rfl (hb hby d11_18) rfl ?_
    show Steps p.tables e below (T9.setTop (mkF m 19 #[.val (.ref u), .val (.int pz)] [(.int (pz * (4 : Int32))), (.ref li)])) _
    refine XS.iconst X9.here hx rfl (hb hby d11_19) ?_
    show Steps p.tables e below (T9.setTop (mkF m 20 #[.val (.ref u), .val (.int pz)] [(.int (0 : Int32)), (.int (pz * (4 : Int32))), (.ref li)])) _
    refine XS.iadd X9.here hx rfl (hb hby d11_20) rfl ?_
    show Steps p.tables e below (T9.setTop (mkF m 21 #[.val (.ref u), .val (.int pz)] [(.int ((pz * (4 : Int32)) + (0 : Int32))), (.ref li)])) _
    refine XS.aloadN X9.here hx rfl (hb hby d11_21) rfl rfl ?_
    show Steps p.tables e below (T9.setTop (mkF m 22 #[.val (.ref u), .val (.int pz)] [(.ref u), (.int ((pz * (4 : Int32)) + (0 : Int32))), (.ref li)])) _
    refine st12 _ ?_
    show Steps p.tables e below (T12.setTop (mkF m 25 #[.val (.ref u), .val (.int pz)] [(.int fr), (.int ((pz * (4 : Int32)) + (0 : Int32))), (.ref li)])) _
    refine st15 _ ?_
    show Steps p.tables e below (T15.setTop (mkF m 26 #[.val (.ref u), .val (.int pz)] [])) _
    refine XS.aloadN X15.here hx rfl (hb hby d11_26) rfl rfl ?_
    show Steps p.tables e below (T15.setTop (mkF m 27 #[.val (.ref u), .val (.int pz)] [(.ref u)])) _
    refine st17 _ ?_
    show Steps p.tables e below (T17.setTop (mkF m 30 #[.val (.ref u), .val (.int pz)] [(.ref li)])) _
    refine XS.iloadN X17.here hx rfl (hb hby d11_30) rfl ?_
    show Steps p.tables e below (T17.setTop (mkF m 31 #[.val (.ref u), .val (.int pz)] [(.int pz), (.ref li)])) _
    refine XS.iconst X17.here hx rfl (hb hby d11_31) ?_
    show Steps p.tables e below (T17.setTop (mkF m 32 #[.val (.ref u), .val (.int pz)] [(.int (4 : Int32)), (.int pz), (.ref li)])) _
    refine XS.imul X17.here hx rfl (hb hby d11_32) rfl ?_
    show Steps p.tables e below (T17.setTop (mkF m 33 #[.val (.ref u), .val (.int pz)] [(.int (pz * (4 : Int32))), (.ref li)])) _
    refine XS.iconst X17.here hx rfl (hb hby d11_33) ?_
    show Steps p.tables e below (T17.setTop (mkF m 34 #[.val (.ref u), .val (.int pz)] [(.int (1 : Int32)), (.int (pz * (4 : Int32))), (.ref li)])) _
    refine XS.iadd X17.here hx rfl (hb hby d11_34) rfl ?_
    show Steps p.tables e below (T17.setTop (mkF m 35 #[.val (.ref u), .val (.int pz)] [(.int ((pz * (4 : Int32)) + (1 : Int32))), (.ref li)])) _
    refine XS.iconst X17.here hx rfl (hb hby d11_35) ?_
    show Steps p.tables e below (T17.setTop (mkF m 36 #[.val (.ref u), .val (.int pz)] [(.int (-1 : Int32)), (.int ((pz * (4 : Int32)) + (1 : Int32))), (.ref li)])) _
    refine st19 _ ?_
    show Steps p.tables e below (T19.setTop (mkF m 37 #[.val (.ref u), .val (.int pz)] [])) _
    refine XS.aloadN X19.here hx rfl (hb hby d11_37) rfl rfl ?_
    show Steps p.tables e below (T19.setTop (mkF m 38 #[.val (.ref u), .val (.int pz)] [(.ref u)])) _
    refine XS.iloadN X19.here hx rfl (hb hby d11_38) rfl ?_
    show Steps p.tables e below (T19.setTop (mkF m 39 #[.val (.ref u), .val (.int pz)] [(.int pz), (.ref u)])) _
    refine st26 _ ?_
    exact k_
  obtain ⟨fs, hr, hrun, hended, hW, hsame⟩ := X26.leave (v := none) (fun _ => rfl)
  have f28 := (f25.wr W26)
  have f29 := (f16.other W19 (Or.inl (show u ≠ li by omega)))
  have f30 := (f29.other W26 (Or.inr (slot_ne (Or.inl hw_26) (Or.inl hw_28) (by decide) (t := (.array .int)) (t' := .int) (by decide) (by decide))))
  have f31 := (f2.other W6 (Or.inl (show u ≠ en by omega)))
  have f32 := (f31.other W15 (Or.inl (show u ≠ li by omega)))
  have f33 := (f32.other W19 (Or.inl (show u ≠ li by omega)))
  have f34 := (f33.other W26 (Or.inr (slot_ne (Or.inl hw_24) (Or.inl hw_28) (by decide) (t := (.array (.object "java/lang/Object"))) (t' := .int) (by decide) (by decide))))
  have f35 := (V19.other W26 (show li ≠ u by omega))
  have f36 := (V6.other W15 (show en ≠ li by omega))
  have f37 := (f36.other W19 (show en ≠ li by omega))
  have f38 := (f37.other W26 (show en ≠ u by omega))
  refine ⟨_, _, go27 _ ?_, hrun, hended, _, _, rfl, ?_, ⟨_, rfl⟩, hW, hsame.mono (by decide) (by decide)⟩
  · skip
    show Steps p.tables e below (T26.setTop (mkF m 42 #[.val (.ref u), .val (.int pz)] [])) _
    exact X26.returnOut hx Bd.returns (hb hby d11_42) hr
  · show Q_rmRem Z u li kl vs en ke es pz fr i t a b k q h0 n0 _ T26.heap _
    rw [e26]
    exact ⟨rfl, N26, K26, f28, f30, f34, Fw26, f35, f38⟩
theorem ef_4 (m : MethodId) (x0 : Addr) (x1 : Addr) (x2 : Int32) : entryFrame m #[(.ref x0), (.ref x1), (.int x2)] 4 = mkF m 0 #[.val (.ref x0), .val (.ref x1), .val (.int x2), .unset] [] := by first | (simp [entryFrame, mkF, argsToLocals, Value.category]; done) | rfl
theorem d4_0 : decode prog_46_method_2_code 0 = .ok (.aload_n 0, 1) := by decide +kernel
theorem d4_1 : decode prog_46_method_2_code 1 = .ok (.getfield 17, 3) := by decide +kernel
theorem d4_4 : decode prog_46_method_2_code 4 = .ok (.ifCond .eq 25, 3) := by decide +kernel
theorem d4_29 : decode prog_46_method_2_code 29 = .ok (.aload_n 0, 1) := by decide +kernel
theorem d4_30 : decode prog_46_method_2_code 30 = .ok (.getfield 21, 3) := by decide +kernel
theorem d4_33 : decode prog_46_method_2_code 33 = .ok (.iconst 1, 1) := by decide +kernel
theorem d4_34 : decode prog_46_method_2_code 34 = .ok (.iadd, 1) := by decide +kernel
theorem d4_35 : decode prog_46_method_2_code 35 = .ok (.aload_n 0, 1) := by decide +kernel
theorem d4_36 : decode prog_46_method_2_code 36 = .ok (.getfield 9, 3) := by decide +kernel
theorem d4_39 : decode prog_46_method_2_code 39 = .ok (.arraylength, 1) := by decide +kernel
theorem d4_40 : decode prog_46_method_2_code 40 = .ok (.if_icmp .ne 7, 3) := by decide +kernel
theorem d4_47 : decode prog_46_method_2_code 47 = .ok (.aload_n 0, 1) := by decide +kernel
theorem d4_48 : decode prog_46_method_2_code 48 = .ok (.dup, 1) := by decide +kernel
theorem d4_49 : decode prog_46_method_2_code 49 = .ok (.getfield 21, 3) := by decide +kernel
theorem d4_52 : decode prog_46_method_2_code 52 = .ok (.iconst 1, 1) := by decide +kernel
theorem d4_53 : decode prog_46_method_2_code 53 = .ok (.iadd, 1) := by decide +kernel
theorem d4_54 : decode prog_46_method_2_code 54 = .ok (.dup_x1, 1) := by decide +kernel
theorem d4_55 : decode prog_46_method_2_code 55 = .ok (.putfield 21, 3) := by decide +kernel
theorem d4_58 : decode prog_46_method_2_code 58 = .ok (.istore_n 3, 1) := by decide +kernel
theorem d4_59 : decode prog_46_method_2_code 59 = .ok (.aload_n 0, 1) := by decide +kernel
theorem d4_60 : decode prog_46_method_2_code 60 = .ok (.getfield 9, 3) := by decide +kernel
theorem d4_63 : decode prog_46_method_2_code 63 = .ok (.iload_n 3, 1) := by decide +kernel
theorem d4_64 : decode prog_46_method_2_code 64 = .ok (.aload_n 1, 1) := by decide +kernel
theorem d4_65 : decode prog_46_method_2_code 65 = .ok (.aastore, 1) := by decide +kernel
theorem d4_66 : decode prog_46_method_2_code 66 = .ok (.aload_n 0, 1) := by decide +kernel
theorem d4_67 : decode prog_46_method_2_code 67 = .ok (.getfield 13, 3) := by decide +kernel
theorem d4_70 : decode prog_46_method_2_code 70 = .ok (.iload_n 3, 1) := by decide +kernel
theorem d4_71 : decode prog_46_method_2_code 71 = .ok (.iconst 4, 1) := by decide +kernel
theorem d4_72 : decode prog_46_method_2_code 72 = .ok (.imul, 1) := by decide +kernel
theorem d4_73 : decode prog_46_method_2_code 73 = .ok (.iconst 2, 1) := by decide +kernel
theorem d4_74 : decode prog_46_method_2_code 74 = .ok (.iadd, 1) := by decide +kernel
theorem d4_75 : decode prog_46_method_2_code 75 = .ok (.iload_n 2, 1) := by decide +kernel
theorem d4_76 : decode prog_46_method_2_code 76 = .ok (.iastore, 1) := by decide +kernel
theorem d4_77 : decode prog_46_method_2_code 77 = .ok (.aload_n 0, 1) := by decide +kernel
theorem d4_78 : decode prog_46_method_2_code 78 = .ok (.iload_n 3, 1) := by decide +kernel
theorem d4_79 : decode prog_46_method_2_code 79 = .ok (.invokevirtual 27, 3) := by decide +kernel
theorem d4_82 : decode prog_46_method_2_code 82 = .ok (.iload_n 3, 1) := by decide +kernel
theorem d4_83 : decode prog_46_method_2_code 83 = .ok (.ireturn, 1) := by decide +kernel
def Q_rmAdd (Z : State) (u : Nat) (li : Nat) (kl : ClassId) (vs : List Value) (en : Nat) (ke : ClassId) (es : List Value) (w : Nat) (c2 : Int32) (hi : Int32) (i : Nat) (j : Nat) (t : Nat) (h0 : Heap) (n0 : Nat) (v : Option Value) (h : Heap) (L : List Loc) : Prop := v = some (.int (hi + (1 : Int32))) ∧ Fr n0 L ∧ Keep h0 h [u, li, en] ∧ Exa Z h u "com/example/terrace/terrace/core/UseOrder" ∧ Fld Z h u "com/example/terrace/terrace/core/UseOrder" "links" "[I" (.ref li) ∧ Fld Z h u "com/example/terrace/terrace/core/UseOrder" "entries" "[Ljava/lang/Object;" (.ref en) ∧ Fld Z h u "com/example/terrace/terrace/core/UseOrder" "free" "I" (.int (0 : Int32)) ∧ Fld Z h u "com/example/terrace/terrace/core/UseOrder" "highest" "I" (.int (hi + (1 : Int32))) ∧ Arv Z h li kl .int (64 : Int32) (own_lk i j (hi + (1 : Int32)) hi (vs.set (i + 2) (.int c2))) (.int (0 : Int32)) ∧ Arv Z h en ke (.object "java/lang/Object") (16 : Int32) (es.set t (.ref w)) .null
set_option maxRecDepth 65536 in
set_option maxHeartbeats 40000000 in
theorem rmAdd (l : Launch) (Z : State) (a0 : Array Value) (hw : ∀ d ∈ tables_1, d.before a0 Z = true) (ws : List Jvm.Cond) (u : Nat) (li : Nat) (kl : ClassId) (vs : List Value) (en : Nat) (ke : ClassId) (es : List Value) (w : Nat) (c2 : Int32) (hi : Int32) (i : Nat) (j : Nat) (t : Nat) (h0 : Heap) (n0 : Nat) (Z0 : n0 ≤ h0.size) (Fl : Fld Z h0 u "com/example/terrace/terrace/core/UseOrder" "links" "[I" (.ref li)) (Vl : Arv Z h0 li kl .int (64 : Int32) vs (.int (0 : Int32))) (hlen : vs.length = 64) (h0v : vs.getD 0 (.int (0 : Int32)) = .int hi) (gl : n0 ≤ li) (nul : u ≠ li) (Eu : Exa Z h0 u "com/example/terrace/terrace/core/UseOrder") (Fe : Fld Z h0 u "com/example/terrace/terrace/core/UseOrder" "entries" "[Ljava/lang/Object;" (.ref en)) (Ve : Arv Z h0 en ke (.object "java/lang/Object") (16 : Int32) es .null) (hlenE : es.length = 16) (ge : n0 ≤ en) (gu : n0 ≤ u) (Ff : Fld Z h0 u "com/example/terrace/terrace/core/UseOrder" "free" "I" (.int (0 : Int32))) (Fh : Fld Z h0 u "com/example/terrace/terrace/core/UseOrder" "highest" "I" (.int hi)) (Ov : Ovr Z ke "java/lang/Object") (Ew : Exa Z h0 w "java/lang/Integer") (nel : en ≠ li) (nue : u ≠ en) (ib_p0 : ¬ (((hi + (1 : Int32)) * (4 : Int32)) + (0 : Int32)) < 0 ∧ (((hi + (1 : Int32)) * (4 : Int32)) + (0 : Int32)) < (64 : Int32)) (ip_p0 : (((hi + (1 : Int32)) * (4 : Int32)) + (0 : Int32)).toNatClampNeg = i) (ib_p1 : ¬ (((hi + (1 : Int32)) * (4 : Int32)) + (1 : Int32)) < 0 ∧ (((hi + (1 : Int32)) * (4 : Int32)) + (1 : Int32)) < (64 : Int32)) (ip_p1 : (((hi + (1 : Int32)) * (4 : Int32)) + (1 : Int32)).toNatClampNeg = (i + 1)) (ib_p2 : ¬ (((hi + (1 : Int32)) * (4 : Int32)) + (2 : Int32)) < 0 ∧ (((hi + (1 : Int32)) * (4 : Int32)) + (2 : Int32)) < (64 : Int32)) (ip_p2 : (((hi + (1 : Int32)) * (4 : Int32)) + (2 : Int32)).toNatClampNeg = (i + 2)) (ib_n1 : ¬ ((hi * (4 : Int32)) + (1 : Int32)) < 0 ∧ ((hi * (4 : Int32)) + (1 : Int32)) < (64 : Int32)) (ip_n1 : ((hi * (4 : Int32)) + (1 : Int32)).toNatClampNeg = j) (ib_p : ¬ (hi + (1 : Int32)) < 0 ∧ (hi + (1 : Int32)) < (16 : Int32)) (ip_p : (hi + (1 : Int32)).toNatClampNeg = t) (bi : i + 2 < 64) (bj : j < 64) (bt : t < 16) (hfull : ¬ ((hi + (1 : Int32)) = (16 : Int32))) :
    MetFree l (⟨"com/example/terrace/terrace/core/UseOrder", "add", "(Ljava/lang/Object;I)I"⟩ : MethodName) (head1 (Jvm.Cond.code (⟨"com/example/terrace/terrace/core/UseOrder", "add", "(Ljava/lang/Object;I)I"⟩ : MethodName) prog_46_method_2_code 4 (some .int) :: ws) ({ frames := 1, cells := 0, slots := 0, locals := 14 } : Room)) (fun a U => a = #[(.ref u), (.ref w), (.int c2)] ∧ Z.Warmed39 U.vm ∧ U.heap = h0) (fun _ _ _ _ _ => True) (fun _ U o U' => ∃ v L, o = .returned v ∧ Q_rmAdd Z u li kl vs en ke es w c2 hi i j t h0 n0 v U'.heap L ∧ FrameEnd U o U' L ({ frames := 1, cells := 0, slots := 0, locals := 14 } : Room).cells ({ frames := 1, cells := 0, slots := 0, locals := 14 } : Room).slots) := by
  have hw_13 := hw _ (List.mem_of_getElem? (i := 13) rfl)
  have hw_14 := hw _ (List.mem_of_getElem? (i := 14) rfl)
  have hw_23 := hw _ (List.mem_of_getElem? (i := 23) rfl)
  have hw_24 := hw _ (List.mem_of_getElem? (i := 24) rfl)
  have hw_25 := hw _ (List.mem_of_getElem? (i := 25) rfl)
  have hw_26 := hw _ (List.mem_of_getElem? (i := 26) rfl)
  have hw_27 := hw _ (List.mem_of_getElem? (i := 27) rfl)
  have hw_28 := hw _ (List.mem_of_getElem? (i := 28) rfl)
  have hw_29 := hw _ (List.mem_of_getElem? (i := 29) rfl)
  have hw_30 := hw _ (List.mem_of_getElem? (i := 30) rfl)
  have hw_36 := hw _ (List.mem_of_getElem? (i := 36) rfl)
  have hw_37 := hw _ (List.mem_of_getElem? (i := 37) rfl)
  have hw_38 := hw _ (List.mem_of_getElem? (i := 38) rfl)
  have hw_39 := hw _ (List.mem_of_getElem? (i := 39) rfl)
  have hw_40 := hw _ (List.mem_of_getElem? (i := 40) rfl)
  refine MetFree.of_bodySF (plainFor_of_name pn_UseOrder) hisR ?_
  intro p e s m args below meth c s₁ Bd hml0 hP hK
  obtain ⟨rfl, hZ, hh⟩ := hP
  have hx := Bd.exec
  have hby := Bd.bytes
  have hml : c.maxLocals = 4 := hml0
  have hown : s.vm.findClass "com/example/terrace/terrace/core/UseOrder" = some m.cls := findClass_of_methodNamed Bd.named
  have hnm := (name_of_methodNamed Bd.named Bd.method).1
  have X0 : Stand p l e ({ frames := 1, cells := 0, slots := 0, locals := 14 } : Room) s m #[(.ref u), (.ref w), (.int c2)] below meth c s₁ [] 0 0 := Stand.of_body Bd
  have e0 : s₁.heap = h0 := by rw [← hh, Bd.state]; rfl
  have N0 := Fr.nil n0
  have pre0 : ∀ t_, Steps p.tables e below (s₁.setTop (mkF m 0 #[.val (.ref u), .val (.ref w), .val (.int c2), .unset] [])) t_ → Steps p.tables e below (s₁.setTop (entryFrame m #[(.ref u), (.ref w), (.int c2)] 4)) t_ := fun t_ k_ => castTop (ef_4 m u w c2) k_
  have K0 : Keep h0 h0 [u, li, en] := Keep.refl h0 _
  obtain ⟨T1, X1, e1, st1⟩ := getF X0 hx hZ hown (host := "") (Or.inl hw_27) Via.refl e0 Ff (g := (mkF m 1 #[.val (.ref u), .val (.ref w), .val (.int c2), .unset] [(.ref u)])) rfl rfl (hb hby d4_1)
  obtain ⟨T2, X2, e2, st2⟩ := getF X1 hx hZ hown (host := "") (Or.inl hw_29) Via.refl e1 Fh (g := (mkF m 30 #[.val (.ref u), .val (.ref w), .val (.int c2), .unset] [(.ref u)])) rfl rfl (hb hby d4_30)
  obtain ⟨T3, X3, e3, st3⟩ := getF X2 hx hZ hown (host := "") (Or.inl hw_23) Via.refl e2 Fe (g := (mkF m 36 #[.val (.ref u), .val (.ref w), .val (.int c2), .unset] [(.ref u), (.int (hi + (1 : Int32)))])) rfl rfl (hb hby d4_36)
  obtain ⟨cl4, Ar4, q4, S4, M4, H4, G4⟩ := Ve
  have f5 : Arv Z h0 en ke (.object "java/lang/Object") (16 : Int32) es .null := ⟨cl4, Ar4, q4, S4, M4, H4, G4⟩
  obtain ⟨T6, X6, e6, st6⟩ := getF X3 hx hZ hown (host := "") (Or.inl hw_29) Via.refl e3 Fh (g := (mkF m 49 #[.val (.ref u), .val (.ref w), .val (.int c2), .unset] [(.ref u), (.ref u)])) rfl rfl (hb hby d4_49)
  obtain ⟨T7, h7, X7, e7, W7, st7⟩ := putF X6 hx hZ hown (host := "") (Or.inl hw_29) Via.refl e6 Fh Eu (Or.inl hw_30) hw_13 (ty := .int) (by decide) rfl rfl (g := (mkF m 55 #[.val (.ref u), .val (.ref w), .val (.int c2), .unset] [(.int (hi + (1 : Int32))), (.ref u), (.int (hi + (1 : Int32)))])) rfl rfl (hb hby d4_55)
  have Fw7 := Fh.same W7
  have N7 := Fr.snoc X7 N0 (show n0 ≤ u by omega)
  have sz7 : h0.size ≤ h7.size := Nat.le_of_eq W7.size.symm
  have Z7 : n0 ≤ h7.size := Nat.le_trans Z0 sz7
  have K7 : Keep h0 h7 [u, li, en] := K0.wr W7 (Or.inl (by simp))
  have f8 := (Fe.other W7 (Or.inr (slot_ne (Or.inl hw_24) (Or.inl hw_30) (by decide) (t := (.array (.object "java/lang/Object"))) (t' := .int) (by decide) (by decide))))
  obtain ⟨T9, X9, e9, st9⟩ := getF X7 hx hZ hown (host := "") (Or.inl hw_23) Via.refl e7 f8 (g := (mkF m 60 #[.val (.ref u), .val (.ref w), .val (.int c2), .val (.int (hi + (1 : Int32)))] [(.ref u)])) rfl rfl (hb hby d4_60)
  have f10 := (f5.other W7 (show en ≠ u by omega))
  have f12 := (Ew.wr W7)
  obtain ⟨cl11, Ar11, q11, S11, M11, H11, G11⟩ := f10
  have hin11 : ¬ ((hi + (1 : Int32)) < 0 ∨ cl11.slots.size ≤ ((hi + (1 : Int32))).toNatClampNeg) := inb_of S11 ib_p
  obtain ⟨T13, h13, X13, e13, W13, st13⟩ := stR X9 hx hZ e9 Ar11 (j := (hi + (1 : Int32))) hin11 rfl (Sto.ofV Ar11 q11 Ov (Ins.of_exa f12 hw_36)) (g := (mkF m 65 #[.val (.ref u), .val (.ref w), .val (.int c2), .val (.int (hi + (1 : Int32)))] [(.ref w), (.int (hi + (1 : Int32))), (.ref en)])) rfl rfl (hb hby d4_65)
  have V13 : Arv Z h13 en ke (.object "java/lang/Object") (16 : Int32) (es.set t (.ref w)) .null := Arv.set Ar11 q11 S11 M11 H11 G11 rfl W13 t ip_p (by have q_ : es.length = 16 := (by simp [hlenE]); omega)
  have N13 := Fr.snoc X13 N7 (show n0 ≤ en by omega)
  have sz13 : h7.size ≤ h13.size := Nat.le_of_eq W13.size.symm
  have Z13 : n0 ≤ h13.size := Nat.le_trans Z7 sz13
  have K13 : Keep h0 h13 [u, li, en] := K7.wr W13 (Or.inl (by simp))
  have f14 := (Fl.other W7 (Or.inr (slot_ne (Or.inl hw_26) (Or.inl hw_30) (by decide) (t := (.array .int)) (t' := .int) (by decide) (by decide))))
  have f15 := (f14.other W13 (Or.inl (show u ≠ en by omega)))
  obtain ⟨T16, X16, e16, st16⟩ := getF X13 hx hZ hown (host := "") (Or.inl hw_25) Via.refl e13 f15 (g := (mkF m 67 #[.val (.ref u), .val (.ref w), .val (.int c2), .val (.int (hi + (1 : Int32)))] [(.ref u)])) rfl rfl (hb hby d4_67)
  have f17 := (Vl.other W7 (show li ≠ u by omega))
  have f18 := (f17.other W13 (show li ≠ en by omega))
  obtain ⟨cl19, Ar19, q19, S19, M19, H19, G19⟩ := f18
  have hin19 : ¬ ((((hi + (1 : Int32)) * (4 : Int32)) + (2 : Int32)) < 0 ∨ cl19.slots.size ≤ ((((hi + (1 : Int32)) * (4 : Int32)) + (2 : Int32))).toNatClampNeg) := inb_of S19 ib_p2
  obtain ⟨T20, h20, X20, e20, W20, st20⟩ := stI X16 hx hZ e16 Ar19 (j := (((hi + (1 : Int32)) * (4 : Int32)) + (2 : Int32))) hin19 (g := (mkF m 76 #[.val (.ref u), .val (.ref w), .val (.int c2), .val (.int (hi + (1 : Int32)))] [(.int c2), (.int (((hi + (1 : Int32)) * (4 : Int32)) + (2 : Int32))), (.ref li)])) rfl rfl (hb hby d4_76)
  have V20 : Arv Z h20 li kl .int (64 : Int32) (vs.set (i + 2) (.int c2)) (.int (0 : Int32)) := Arv.set Ar19 q19 S19 M19 H19 G19 rfl W20 (i + 2) ip_p2 (by have q_ : vs.length = 64 := (by simp [hlen, own_un, own_lk]); omega)
  have N20 := Fr.snoc X20 N13 (show n0 ≤ li by omega)
  have sz20 : h13.size ≤ h20.size := Nat.le_of_eq W20.size.symm
  have Z20 : n0 ≤ h20.size := Nat.le_trans Z13 sz20
  have K20 : Keep h0 h20 [u, li, en] := K13.wr W20 (Or.inl (by simp))
  have f22 := (f15.other W20 (Or.inl (show u ≠ li by omega)))
  have f23 := (Eu.wr W7)
  have f24 := (f23.wr W13)
  have f25 := (f24.wr W20)
  obtain ⟨cq21, q21, q21'⟩ := f25.cell
  obtain ⟨_, _, ⟨T21, L21, k21, n21⟩, -, X21, ⟨Lc21, hQ21, l21, y21, z21⟩, st21⟩ := X20.privateBack hx (y := (⟨"com/example/terrace/terrace/core/UseOrder", "linkAsNewest", "(I)V"⟩ : MethodName)) hown (mvT hZ hw_37) (mvT hZ hw_38) (own_sel hZ hw_13 hw_39 hw_38 (by decide)) (Cond.privateMethod_at (mvP hZ hw_39 (args := #[]))) (mvT hZ hw_40) (by decide) (backOf (W := 0) (rmLk l Z a0 hw [] u li kl (vs.set (i + 2) (.int c2)) (hi + (1 : Int32)) hi i j h20 n0 Z20 f22 V20 (by simp [own_lk, own_un, List.length_set, hlen]) ((own_getS (by omega)).trans h0v) (by omega) (show u ≠ li by omega) ib_p0 ip_p0 ib_p1 ip_p1 ib_n1 ip_n1 (by omega) bj) hZ hw_40 hw_14 (by decide) (by decide)) (g := (mkF m 79 #[.val (.ref u), .val (.ref w), .val (.int c2), .val (.int (hi + (1 : Int32)))] [(.int (hi + (1 : Int32))), (.ref u)])) rfl (by rw [hml]; rfl) (Steps.refl _) (a := u) (by rw [e20]; exact q21) q21' (argsL := [(.int (hi + (1 : Int32)))]) (rest := []) (lenOf pd_0 rfl) rfl (by show 2 * 0 + _ ≤ _; exact Nat.le_of_eq rfl) (hb hby d4_79) (fun _ _ => ⟨rfl, e20, (by decide : 0 + 0 ≤ _), (by decide : 0 + 0 ≤ _)⟩)
  dsimp only [Pt.U, Pt.locs, Pt.cells, Pt.slots] at X21 l21 y21 z21 st21 hQ21
  subst l21 y21 z21
  obtain ⟨rfl, N21q, Kc21, Vc21⟩ := hQ21
  have N21 := Fr.app N20 N21q
  have sz21 : h20.size ≤ T21.heap.size := Kc21.1
  have Z21 : n0 ≤ T21.heap.size := Nat.le_trans Z20 sz21
  have K21 : Keep h0 T21.heap [u, li, en] := K20.trans Kc21 (allS (Or.inl (by simp)) all0)
  have go26 : ∀ t_, Steps p.tables e below (T21.setTop (mkF m 83 #[.val (.ref u), .val (.ref w), .val (.int c2), .val (.int (hi + (1 : Int32)))] [(.int (hi + (1 : Int32)))])) t_ → Steps p.tables e below (s₁.setTop (entryFrame m #[(.ref u), (.ref w), (.int c2)] 4)) t_ := by
    intro t_ k_
    refine pre0 t_ ?_
    show Steps p.tables e below (s₁.setTop (mkF m 0 #[.val (.ref u), .val (.ref w), .val (.int c2), .unset] [])) _
    refine XS.aloadN X0.here hx rfl (hb hby d4_0) rfl rfl ?_
    show Steps p.tables e below (s₁.setTop (mkF m 1 #[.val (.ref u), .val (.ref w), .val (.int c2), .unset] [(.ref u)])) _
    refine st1 _ ?_
    show Steps p.tables e below (T1.setTop (mkF m 4 #[.val (.ref u), .val (.ref w), .val (.int c2), .unset] [(.int (0 : Int32))])) _
    refine XS.ifYes X1.here hx rfl (pc0 := 4) (pc' := 29) rfl (hb hby d4_4) rfl ((if0 _ _).trans (teq (by decide : (0 : Int32) = (0 : Int32))).1) (by decide) (by decide) ?_
    show Steps p.tables e below (T1.setTop (mkF m 29 #[.val (.ref u), .val (.ref w), .val (.int c2), .unset] [])) _
    refine XS.aloadN X1.here hx rfl (hb hby d4_29) rfl rfl ?_
    show Steps p.tables e below (T1.setTop (mkF m 30 #[.val (.ref u), .val (.ref w), .val (.int c2), .unset] [(.ref u)])) _
    refine st2 _ ?_
    show Steps p.tables e below (T2.setTop (mkF m 33 #[.val (.ref u), .val (.ref w), .val (.int c2), .unset] [(.int hi)])) _
    refine XS.iconst X2.here hx rfl (hb hby d4_33) ?_
    show Steps p.tables e below (T2.setTop (mkF m 34 #[.val (.ref u), .val (.ref w), .val (.int c2), .unset] [(.int (1 : Int32)), (.int hi)])) _
    refine XS.iadd X2.here hx rfl (hb hby d4_34) rfl ?_
    show Steps p.tables e below (T2.setTop (mkF m 35 #[.val (.ref u), .val (.ref w), .val (.int c2), .unset] [(.int (hi + (1 : Int32)))])) _
    refine XS.aloadN X2.here hx rfl (hb hby d4_35) rfl rfl ?_
    show Steps p.tables e below (T2.setTop (mkF m 36 #[.val (.ref u), .val (.ref w), .val (.int c2), .unset] [(.ref u), (.int (hi + (1 : Int32)))])) _
    refine st3 _ ?_
    show Steps p.tables e below (T3.setTop (mkF m 39 #[.val (.ref u), .val (.ref w), .val (.int c2), .unset] [(.ref en), (.int (hi + (1 : Int32)))])) _
    refine X3.arraylength hx (by rw [e3]; exact Ar4.1) (State.isArrayOf_alike hZ.alike Ar4.2.1) (g := (mkF m 39 #[.val (.ref u), .val (.ref w), .val (.int c2), .unset] [(.ref en), (.int (hi + (1 : Int32)))])) rfl rfl (hb hby d4_39) _ ?_
    rw [len_of S4 M4]
    show Steps p.tables e below (T3.setTop (mkF m 40 #[.val (.ref u), .val (.ref w), .val (.int c2), .unset] [(.int (16 : Int32)), (.int (hi + (1 : Int32)))])) _
    refine XS.icmpYes X3.here hx rfl (pc0 := 40) (pc' := 47) rfl (hb hby d4_40) rfl (feq hfull).2 (by decide) (by decide) ?_
    show Steps p.tables e below (T3.setTop (mkF m 47 #[.val (.ref u), .val (.ref w), .val (.int c2), .unset] [])) _
    refine XS.aloadN X3.here hx rfl (hb hby d4_47) rfl rfl ?_
    show Steps p.tables e below (T3.setTop (mkF m 48 #[.val (.ref u), .val (.ref w), .val (.int c2), .unset] [(.ref u)])) _
    refine XS.dup X3.here hx rfl (hb hby d4_48) rfl rfl ?_
    show Steps p.tables e below (T3.setTop (mkF m 49 #[.val (.ref u), .val (.ref w), .val (.int c2), .unset] [(.ref u), (.ref u)])) _
    refine st6 _ ?_
    show Steps p.tables e below (T6.setTop (mkF m 52 #[.val (.ref u), .val (.ref w), .val (.int c2), .unset] [(.int hi), (.ref u)])) _
    refine XS.iconst X6.here hx rfl (hb hby d4_52) ?_
    show Steps p.tables e below (T6.setTop (mkF m 53 #[.val (.ref u), .val (.ref w), .val (.int c2), .unset] [(.int (1 : Int32)), (.int hi), (.ref u)])) _
    refine XS.iadd X6.here hx rfl (hb hby d4_53) rfl ?_
    show Steps p.tables e below (T6.setTop (mkF m 54 #[.val (.ref u), .val (.ref w), .val (.int c2), .unset] [(.int (hi + (1 : Int32))), (.ref u)])) _
    refine XS.dupX1 X6.here hx rfl (hb hby d4_54) rfl rfl rfl ?_
    show Steps p.tables e below (T6.setTop (mkF m 55 #[.val (.ref u), .val (.ref w), .val (.int c2), .unset] [(.int (hi + (1 : Int32))), (.ref u), (.int (hi + (1 : Int32)))])) _
    refine st7 _ ?_
    show Steps p.tables e below (T7.setTop (mkF m 58 #[.val (.ref u), .val (.ref w), .val (.int c2), .unset] [(.int (hi + (1 : Int32)))])) _
    refine XS.istoreN X7.here hx rfl (hb hby d4_58) rfl (l' := #[.val (.ref u), .val (.ref w), .val (.int c2), .val (.int (hi + (1 : Int32)))]) rfl ?_
    show Steps p.tables e below (T7.setTop (mkF m 59 #[.val (.ref u), .val (.ref w), .val (.int c2), .val (.int (hi + (1 : Int32)))] [])) _
    refine XS.aloadN X7.here hx rfl (hb hby d4_59) rfl rfl ?_
    show Steps p.tables e below (T7.setTop (mkF m 60 #[.val (.ref u), .val (.ref w), .val (.int c2), .val (.int (hi + (1 : Int32)))] [(.ref u)])) _
    refine st9 _ ?_
    show Steps p.tables e below (T9.setTop (mkF m 63 #[.val (.ref u), .val (.ref w), .val (.int c2), .val (.int (hi + (1 : Int32)))] [(.ref en)])) _
    refine XS.iloadN X9.here hx rfl (hb hby d4_63) rfl ?_
    show Steps p.tables e below (T9.setTop (mkF m 64 #[.val (.ref u), .val (.ref w), .val (.int c2), .val (.int (hi + (1 : Int32)))] [(.int (hi + (1 : Int32))), (.ref en)])) _
    refine XS.aloadN X9.here hx rfl (hb hby d4_64) rfl rfl ?_
    show Steps p.tables e below (T9.setTop (mkF m 65 #[.val (.ref u), .val (.ref w), .val (.int c2), .val (.int (hi + (1 : Int32)))] [(.ref w), (.int (hi + (1 : Int32))), (.ref en)])) _
    refine st13 _ ?_
    show Steps p.tables e below (T13.setTop (mkF m 66 #[.val (.ref u), .val (.ref w), .val (.int c2), .val (.int (hi + (1 : Int32)))] [])) _
    refine XS.aloadN X13.here hx rfl (hb hby d4_66) rfl rfl ?_
    show Steps p.tables e below (T13.setTop (mkF m 67 #[.val (.ref u), .val (.ref w), .val (.int c2), .val (.int (hi + (1 : Int32)))] [(.ref u)])) _
    refine st16 _ ?_
    show Steps p.tables e below (T16.setTop (mkF m 70 #[.val (.ref u), .val (.ref w), .val (.int c2), .val (.int (hi + (1 : Int32)))] [(.ref li)])) _
    refine XS.iloadN X16.here hx rfl (hb hby d4_70) rfl ?_
    show Steps p.tables e below (T16.setTop (mkF m 71 #[.val (.ref u), .val (.ref w), .val (.int c2), .val (.int (hi + (1 : Int32)))] [(.int (hi + (1 : Int32))), (.ref li)])) _
    refine XS.iconst X16.here hx rfl (hb hby d4_71) ?_
    show Steps p.tables e below (T16.setTop (mkF m 72 #[.val (.ref u), .val (.ref w), .val (.int c2), .val (.int (hi + (1 : Int32)))] [(.int (4 : Int32)), (.int (hi + (1 : Int32))), (.ref li)])) _
    refine XS.imul X16.here hx rfl (hb hby d4_72) rfl ?_
    show Steps p.tables e below (T16.setTop (mkF m 73 #[.val (.ref u), .val (.ref w), .val (.int c2), .val (.int (hi + (1 : Int32)))] [(.int ((hi + (1 : Int32)) * (4 : Int32))), (.ref li)])) _
    refine XS.iconst X16.here hx rfl (hb hby d4_73) ?_
    show Steps p.tables e below (T16.setTop (mkF m 74 #[.val (.ref u), .val (.ref w), .val (.int c2), .val (.int (hi + (1 : Int32)))] [(.int (2 : Int32)), (.int ((hi + (1 : Int32)) * (4 : Int32))), (.ref li)])) _
    refine XS.iadd X16.here hx rfl (hb hby d4_74) rfl ?_
    show Steps p.tables e below (T16.setTop (mkF m 75 #[.val (.ref u), .val (.ref w), .val (.int c2), .val (.int (hi + (1 : Int32)))] [(.int (((hi + (1 : Int32)) * (4 : Int32)) + (2 : Int32))), (.ref li)])) _
    refine XS.iloadN X16.here hx rfl (hb hby d4_75) rfl ?_
    show Steps p.tables e below (T16.setTop (mkF m 76 #[.val (.ref u), .val (.ref w), .val (.int c2), .val (.int (hi + (1 : Int32)))] [(.int c2), (.int (((hi + (1 : Int32)) * (4 : Int32)) + (2 : Int32))), (.ref li)])) _
    refine st20 _ ?_
    show Steps p.tables e below (T20.setTop (mkF m 77 #[.val (.ref u), .val (.ref w), .val (.int c2), .val (.int (hi + (1 : Int32)))] [])) _
    refine XS.aloadN X20.here hx rfl (hb hby d4_77) rfl rfl ?_
    show Steps p.tables e below (T20.setTop (mkF m 78 #[.val (.ref u), .val (.ref w), .val (.int c2), .val (.int (hi + (1 : Int32)))] [(.ref u)])) _
    refine XS.iloadN X20.here hx rfl (hb hby d4_78) rfl ?_
    show Steps p.tables e below (T20.setTop (mkF m 79 #[.val (.ref u), .val (.ref w), .val (.int c2), .val (.int (hi + (1 : Int32)))] [(.int (hi + (1 : Int32))), (.ref u)])) _
    refine st21.trans ?_
    show Steps p.tables e below (T21.setTop (mkF m 82 #[.val (.ref u), .val (.ref w), .val (.int c2), .val (.int (hi + (1 : Int32)))] [])) _
    refine XS.iloadN X21.here hx rfl (hb hby d4_82) rfl ?_
    exact k_
  obtain ⟨fs, hr, hrun, hended, hW, hsame⟩ := X21.leave (v := some (.int (hi + (1 : Int32)))) (fun h => by rw [Bd.returns] at h; cases h)
  have f27 := (f25.keep Kc21)
  have f28 := (f22.keep Kc21 (ninS (show u ≠ li by omega) nin0))
  have f29 := (f8.other W13 (Or.inl (show u ≠ en by omega)))
  have f30 := (f29.other W20 (Or.inl (show u ≠ li by omega)))
  have f31 := (f30.keep Kc21 (ninS (show u ≠ li by omega) nin0))
  have f32 := (Ff.other W7 (Or.inr (slot_ne (Or.inl hw_28) (Or.inl hw_30) (by decide) (t := .int) (t' := .int) (by decide) (by decide))))
  have f33 := (f32.other W13 (Or.inl (show u ≠ en by omega)))
  have f34 := (f33.other W20 (Or.inl (show u ≠ li by omega)))
  have f35 := (f34.keep Kc21 (ninS (show u ≠ li by omega) nin0))
  have f36 := (Fw7.other W13 (Or.inl (show u ≠ en by omega)))
  have f37 := (f36.other W20 (Or.inl (show u ≠ li by omega)))
  have f38 := (f37.keep Kc21 (ninS (show u ≠ li by omega) nin0))
  have f39 := (V13.other W20 (show en ≠ li by omega))
  have f40 := (f39.keep Kc21 (ninS (show en ≠ li by omega) nin0))
  refine ⟨_, _, go26 _ ?_, hrun, hended, _, _, rfl, ?_, ⟨_, rfl⟩, hW, hsame.mono (by decide) (by decide)⟩
  · skip
    show Steps p.tables e below (T21.setTop (mkF m 83 #[.val (.ref u), .val (.ref w), .val (.int c2), .val (.int (hi + (1 : Int32)))] [(.int (hi + (1 : Int32)))])) _
    exact retI X21 hx Bd.returns (hb hby d4_83) hr
  · show Q_rmAdd Z u li kl vs en ke es w c2 hi i j t h0 n0 _ T21.heap _
    exact ⟨rfl, N21, K21, f27, f28, f31, f35, f38, Vc21, f40⟩
theorem ef_10 (m : MethodId) (x0 : Addr) (x1 : Int32) : entryFrame m #[(.ref x0), (.int x1)] 2 = mkF m 0 #[.val (.ref x0), .val (.int x1)] [] := by first | (simp [entryFrame, mkF, argsToLocals, Value.category]; done) | rfl
theorem d10_0 : decode prog_46_method_11_code 0 = .ok (.aload_n 0, 1) := by decide +kernel
theorem d10_1 : decode prog_46_method_11_code 1 = .ok (.getfield 9, 3) := by decide +kernel
theorem d10_4 : decode prog_46_method_11_code 4 = .ok (.iload_n 1, 1) := by decide +kernel
theorem d10_5 : decode prog_46_method_11_code 5 = .ok (.aaload, 1) := by decide +kernel
theorem d10_6 : decode prog_46_method_11_code 6 = .ok (.areturn, 1) := by decide +kernel
def Q_rmEnt (Z : State) (u : Nat) (w : Nat) (i : Int32) (en : Nat) (ke : ClassId) (es : List Value) (h0 : Heap) (n0 : Nat) (v : Option Value) (h : Heap) (L : List Loc) : Prop := v = some (.ref w) ∧ Fr n0 L ∧ h = h0
set_option maxRecDepth 65536 in
set_option maxHeartbeats 40000000 in
theorem rmEnt (l : Launch) (Z : State) (a0 : Array Value) (hw : ∀ d ∈ tables_1, d.before a0 Z = true) (ws : List Jvm.Cond) (u : Nat) (w : Nat) (i : Int32) (en : Nat) (ke : ClassId) (es : List Value) (h0 : Heap) (n0 : Nat) (Z0 : n0 ≤ h0.size) (Fe : Fld Z h0 u "com/example/terrace/terrace/core/UseOrder" "entries" "[Ljava/lang/Object;" (.ref en)) (Ve : Arv Z h0 en ke (.object "java/lang/Object") (16 : Int32) es .null) (ib_i : ¬ i < 0 ∧ i < (16 : Int32)) (hev : es.getD i.toNatClampNeg .null = .ref w) :
    MetFree l (⟨"com/example/terrace/terrace/core/UseOrder", "entry", "(I)Ljava/lang/Object;"⟩ : MethodName) (head1 (Jvm.Cond.code (⟨"com/example/terrace/terrace/core/UseOrder", "entry", "(I)Ljava/lang/Object;"⟩ : MethodName) prog_46_method_11_code 2 (some (.object "java/lang/Object")) :: ws) ({ frames := 0, cells := 0, slots := 0, locals := 0 } : Room)) (fun a U => a = #[(.ref u), (.int i)] ∧ Z.Warmed39 U.vm ∧ U.heap = h0) (fun _ _ _ _ _ => True) (fun _ U o U' => ∃ v L, o = .returned v ∧ Q_rmEnt Z u w i en ke es h0 n0 v U'.heap L ∧ FrameEnd U o U' L ({ frames := 0, cells := 0, slots := 0, locals := 0 } : Room).cells ({ frames := 0, cells := 0, slots := 0, locals := 0 } : Room).slots) := by
  have hw_23 := hw _ (List.mem_of_getElem? (i := 23) rfl)
  refine MetFree.of_bodySF (plainFor_of_name pn_UseOrder) hisR ?_
  intro p e s m args below meth c s₁ Bd hml0 hP hK
  obtain ⟨rfl, hZ, hh⟩ := hP
  have hx := Bd.exec
  have hby := Bd.bytes
  have hml : c.maxLocals = 2 := hml0
  have hown : s.vm.findClass "com/example/terrace/terrace/core/UseOrder" = some m.cls := findClass_of_methodNamed Bd.named
  have hnm := (name_of_methodNamed Bd.named Bd.method).1
  have X0 : Stand p l e ({ frames := 0, cells := 0, slots := 0, locals := 0 } : Room) s m #[(.ref u), (.int i)] below meth c s₁ [] 0 0 := Stand.of_body Bd
  have e0 : s₁.heap = h0 := by rw [← hh, Bd.state]; rfl
  have N0 := Fr.nil n0
  have pre0 : ∀ t_, Steps p.tables e below (s₁.setTop (mkF m 0 #[.val (.ref u), .val (.int i)] [])) t_ → Steps p.tables e below (s₁.setTop (entryFrame m #[(.ref u), (.int i)] 2)) t_ := fun t_ k_ => castTop (ef_10 m u i) k_
  obtain ⟨T1, X1, e1, st1⟩ := getF X0 hx hZ hown (host := "") (Or.inl hw_23) Via.refl e0 Fe (g := (mkF m 1 #[.val (.ref u), .val (.int i)] [(.ref u)])) rfl rfl (hb hby d10_1)
  obtain ⟨cl2, Ar2, q2, S2, M2, H2, G2⟩ := Ve
  have f3 : Arv Z h0 en ke (.object "java/lang/Object") (16 : Int32) es .null := ⟨cl2, Ar2, q2, S2, M2, H2, G2⟩
  have hin2 : ¬ (i < 0 ∨ cl2.slots.size ≤ (i).toNatClampNeg) := inb_of S2 ib_i
  have hat2 : cl2.slots[(i).toNatClampNeg]? = some (.ref w) := Has.at H2 hin2 hev
  have go4 : ∀ t_, Steps p.tables e below (T1.setTop (mkF m 6 #[.val (.ref u), .val (.int i)] [(.ref w)])) t_ → Steps p.tables e below (s₁.setTop (entryFrame m #[(.ref u), (.int i)] 2)) t_ := by
    intro t_ k_
    refine pre0 t_ ?_
    show Steps p.tables e below (s₁.setTop (mkF m 0 #[.val (.ref u), .val (.int i)] [])) _
    refine XS.aloadN X0.here hx rfl (hb hby d10_0) rfl rfl ?_
    show Steps p.tables e below (s₁.setTop (mkF m 1 #[.val (.ref u), .val (.int i)] [(.ref u)])) _
    refine st1 _ ?_
    show Steps p.tables e below (T1.setTop (mkF m 4 #[.val (.ref u), .val (.int i)] [(.ref en)])) _
    refine XS.iloadN X1.here hx rfl (hb hby d10_4) rfl ?_
    show Steps p.tables e below (T1.setTop (mkF m 5 #[.val (.ref u), .val (.int i)] [(.int i), (.ref en)])) _
    refine X1.aaload hx (j := i) (v := (.ref w)) (by rw [e1]; exact Ar2.1) (State.isArrayOf_alike hZ.alike Ar2.2.1) rfl Ar2.2.2 hin2 hat2 (g := (mkF m 5 #[.val (.ref u), .val (.int i)] [(.int i), (.ref en)])) rfl rfl (hb hby d10_5) _ ?_
    exact k_
  obtain ⟨fs, hr, hrun, hended, hW, hsame⟩ := X1.leave (v := some (.ref w)) (fun h => by rw [Bd.returns] at h; cases h)
  refine ⟨_, _, go4 _ ?_, hrun, hended, _, _, rfl, ?_, ⟨_, rfl⟩, hW, hsame.mono (by decide) (by decide)⟩
  · skip
    show Steps p.tables e below (T1.setTop (mkF m 6 #[.val (.ref u), .val (.int i)] [(.ref w)])) _
    jvm_step X1.here [X1.here.top, hx, (hb hby d10_6), X1.method', Bd.returns, Value.isRef, FieldType.isReference]
    first | (intro acts; rw [hr _ acts rfl rfl rfl]) | rw [hr _ _ rfl rfl rfl]
    exact Steps.refl _
  · show Q_rmEnt Z u w i en ke es h0 n0 _ T1.heap _
    rw [e1]
    exact ⟨rfl, N0, rfl⟩
theorem ef_9 (m : MethodId) (x0 : Addr) : entryFrame m #[(.ref x0)] 1 = mkF m 0 #[.val (.ref x0)] [] := by first | (simp [entryFrame, mkF, argsToLocals, Value.category]; done) | rfl
theorem d9_0 : decode prog_46_method_7_code 0 = .ok (.aload_n 0, 1) := by decide +kernel
theorem d9_1 : decode prog_46_method_7_code 1 = .ok (.aload_n 0, 1) := by decide +kernel
theorem d9_2 : decode prog_46_method_7_code 2 = .ok (.getfield 13, 3) := by decide +kernel
theorem d9_5 : decode prog_46_method_7_code 5 = .ok (.iconst 1, 1) := by decide +kernel
theorem d9_6 : decode prog_46_method_7_code 6 = .ok (.iaload, 1) := by decide +kernel
theorem d9_7 : decode prog_46_method_7_code 7 = .ok (.invokevirtual 41, 3) := by decide +kernel
theorem pd_1 : parseMethodDescriptor "(I)Ljava/lang/Object;" = some ⟨[.int], some (.object "java/lang/Object")⟩ := by decide +kernel
theorem d9_10 : decode prog_46_method_7_code 10 = .ok (.areturn, 1) := by decide +kernel
def Q_rmLeast (Z : State) (u : Nat) (li : Nat) (kl : ClassId) (vs : List Value) (en : Nat) (ke : ClassId) (es : List Value) (w : Nat) (i : Int32) (h0 : Heap) (n0 : Nat) (v : Option Value) (h : Heap) (L : List Loc) : Prop := v = some (.ref w) ∧ Fr n0 L ∧ h = h0
set_option maxRecDepth 65536 in
set_option maxHeartbeats 40000000 in
theorem rmLeast (l : Launch) (Z : State) (a0 : Array Value) (hw : ∀ d ∈ tables_1, d.before a0 Z = true) (ws : List Jvm.Cond) (u : Nat) (li : Nat) (kl : ClassId) (vs : List Value) (en : Nat) (ke : ClassId) (es : List Value) (w : Nat) (i : Int32) (h0 : Heap) (n0 : Nat) (Z0 : n0 ≤ h0.size) (Fl : Fld Z h0 u "com/example/terrace/terrace/core/UseOrder" "links" "[I" (.ref li)) (Vl : Arv Z h0 li kl .int (64 : Int32) vs (.int (0 : Int32))) (Fe : Fld Z h0 u "com/example/terrace/terrace/core/UseOrder" "entries" "[Ljava/lang/Object;" (.ref en)) (Ve : Arv Z h0 en ke (.object "java/lang/Object") (16 : Int32) es .null) (Eu : Exa Z h0 u "com/example/terrace/terrace/core/UseOrder") (h1v : vs.getD 1 (.int (0 : Int32)) = .int i) (ib_i : ¬ i < 0 ∧ i < (16 : Int32)) (hev : es.getD i.toNatClampNeg .null = .ref w) :
    MetFree l (⟨"com/example/terrace/terrace/core/UseOrder", "leastRecent", "()Ljava/lang/Object;"⟩ : MethodName) (head1 (Jvm.Cond.code (⟨"com/example/terrace/terrace/core/UseOrder", "leastRecent", "()Ljava/lang/Object;"⟩ : MethodName) prog_46_method_7_code 1 (some (.object "java/lang/Object")) :: ws) ({ frames := 1, cells := 0, slots := 0, locals := 13 } : Room)) (fun a U => a = #[(.ref u)] ∧ Z.Warmed39 U.vm ∧ U.heap = h0) (fun _ _ _ _ _ => True) (fun _ U o U' => ∃ v L, o = .returned v ∧ Q_rmLeast Z u li kl vs en ke es w i h0 n0 v U'.heap L ∧ FrameEnd U o U' L ({ frames := 1, cells := 0, slots := 0, locals := 13 } : Room).cells ({ frames := 1, cells := 0, slots := 0, locals := 13 } : Room).slots) := by
  have hw_13 := hw _ (List.mem_of_getElem? (i := 13) rfl)
  have hw_14 := hw _ (List.mem_of_getElem? (i := 14) rfl)
  have hw_25 := hw _ (List.mem_of_getElem? (i := 25) rfl)
  have hw_59 := hw _ (List.mem_of_getElem? (i := 59) rfl)
  have hw_60 := hw _ (List.mem_of_getElem? (i := 60) rfl)
  have hw_61 := hw _ (List.mem_of_getElem? (i := 61) rfl)
  have hw_62 := hw _ (List.mem_of_getElem? (i := 62) rfl)
  refine MetFree.of_bodySF (plainFor_of_name pn_UseOrder) hisR ?_
  intro p e s m args below meth c s₁ Bd hml0 hP hK
  obtain ⟨rfl, hZ, hh⟩ := hP
  have hx := Bd.exec
  have hby := Bd.bytes
  have hml : c.maxLocals = 1 := hml0
  have hown : s.vm.findClass "com/example/terrace/terrace/core/UseOrder" = some m.cls := findClass_of_methodNamed Bd.named
  have hnm := (name_of_methodNamed Bd.named Bd.method).1
  have X0 : Stand p l e ({ frames := 1, cells := 0, slots := 0, locals := 13 } : Room) s m #[(.ref u)] below meth c s₁ [] 0 0 := Stand.of_body Bd
  have e0 : s₁.heap = h0 := by rw [← hh, Bd.state]; rfl
  have N0 := Fr.nil n0
  have pre0 : ∀ t_, Steps p.tables e below (s₁.setTop (mkF m 0 #[.val (.ref u)] [])) t_ → Steps p.tables e below (s₁.setTop (entryFrame m #[(.ref u)] 1)) t_ := fun t_ k_ => castTop (ef_9 m u) k_
  obtain ⟨T1, X1, e1, st1⟩ := getF X0 hx hZ hown (host := "") (Or.inl hw_25) Via.refl e0 Fl (g := (mkF m 2 #[.val (.ref u)] [(.ref u), (.ref u)])) rfl rfl (hb hby d9_2)
  obtain ⟨cl2, Ar2, q2, S2, M2, H2, G2⟩ := Vl
  have f3 : Arv Z h0 li kl .int (64 : Int32) vs (.int (0 : Int32)) := ⟨cl2, Ar2, q2, S2, M2, H2, G2⟩
  have hin2 : ¬ ((1 : Int32) < 0 ∨ cl2.slots.size ≤ ((1 : Int32)).toNatClampNeg) := inb_of S2 ⟨by decide, by decide⟩
  have hat2 : cl2.slots[((1 : Int32)).toNatClampNeg]? = some (.int i) := Has.at H2 hin2 h1v
  obtain ⟨cq4, q4, q4'⟩ := Eu.cell
  obtain ⟨_, _, ⟨T4, L4, k4, n4⟩, -, X4, ⟨Lc4, hQ4, l4, y4, z4⟩, st4⟩ := X1.privateBack hx (y := (⟨"com/example/terrace/terrace/core/UseOrder", "entry", "(I)Ljava/lang/Object;"⟩ : MethodName)) hown (mvT hZ hw_59) (mvT hZ hw_60) (own_sel hZ hw_13 hw_61 hw_60 (by decide)) (Cond.privateMethod_at (mvP hZ hw_61 (args := #[]))) (mvT hZ hw_62) (by decide) (backOf (W := 0) (rmEnt l Z a0 hw [] u w i en ke es h0 n0 Z0 Fe Ve ib_i hev) hZ hw_62 hw_14 (by decide) (by decide)) (g := (mkF m 7 #[.val (.ref u)] [(.int i), (.ref u)])) rfl (by rw [hml]; rfl) (Steps.refl _) (a := u) (by rw [e1]; exact q4) q4' (argsL := [(.int i)]) (rest := []) (lenOf pd_1 rfl) rfl (by show 2 * 0 + _ ≤ _; exact Nat.le_of_eq rfl) (hb hby d9_7) (fun _ _ => ⟨rfl, e1, (by decide : 0 + 0 ≤ _), (by decide : 0 + 0 ≤ _)⟩)
  dsimp only [Pt.U, Pt.locs, Pt.cells, Pt.slots] at X4 l4 y4 z4 st4 hQ4
  subst l4 y4 z4
  obtain ⟨rfl, N4q, e4⟩ := hQ4
  have N4 := Fr.app N0 N4q
  have go5 : ∀ t_, Steps p.tables e below (T4.setTop (mkF m 10 #[.val (.ref u)] [(.ref w)])) t_ → Steps p.tables e below (s₁.setTop (entryFrame m #[(.ref u)] 1)) t_ := by
    intro t_ k_
    refine pre0 t_ ?_
    show Steps p.tables e below (s₁.setTop (mkF m 0 #[.val (.ref u)] [])) _
    refine XS.aloadN X0.here hx rfl (hb hby d9_0) rfl rfl ?_
    show Steps p.tables e below (s₁.setTop (mkF m 1 #[.val (.ref u)] [(.ref u)])) _
    refine XS.aloadN X0.here hx rfl (hb hby d9_1) rfl rfl ?_
    show Steps p.tables e below (s₁.setTop (mkF m 2 #[.val (.ref u)] [(.ref u), (.ref u)])) _
    refine st1 _ ?_
    show Steps p.tables e below (T1.setTop (mkF m 5 #[.val (.ref u)] [(.ref li), (.ref u)])) _
    refine XS.iconst X1.here hx rfl (hb hby d9_5) ?_
    show Steps p.tables e below (T1.setTop (mkF m 6 #[.val (.ref u)] [(.int (1 : Int32)), (.ref li), (.ref u)])) _
    refine X1.iaload hx (j := (1 : Int32)) (v := (.int i)) (by rw [e1]; exact Ar2.1) (State.isArrayOf_alike hZ.alike Ar2.2.1) Ar2.2.2 hin2 hat2 (g := (mkF m 6 #[.val (.ref u)] [(.int (1 : Int32)), (.ref li), (.ref u)])) rfl rfl (hb hby d9_6) _ ?_
    show Steps p.tables e below (T1.setTop (mkF m 7 #[.val (.ref u)] [(.int i), (.ref u)])) _
    refine st4.trans ?_
    exact k_
  obtain ⟨fs, hr, hrun, hended, hW, hsame⟩ := X4.leave (v := some (.ref w)) (fun h => by rw [Bd.returns] at h; cases h)
  refine ⟨_, _, go5 _ ?_, hrun, hended, _, _, rfl, ?_, ⟨_, rfl⟩, hW, hsame.mono (by decide) (by decide)⟩
  · skip
    show Steps p.tables e below (T4.setTop (mkF m 10 #[.val (.ref u)] [(.ref w)])) _
    jvm_step X4.here [X4.here.top, hx, (hb hby d9_10), X4.method', Bd.returns, Value.isRef, FieldType.isReference]
    first | (intro acts; rw [hr _ acts rfl rfl rfl]) | rw [hr _ _ rfl rfl rfl]
    exact Steps.refl _
  · show Q_rmLeast Z u li kl vs en ke es w i h0 n0 _ T4.heap _
    rw [e4]
    exact ⟨rfl, N4, rfl⟩
def own_mv (x y z k : Int32) : List Value := if x = k then [.int y, .int z, .int x] else if y = k then [.int x, .int z, .int y] else [.int x, .int y, .int z]
theorem ef_8 (m : MethodId) (x0 : Addr) (x1 : Int32) : entryFrame m #[(.ref x0), (.int x1)] 3 = mkF m 0 #[.val (.ref x0), .val (.int x1), .unset] [] := by first | (simp [entryFrame, mkF, argsToLocals, Value.category]; done) | rfl
theorem pn_UseOrderUsePinLaw : plainName "com/example/terrace/terrace/core/UseOrderUsePinLaw" = true := by first | (simp [plainName, overriddenIn]; done) | decide +kernel
theorem d8_0 : decode method_2_code 0 = .ok (.aload_n 0, 1) := by decide +kernel
theorem d8_1 : decode method_2_code 1 = .ok (.iconst 0, 1) := by decide +kernel
theorem d8_2 : decode method_2_code 2 = .ok (.iaload, 1) := by decide +kernel
theorem d8_3 : decode method_2_code 3 = .ok (.iload_n 1, 1) := by decide +kernel
theorem d8_4 : decode method_2_code 4 = .ok (.if_icmp .ne 26, 3) := by decide +kernel
theorem d8_7 : decode method_2_code 7 = .ok (.aload_n 0, 1) := by decide +kernel
theorem d8_8 : decode method_2_code 8 = .ok (.iconst 0, 1) := by decide +kernel
theorem d8_9 : decode method_2_code 9 = .ok (.iaload, 1) := by decide +kernel
theorem d8_10 : decode method_2_code 10 = .ok (.istore_n 2, 1) := by decide +kernel
theorem d8_11 : decode method_2_code 11 = .ok (.aload_n 0, 1) := by decide +kernel
theorem d8_12 : decode method_2_code 12 = .ok (.iconst 0, 1) := by decide +kernel
theorem d8_13 : decode method_2_code 13 = .ok (.aload_n 0, 1) := by decide +kernel
theorem d8_14 : decode method_2_code 14 = .ok (.iconst 1, 1) := by decide +kernel
theorem d8_15 : decode method_2_code 15 = .ok (.iaload, 1) := by decide +kernel
theorem d8_16 : decode method_2_code 16 = .ok (.iastore, 1) := by decide +kernel
theorem d8_17 : decode method_2_code 17 = .ok (.aload_n 0, 1) := by decide +kernel
theorem d8_18 : decode method_2_code 18 = .ok (.iconst 1, 1) := by decide +kernel
theorem d8_19 : decode method_2_code 19 = .ok (.aload_n 0, 1) := by decide +kernel
theorem d8_20 : decode method_2_code 20 = .ok (.iconst 2, 1) := by decide +kernel
theorem d8_21 : decode method_2_code 21 = .ok (.iaload, 1) := by decide +kernel
theorem d8_22 : decode method_2_code 22 = .ok (.iastore, 1) := by decide +kernel
theorem d8_23 : decode method_2_code 23 = .ok (.aload_n 0, 1) := by decide +kernel
theorem d8_24 : decode method_2_code 24 = .ok (.iconst 2, 1) := by decide +kernel
theorem d8_25 : decode method_2_code 25 = .ok (.iload_n 2, 1) := by decide +kernel
theorem d8_26 : decode method_2_code 26 = .ok (.iastore, 1) := by decide +kernel
theorem d8_27 : decode method_2_code 27 = .ok (.goto 24, 3) := by decide +kernel
theorem d8_51 : decode method_2_code 51 = .ok (.return_, 1) := by decide +kernel
theorem d8_30 : decode method_2_code 30 = .ok (.aload_n 0, 1) := by decide +kernel
theorem d8_31 : decode method_2_code 31 = .ok (.iconst 1, 1) := by decide +kernel
theorem d8_32 : decode method_2_code 32 = .ok (.iaload, 1) := by decide +kernel
theorem d8_33 : decode method_2_code 33 = .ok (.iload_n 1, 1) := by decide +kernel
theorem d8_34 : decode method_2_code 34 = .ok (.if_icmp .ne 17, 3) := by decide +kernel
theorem d8_37 : decode method_2_code 37 = .ok (.aload_n 0, 1) := by decide +kernel
theorem d8_38 : decode method_2_code 38 = .ok (.iconst 1, 1) := by decide +kernel
theorem d8_39 : decode method_2_code 39 = .ok (.iaload, 1) := by decide +kernel
theorem d8_40 : decode method_2_code 40 = .ok (.istore_n 2, 1) := by decide +kernel
theorem d8_41 : decode method_2_code 41 = .ok (.aload_n 0, 1) := by decide +kernel
theorem d8_42 : decode method_2_code 42 = .ok (.iconst 1, 1) := by decide +kernel
theorem d8_43 : decode method_2_code 43 = .ok (.aload_n 0, 1) := by decide +kernel
theorem d8_44 : decode method_2_code 44 = .ok (.iconst 2, 1) := by decide +kernel
theorem d8_45 : decode method_2_code 45 = .ok (.iaload, 1) := by decide +kernel
theorem d8_46 : decode method_2_code 46 = .ok (.iastore, 1) := by decide +kernel
theorem d8_47 : decode method_2_code 47 = .ok (.aload_n 0, 1) := by decide +kernel
theorem d8_48 : decode method_2_code 48 = .ok (.iconst 2, 1) := by decide +kernel
theorem d8_49 : decode method_2_code 49 = .ok (.iload_n 2, 1) := by decide +kernel
theorem d8_50 : decode method_2_code 50 = .ok (.iastore, 1) := by decide +kernel
def Q_rmMove (Z : State) (a1 : Nat) (ko : ClassId) (x : Int32) (y : Int32) (z : Int32) (k : Int32) (h0 : Heap) (n0 : Nat) (v : Option Value) (h : Heap) (L : List Loc) : Prop := v = none ∧ Fr n0 L ∧ Keep h0 h [a1] ∧ Arv Z h a1 ko .int (3 : Int32) (own_mv x y z k) (.int (0 : Int32))
set_option maxRecDepth 65536 in
set_option maxHeartbeats 40000000 in
theorem rmMove (l : Launch) (Z : State) (a0 : Array Value) (hw : ∀ d ∈ tables_1, d.before a0 Z = true) (ws : List Jvm.Cond) (a1 : Nat) (ko : ClassId) (x : Int32) (y : Int32) (z : Int32) (k : Int32) (h0 : Heap) (n0 : Nat) (Z0 : n0 ≤ h0.size) (Vo : Arv Z h0 a1 ko .int (3 : Int32) [(.int x), (.int y), (.int z)] (.int (0 : Int32))) (go_ : n0 ≤ a1) :
    MetFree l (⟨"com/example/terrace/terrace/core/UseOrderUsePinLaw", "moveToEnd", "([II)V"⟩ : MethodName) (head1 (Jvm.Cond.code (⟨"com/example/terrace/terrace/core/UseOrderUsePinLaw", "moveToEnd", "([II)V"⟩ : MethodName) method_2_code 3 none :: ws) ({ frames := 0, cells := 0, slots := 0, locals := 0 } : Room)) (fun a U => a = #[(.ref a1), (.int k)] ∧ Z.Warmed39 U.vm ∧ U.heap = h0) (fun _ _ _ _ _ => True) (fun _ U o U' => ∃ v L, o = .returned v ∧ Q_rmMove Z a1 ko x y z k h0 n0 v U'.heap L ∧ FrameEnd U o U' L ({ frames := 0, cells := 0, slots := 0, locals := 0 } : Room).cells ({ frames := 0, cells := 0, slots := 0, locals := 0 } : Room).slots) := by
  refine MetFree.of_bodySF (plainFor_of_name pn_UseOrderUsePinLaw) hisR ?_
  intro p e s m args below meth c s₁ Bd hml0 hP hK
  obtain ⟨rfl, hZ, hh⟩ := hP
  have hx := Bd.exec
  have hby := Bd.bytes
  have hml : c.maxLocals = 3 := hml0
  have hown : s.vm.findClass "com/example/terrace/terrace/core/UseOrderUsePinLaw" = some m.cls := findClass_of_methodNamed Bd.named
  have hnm := (name_of_methodNamed Bd.named Bd.method).1
  have X0 : Stand p l e ({ frames := 0, cells := 0, slots := 0, locals := 0 } : Room) s m #[(.ref a1), (.int k)] below meth c s₁ [] 0 0 := Stand.of_body Bd
  have e0 : s₁.heap = h0 := by rw [← hh, Bd.state]; rfl
  have N0 := Fr.nil n0
  have pre0 : ∀ t_, Steps p.tables e below (s₁.setTop (mkF m 0 #[.val (.ref a1), .val (.int k), .unset] [])) t_ → Steps p.tables e below (s₁.setTop (entryFrame m #[(.ref a1), (.int k)] 3)) t_ := fun t_ k_ => castTop (ef_8 m a1 k) k_
  have K0 : Keep h0 h0 [a1] := Keep.refl h0 _
  obtain ⟨cl1, Ar1, q1, S1, M1, H1, G1⟩ := Vo
  have f2 : Arv Z h0 a1 ko .int (3 : Int32) [(.int x), (.int y), (.int z)] (.int (0 : Int32)) := ⟨cl1, Ar1, q1, S1, M1, H1, G1⟩
  have hin1 : ¬ ((0 : Int32) < 0 ∨ cl1.slots.size ≤ ((0 : Int32)).toNatClampNeg) := inb_of S1 ⟨by decide, by decide⟩
  have hat1 : cl1.slots[((0 : Int32)).toNatClampNeg]? = some (.int x) := Has.at H1 hin1 rfl
  have go3 : ∀ t_, Steps p.tables e below (s₁.setTop (mkF m 4 #[.val (.ref a1), .val (.int k), .unset] [(.int k), (.int x)])) t_ → Steps p.tables e below (s₁.setTop (entryFrame m #[(.ref a1), (.int k)] 3)) t_ := by
    intro t_ k_
    refine pre0 t_ ?_
    show Steps p.tables e below (s₁.setTop (mkF m 0 #[.val (.ref a1), .val (.int k), .unset] [])) _
    refine XS.aloadN X0.here hx rfl (hb hby d8_0) rfl rfl ?_
    show Steps p.tables e below (s₁.setTop (mkF m 1 #[.val (.ref a1), .val (.int k), .unset] [(.ref a1)])) _
    refine XS.iconst X0.here hx rfl (hb hby d8_1) ?_
    show Steps p.tables e below (s₁.setTop (mkF m 2 #[.val (.ref a1), .val (.int k), .unset] [(.int (0 : Int32)), (.ref a1)])) _
    refine X0.iaload hx (j := (0 : Int32)) (v := (.int x)) (by rw [e0]; exact Ar1.1) (State.isArrayOf_alike hZ.alike Ar1.2.1) Ar1.2.2 hin1 hat1 (g := (mkF m 2 #[.val (.ref a1), .val (.int k), .unset] [(.int (0 : Int32)), (.ref a1)])) rfl rfl (hb hby d8_2) _ ?_
    show Steps p.tables e below (s₁.setTop (mkF m 3 #[.val (.ref a1), .val (.int k), .unset] [(.int x)])) _
    refine XS.iloadN X0.here hx rfl (hb hby d8_3) rfl ?_
    exact k_
  by_cases hc4 : x = k
  · skip
    obtain ⟨cl5, Ar5, q5, S5, M5, H5, G5⟩ := f2
    have f6 : Arv Z h0 a1 ko .int (3 : Int32) [(.int x), (.int y), (.int z)] (.int (0 : Int32)) := ⟨cl5, Ar5, q5, S5, M5, H5, G5⟩
    have hin5 : ¬ ((0 : Int32) < 0 ∨ cl5.slots.size ≤ ((0 : Int32)).toNatClampNeg) := inb_of S5 ⟨by decide, by decide⟩
    have hat5 : cl5.slots[((0 : Int32)).toNatClampNeg]? = some (.int x) := Has.at H5 hin5 rfl
    obtain ⟨cl7, Ar7, q7, S7, M7, H7, G7⟩ := f6
    have f8 : Arv Z h0 a1 ko .int (3 : Int32) [(.int x), (.int y), (.int z)] (.int (0 : Int32)) := ⟨cl7, Ar7, q7, S7, M7, H7, G7⟩
    have hin7 : ¬ ((1 : Int32) < 0 ∨ cl7.slots.size ≤ ((1 : Int32)).toNatClampNeg) := inb_of S7 ⟨by decide, by decide⟩
    have hat7 : cl7.slots[((1 : Int32)).toNatClampNeg]? = some (.int y) := Has.at H7 hin7 rfl
    obtain ⟨cl9, Ar9, q9, S9, M9, H9, G9⟩ := f8
    have hin9 : ¬ ((0 : Int32) < 0 ∨ cl9.slots.size ≤ ((0 : Int32)).toNatClampNeg) := inb_of S9 ⟨by decide, by decide⟩
    obtain ⟨T10, h10, X10, e10, W10, st10⟩ := stI X0 hx hZ e0 Ar9 (j := (0 : Int32)) hin9 (g := (mkF m 16 #[.val (.ref a1), .val (.int k), .val (.int x)] [(.int y), (.int (0 : Int32)), (.ref a1)])) rfl rfl (hb hby d8_16)
    have V10 : Arv Z h10 a1 ko .int (3 : Int32) [(.int y), (.int y), (.int z)] (.int (0 : Int32)) := Arv.set Ar9 q9 S9 M9 H9 G9 rfl W10 0 rfl (Nat.le_of_ble_eq_true rfl)
    have N10 := Fr.snoc X10 N0 (show n0 ≤ a1 by omega)
    have sz10 : h0.size ≤ h10.size := Nat.le_of_eq W10.size.symm
    have Z10 : n0 ≤ h10.size := Nat.le_trans Z0 sz10
    have K10 : Keep h0 h10 [a1] := K0.wr W10 (Or.inl (by simp))
    obtain ⟨cl11, Ar11, q11, S11, M11, H11, G11⟩ := V10
    have f12 : Arv Z h10 a1 ko .int (3 : Int32) [(.int y), (.int y), (.int z)] (.int (0 : Int32)) := ⟨cl11, Ar11, q11, S11, M11, H11, G11⟩
    have hin11 : ¬ ((2 : Int32) < 0 ∨ cl11.slots.size ≤ ((2 : Int32)).toNatClampNeg) := inb_of S11 ⟨by decide, by decide⟩
    have hat11 : cl11.slots[((2 : Int32)).toNatClampNeg]? = some (.int z) := Has.at H11 hin11 rfl
    obtain ⟨cl13, Ar13, q13, S13, M13, H13, G13⟩ := f12
    have hin13 : ¬ ((1 : Int32) < 0 ∨ cl13.slots.size ≤ ((1 : Int32)).toNatClampNeg) := inb_of S13 ⟨by decide, by decide⟩
    obtain ⟨T14, h14, X14, e14, W14, st14⟩ := stI X10 hx hZ e10 Ar13 (j := (1 : Int32)) hin13 (g := (mkF m 22 #[.val (.ref a1), .val (.int k), .val (.int x)] [(.int z), (.int (1 : Int32)), (.ref a1)])) rfl rfl (hb hby d8_22)
    have V14 : Arv Z h14 a1 ko .int (3 : Int32) [(.int y), (.int z), (.int z)] (.int (0 : Int32)) := Arv.set Ar13 q13 S13 M13 H13 G13 rfl W14 1 rfl (Nat.le_of_ble_eq_true rfl)
    have N14 := Fr.snoc X14 N10 (show n0 ≤ a1 by omega)
    have sz14 : h10.size ≤ h14.size := Nat.le_of_eq W14.size.symm
    have Z14 : n0 ≤ h14.size := Nat.le_trans Z10 sz14
    have K14 : Keep h0 h14 [a1] := K10.wr W14 (Or.inl (by simp))
    obtain ⟨cl15, Ar15, q15, S15, M15, H15, G15⟩ := V14
    have hin15 : ¬ ((2 : Int32) < 0 ∨ cl15.slots.size ≤ ((2 : Int32)).toNatClampNeg) := inb_of S15 ⟨by decide, by decide⟩
    obtain ⟨T16, h16, X16, e16, W16, st16⟩ := stI X14 hx hZ e14 Ar15 (j := (2 : Int32)) hin15 (g := (mkF m 26 #[.val (.ref a1), .val (.int k), .val (.int x)] [(.int x), (.int (2 : Int32)), (.ref a1)])) rfl rfl (hb hby d8_26)
    have V16 : Arv Z h16 a1 ko .int (3 : Int32) [(.int y), (.int z), (.int x)] (.int (0 : Int32)) := Arv.set Ar15 q15 S15 M15 H15 G15 rfl W16 2 rfl (Nat.le_of_ble_eq_true rfl)
    have N16 := Fr.snoc X16 N14 (show n0 ≤ a1 by omega)
    have sz16 : h14.size ≤ h16.size := Nat.le_of_eq W16.size.symm
    have Z16 : n0 ≤ h16.size := Nat.le_trans Z14 sz16
    have K16 : Keep h0 h16 [a1] := K14.wr W16 (Or.inl (by simp))
    have go17 : ∀ t_, Steps p.tables e below (T16.setTop (mkF m 51 #[.val (.ref a1), .val (.int k), .val (.int x)] [])) t_ → Steps p.tables e below (s₁.setTop (entryFrame m #[(.ref a1), (.int k)] 3)) t_ := by
      intro t_ k_
      refine go3 t_ ?_
      show Steps p.tables e below (s₁.setTop (mkF m 4 #[.val (.ref a1), .val (.int k), .unset] [(.int k), (.int x)])) _
      refine XS.icmpNo X0.here hx rfl (hb hby d8_4) rfl (teq hc4).2 ?_
      show Steps p.tables e below (s₁.setTop (mkF m 7 #[.val (.ref a1), .val (.int k), .unset] [])) _
      refine XS.aloadN X0.here hx rfl (hb hby d8_7) rfl rfl ?_
      show Steps p.tables e below (s₁.setTop (mkF m 8 #[.val (.ref a1), .val (.int k), .unset] [(.ref a1)])) _
      refine XS.iconst X0.here hx rfl (hb hby d8_8) ?_
      show Steps p.tables e below (s₁.setTop (mkF m 9 #[.val (.ref a1), .val (.int k), .unset] [(.int (0 : Int32)), (.ref a1)])) _
      refine X0.iaload hx (j := (0 : Int32)) (v := (.int x)) (by rw [e0]; exact Ar5.1) (State.isArrayOf_alike hZ.alike Ar5.2.1) Ar5.2.2 hin5 hat5 (g := (mkF m 9 #[.val (.ref a1), .val (.int k), .unset] [(.int (0 : Int32)), (.ref a1)])) rfl rfl (hb hby d8_9) _ ?_
      show Steps p.tables e below (s₁.setTop (mkF m 10 #[.val (.ref a1), .val (.int k), .unset] [(.int x)])) _
      refine XS.istoreN X0.here hx rfl (hb hby d8_10) rfl (l' := #[.val (.ref a1), .val (.int k), .val (.int x)]) rfl ?_
      show Steps p.tables e below (s₁.setTop (mkF m 11 #[.val (.ref a1), .val (.int k), .val (.int x)] [])) _
      refine XS.aloadN X0.here hx rfl (hb hby d8_11) rfl rfl ?_
      show Steps p.tables e below (s₁.setTop (mkF m 12 #[.val (.ref a1), .val (.int k), .val (.int x)] [(.ref a1)])) _
      refine XS.iconst X0.here hx rfl (hb hby d8_12) ?_
      show Steps p.tables e below (s₁.setTop (mkF m 13 #[.val (.ref a1), .val (.int k), .val (.int x)] [(.int (0 : Int32)), (.ref a1)])) _
      refine XS.aloadN X0.here hx rfl (hb hby d8_13) rfl rfl ?_
      show Steps p.tables e below (s₁.setTop (mkF m 14 #[.val (.ref a1), .val (.int k), .val (.int x)] [(.ref a1), (.int (0 : Int32)), (.ref a1)])) _
      refine XS.iconst X0.here hx rfl (hb hby d8_14) ?_
      show Steps p.tables e below (s₁.setTop (mkF m 15 #[.val (.ref a1), .val (.int k), .val (.int x)] [(.int (1 : Int32)), (.ref a1), (.int (0 : Int32)), (.ref a1)])) _
      refine X0.iaload hx (j := (1 : Int32)) (v := (.int y)) (by rw [e0]; exact Ar7.1) (State.isArrayOf_alike hZ.alike Ar7.2.1) Ar7.2.2 hin7 hat7 (g := (mkF m 15 #[.val (.ref a1), .val (.int k), .val (.int x)] [(.int (1 : Int32)), (.ref a1), (.int (0 : Int32)), (.ref a1)])) rfl rfl (hb hby d8_15) _ ?_
      show Steps p.tables e below (s₁.setTop (mkF m 16 #[.val (.ref a1), .val (.int k), .val (.int x)] [(.int y), (.int (0 : Int32)), (.ref a1)])) _
      refine st10 _ ?_
      show Steps p.tables e below (T10.setTop (mkF m 17 #[.val (.ref a1), .val (.int k), .val (.int x)] [])) _
      refine XS.aloadN X10.here hx rfl (hb hby d8_17) rfl rfl ?_
      show Steps p.tables e below (T10.setTop (mkF m 18 #[.val (.ref a1), .val (.int k), .val (.int x)] [(.ref a1)])) _
      refine XS.iconst X10.here hx rfl (hb hby d8_18) ?_
      show Steps p.tables e below (T10.setTop (mkF m 19 #[.val (.ref a1), .val (.int k), .val (.int x)] [(.int (1 : Int32)), (.ref a1)])) _
      refine XS.aloadN X10.here hx rfl (hb hby d8_19) rfl rfl ?_
      show Steps p.tables e below (T10.setTop (mkF m 20 #[.val (.ref a1), .val (.int k), .val (.int x)] [(.ref a1), (.int (1 : Int32)), (.ref a1)])) _
      refine XS.iconst X10.here hx rfl (hb hby d8_20) ?_
      show Steps p.tables e below (T10.setTop (mkF m 21 #[.val (.ref a1), .val (.int k), .val (.int x)] [(.int (2 : Int32)), (.ref a1), (.int (1 : Int32)), (.ref a1)])) _
      refine X10.iaload hx (j := (2 : Int32)) (v := (.int z)) (by rw [e10]; exact Ar11.1) (State.isArrayOf_alike hZ.alike Ar11.2.1) Ar11.2.2 hin11 hat11 (g := (mkF m 21 #[.val (.ref a1), .val (.int k), .val (.int x)] [(.int (2 : Int32)), (.ref a1), (.int (1 : Int32)), (.ref a1)])) rfl rfl (hb hby d8_21) _ ?_
      show Steps p.tables e below (T10.setTop (mkF m 22 #[.val (.ref a1), .val (.int k), .val (.int x)] [(.int z), (.int (1 : Int32)), (.ref a1)])) _
      refine st14 _ ?_
      show Steps p.tables e below (T14.setTop (mkF m 23 #[.val (.ref a1), .val (.int k), .val (.int x)] [])) _
      refine XS.aloadN X14.here hx rfl (hb hby d8_23) rfl rfl ?_
      show Steps p.tables e below (T14.setTop (mkF m 24 #[.val (.ref a1), .val (.int k), .val (.int x)] [(.ref a1)])) _
      refine XS.iconst X14.here hx rfl (hb hby d8_24) ?_
      show Steps p.tables e below (T14.setTop (mkF m 25 #[.val (.ref a1), .val (.int k), .val (.int x)] [(.int (2 : Int32)), (.ref a1)])) _
      refine XS.iloadN X14.here hx rfl (hb hby d8_25) rfl ?_
      show Steps p.tables e below (T14.setTop (mkF m 26 #[.val (.ref a1), .val (.int k), .val (.int x)] [(.int x), (.int (2 : Int32)), (.ref a1)])) _
      refine st16 _ ?_
      show Steps p.tables e below (T16.setTop (mkF m 27 #[.val (.ref a1), .val (.int k), .val (.int x)] [])) _
      refine XS.goto X16.here hx rfl (pc0 := 27) (pc' := 51) rfl (hb hby d8_27) (by decide) (by decide) ?_
      exact k_
    obtain ⟨fs, hr, hrun, hended, hW, hsame⟩ := X16.leave (v := none) (fun _ => rfl)
    refine ⟨_, _, go17 _ ?_, hrun, hended, _, _, rfl, ?_, ⟨_, rfl⟩, hW, hsame.mono (by decide) (by decide)⟩
    · skip
      show Steps p.tables e below (T16.setTop (mkF m 51 #[.val (.ref a1), .val (.int k), .val (.int x)] [])) _
      exact X16.returnOut hx Bd.returns (hb hby d8_51) hr
    · show Q_rmMove Z a1 ko x y z k h0 n0 _ T16.heap _
      rw [e16]
      exact ⟨rfl, N16, K16, by simpa [own_mv, hc4] using V16⟩
  · skip
    obtain ⟨cl18, Ar18, q18, S18, M18, H18, G18⟩ := f2
    have f19 : Arv Z h0 a1 ko .int (3 : Int32) [(.int x), (.int y), (.int z)] (.int (0 : Int32)) := ⟨cl18, Ar18, q18, S18, M18, H18, G18⟩
    have hin18 : ¬ ((1 : Int32) < 0 ∨ cl18.slots.size ≤ ((1 : Int32)).toNatClampNeg) := inb_of S18 ⟨by decide, by decide⟩
    have hat18 : cl18.slots[((1 : Int32)).toNatClampNeg]? = some (.int y) := Has.at H18 hin18 rfl
    have go20 : ∀ t_, Steps p.tables e below (s₁.setTop (mkF m 34 #[.val (.ref a1), .val (.int k), .unset] [(.int k), (.int y)])) t_ → Steps p.tables e below (s₁.setTop (entryFrame m #[(.ref a1), (.int k)] 3)) t_ := by
      intro t_ k_
      refine go3 t_ ?_
      show Steps p.tables e below (s₁.setTop (mkF m 4 #[.val (.ref a1), .val (.int k), .unset] [(.int k), (.int x)])) _
      refine XS.icmpYes X0.here hx rfl (pc0 := 4) (pc' := 30) rfl (hb hby d8_4) rfl (feq hc4).2 (by decide) (by decide) ?_
      show Steps p.tables e below (s₁.setTop (mkF m 30 #[.val (.ref a1), .val (.int k), .unset] [])) _
      refine XS.aloadN X0.here hx rfl (hb hby d8_30) rfl rfl ?_
      show Steps p.tables e below (s₁.setTop (mkF m 31 #[.val (.ref a1), .val (.int k), .unset] [(.ref a1)])) _
      refine XS.iconst X0.here hx rfl (hb hby d8_31) ?_
      show Steps p.tables e below (s₁.setTop (mkF m 32 #[.val (.ref a1), .val (.int k), .unset] [(.int (1 : Int32)), (.ref a1)])) _
      refine X0.iaload hx (j := (1 : Int32)) (v := (.int y)) (by rw [e0]; exact Ar18.1) (State.isArrayOf_alike hZ.alike Ar18.2.1) Ar18.2.2 hin18 hat18 (g := (mkF m 32 #[.val (.ref a1), .val (.int k), .unset] [(.int (1 : Int32)), (.ref a1)])) rfl rfl (hb hby d8_32) _ ?_
      show Steps p.tables e below (s₁.setTop (mkF m 33 #[.val (.ref a1), .val (.int k), .unset] [(.int y)])) _
      refine XS.iloadN X0.here hx rfl (hb hby d8_33) rfl ?_
      exact k_
    by_cases hc21 : y = k
    · skip
      obtain ⟨cl22, Ar22, q22, S22, M22, H22, G22⟩ := f19
      have f23 : Arv Z h0 a1 ko .int (3 : Int32) [(.int x), (.int y), (.int z)] (.int (0 : Int32)) := ⟨cl22, Ar22, q22, S22, M22, H22, G22⟩
      have hin22 : ¬ ((1 : Int32) < 0 ∨ cl22.slots.size ≤ ((1 : Int32)).toNatClampNeg) := inb_of S22 ⟨by decide, by decide⟩
      have hat22 : cl22.slots[((1 : Int32)).toNatClampNeg]? = some (.int y) := Has.at H22 hin22 rfl
      obtain ⟨cl24, Ar24, q24, S24, M24, H24, G24⟩ := f23
      have f25 : Arv Z h0 a1 ko .int (3 : Int32) [(.int x), (.int y), (.int z)] (.int (0 : Int32)) := ⟨cl24, Ar24, q24, S24, M24, H24, G24⟩
      have hin24 : ¬ ((2 : Int32) < 0 ∨ cl24.slots.size ≤ ((2 : Int32)).toNatClampNeg) := inb_of S24 ⟨by decide, by decide⟩
      have hat24 : cl24.slots[((2 : Int32)).toNatClampNeg]? = some (.int z) := Has.at H24 hin24 rfl
      obtain ⟨cl26, Ar26, q26, S26, M26, H26, G26⟩ := f25
      have hin26 : ¬ ((1 : Int32) < 0 ∨ cl26.slots.size ≤ ((1 : Int32)).toNatClampNeg) := inb_of S26 ⟨by decide, by decide⟩
      obtain ⟨T27, h27, X27, e27, W27, st27⟩ := stI X0 hx hZ e0 Ar26 (j := (1 : Int32)) hin26 (g := (mkF m 46 #[.val (.ref a1), .val (.int k), .val (.int y)] [(.int z), (.int (1 : Int32)), (.ref a1)])) rfl rfl (hb hby d8_46)
      have V27 : Arv Z h27 a1 ko .int (3 : Int32) [(.int x), (.int z), (.int z)] (.int (0 : Int32)) := Arv.set Ar26 q26 S26 M26 H26 G26 rfl W27 1 rfl (Nat.le_of_ble_eq_true rfl)
      have N27 := Fr.snoc X27 N0 (show n0 ≤ a1 by omega)
      have sz27 : h0.size ≤ h27.size := Nat.le_of_eq W27.size.symm
      have Z27 : n0 ≤ h27.size := Nat.le_trans Z0 sz27
      have K27 : Keep h0 h27 [a1] := K0.wr W27 (Or.inl (by simp))
      obtain ⟨cl28, Ar28, q28, S28, M28, H28, G28⟩ := V27
      have hin28 : ¬ ((2 : Int32) < 0 ∨ cl28.slots.size ≤ ((2 : Int32)).toNatClampNeg) := inb_of S28 ⟨by decide, by decide⟩
      obtain ⟨T29, h29, X29, e29, W29, st29⟩ := stI X27 hx hZ e27 Ar28 (j := (2 : Int32)) hin28 (g := (mkF m 50 #[.val (.ref a1), .val (.int k), .val (.int y)] [(.int y), (.int (2 : Int32)), (.ref a1)])) rfl rfl (hb hby d8_50)
      have V29 : Arv Z h29 a1 ko .int (3 : Int32) [(.int x), (.int z), (.int y)] (.int (0 : Int32)) := Arv.set Ar28 q28 S28 M28 H28 G28 rfl W29 2 rfl (Nat.le_of_ble_eq_true rfl)
      have N29 := Fr.snoc X29 N27 (show n0 ≤ a1 by omega)
      have sz29 : h27.size ≤ h29.size := Nat.le_of_eq W29.size.symm
      have Z29 : n0 ≤ h29.size := Nat.le_trans Z27 sz29
      have K29 : Keep h0 h29 [a1] := K27.wr W29 (Or.inl (by simp))
      have go30 : ∀ t_, Steps p.tables e below (T29.setTop (mkF m 51 #[.val (.ref a1), .val (.int k), .val (.int y)] [])) t_ → Steps p.tables e below (s₁.setTop (entryFrame m #[(.ref a1), (.int k)] 3)) t_ := by
        intro t_ k_
        refine go20 t_ ?_
        show Steps p.tables e below (s₁.setTop (mkF m 34 #[.val (.ref a1), .val (.int k), .unset] [(.int k), (.int y)])) _
        refine XS.icmpNo X0.here hx rfl (hb hby d8_34) rfl (teq hc21).2 ?_
        show Steps p.tables e below (s₁.setTop (mkF m 37 #[.val (.ref a1), .val (.int k), .unset] [])) _
        refine XS.aloadN X0.here hx rfl (hb hby d8_37) rfl rfl ?_
        show Steps p.tables e below (s₁.setTop (mkF m 38 #[.val (.ref a1), .val (.int k), .unset] [(.ref a1)])) _
        refine XS.iconst X0.here hx rfl (hb hby d8_38) ?_
        show Steps p.tables e below (s₁.setTop (mkF m 39 #[.val (.ref a1), .val (.int k), .unset] [(.int (1 : Int32)), (.ref a1)])) _
        refine X0.iaload hx (j := (1 : Int32)) (v := (.int y)) (by rw [e0]; exact Ar22.1) (State.isArrayOf_alike hZ.alike Ar22.2.1) Ar22.2.2 hin22 hat22 (g := (mkF m 39 #[.val (.ref a1), .val (.int k), .unset] [(.int (1 : Int32)), (.ref a1)])) rfl rfl (hb hby d8_39) _ ?_
        show Steps p.tables e below (s₁.setTop (mkF m 40 #[.val (.ref a1), .val (.int k), .unset] [(.int y)])) _
        refine XS.istoreN X0.here hx rfl (hb hby d8_40) rfl (l' := #[.val (.ref a1), .val (.int k), .val (.int y)]) rfl ?_
        show Steps p.tables e below (s₁.setTop (mkF m 41 #[.val (.ref a1), .val (.int k), .val (.int y)] [])) _
        refine XS.aloadN X0.here hx rfl (hb hby d8_41) rfl rfl ?_
        show Steps p.tables e below (s₁.setTop (mkF m 42 #[.val (.ref a1), .val (.int k), .val (.int y)] [(.ref a1)])) _
        refine XS.iconst X0.here hx rfl (hb hby d8_42) ?_
        show Steps p.tables e below (s₁.setTop (mkF m 43 #[.val (.ref a1), .val (.int k), .val (.int y)] [(.int (1 : Int32)), (.ref a1)])) _
        refine XS.aloadN X0.here hx rfl (hb hby d8_43) rfl rfl ?_
        show Steps p.tables e below (s₁.setTop (mkF m 44 #[.val (.ref a1), .val (.int k), .val (.int y)] [(.ref a1), (.int (1 : Int32)), (.ref a1)])) _
        refine XS.iconst X0.here hx rfl (hb hby d8_44) ?_
        show Steps p.tables e below (s₁.setTop (mkF m 45 #[.val (.ref a1), .val (.int k), .val (.int y)] [(.int (2 : Int32)), (.ref a1), (.int (1 : Int32)), (.ref a1)])) _
        refine X0.iaload hx (j := (2 : Int32)) (v := (.int z)) (by rw [e0]; exact Ar24.1) (State.isArrayOf_alike hZ.alike Ar24.2.1) Ar24.2.2 hin24 hat24 (g := (mkF m 45 #[.val (.ref a1), .val (.int k), .val (.int y)] [(.int (2 : Int32)), (.ref a1), (.int (1 : Int32)), (.ref a1)])) rfl rfl (hb hby d8_45) _ ?_
        show Steps p.tables e below (s₁.setTop (mkF m 46 #[.val (.ref a1), .val (.int k), .val (.int y)] [(.int z), (.int (1 : Int32)), (.ref a1)])) _
        refine st27 _ ?_
        show Steps p.tables e below (T27.setTop (mkF m 47 #[.val (.ref a1), .val (.int k), .val (.int y)] [])) _
        refine XS.aloadN X27.here hx rfl (hb hby d8_47) rfl rfl ?_
        show Steps p.tables e below (T27.setTop (mkF m 48 #[.val (.ref a1), .val (.int k), .val (.int y)] [(.ref a1)])) _
        refine XS.iconst X27.here hx rfl (hb hby d8_48) ?_
        show Steps p.tables e below (T27.setTop (mkF m 49 #[.val (.ref a1), .val (.int k), .val (.int y)] [(.int (2 : Int32)), (.ref a1)])) _
        refine XS.iloadN X27.here hx rfl (hb hby d8_49) rfl ?_
        show Steps p.tables e below (T27.setTop (mkF m 50 #[.val (.ref a1), .val (.int k), .val (.int y)] [(.int y), (.int (2 : Int32)), (.ref a1)])) _
        refine st29 _ ?_
        exact k_
      obtain ⟨fs, hr, hrun, hended, hW, hsame⟩ := X29.leave (v := none) (fun _ => rfl)
      refine ⟨_, _, go30 _ ?_, hrun, hended, _, _, rfl, ?_, ⟨_, rfl⟩, hW, hsame.mono (by decide) (by decide)⟩
      · skip
        show Steps p.tables e below (T29.setTop (mkF m 51 #[.val (.ref a1), .val (.int k), .val (.int y)] [])) _
        exact X29.returnOut hx Bd.returns (hb hby d8_51) hr
      · show Q_rmMove Z a1 ko x y z k h0 n0 _ T29.heap _
        rw [e29]
        exact ⟨rfl, N29, K29, by simpa [own_mv, hc4, hc21] using V29⟩
    · skip
      have go31 : ∀ t_, Steps p.tables e below (s₁.setTop (mkF m 51 #[.val (.ref a1), .val (.int k), .unset] [])) t_ → Steps p.tables e below (s₁.setTop (entryFrame m #[(.ref a1), (.int k)] 3)) t_ := by
        intro t_ k_
        refine go20 t_ ?_
        show Steps p.tables e below (s₁.setTop (mkF m 34 #[.val (.ref a1), .val (.int k), .unset] [(.int k), (.int y)])) _
        refine XS.icmpYes X0.here hx rfl (pc0 := 34) (pc' := 51) rfl (hb hby d8_34) rfl (feq hc21).2 (by decide) (by decide) ?_
        exact k_
      obtain ⟨fs, hr, hrun, hended, hW, hsame⟩ := X0.leave (v := none) (fun _ => rfl)
      refine ⟨_, _, go31 _ ?_, hrun, hended, _, _, rfl, ?_, ⟨_, rfl⟩, hW, hsame.mono (by decide) (by decide)⟩
      · skip
        show Steps p.tables e below (s₁.setTop (mkF m 51 #[.val (.ref a1), .val (.int k), .unset] [])) _
        exact X0.returnOut hx Bd.returns (hb hby d8_51) hr
      · show Q_rmMove Z a1 ko x y z k h0 n0 _ s₁.heap _
        rw [e0]
        exact ⟨rfl, N0, K0, by simpa [own_mv, hc4, hc21] using f19⟩
theorem ef_1 (m : MethodId) (x0 : Int32) : entryFrame m #[(.int x0)] 1 = mkF m 0 #[.val (.int x0)] [] := by first | (simp [entryFrame, mkF, argsToLocals, Value.category]; done) | rfl
theorem pn_Integer : plainName "java/lang/Integer" = true := by first | (simp [plainName, overriddenIn]; done) | decide +kernel
theorem d1_0 : decode jdk_33_method_22_code 0 = .ok (.iload_n 0, 1) := by decide +kernel
theorem d1_1 : decode jdk_33_method_22_code 1 = .ok (.bipush (-128), 2) := by decide +kernel
theorem d1_3 : decode jdk_33_method_22_code 3 = .ok (.if_icmp .lt 20, 3) := by decide +kernel
theorem d1_6 : decode jdk_33_method_22_code 6 = .ok (.iload_n 0, 1) := by decide +kernel
theorem d1_7 : decode jdk_33_method_22_code 7 = .ok (.getstatic 191, 3) := by decide +kernel
theorem d1_10 : decode jdk_33_method_22_code 10 = .ok (.if_icmp .gt 13, 3) := by decide +kernel
theorem d1_13 : decode jdk_33_method_22_code 13 = .ok (.getstatic 195, 3) := by decide +kernel
theorem d1_16 : decode jdk_33_method_22_code 16 = .ok (.iload_n 0, 1) := by decide +kernel
theorem d1_17 : decode jdk_33_method_22_code 17 = .ok (.sipush 128, 3) := by decide +kernel
theorem d1_20 : decode jdk_33_method_22_code 20 = .ok (.iadd, 1) := by decide +kernel
theorem d1_21 : decode jdk_33_method_22_code 21 = .ok (.aaload, 1) := by decide +kernel
theorem d1_22 : decode jdk_33_method_22_code 22 = .ok (.areturn, 1) := by decide +kernel
def Q_rmInt (Z : State) (p1 : Int32) (ca : Nat) (cc : Cell) (w : Nat) (h0 : Heap) (n0 : Nat) (v : Option Value) (h : Heap) (L : List Loc) : Prop := v = some (.ref w) ∧ Fr n0 L ∧ h = h0
set_option maxRecDepth 65536 in
set_option maxHeartbeats 40000000 in
theorem rmInt (l : Launch) (Z : State) (a0 : Array Value) (hw : ∀ d ∈ tables_1, d.before a0 Z = true) (ws : List Jvm.Cond) (p1 : Int32) (ca : Nat) (cc : Cell) (w : Nat) (h0 : Heap) (n0 : Nat) (Z0 : n0 ≤ h0.size) (S_high : Sta Z h0 "java/lang/Integer$IntegerCache" "high" "I" (.int (127 : Int32))) (S_cache : Sta Z h0 "java/lang/Integer$IntegerCache" "cache" "[Ljava/lang/Integer;" (.ref ca)) (Ac : Arr Z h0 ca cc (.object "java/lang/Integer")) (hlo : ¬ (p1 < (-128 : Int32))) (hhi : ¬ ((127 : Int32) < p1)) (hin : ¬ ((p1 + (128 : Int32)) < 0 ∨ cc.slots.size ≤ (p1 + (128 : Int32)).toNatClampNeg)) (hat : cc.slots[(p1 + (128 : Int32)).toNatClampNeg]? = some (.ref w)) :
    MetFree l (⟨"java/lang/Integer", "valueOf", "(I)Ljava/lang/Integer;"⟩ : MethodName) (head1 (Jvm.Cond.code (⟨"java/lang/Integer", "valueOf", "(I)Ljava/lang/Integer;"⟩ : MethodName) jdk_33_method_22_code 1 (some (.object "java/lang/Integer")) :: ws) ({ frames := 0, cells := 0, slots := 0, locals := 0 } : Room)) (fun a U => a = #[(.int p1)] ∧ Z.Warmed39 U.vm ∧ U.heap = h0) (fun _ _ _ _ _ => True) (fun _ U o U' => ∃ v L, o = .returned v ∧ Q_rmInt Z p1 ca cc w h0 n0 v U'.heap L ∧ FrameEnd U o U' L ({ frames := 0, cells := 0, slots := 0, locals := 0 } : Room).cells ({ frames := 0, cells := 0, slots := 0, locals := 0 } : Room).slots) := by
  have hw_7 := hw _ (List.mem_of_getElem? (i := 7) rfl)
  have hw_9 := hw _ (List.mem_of_getElem? (i := 9) rfl)
  refine MetFree.of_bodySF (plainFor_of_name pn_Integer) hisR ?_
  intro p e s m args below meth c s₁ Bd hml0 hP hK
  obtain ⟨rfl, hZ, hh⟩ := hP
  have hx := Bd.exec
  have hby := Bd.bytes
  have hml : c.maxLocals = 1 := hml0
  have hown : s.vm.findClass "java/lang/Integer" = some m.cls := findClass_of_methodNamed Bd.named
  have hnm := (name_of_methodNamed Bd.named Bd.method).1
  have X0 : Stand p l e ({ frames := 0, cells := 0, slots := 0, locals := 0 } : Room) s m #[(.int p1)] below meth c s₁ [] 0 0 := Stand.of_body Bd
  have e0 : s₁.heap = h0 := by rw [← hh, Bd.state]; rfl
  have N0 := Fr.nil n0
  have pre0 : ∀ t_, Steps p.tables e below (s₁.setTop (mkF m 0 #[.val (.int p1)] [])) t_ → Steps p.tables e below (s₁.setTop (entryFrame m #[(.int p1)] 1)) t_ := fun t_ k_ => castTop (ef_1 m p1) k_
  obtain ⟨T1, X1, e1, st1⟩ := getS2 X0 hx hZ hown (host := "") (Or.inl hw_7) Via.refl e0 S_high (g := (mkF m 7 #[.val (.int p1)] [(.int p1)])) rfl (hb hby d1_7)
  obtain ⟨T2, X2, e2, st2⟩ := getS2 X1 hx hZ hown (host := "") (Or.inl hw_9) Via.refl e1 S_cache (g := (mkF m 13 #[.val (.int p1)] [])) rfl (hb hby d1_13)
  have go3 : ∀ t_, Steps p.tables e below (T2.setTop (mkF m 22 #[.val (.int p1)] [(.ref w)])) t_ → Steps p.tables e below (s₁.setTop (entryFrame m #[(.int p1)] 1)) t_ := by
    intro t_ k_
    refine pre0 t_ ?_
    show Steps p.tables e below (s₁.setTop (mkF m 0 #[.val (.int p1)] [])) _
    refine XS.iloadN X0.here hx rfl (hb hby d1_0) rfl ?_
    show Steps p.tables e below (s₁.setTop (mkF m 1 #[.val (.int p1)] [(.int p1)])) _
    refine XS.bipush X0.here hx rfl (hb hby d1_1) ?_
    show Steps p.tables e below (s₁.setTop (mkF m 3 #[.val (.int p1)] [(.int (-128 : Int32)), (.int p1)])) _
    refine XS.icmpNo X0.here hx rfl (hb hby d1_3) rfl (flt hlo).1 ?_
    show Steps p.tables e below (s₁.setTop (mkF m 6 #[.val (.int p1)] [])) _
    refine XS.iloadN X0.here hx rfl (hb hby d1_6) rfl ?_
    show Steps p.tables e below (s₁.setTop (mkF m 7 #[.val (.int p1)] [(.int p1)])) _
    refine st1 _ ?_
    show Steps p.tables e below (T1.setTop (mkF m 10 #[.val (.int p1)] [(.int (127 : Int32)), (.int p1)])) _
    refine XS.icmpNo X1.here hx rfl (hb hby d1_10) rfl (flt hhi).2.2.1 ?_
    show Steps p.tables e below (T1.setTop (mkF m 13 #[.val (.int p1)] [])) _
    refine st2 _ ?_
    show Steps p.tables e below (T2.setTop (mkF m 16 #[.val (.int p1)] [(.ref ca)])) _
    refine XS.iloadN X2.here hx rfl (hb hby d1_16) rfl ?_
    show Steps p.tables e below (T2.setTop (mkF m 17 #[.val (.int p1)] [(.int p1), (.ref ca)])) _
    refine XS.sipush X2.here hx rfl (hb hby d1_17) ?_
    show Steps p.tables e below (T2.setTop (mkF m 20 #[.val (.int p1)] [(.int (128 : Int32)), (.int p1), (.ref ca)])) _
    refine XS.iadd X2.here hx rfl (hb hby d1_20) rfl ?_
    show Steps p.tables e below (T2.setTop (mkF m 21 #[.val (.int p1)] [(.int (p1 + (128 : Int32))), (.ref ca)])) _
    refine X2.aaload hx (j := (p1 + (128 : Int32))) (v := (.ref w)) (by rw [e2]; exact Ac.1) (State.isArrayOf_alike hZ.alike Ac.2.1) rfl Ac.2.2 hin hat (g := (mkF m 21 #[.val (.int p1)] [(.int (p1 + (128 : Int32))), (.ref ca)])) rfl rfl (hb hby d1_21) _ ?_
    exact k_
  obtain ⟨fs, hr, hrun, hended, hW, hsame⟩ := X2.leave (v := some (.ref w)) (fun h => by rw [Bd.returns] at h; cases h)
  refine ⟨_, _, go3 _ ?_, hrun, hended, _, _, rfl, ?_, ⟨_, rfl⟩, hW, hsame.mono (by decide) (by decide)⟩
  · skip
    show Steps p.tables e below (T2.setTop (mkF m 22 #[.val (.int p1)] [(.ref w)])) _
    jvm_step X2.here [X2.here.top, hx, (hb hby d1_22), X2.method', Bd.returns, Value.isRef, FieldType.isReference]
    first | (intro acts; rw [hr _ acts rfl rfl rfl]) | rw [hr _ _ rfl rfl rfl]
    exact Steps.refl _
  · show Q_rmInt Z p1 ca cc w h0 n0 _ T2.heap _
    rw [e2]
    exact ⟨rfl, N0, rfl⟩
def own_L (a0 a1 a2 a3 a4 a5 a6 a7 a8 a9 a10 a11 a12 a13 a14 a15 : Int32) : List Value := [.int a0, .int a1, .int a2, .int a3, .int a4, .int a5, .int a6, .int a7, .int a8, .int a9, .int a10, .int a11, .int a12, .int a13, .int a14, .int a15] ++ List.replicate 48 (.int (0 : Int32))
theorem own_Ln {a0 a1 a2 a3 a4 a5 a6 a7 a8 a9 a10 a11 a12 a13 a14 a15 : Int32} : (own_L a0 a1 a2 a3 a4 a5 a6 a7 a8 a9 a10 a11 a12 a13 a14 a15).length = 64 := by simp [own_L]
def own_E (e1 e2 e3 : Value) : List Value := [.null, e1, e2, e3] ++ List.replicate 12 .null
theorem own_En {e1 e2 e3 : Value} : (own_E e1 e2 e3).length = 16 := by simp [own_E]
theorem ef_2 (m : MethodId) (x0 : Addr) : entryFrame m #[(.ref x0)] 1 = mkF m 0 #[.val (.ref x0)] [] := by first | (simp [entryFrame, mkF, argsToLocals, Value.category]; done) | rfl
theorem d2_0 : decode prog_46_method_1_code 0 = .ok (.aload_n 0, 1) := by decide +kernel
theorem d2_1 : decode prog_46_method_1_code 1 = .ok (.invokespecial 1, 3) := by decide +kernel
theorem d2_4 : decode prog_46_method_1_code 4 = .ok (.aload_n 0, 1) := by decide +kernel
theorem d2_5 : decode prog_46_method_1_code 5 = .ok (.bipush 16, 2) := by decide +kernel
theorem d2_7 : decode prog_46_method_1_code 7 = .ok (.anewarray 2, 3) := by decide +kernel
theorem d2_10 : decode prog_46_method_1_code 10 = .ok (.putfield 9, 3) := by decide +kernel
theorem d2_13 : decode prog_46_method_1_code 13 = .ok (.aload_n 0, 1) := by decide +kernel
theorem d2_14 : decode prog_46_method_1_code 14 = .ok (.bipush 64, 2) := by decide +kernel
theorem d2_16 : decode prog_46_method_1_code 16 = .ok (.newarray .int, 2) := by decide +kernel
theorem d2_18 : decode prog_46_method_1_code 18 = .ok (.putfield 13, 3) := by decide +kernel
theorem d2_21 : decode prog_46_method_1_code 21 = .ok (.aload_n 0, 1) := by decide +kernel
theorem d2_22 : decode prog_46_method_1_code 22 = .ok (.iconst 0, 1) := by decide +kernel
theorem d2_23 : decode prog_46_method_1_code 23 = .ok (.putfield 17, 3) := by decide +kernel
theorem d2_26 : decode prog_46_method_1_code 26 = .ok (.aload_n 0, 1) := by decide +kernel
theorem d2_27 : decode prog_46_method_1_code 27 = .ok (.iconst 0, 1) := by decide +kernel
theorem d2_28 : decode prog_46_method_1_code 28 = .ok (.putfield 21, 3) := by decide +kernel
theorem d2_31 : decode prog_46_method_1_code 31 = .ok (.return_, 1) := by decide +kernel
def Q_rmInit (Z : State) (u : Nat) (h0 : Heap) (n0 : Nat) (v : Option Value) (h : Heap) (L : List Loc) : Prop := ∃ (en li : Nat) (ke kl : ClassId), v = none ∧ Fr n0 L ∧ Keep h0 h [u] ∧ h0.size ≤ en ∧ en < li ∧ li < h.size ∧ Exa Z h u "com/example/terrace/terrace/core/UseOrder" ∧ Fld Z h u "com/example/terrace/terrace/core/UseOrder" "entries" "[Ljava/lang/Object;" (.ref en) ∧ Fld Z h u "com/example/terrace/terrace/core/UseOrder" "links" "[I" (.ref li) ∧ Fld Z h u "com/example/terrace/terrace/core/UseOrder" "free" "I" (.int (0 : Int32)) ∧ Fld Z h u "com/example/terrace/terrace/core/UseOrder" "highest" "I" (.int (0 : Int32)) ∧ Ovr Z ke "java/lang/Object" ∧ Arv Z h en ke (.object "java/lang/Object") (16 : Int32) (own_E .null .null .null) .null ∧ Arv Z h li kl .int (64 : Int32) (own_L 0 0 0 0 0 0 0 0 0 0 0 0 0 0 0 0) (.int (0 : Int32))
set_option maxRecDepth 65536 in
set_option maxHeartbeats 40000000 in
theorem rmInit (l : Launch) (Z : State) (a0 : Array Value) (hw : ∀ d ∈ tables_1, d.before a0 Z = true) (ws : List Jvm.Cond) (u : Nat) (h0 : Heap) (n0 : Nat) (Z0 : n0 ≤ h0.size) (Eu : Exa Z h0 u "com/example/terrace/terrace/core/UseOrder") (Fe : Fld Z h0 u "com/example/terrace/terrace/core/UseOrder" "entries" "[Ljava/lang/Object;" .null) (Fl : Fld Z h0 u "com/example/terrace/terrace/core/UseOrder" "links" "[I" .null) (Ff : Fld Z h0 u "com/example/terrace/terrace/core/UseOrder" "free" "I" (.int (0 : Int32))) (Fh : Fld Z h0 u "com/example/terrace/terrace/core/UseOrder" "highest" "I" (.int (0 : Int32))) (gu : n0 ≤ u) (lu : u < h0.size) :
    MetFree l (⟨"com/example/terrace/terrace/core/UseOrder", "<init>", "()V"⟩ : MethodName) (head1 (Jvm.Cond.code (⟨"com/example/terrace/terrace/core/UseOrder", "<init>", "()V"⟩ : MethodName) prog_46_method_1_code 1 none :: ws) ({ frames := 1, cells := 2, slots := 80, locals := 12 } : Room)) (fun a U => a = #[(.ref u)] ∧ Z.Warmed39 U.vm ∧ U.heap = h0) (fun _ _ _ _ _ => True) (fun _ U o U' => ∃ v L, o = .returned v ∧ Q_rmInit Z u h0 n0 v U'.heap L ∧ FrameEnd U o U' L ({ frames := 1, cells := 2, slots := 80, locals := 12 } : Room).cells ({ frames := 1, cells := 2, slots := 80, locals := 12 } : Room).slots) := by
  have hw_11 := hw _ (List.mem_of_getElem? (i := 11) rfl)
  have hw_13 := hw _ (List.mem_of_getElem? (i := 13) rfl)
  have hw_18 := hw _ (List.mem_of_getElem? (i := 18) rfl)
  have hw_19 := hw _ (List.mem_of_getElem? (i := 19) rfl)
  have hw_20 := hw _ (List.mem_of_getElem? (i := 20) rfl)
  have hw_21 := hw _ (List.mem_of_getElem? (i := 21) rfl)
  have hw_22 := hw _ (List.mem_of_getElem? (i := 22) rfl)
  have hw_23 := hw _ (List.mem_of_getElem? (i := 23) rfl)
  have hw_24 := hw _ (List.mem_of_getElem? (i := 24) rfl)
  have hw_25 := hw _ (List.mem_of_getElem? (i := 25) rfl)
  have hw_26 := hw _ (List.mem_of_getElem? (i := 26) rfl)
  have hw_27 := hw _ (List.mem_of_getElem? (i := 27) rfl)
  have hw_28 := hw _ (List.mem_of_getElem? (i := 28) rfl)
  have hw_29 := hw _ (List.mem_of_getElem? (i := 29) rfl)
  have hw_30 := hw _ (List.mem_of_getElem? (i := 30) rfl)
  refine MetFree.of_bodySF (plainFor_of_name pn_UseOrder) hisR ?_
  intro p e s m args below meth c s₁ Bd hml0 hP hK
  obtain ⟨rfl, hZ, hh⟩ := hP
  have hx := Bd.exec
  have hby := Bd.bytes
  have hml : c.maxLocals = 1 := hml0
  have hown : s.vm.findClass "com/example/terrace/terrace/core/UseOrder" = some m.cls := findClass_of_methodNamed Bd.named
  have hnm := (name_of_methodNamed Bd.named Bd.method).1
  have X0 : Stand p l e ({ frames := 1, cells := 2, slots := 80, locals := 12 } : Room) s m #[(.ref u)] below meth c s₁ [] 0 0 := Stand.of_body Bd
  have e0 : s₁.heap = h0 := by rw [← hh, Bd.state]; rfl
  have N0 := Fr.nil n0
  have pre0 : ∀ t_, Steps p.tables e below (s₁.setTop (mkF m 0 #[.val (.ref u)] [])) t_ → Steps p.tables e below (s₁.setTop (entryFrame m #[(.ref u)] 1)) t_ := fun t_ k_ => castTop (ef_2 m u) k_
  have K0 : Keep h0 h0 [u] := Keep.refl h0 _
  obtain ⟨T1, X1, e1, st1⟩ := initO X0 hx hZ hown hw_18 hw_19 hw_20 e0 (g := (mkF m 1 #[.val (.ref u)] [(.ref u)])) rfl (by rw [hml]; rfl) rfl (hb hby d2_1) (by decide) (W := 0) (by show 2 * 0 + _ ≤ _; exact Nat.le_of_eq rfl) (by decide)
  obtain ⟨T2, h2, k2, X2, e2, E2, A2, Ov2, st2⟩ := newR X1 hx hZ hown hw_21 hw_22 e1 (g := (mkF m 7 #[.val (.ref u)] [(.int (16 : Int32)), (.ref u)])) rfl (hb hby d2_7) rfl (by decide) (cap := 16) (by decide) (by decide) (by decide) (by decide)
  obtain ⟨b2, g2⟩ : ∃ z, z = h0.size := ⟨_, rfl⟩
  rw [← g2] at A2 st2
  have lt2 : b2 < h2.size := A2.lt
  have V2 : Arv Z h2 b2 k2 (.object "java/lang/Object") (16 : Int32) [.null, .null, .null, .null, .null, .null, .null, .null, .null, .null, .null, .null, .null, .null, .null, .null] .null := (Arv.new A2 (by decide)).pad (pad_rep [] .null 16)
  have sz2 : h0.size ≤ h2.size := E2.1
  have Z2 : n0 ≤ h2.size := Nat.le_trans Z0 sz2
  have K2 : Keep h0 h2 [u] := K0.ext E2
  have f3 := (Fe.ext E2)
  have f4 := (Eu.ext E2)
  obtain ⟨T5, h5, X5, e5, W5, st5⟩ := putF X2 hx hZ hown (host := "") (Or.inl hw_23) Via.refl e2 f3 f4 (Or.inl hw_24) hw_13 (ty := (.array (.object "java/lang/Object"))) (by decide) rfl rfl (g := (mkF m 10 #[.val (.ref u)] [(.ref b2), (.ref u)])) rfl rfl (hb hby d2_10)
  have Fw5 := f3.same W5
  have N5 := Fr.snoc X5 N0 (show n0 ≤ u by omega)
  have sz5 : h2.size ≤ h5.size := Nat.le_of_eq W5.size.symm
  have Z5 : n0 ≤ h5.size := Nat.le_trans Z2 sz5
  have K5 : Keep h0 h5 [u] := K2.wr W5 (Or.inl (by simp))
  obtain ⟨T6, h6, k6, X6, e6, E6, A6, st6⟩ := newP (aty := .int) X5 hx hZ hw_11 e5 (g := (mkF m 16 #[.val (.ref u)] [(.int (64 : Int32)), (.ref u)])) rfl (hb hby d2_16) rfl (by decide) (cap := 64) (by decide) (by decide) (by decide) (by decide)
  obtain ⟨b6, g6⟩ : ∃ z, z = h5.size := ⟨_, rfl⟩
  rw [← g6] at A6 st6
  have lt6 : b6 < h6.size := A6.lt
  have V6 : Arv Z h6 b6 k6 .int (64 : Int32) (List.replicate 64 (.int (0 : Int32))) (.int (0 : Int32)) := (Arv.new A6 (by decide)).pad (pad_rep [] (.int (0 : Int32)) 64)
  have sz6 : h5.size ≤ h6.size := E6.1
  have Z6 : n0 ≤ h6.size := Nat.le_trans Z5 sz6
  have K6 : Keep h0 h6 [u] := K5.ext E6
  have f7 := (Fl.ext E2)
  have f8 := (f7.other W5 (Or.inr (slot_ne (Or.inl hw_26) (Or.inl hw_24) (by decide) (t := (.array .int)) (t' := (.array (.object "java/lang/Object"))) (by decide) (by decide))))
  have f9 := (f8.ext E6)
  have f10 := (f4.wr W5)
  have f11 := (f10.ext E6)
  obtain ⟨T12, h12, X12, e12, W12, st12⟩ := putF X6 hx hZ hown (host := "") (Or.inl hw_25) Via.refl e6 f9 f11 (Or.inl hw_26) hw_13 (ty := (.array .int)) (by decide) rfl rfl (g := (mkF m 18 #[.val (.ref u)] [(.ref b6), (.ref u)])) rfl rfl (hb hby d2_18)
  have Fw12 := f9.same W12
  have N12 := Fr.snoc X12 N5 (show n0 ≤ u by omega)
  have sz12 : h6.size ≤ h12.size := Nat.le_of_eq W12.size.symm
  have Z12 : n0 ≤ h12.size := Nat.le_trans Z6 sz12
  have K12 : Keep h0 h12 [u] := K6.wr W12 (Or.inl (by simp))
  have f13 := (Ff.ext E2)
  have f14 := (f13.other W5 (Or.inr (slot_ne (Or.inl hw_28) (Or.inl hw_24) (by decide) (t := .int) (t' := (.array (.object "java/lang/Object"))) (by decide) (by decide))))
  have f15 := (f14.ext E6)
  have f16 := (f15.other W12 (Or.inr (slot_ne (Or.inl hw_28) (Or.inl hw_26) (by decide) (t := .int) (t' := (.array .int)) (by decide) (by decide))))
  have f17 := (f11.wr W12)
  obtain ⟨T18, h18, X18, e18, W18, st18⟩ := putF X12 hx hZ hown (host := "") (Or.inl hw_27) Via.refl e12 f16 f17 (Or.inl hw_28) hw_13 (ty := .int) (by decide) rfl rfl (g := (mkF m 23 #[.val (.ref u)] [(.int (0 : Int32)), (.ref u)])) rfl rfl (hb hby d2_23)
  have Fw18 := f16.same W18
  have N18 := Fr.snoc X18 N12 (show n0 ≤ u by omega)
  have sz18 : h12.size ≤ h18.size := Nat.le_of_eq W18.size.symm
  have Z18 : n0 ≤ h18.size := Nat.le_trans Z12 sz18
  have K18 : Keep h0 h18 [u] := K12.wr W18 (Or.inl (by simp))
  have f19 := (Fh.ext E2)
  have f20 := (f19.other W5 (Or.inr (slot_ne (Or.inl hw_30) (Or.inl hw_24) (by decide) (t := .int) (t' := (.array (.object "java/lang/Object"))) (by decide) (by decide))))
  have f21 := (f20.ext E6)
  have f22 := (f21.other W12 (Or.inr (slot_ne (Or.inl hw_30) (Or.inl hw_26) (by decide) (t := .int) (t' := (.array .int)) (by decide) (by decide))))
  have f23 := (f22.other W18 (Or.inr (slot_ne (Or.inl hw_30) (Or.inl hw_28) (by decide) (t := .int) (t' := .int) (by decide) (by decide))))
  have f24 := (f17.wr W18)
  obtain ⟨T25, h25, X25, e25, W25, st25⟩ := putF X18 hx hZ hown (host := "") (Or.inl hw_29) Via.refl e18 f23 f24 (Or.inl hw_30) hw_13 (ty := .int) (by decide) rfl rfl (g := (mkF m 28 #[.val (.ref u)] [(.int (0 : Int32)), (.ref u)])) rfl rfl (hb hby d2_28)
  have Fw25 := f23.same W25
  have N25 := Fr.snoc X25 N18 (show n0 ≤ u by omega)
  have sz25 : h18.size ≤ h25.size := Nat.le_of_eq W25.size.symm
  have Z25 : n0 ≤ h25.size := Nat.le_trans Z18 sz25
  have K25 : Keep h0 h25 [u] := K18.wr W25 (Or.inl (by simp))
  have go26 : ∀ t_, Steps p.tables e below (T25.setTop (mkF m 31 #[.val (.ref u)] [])) t_ → Steps p.tables e below (s₁.setTop (entryFrame m #[(.ref u)] 1)) t_ := by
    intro t_ k_
    refine pre0 t_ ?_
    show Steps p.tables e below (s₁.setTop (mkF m 0 #[.val (.ref u)] [])) _
    refine XS.aloadN X0.here hx rfl (hb hby d2_0) rfl rfl ?_
    show Steps p.tables e below (s₁.setTop (mkF m 1 #[.val (.ref u)] [(.ref u)])) _
    refine st1 _ ?_
    show Steps p.tables e below (T1.setTop (mkF m 4 #[.val (.ref u)] [])) _
    refine XS.aloadN X1.here hx rfl (hb hby d2_4) rfl rfl ?_
    show Steps p.tables e below (T1.setTop (mkF m 5 #[.val (.ref u)] [(.ref u)])) _
    refine XS.bipush X1.here hx rfl (hb hby d2_5) ?_
    show Steps p.tables e below (T1.setTop (mkF m 7 #[.val (.ref u)] [(.int (16 : Int32)), (.ref u)])) _
    refine st2 _ ?_
    show Steps p.tables e below (T2.setTop (mkF m 10 #[.val (.ref u)] [(.ref b2), (.ref u)])) _
    refine st5 _ ?_
    show Steps p.tables e below (T5.setTop (mkF m 13 #[.val (.ref u)] [])) _
    refine XS.aloadN X5.here hx rfl (hb hby d2_13) rfl rfl ?_
    show Steps p.tables e below (T5.setTop (mkF m 14 #[.val (.ref u)] [(.ref u)])) _
    refine XS.bipush X5.here hx rfl (hb hby d2_14) ?_
    show Steps p.tables e below (T5.setTop (mkF m 16 #[.val (.ref u)] [(.int (64 : Int32)), (.ref u)])) _
    refine st6 _ ?_
    show Steps p.tables e below (T6.setTop (mkF m 18 #[.val (.ref u)] [(.ref b6), (.ref u)])) _
    refine st12 _ ?_
    show Steps p.tables e below (T12.setTop (mkF m 21 #[.val (.ref u)] [])) _
    refine XS.aloadN X12.here hx rfl (hb hby d2_21) rfl rfl ?_
    show Steps p.tables e below (T12.setTop (mkF m 22 #[.val (.ref u)] [(.ref u)])) _
    refine XS.iconst X12.here hx rfl (hb hby d2_22) ?_
    show Steps p.tables e below (T12.setTop (mkF m 23 #[.val (.ref u)] [(.int (0 : Int32)), (.ref u)])) _
    refine st18 _ ?_
    show Steps p.tables e below (T18.setTop (mkF m 26 #[.val (.ref u)] [])) _
    refine XS.aloadN X18.here hx rfl (hb hby d2_26) rfl rfl ?_
    show Steps p.tables e below (T18.setTop (mkF m 27 #[.val (.ref u)] [(.ref u)])) _
    refine XS.iconst X18.here hx rfl (hb hby d2_27) ?_
    show Steps p.tables e below (T18.setTop (mkF m 28 #[.val (.ref u)] [(.int (0 : Int32)), (.ref u)])) _
    refine st25 _ ?_
    exact k_
  obtain ⟨fs, hr, hrun, hended, hW, hsame⟩ := X25.leave (v := none) (fun _ => rfl)
  have f27 := (f24.wr W25)
  have f28 := (Fw5.ext E6)
  have f29 := (f28.other W12 (Or.inr (slot_ne (Or.inl hw_24) (Or.inl hw_26) (by decide) (t := (.array (.object "java/lang/Object"))) (t' := (.array .int)) (by decide) (by decide))))
  have f30 := (f29.other W18 (Or.inr (slot_ne (Or.inl hw_24) (Or.inl hw_28) (by decide) (t := (.array (.object "java/lang/Object"))) (t' := .int) (by decide) (by decide))))
  have f31 := (f30.other W25 (Or.inr (slot_ne (Or.inl hw_24) (Or.inl hw_30) (by decide) (t := (.array (.object "java/lang/Object"))) (t' := .int) (by decide) (by decide))))
  have f32 := (Fw12.other W18 (Or.inr (slot_ne (Or.inl hw_26) (Or.inl hw_28) (by decide) (t := (.array .int)) (t' := .int) (by decide) (by decide))))
  have f33 := (f32.other W25 (Or.inr (slot_ne (Or.inl hw_26) (Or.inl hw_30) (by decide) (t := (.array .int)) (t' := .int) (by decide) (by decide))))
  have f34 := (Fw18.other W25 (Or.inr (slot_ne (Or.inl hw_28) (Or.inl hw_30) (by decide) (t := .int) (t' := .int) (by decide) (by decide))))
  have f35 := (V2.other W5 (show b2 ≠ u by omega))
  have f36 := (f35.ext E6)
  have f37 := (f36.other W12 (show b2 ≠ u by omega))
  have f38 := (f37.other W18 (show b2 ≠ u by omega))
  have f39 := (f38.other W25 (show b2 ≠ u by omega))
  have f40 := (V6.other W12 (show b6 ≠ u by omega))
  have f41 := (f40.other W18 (show b6 ≠ u by omega))
  have f42 := (f41.other W25 (show b6 ≠ u by omega))
  refine ⟨_, _, go26 _ ?_, hrun, hended, _, _, rfl, ?_, ⟨_, rfl⟩, hW, hsame.mono (by decide) (by decide)⟩
  · skip
    show Steps p.tables e below (T25.setTop (mkF m 31 #[.val (.ref u)] [])) _
    exact X25.returnOut hx Bd.returns (hb hby d2_31) hr
  · show Q_rmInit Z u h0 n0 _ T25.heap _
    rw [e25]
    exact ⟨b2, b6, k2, k6, rfl, N25, K25, by omega, by omega, by omega, f27, f31, f33, f34, Fw25, Ov2, f39, f42⟩
theorem own_mod3 (x : Int32) : ((x &&& (2147483647 : Int32)) % (3 : Int32)) = (0 : Int32) ∨ ((x &&& (2147483647 : Int32)) % (3 : Int32)) = (1 : Int32) ∨ ((x &&& (2147483647 : Int32)) % (3 : Int32)) = (2 : Int32) := by
  have h := (c_and x 2147483647 (by decide)).1
  generalize x &&& 2147483647 = y at h
  have q := (c_iremV y 3).1 h (by decide)
  have h3 : (3 : Int32).toInt = 3 := by decide
  rw [h3] at q
  have e : ∀ k : Int32, (y % 3).toInt = k.toInt → y % 3 = k := fun k q => Int32.toInt_inj.mp q
  have : (y % 3).toInt = 0 ∨ (y % 3).toInt = 1 ∨ (y % 3).toInt = 2 := by omega
  rcases this with q | q | q
  · exact Or.inl (e 0 q)
  · exact Or.inr (Or.inl (e 1 q))
  · exact Or.inr (Or.inr (e 2 q))
theorem ef_0 (m : MethodId) (x0 : Int32) (x1 : Int32) (x2 : Int32) : entryFrame m #[(.int x0), (.int x1), (.int x2)] maxLocals = mkF m 0 #[.val (.int x0), .val (.int x1), .val (.int x2), .unset, .unset, .unset, .unset, .unset, .unset, .unset, .unset, .unset, .unset] [] := by first | (simp [entryFrame, mkF, argsToLocals, Value.category, maxLocals]; done) | rfl
theorem pd_2 : parseMethodDescriptor "(I)Ljava/lang/Integer;" = some ⟨[.int], some (.object "java/lang/Integer")⟩ := by decide +kernel
theorem pd_3 : parseMethodDescriptor "()V" = some ⟨[], none⟩ := by decide +kernel
theorem pd_4 : parseMethodDescriptor "(Ljava/lang/Object;I)I" = some ⟨[(.object "java/lang/Object"), .int], some .int⟩ := by decide +kernel
theorem pd_5 : parseMethodDescriptor "([II)V" = some ⟨[(.array .int), .int], none⟩ := by decide +kernel
theorem pd_6 : parseMethodDescriptor "()Ljava/lang/Object;" = some ⟨[], some (.object "java/lang/Object")⟩ := by decide +kernel
set_option maxRecDepth 65536 in
set_option maxHeartbeats 40000000 in
theorem pc156_2 (l : Launch) (Z : State) (a0 : Array Value) (hw : ∀ d ∈ tables_1, d.before a0 Z = true) (ws : List Jvm.Cond) (p1 : Int32) (p2 : Int32) (p3 : Int32) (j7 : Nat) (j8 : Nat) (j9 : Nat) (b1 : Nat) (b11 : Nat) (b12 : Nat) (b19 : Nat) (en : Nat) (li : Nat) (k1 : ClassId) (k11 : ClassId) (k12 : ClassId) (ke : ClassId) (kl : ClassId) (z3 : Int32) (z4 : Int32) (h0 : Heap) (n0 : Nat) {p : Program} {e : Env} {s : State} {m : MethodId} {below : List Frame} {meth : Method} {c : Code} {s₁ T0 : State} {locs : List Loc}
    (Bd : BodyLoose p l x (head1 (Jvm.Cond.code x code maxLocals ret :: ws) room_1) code maxLocals ret e s m #[(.int p1), (.int p2), (.int p3)] below meth c s₁) (hml : c.maxLocals = 13) (hZ : Z.Warmed39 s.vm) (X0 : Stand p l e room_1 s m #[(.int p1), (.int p2), (.int p3)] below meth c T0 locs 6 93) (e0 : T0.heap = h0) (N0 : Fr n0 locs) (Z0 : n0 ≤ h0.size) (O0 : Old Z n0 h0) (q0_ : Arv Z h0 b1 k1 (.object "java/lang/Integer") (3 : Int32) [(.ref j7), (.ref j8), (.ref j9)] .null) (q1_ : Arv Z h0 b11 k11 .int (3 : Int32) [(.int (1 : Int32)), (.int (2 : Int32)), (.int (3 : Int32))] (.int (0 : Int32))) (q2_ : Arv Z h0 b12 k12 .int (3 : Int32) [(.int (1 : Int32)), (.int (2 : Int32)), (.int (0 : Int32))] (.int (0 : Int32))) (q3_ : Exa Z h0 b19 "com/example/terrace/terrace/core/UseOrder") (q4_ : Fld Z h0 b19 "com/example/terrace/terrace/core/UseOrder" "entries" "[Ljava/lang/Object;" (.ref en)) (q5_ : Fld Z h0 b19 "com/example/terrace/terrace/core/UseOrder" "links" "[I" (.ref li)) (q6_ : Fld Z h0 b19 "com/example/terrace/terrace/core/UseOrder" "free" "I" (.int (0 : Int32))) (q7_ : Fld Z h0 b19 "com/example/terrace/terrace/core/UseOrder" "highest" "I" (.int (3 : Int32))) (q8_ : Arv Z h0 en ke (.object "java/lang/Object") (16 : Int32) (own_E (.ref j7) (.ref j8) (.ref j9)) .null) (q9_ : Arv Z h0 li kl .int (64 : Int32) (own_L 1 2 0 0 3 0 p3 0 0 3 p3 0 2 1 p3 0) (.int (0 : Int32))) (g_b1 : n0 ≤ b1) (g_b11 : n0 ≤ b11) (g_b12 : n0 ≤ b12) (g_b19 : n0 ≤ b19) (g_en : n0 ≤ en) (g_li : n0 ≤ li) (ne_b1_b11 : b1 ≠ b11) (ne_b1_b12 : b1 ≠ b12) (ne_b1_b19 : b1 ≠ b19) (ne_b1_en : b1 ≠ en) (ne_b1_li : b1 ≠ li) (ne_b11_b12 : b11 ≠ b12) (ne_b11_b19 : b11 ≠ b19) (ne_b11_en : b11 ≠ en) (ne_b11_li : b11 ≠ li) (ne_b12_b19 : b12 ≠ b19) (ne_b12_en : b12 ≠ en) (ne_b12_li : b12 ≠ li) (ne_b19_en : b19 ≠ en) (ne_b19_li : b19 ≠ li) (ne_en_li : en ≠ li) (Ov_ : Ovr Z ke "java/lang/Object") (Ej7 : Exa Z Z.heap j7 "java/lang/Integer") (Ej8 : Exa Z Z.heap j8 "java/lang/Integer") (Ej9 : Exa Z Z.heap j9 "java/lang/Integer") :
    ∃ s₂ o, Steps p.tables e below (T0.setTop (mkF m 156 #[.val (.int p1), .val (.int p2), .val (.int p3), .val (.int z3), .val (.int z4), .val (.ref b1), .val (.ref b11), .val (.ref b12), .val (.ref b19), .unset, .unset, .unset, .unset] [])) s₂ ∧ s₂.status = .running ∧ Ended s₂ below o ∧ ∃ v L, o = .returned v ∧ (v = some (.int 1) ∧ Fr n0 L) ∧ FrameEnd s o s₂ L room_1.cells room_1.slots := by
  have hw_1 := hw _ (List.mem_of_getElem? (i := 1) rfl)
  have hw_14 := hw _ (List.mem_of_getElem? (i := 14) rfl)
  have hw_54 := hw _ (List.mem_of_getElem? (i := 54) rfl)
  have hw_55 := hw _ (List.mem_of_getElem? (i := 55) rfl)
  have hw_56 := hw _ (List.mem_of_getElem? (i := 56) rfl)
  have hw_57 := hw _ (List.mem_of_getElem? (i := 57) rfl)
  have hw_58 := hw _ (List.mem_of_getElem? (i := 58) rfl)
  have hw_63 := hw _ (List.mem_of_getElem? (i := 63) rfl)
  have hw_64 := hw _ (List.mem_of_getElem? (i := 64) rfl)
  have hw_65 := hw _ (List.mem_of_getElem? (i := 65) rfl)
  have hw_66 := hw _ (List.mem_of_getElem? (i := 66) rfl)
  have hw_67 := hw _ (List.mem_of_getElem? (i := 67) rfl)
  have hx := Bd.exec
  have hby := Bd.bytes
  have hown : s.vm.findClass "com/example/terrace/terrace/core/UseOrderUsePinLaw" = some m.cls := findClass_of_methodNamed Bd.named
  have hnm := (name_of_methodNamed Bd.named Bd.method).1
  have pre0 : ∀ t_, Steps p.tables e below (T0.setTop (mkF m 156 #[.val (.int p1), .val (.int p2), .val (.int p3), .val (.int z3), .val (.int z4), .val (.ref b1), .val (.ref b11), .val (.ref b12), .val (.ref b19), .unset, .unset, .unset, .unset] [])) t_ → Steps p.tables e below (T0.setTop (mkF m 156 #[.val (.int p1), .val (.int p2), .val (.int p3), .val (.int z3), .val (.int z4), .val (.ref b1), .val (.ref b11), .val (.ref b12), .val (.ref b19), .unset, .unset, .unset, .unset] [])) t_ := fun _ k_ => k_
  obtain ⟨cq1, kq1, q1a, q1b, q1c⟩ := isOf hZ e0 q3_
  obtain ⟨_, _, ⟨T1, L1, k1, n1⟩, -, X1, ⟨Lc1, hQ1, l1, y1, z1⟩, st1⟩ := X0.virtualBack hx (y := (⟨"com/example/terrace/terrace/core/UseOrder", "leastRecent", "()Ljava/lang/Object;"⟩ : MethodName)) (z := (⟨"com/example/terrace/terrace/core/UseOrder", "leastRecent", "()Ljava/lang/Object;"⟩ : MethodName)) hown (mvT hZ hw_54) (mvT hZ hw_55) (notFace_of_selects (args := #[]) (mvT hZ hw_57)) (mvT hZ hw_57) (mvT hZ hw_56) (by decide) (backOf (W := 0) (rmLeast l Z a0 hw [] b19 li kl (own_L 1 2 0 0 3 0 p3 0 0 3 p3 0 2 1 p3 0) en ke (own_E (.ref j7) (.ref j8) (.ref j9)) j8 (2 : Int32) h0 n0 Z0 q5_ q9_ q4_ q8_ q3_ rfl ⟨by decide, by decide⟩ rfl) hZ hw_58 hw_14 (by decide) (by decide)) q1a q1c (g := (mkF m 158 #[.val (.int p1), .val (.int p2), .val (.int p3), .val (.int z3), .val (.int z4), .val (.ref b1), .val (.ref b11), .val (.ref b12), .val (.ref b19), .unset, .unset, .unset, .unset] [(.ref b19)])) rfl (by rw [hml]; rfl) (Steps.refl _) (argsL := []) (rest := []) (lenOf pd_6 rfl) rfl (by show 2 * 0 + _ ≤ _; exact Nat.le_of_eq rfl) (hb hby at_158) (fun _ _ => ⟨rfl, e0, (by decide : 6 + 0 ≤ _), (by decide : 93 + 0 ≤ _)⟩)
  dsimp only [Pt.U, Pt.locs, Pt.cells, Pt.slots] at X1 l1 y1 z1 st1 hQ1
  subst l1 y1 z1
  obtain ⟨rfl, N1q, e1⟩ := hQ1
  have N1 := Fr.app N0 N1q
  obtain ⟨T2, X2, e2, st2⟩ := castY X1 hx hZ hown hw_1 e1 (Ins.self (Ej8.ext O0.2)) (g := (mkF m 161 #[.val (.int p1), .val (.int p2), .val (.int p3), .val (.int z3), .val (.int z4), .val (.ref b1), .val (.ref b11), .val (.ref b12), .val (.ref b19), .unset, .unset, .unset, .unset] [(.ref j8)])) rfl rfl (hb hby at_161)
  obtain ⟨cl3, Ar3, q3, S3, M3, H3, G3⟩ := q2_
  have f4 : Arv Z h0 b12 k12 .int (3 : Int32) [(.int (1 : Int32)), (.int (2 : Int32)), (.int (0 : Int32))] (.int (0 : Int32)) := ⟨cl3, Ar3, q3, S3, M3, H3, G3⟩
  have hin3 : ¬ ((0 : Int32) < 0 ∨ cl3.slots.size ≤ ((0 : Int32)).toNatClampNeg) := inb_of S3 ⟨by decide, by decide⟩
  have hat3 : cl3.slots[((0 : Int32)).toNatClampNeg]? = some (.int (1 : Int32)) := Has.at H3 hin3 rfl
  obtain ⟨cl5, Ar5, q5, S5, M5, H5, G5⟩ := q0_
  have f6 : Arv Z h0 b1 k1 (.object "java/lang/Integer") (3 : Int32) [(.ref j7), (.ref j8), (.ref j9)] .null := ⟨cl5, Ar5, q5, S5, M5, H5, G5⟩
  have hin5 : ¬ ((1 : Int32) < 0 ∨ cl5.slots.size ≤ ((1 : Int32)).toNatClampNeg) := inb_of S5 ⟨by decide, by decide⟩
  have hat5 : cl5.slots[((1 : Int32)).toNatClampNeg]? = some (.ref j8) := Has.at H5 hin5 rfl
  obtain ⟨cl7, Ar7, q7, S7, M7, H7, G7⟩ := f4
  have f8 : Arv Z h0 b12 k12 .int (3 : Int32) [(.int (1 : Int32)), (.int (2 : Int32)), (.int (0 : Int32))] (.int (0 : Int32)) := ⟨cl7, Ar7, q7, S7, M7, H7, G7⟩
  have hin7 : ¬ ((0 : Int32) < 0 ∨ cl7.slots.size ≤ ((0 : Int32)).toNatClampNeg) := inb_of S7 ⟨by decide, by decide⟩
  have hat7 : cl7.slots[((0 : Int32)).toNatClampNeg]? = some (.int (1 : Int32)) := Has.at H7 hin7 rfl
  obtain ⟨cl9, Ar9, q9, S9, M9, H9, G9⟩ := q1_
  have f10 : Arv Z h0 b11 k11 .int (3 : Int32) [(.int (1 : Int32)), (.int (2 : Int32)), (.int (3 : Int32))] (.int (0 : Int32)) := ⟨cl9, Ar9, q9, S9, M9, H9, G9⟩
  have hin9 : ¬ ((1 : Int32) < 0 ∨ cl9.slots.size ≤ ((1 : Int32)).toNatClampNeg) := inb_of S9 ⟨by decide, by decide⟩
  have hat9 : cl9.slots[((1 : Int32)).toNatClampNeg]? = some (.int (2 : Int32)) := Has.at H9 hin9 rfl
  obtain ⟨cq11, kq11, q11a, q11b, q11c⟩ := isOf hZ e2 q3_
  obtain ⟨_, _, ⟨T11, L11, k11, n11⟩, -, X11, ⟨Lc11, hQ11, l11, y11, z11⟩, st11⟩ := X2.virtualBack hx (y := (⟨"com/example/terrace/terrace/core/UseOrder", "remove", "(I)V"⟩ : MethodName)) (z := (⟨"com/example/terrace/terrace/core/UseOrder", "remove", "(I)V"⟩ : MethodName)) hown (mvT hZ hw_63) (mvT hZ hw_64) (notFace_of_selects (args := #[]) (mvT hZ hw_66)) (mvT hZ hw_66) (mvT hZ hw_65) (by decide) (backOf (W := 0) (rmRem l Z a0 hw [] b19 li kl (own_L 1 2 0 0 3 0 p3 0 0 3 p3 0 2 1 p3 0) en ke (own_E (.ref j7) (.ref j8) (.ref j9)) (2 : Int32) (0 : Int32) 8 2 (0 : Int32) (3 : Int32) 1 12 h0 n0 Z0 q5_ q9_ own_Ln ⟨by decide, by decide⟩ ⟨by decide, by decide⟩ rfl rfl ⟨by decide, by decide⟩ rfl ⟨by decide, by decide⟩ rfl (by decide) (by decide) (by omega) ne_b19_li q3_ q4_ q8_ own_En (by omega) (by omega) q6_ ne_en_li ne_b19_en ⟨by decide, by decide⟩ rfl ⟨by decide, by decide⟩ rfl ⟨by decide, by decide⟩ rfl (by decide) (by decide)) hZ hw_67 hw_14 (by decide) (by decide)) q11a q11c (g := (mkF m 194 #[.val (.int p1), .val (.int p2), .val (.int p3), .val (.int z3), .val (.int z4), .val (.ref b1), .val (.ref b11), .val (.ref b12), .val (.ref b19), .val (.ref j8), .val (.int (1 : Int32)), .unset, .unset] [(.int (2 : Int32)), (.ref b19)])) rfl (by rw [hml]; rfl) (Steps.refl _) (argsL := [(.int (2 : Int32))]) (rest := []) (lenOf pd_0 rfl) rfl (by show 2 * 0 + _ ≤ _; exact Nat.le_of_eq rfl) (hb hby at_194) (fun _ _ => ⟨rfl, e2, (by decide : 6 + 0 ≤ _), (by decide : 93 + 0 ≤ _)⟩)
  dsimp only [Pt.U, Pt.locs, Pt.cells, Pt.slots] at X11 l11 y11 z11 st11 hQ11
  subst l11 y11 z11
  obtain ⟨rfl, N11q, Kc11, c0_11, c1_11, c2_11, c3_11, c4_11, c5_11⟩ := hQ11
  have N11 := Fr.app N1 N11q
  have sz11 : h0.size ≤ T11.heap.size := Kc11.1
  have Z11 : n0 ≤ T11.heap.size := Nat.le_trans Z0 sz11
  have O11 : Old Z n0 T11.heap := O0.keep Kc11 (allS (show n0 ≤ b19 by omega) (allS (show n0 ≤ li by omega) (allS (show n0 ≤ en by omega) all0)))
  have Vl11_ : Arv Z T11.heap li kl .int (64 : Int32) (own_L 1 3 0 0 3 0 p3 0 0 (-1) p3 0 0 1 p3 0) (.int (0 : Int32)) := c4_11
  have Ve11_ : Arv Z T11.heap en ke (.object "java/lang/Object") (16 : Int32) (own_E (.ref j7) .null (.ref j9)) .null := c5_11
  obtain ⟨cq12, kq12, q12a, q12b, q12c⟩ := isOf hZ rfl c0_11
  obtain ⟨_, _, ⟨T12, L12, k12, n12⟩, -, X12, ⟨Lc12, hQ12, l12, y12, z12⟩, st12⟩ := X11.virtualBack hx (y := (⟨"com/example/terrace/terrace/core/UseOrder", "leastRecent", "()Ljava/lang/Object;"⟩ : MethodName)) (z := (⟨"com/example/terrace/terrace/core/UseOrder", "leastRecent", "()Ljava/lang/Object;"⟩ : MethodName)) hown (mvT hZ hw_54) (mvT hZ hw_55) (notFace_of_selects (args := #[]) (mvT hZ hw_57)) (mvT hZ hw_57) (mvT hZ hw_56) (by decide) (backOf (W := 0) (rmLeast l Z a0 hw [] b19 li kl (own_L 1 3 0 0 3 0 p3 0 0 (-1) p3 0 0 1 p3 0) en ke (own_E (.ref j7) .null (.ref j9)) j9 (3 : Int32) T11.heap n0 Z11 c1_11 Vl11_ c2_11 Ve11_ c0_11 rfl ⟨by decide, by decide⟩ rfl) hZ hw_58 hw_14 (by decide) (by decide)) q12a q12c (g := (mkF m 199 #[.val (.int p1), .val (.int p2), .val (.int p3), .val (.int z3), .val (.int z4), .val (.ref b1), .val (.ref b11), .val (.ref b12), .val (.ref b19), .val (.ref j8), .val (.int (1 : Int32)), .unset, .unset] [(.ref b19)])) rfl (by rw [hml]; rfl) (Steps.refl _) (argsL := []) (rest := []) (lenOf pd_6 rfl) rfl (by show 2 * 0 + _ ≤ _; exact Nat.le_of_eq rfl) (hb hby at_199) (fun _ _ => ⟨rfl, rfl, (by decide : 6 + 0 ≤ _), (by decide : 93 + 0 ≤ _)⟩)
  dsimp only [Pt.U, Pt.locs, Pt.cells, Pt.slots] at X12 l12 y12 z12 st12 hQ12
  subst l12 y12 z12
  obtain ⟨rfl, N12q, e12⟩ := hQ12
  have N12 := Fr.app N11 N12q
  obtain ⟨T13, X13, e13, st13⟩ := castY X12 hx hZ hown hw_1 e12 (Ins.self (Ej9.ext O11.2)) (g := (mkF m 202 #[.val (.int p1), .val (.int p2), .val (.int p3), .val (.int z3), .val (.int z4), .val (.ref b1), .val (.ref b11), .val (.ref b12), .val (.ref b19), .val (.ref j8), .val (.int (1 : Int32)), .unset, .unset] [(.ref j9)])) rfl rfl (hb hby at_202)
  have f14 := (f8.keep Kc11 (ninS ne_b12_b19 (ninS ne_b12_li (ninS ne_b12_en nin0))))
  obtain ⟨cl15, Ar15, q15, S15, M15, H15, G15⟩ := f14
  have f16 : Arv Z T11.heap b12 k12 .int (3 : Int32) [(.int (1 : Int32)), (.int (2 : Int32)), (.int (0 : Int32))] (.int (0 : Int32)) := ⟨cl15, Ar15, q15, S15, M15, H15, G15⟩
  have hin15 : ¬ ((1 : Int32) < 0 ∨ cl15.slots.size ≤ ((1 : Int32)).toNatClampNeg) := inb_of S15 ⟨by decide, by decide⟩
  have hat15 : cl15.slots[((1 : Int32)).toNatClampNeg]? = some (.int (2 : Int32)) := Has.at H15 hin15 rfl
  have f17 := (f6.keep Kc11 (ninS ne_b1_b19 (ninS ne_b1_li (ninS ne_b1_en nin0))))
  obtain ⟨cl18, Ar18, q18, S18, M18, H18, G18⟩ := f17
  have f19 : Arv Z T11.heap b1 k1 (.object "java/lang/Integer") (3 : Int32) [(.ref j7), (.ref j8), (.ref j9)] .null := ⟨cl18, Ar18, q18, S18, M18, H18, G18⟩
  have hin18 : ¬ ((2 : Int32) < 0 ∨ cl18.slots.size ≤ ((2 : Int32)).toNatClampNeg) := inb_of S18 ⟨by decide, by decide⟩
  have hat18 : cl18.slots[((2 : Int32)).toNatClampNeg]? = some (.ref j9) := Has.at H18 hin18 rfl
  obtain ⟨cl20, Ar20, q20, S20, M20, H20, G20⟩ := f16
  have f21 : Arv Z T11.heap b12 k12 .int (3 : Int32) [(.int (1 : Int32)), (.int (2 : Int32)), (.int (0 : Int32))] (.int (0 : Int32)) := ⟨cl20, Ar20, q20, S20, M20, H20, G20⟩
  have hin20 : ¬ ((1 : Int32) < 0 ∨ cl20.slots.size ≤ ((1 : Int32)).toNatClampNeg) := inb_of S20 ⟨by decide, by decide⟩
  have hat20 : cl20.slots[((1 : Int32)).toNatClampNeg]? = some (.int (2 : Int32)) := Has.at H20 hin20 rfl
  have f22 := (f10.keep Kc11 (ninS ne_b11_b19 (ninS ne_b11_li (ninS ne_b11_en nin0))))
  obtain ⟨cl23, Ar23, q23, S23, M23, H23, G23⟩ := f22
  have f24 : Arv Z T11.heap b11 k11 .int (3 : Int32) [(.int (1 : Int32)), (.int (2 : Int32)), (.int (3 : Int32))] (.int (0 : Int32)) := ⟨cl23, Ar23, q23, S23, M23, H23, G23⟩
  have hin23 : ¬ ((2 : Int32) < 0 ∨ cl23.slots.size ≤ ((2 : Int32)).toNatClampNeg) := inb_of S23 ⟨by decide, by decide⟩
  have hat23 : cl23.slots[((2 : Int32)).toNatClampNeg]? = some (.int (3 : Int32)) := Has.at H23 hin23 rfl
  obtain ⟨cq25, kq25, q25a, q25b, q25c⟩ := isOf hZ e13 c0_11
  obtain ⟨_, _, ⟨T25, L25, k25, n25⟩, -, X25, ⟨Lc25, hQ25, l25, y25, z25⟩, st25⟩ := X13.virtualBack hx (y := (⟨"com/example/terrace/terrace/core/UseOrder", "remove", "(I)V"⟩ : MethodName)) (z := (⟨"com/example/terrace/terrace/core/UseOrder", "remove", "(I)V"⟩ : MethodName)) hown (mvT hZ hw_63) (mvT hZ hw_64) (notFace_of_selects (args := #[]) (mvT hZ hw_66)) (mvT hZ hw_66) (mvT hZ hw_65) (by decide) (backOf (W := 0) (rmRem l Z a0 hw [] b19 li kl (own_L 1 3 0 0 3 0 p3 0 0 (-1) p3 0 0 1 p3 0) en ke (own_E (.ref j7) .null (.ref j9)) (3 : Int32) (2 : Int32) 12 3 (0 : Int32) (1 : Int32) 1 4 T11.heap n0 Z11 c1_11 Vl11_ own_Ln ⟨by decide, by decide⟩ ⟨by decide, by decide⟩ rfl rfl ⟨by decide, by decide⟩ rfl ⟨by decide, by decide⟩ rfl (by decide) (by decide) (by omega) ne_b19_li c0_11 c2_11 Ve11_ own_En (by omega) (by omega) c3_11 ne_en_li ne_b19_en ⟨by decide, by decide⟩ rfl ⟨by decide, by decide⟩ rfl ⟨by decide, by decide⟩ rfl (by decide) (by decide)) hZ hw_67 hw_14 (by decide) (by decide)) q25a q25c (g := (mkF m 240 #[.val (.int p1), .val (.int p2), .val (.int p3), .val (.int z3), .val (.int z4), .val (.ref b1), .val (.ref b11), .val (.ref b12), .val (.ref b19), .val (.ref j8), .val (.int (1 : Int32)), .val (.ref j9), .unset] [(.int (3 : Int32)), (.ref b19)])) rfl (by rw [hml]; rfl) (Steps.refl _) (argsL := [(.int (3 : Int32))]) (rest := []) (lenOf pd_0 rfl) rfl (by show 2 * 0 + _ ≤ _; exact Nat.le_of_eq rfl) (hb hby at_240) (fun _ _ => ⟨rfl, e13, (by decide : 6 + 0 ≤ _), (by decide : 93 + 0 ≤ _)⟩)
  dsimp only [Pt.U, Pt.locs, Pt.cells, Pt.slots] at X25 l25 y25 z25 st25 hQ25
  subst l25 y25 z25
  obtain ⟨rfl, N25q, Kc25, c0_25, c1_25, c2_25, c3_25, c4_25, c5_25⟩ := hQ25
  have N25 := Fr.app N12 N25q
  have sz25 : T11.heap.size ≤ T25.heap.size := Kc25.1
  have Z25 : n0 ≤ T25.heap.size := Nat.le_trans Z11 sz25
  have O25 : Old Z n0 T25.heap := O11.keep Kc25 (allS (show n0 ≤ b19 by omega) (allS (show n0 ≤ li by omega) (allS (show n0 ≤ en by omega) all0)))
  have Vl25_ : Arv Z T25.heap li kl .int (64 : Int32) (own_L 1 1 0 0 0 0 p3 0 0 (-1) p3 0 2 (-1) p3 0) (.int (0 : Int32)) := c4_25
  have Ve25_ : Arv Z T25.heap en ke (.object "java/lang/Object") (16 : Int32) (own_E (.ref j7) .null .null) .null := c5_25
  obtain ⟨cq26, kq26, q26a, q26b, q26c⟩ := isOf hZ rfl c0_25
  obtain ⟨_, _, ⟨T26, L26, k26, n26⟩, -, X26, ⟨Lc26, hQ26, l26, y26, z26⟩, st26⟩ := X25.virtualBack hx (y := (⟨"com/example/terrace/terrace/core/UseOrder", "leastRecent", "()Ljava/lang/Object;"⟩ : MethodName)) (z := (⟨"com/example/terrace/terrace/core/UseOrder", "leastRecent", "()Ljava/lang/Object;"⟩ : MethodName)) hown (mvT hZ hw_54) (mvT hZ hw_55) (notFace_of_selects (args := #[]) (mvT hZ hw_57)) (mvT hZ hw_57) (mvT hZ hw_56) (by decide) (backOf (W := 0) (rmLeast l Z a0 hw [] b19 li kl (own_L 1 1 0 0 0 0 p3 0 0 (-1) p3 0 2 (-1) p3 0) en ke (own_E (.ref j7) .null .null) j7 (1 : Int32) T25.heap n0 Z25 c1_25 Vl25_ c2_25 Ve25_ c0_25 rfl ⟨by decide, by decide⟩ rfl) hZ hw_58 hw_14 (by decide) (by decide)) q26a q26c (g := (mkF m 245 #[.val (.int p1), .val (.int p2), .val (.int p3), .val (.int z3), .val (.int z4), .val (.ref b1), .val (.ref b11), .val (.ref b12), .val (.ref b19), .val (.ref j8), .val (.int (1 : Int32)), .val (.ref j9), .unset] [(.ref b19)])) rfl (by rw [hml]; rfl) (Steps.refl _) (argsL := []) (rest := []) (lenOf pd_6 rfl) rfl (by show 2 * 0 + _ ≤ _; exact Nat.le_of_eq rfl) (hb hby at_245) (fun _ _ => ⟨rfl, rfl, (by decide : 6 + 0 ≤ _), (by decide : 93 + 0 ≤ _)⟩)
  dsimp only [Pt.U, Pt.locs, Pt.cells, Pt.slots] at X26 l26 y26 z26 st26 hQ26
  subst l26 y26 z26
  obtain ⟨rfl, N26q, e26⟩ := hQ26
  have N26 := Fr.app N25 N26q
  obtain ⟨T27, X27, e27, st27⟩ := castY X26 hx hZ hown hw_1 e26 (Ins.self (Ej7.ext O25.2)) (g := (mkF m 248 #[.val (.int p1), .val (.int p2), .val (.int p3), .val (.int z3), .val (.int z4), .val (.ref b1), .val (.ref b11), .val (.ref b12), .val (.ref b19), .val (.ref j8), .val (.int (1 : Int32)), .val (.ref j9), .unset] [(.ref j7)])) rfl rfl (hb hby at_248)
  have f28 := (f21.keep Kc25 (ninS ne_b12_b19 (ninS ne_b12_li (ninS ne_b12_en nin0))))
  obtain ⟨cl29, Ar29, q29, S29, M29, H29, G29⟩ := f28
  have f30 : Arv Z T25.heap b12 k12 .int (3 : Int32) [(.int (1 : Int32)), (.int (2 : Int32)), (.int (0 : Int32))] (.int (0 : Int32)) := ⟨cl29, Ar29, q29, S29, M29, H29, G29⟩
  have hin29 : ¬ ((2 : Int32) < 0 ∨ cl29.slots.size ≤ ((2 : Int32)).toNatClampNeg) := inb_of S29 ⟨by decide, by decide⟩
  have hat29 : cl29.slots[((2 : Int32)).toNatClampNeg]? = some (.int (0 : Int32)) := Has.at H29 hin29 rfl
  have f31 := (f19.keep Kc25 (ninS ne_b1_b19 (ninS ne_b1_li (ninS ne_b1_en nin0))))
  obtain ⟨cl32, Ar32, q32, S32, M32, H32, G32⟩ := f31
  have f33 : Arv Z T25.heap b1 k1 (.object "java/lang/Integer") (3 : Int32) [(.ref j7), (.ref j8), (.ref j9)] .null := ⟨cl32, Ar32, q32, S32, M32, H32, G32⟩
  have hin32 : ¬ ((0 : Int32) < 0 ∨ cl32.slots.size ≤ ((0 : Int32)).toNatClampNeg) := inb_of S32 ⟨by decide, by decide⟩
  have hat32 : cl32.slots[((0 : Int32)).toNatClampNeg]? = some (.ref j7) := Has.at H32 hin32 rfl
  have go34 : ∀ t_, Steps p.tables e below (T27.setTop (mkF m 279 #[.val (.int p1), .val (.int p2), .val (.int p3), .val (.int z3), .val (.int z4), .val (.ref b1), .val (.ref b11), .val (.ref b12), .val (.ref b19), .val (.ref j8), .val (.int (1 : Int32)), .val (.ref j9), .val (.ref j7)] [(.int (1 : Int32))])) t_ → Steps p.tables e below (T0.setTop (mkF m 156 #[.val (.int p1), .val (.int p2), .val (.int p3), .val (.int z3), .val (.int z4), .val (.ref b1), .val (.ref b11), .val (.ref b12), .val (.ref b19), .unset, .unset, .unset, .unset] [])) t_ := by
    intro t_ k_
    refine pre0 t_ ?_
    show Steps p.tables e below (T0.setTop (mkF m 156 #[.val (.int p1), .val (.int p2), .val (.int p3), .val (.int z3), .val (.int z4), .val (.ref b1), .val (.ref b11), .val (.ref b12), .val (.ref b19), .unset, .unset, .unset, .unset] [])) _
    refine XS.aload X0.here hx rfl (hb hby at_156) rfl rfl ?_
    show Steps p.tables e below (T0.setTop (mkF m 158 #[.val (.int p1), .val (.int p2), .val (.int p3), .val (.int z3), .val (.int z4), .val (.ref b1), .val (.ref b11), .val (.ref b12), .val (.ref b19), .unset, .unset, .unset, .unset] [(.ref b19)])) _
    refine st1.trans ?_
    show Steps p.tables e below (T1.setTop (mkF m 161 #[.val (.int p1), .val (.int p2), .val (.int p3), .val (.int z3), .val (.int z4), .val (.ref b1), .val (.ref b11), .val (.ref b12), .val (.ref b19), .unset, .unset, .unset, .unset] [(.ref j8)])) _
    refine st2 _ ?_
    show Steps p.tables e below (T2.setTop (mkF m 164 #[.val (.int p1), .val (.int p2), .val (.int p3), .val (.int z3), .val (.int z4), .val (.ref b1), .val (.ref b11), .val (.ref b12), .val (.ref b19), .unset, .unset, .unset, .unset] [(.ref j8)])) _
    refine XS.astore X2.here hx rfl (hb hby at_164) rfl rfl (l' := #[.val (.int p1), .val (.int p2), .val (.int p3), .val (.int z3), .val (.int z4), .val (.ref b1), .val (.ref b11), .val (.ref b12), .val (.ref b19), .val (.ref j8), .unset, .unset, .unset]) rfl ?_
    show Steps p.tables e below (T2.setTop (mkF m 166 #[.val (.int p1), .val (.int p2), .val (.int p3), .val (.int z3), .val (.int z4), .val (.ref b1), .val (.ref b11), .val (.ref b12), .val (.ref b19), .val (.ref j8), .unset, .unset, .unset] [])) _
    refine XS.aload X2.here hx rfl (hb hby at_166) rfl rfl ?_
    show Steps p.tables e below (T2.setTop (mkF m 168 #[.val (.int p1), .val (.int p2), .val (.int p3), .val (.int z3), .val (.int z4), .val (.ref b1), .val (.ref b11), .val (.ref b12), .val (.ref b19), .val (.ref j8), .unset, .unset, .unset] [(.ref j8)])) _
    refine XS.aload X2.here hx rfl (hb hby at_168) rfl rfl ?_
    show Steps p.tables e below (T2.setTop (mkF m 170 #[.val (.int p1), .val (.int p2), .val (.int p3), .val (.int z3), .val (.int z4), .val (.ref b1), .val (.ref b11), .val (.ref b12), .val (.ref b19), .val (.ref j8), .unset, .unset, .unset] [(.ref b1), (.ref j8)])) _
    refine XS.aload X2.here hx rfl (hb hby at_170) rfl rfl ?_
    show Steps p.tables e below (T2.setTop (mkF m 172 #[.val (.int p1), .val (.int p2), .val (.int p3), .val (.int z3), .val (.int z4), .val (.ref b1), .val (.ref b11), .val (.ref b12), .val (.ref b19), .val (.ref j8), .unset, .unset, .unset] [(.ref b12), (.ref b1), (.ref j8)])) _
    refine XS.iconst X2.here hx rfl (hb hby at_172) ?_
    show Steps p.tables e below (T2.setTop (mkF m 173 #[.val (.int p1), .val (.int p2), .val (.int p3), .val (.int z3), .val (.int z4), .val (.ref b1), .val (.ref b11), .val (.ref b12), .val (.ref b19), .val (.ref j8), .unset, .unset, .unset] [(.int (0 : Int32)), (.ref b12), (.ref b1), (.ref j8)])) _
    refine X2.iaload hx (j := (0 : Int32)) (v := (.int (1 : Int32))) (by rw [e2]; exact Ar3.1) (State.isArrayOf_alike hZ.alike Ar3.2.1) Ar3.2.2 hin3 hat3 (g := (mkF m 173 #[.val (.int p1), .val (.int p2), .val (.int p3), .val (.int z3), .val (.int z4), .val (.ref b1), .val (.ref b11), .val (.ref b12), .val (.ref b19), .val (.ref j8), .unset, .unset, .unset] [(.int (0 : Int32)), (.ref b12), (.ref b1), (.ref j8)])) rfl rfl (hb hby at_173) _ ?_
    show Steps p.tables e below (T2.setTop (mkF m 174 #[.val (.int p1), .val (.int p2), .val (.int p3), .val (.int z3), .val (.int z4), .val (.ref b1), .val (.ref b11), .val (.ref b12), .val (.ref b19), .val (.ref j8), .unset, .unset, .unset] [(.int (1 : Int32)), (.ref b1), (.ref j8)])) _
    refine X2.aaload hx (j := (1 : Int32)) (v := (.ref j8)) (by rw [e2]; exact Ar5.1) (State.isArrayOf_alike hZ.alike Ar5.2.1) rfl Ar5.2.2 hin5 hat5 (g := (mkF m 174 #[.val (.int p1), .val (.int p2), .val (.int p3), .val (.int z3), .val (.int z4), .val (.ref b1), .val (.ref b11), .val (.ref b12), .val (.ref b19), .val (.ref j8), .unset, .unset, .unset] [(.int (1 : Int32)), (.ref b1), (.ref j8)])) rfl rfl (hb hby at_174) _ ?_
    show Steps p.tables e below (T2.setTop (mkF m 175 #[.val (.int p1), .val (.int p2), .val (.int p3), .val (.int z3), .val (.int z4), .val (.ref b1), .val (.ref b11), .val (.ref b12), .val (.ref b19), .val (.ref j8), .unset, .unset, .unset] [(.ref j8), (.ref j8)])) _
    refine Jvm.RoadKit.acmp (g := (mkF m 175 #[.val (.int p1), .val (.int p2), .val (.int p3), .val (.int z3), .val (.int z4), .val (.ref b1), .val (.ref b11), .val (.ref b12), .val (.ref b19), .val (.ref j8), .unset, .unset, .unset] [(.ref j8), (.ref j8)])) X2 hx rfl rfl rfl (pc0 := 175) (pc' := 178) (same := true) rfl (hb hby at_175) rfl (decide_eq_true rfl) (by decide) (by decide) ?_
    show Steps p.tables e below (T2.setTop (mkF m 178 #[.val (.int p1), .val (.int p2), .val (.int p3), .val (.int z3), .val (.int z4), .val (.ref b1), .val (.ref b11), .val (.ref b12), .val (.ref b19), .val (.ref j8), .unset, .unset, .unset] [])) _
    refine XS.iconst X2.here hx rfl (hb hby at_178) ?_
    show Steps p.tables e below (T2.setTop (mkF m 179 #[.val (.int p1), .val (.int p2), .val (.int p3), .val (.int z3), .val (.int z4), .val (.ref b1), .val (.ref b11), .val (.ref b12), .val (.ref b19), .val (.ref j8), .unset, .unset, .unset] [(.int (1 : Int32))])) _
    refine XS.goto X2.here hx rfl (pc0 := 179) (pc' := 183) rfl (hb hby at_179) (by decide) (by decide) ?_
    show Steps p.tables e below (T2.setTop (mkF m 183 #[.val (.int p1), .val (.int p2), .val (.int p3), .val (.int z3), .val (.int z4), .val (.ref b1), .val (.ref b11), .val (.ref b12), .val (.ref b19), .val (.ref j8), .unset, .unset, .unset] [(.int (1 : Int32))])) _
    refine XS.istore X2.here hx rfl (hb hby at_183) rfl (l' := #[.val (.int p1), .val (.int p2), .val (.int p3), .val (.int z3), .val (.int z4), .val (.ref b1), .val (.ref b11), .val (.ref b12), .val (.ref b19), .val (.ref j8), .val (.int (1 : Int32)), .unset, .unset]) rfl ?_
    show Steps p.tables e below (T2.setTop (mkF m 185 #[.val (.int p1), .val (.int p2), .val (.int p3), .val (.int z3), .val (.int z4), .val (.ref b1), .val (.ref b11), .val (.ref b12), .val (.ref b19), .val (.ref j8), .val (.int (1 : Int32)), .unset, .unset] [])) _
    refine XS.aload X2.here hx rfl (hb hby at_185) rfl rfl ?_
    show Steps p.tables e below (T2.setTop (mkF m 187 #[.val (.int p1), .val (.int p2), .val (.int p3), .val (.int z3), .val (.int z4), .val (.ref b1), .val (.ref b11), .val (.ref b12), .val (.ref b19), .val (.ref j8), .val (.int (1 : Int32)), .unset, .unset] [(.ref b19)])) _
    refine XS.aload X2.here hx rfl (hb hby at_187) rfl rfl ?_
    show Steps p.tables e below (T2.setTop (mkF m 189 #[.val (.int p1), .val (.int p2), .val (.int p3), .val (.int z3), .val (.int z4), .val (.ref b1), .val (.ref b11), .val (.ref b12), .val (.ref b19), .val (.ref j8), .val (.int (1 : Int32)), .unset, .unset] [(.ref b11), (.ref b19)])) _
    refine XS.aload X2.here hx rfl (hb hby at_189) rfl rfl ?_
    show Steps p.tables e below (T2.setTop (mkF m 191 #[.val (.int p1), .val (.int p2), .val (.int p3), .val (.int z3), .val (.int z4), .val (.ref b1), .val (.ref b11), .val (.ref b12), .val (.ref b19), .val (.ref j8), .val (.int (1 : Int32)), .unset, .unset] [(.ref b12), (.ref b11), (.ref b19)])) _
    refine XS.iconst X2.here hx rfl (hb hby at_191) ?_
    show Steps p.tables e below (T2.setTop (mkF m 192 #[.val (.int p1), .val (.int p2), .val (.int p3), .val (.int z3), .val (.int z4), .val (.ref b1), .val (.ref b11), .val (.ref b12), .val (.ref b19), .val (.ref j8), .val (.int (1 : Int32)), .unset, .unset] [(.int (0 : Int32)), (.ref b12), (.ref b11), (.ref b19)])) _
    refine X2.iaload hx (j := (0 : Int32)) (v := (.int (1 : Int32))) (by rw [e2]; exact Ar7.1) (State.isArrayOf_alike hZ.alike Ar7.2.1) Ar7.2.2 hin7 hat7 (g := (mkF m 192 #[.val (.int p1), .val (.int p2), .val (.int p3), .val (.int z3), .val (.int z4), .val (.ref b1), .val (.ref b11), .val (.ref b12), .val (.ref b19), .val (.ref j8), .val (.int (1 : Int32)), .unset, .unset] [(.int (0 : Int32)), (.ref b12), (.ref b11), (.ref b19)])) rfl rfl (hb hby at_192) _ ?_
    show Steps p.tables e below (T2.setTop (mkF m 193 #[.val (.int p1), .val (.int p2), .val (.int p3), .val (.int z3), .val (.int z4), .val (.ref b1), .val (.ref b11), .val (.ref b12), .val (.ref b19), .val (.ref j8), .val (.int (1 : Int32)), .unset, .unset] [(.int (1 : Int32)), (.ref b11), (.ref b19)])) _
    refine X2.iaload hx (j := (1 : Int32)) (v := (.int (2 : Int32))) (by rw [e2]; exact Ar9.1) (State.isArrayOf_alike hZ.alike Ar9.2.1) Ar9.2.2 hin9 hat9 (g := (mkF m 193 #[.val (.int p1), .val (.int p2), .val (.int p3), .val (.int z3), .val (.int z4), .val (.ref b1), .val (.ref b11), .val (.ref b12), .val (.ref b19), .val (.ref j8), .val (.int (1 : Int32)), .unset, .unset] [(.int (1 : Int32)), (.ref b11), (.ref b19)])) rfl rfl (hb hby at_193) _ ?_
    show Steps p.tables e below (T2.setTop (mkF m 194 #[.val (.int p1), .val (.int p2), .val (.int p3), .val (.int z3), .val (.int z4), .val (.ref b1), .val (.ref b11), .val (.ref b12), .val (.ref b19), .val (.ref j8), .val (.int (1 : Int32)), .unset, .unset] [(.int (2 : Int32)), (.ref b19)])) _
    refine st11.trans ?_
    show Steps p.tables e below (T11.setTop (mkF m 197 #[.val (.int p1), .val (.int p2), .val (.int p3), .val (.int z3), .val (.int z4), .val (.ref b1), .val (.ref b11), .val (.ref b12), .val (.ref b19), .val (.ref j8), .val (.int (1 : Int32)), .unset, .unset] [])) _
    refine XS.aload X11.here hx rfl (hb hby at_197) rfl rfl ?_
    show Steps p.tables e below (T11.setTop (mkF m 199 #[.val (.int p1), .val (.int p2), .val (.int p3), .val (.int z3), .val (.int z4), .val (.ref b1), .val (.ref b11), .val (.ref b12), .val (.ref b19), .val (.ref j8), .val (.int (1 : Int32)), .unset, .unset] [(.ref b19)])) _
    refine st12.trans ?_
    show Steps p.tables e below (T12.setTop (mkF m 202 #[.val (.int p1), .val (.int p2), .val (.int p3), .val (.int z3), .val (.int z4), .val (.ref b1), .val (.ref b11), .val (.ref b12), .val (.ref b19), .val (.ref j8), .val (.int (1 : Int32)), .unset, .unset] [(.ref j9)])) _
    refine st13 _ ?_
    show Steps p.tables e below (T13.setTop (mkF m 205 #[.val (.int p1), .val (.int p2), .val (.int p3), .val (.int z3), .val (.int z4), .val (.ref b1), .val (.ref b11), .val (.ref b12), .val (.ref b19), .val (.ref j8), .val (.int (1 : Int32)), .unset, .unset] [(.ref j9)])) _
    refine XS.astore X13.here hx rfl (hb hby at_205) rfl rfl (l' := #[.val (.int p1), .val (.int p2), .val (.int p3), .val (.int z3), .val (.int z4), .val (.ref b1), .val (.ref b11), .val (.ref b12), .val (.ref b19), .val (.ref j8), .val (.int (1 : Int32)), .val (.ref j9), .unset]) rfl ?_
    show Steps p.tables e below (T13.setTop (mkF m 207 #[.val (.int p1), .val (.int p2), .val (.int p3), .val (.int z3), .val (.int z4), .val (.ref b1), .val (.ref b11), .val (.ref b12), .val (.ref b19), .val (.ref j8), .val (.int (1 : Int32)), .val (.ref j9), .unset] [])) _
    refine XS.iload X13.here hx rfl (hb hby at_207) rfl ?_
    show Steps p.tables e below (T13.setTop (mkF m 209 #[.val (.int p1), .val (.int p2), .val (.int p3), .val (.int z3), .val (.int z4), .val (.ref b1), .val (.ref b11), .val (.ref b12), .val (.ref b19), .val (.ref j8), .val (.int (1 : Int32)), .val (.ref j9), .unset] [(.int (1 : Int32))])) _
    refine XS.ifNo X13.here hx rfl (hb hby at_209) rfl ((if0 _ _).trans (feq (by decide : ¬ ((1 : Int32) = (0 : Int32)))).1) ?_
    show Steps p.tables e below (T13.setTop (mkF m 212 #[.val (.int p1), .val (.int p2), .val (.int p3), .val (.int z3), .val (.int z4), .val (.ref b1), .val (.ref b11), .val (.ref b12), .val (.ref b19), .val (.ref j8), .val (.int (1 : Int32)), .val (.ref j9), .unset] [])) _
    refine XS.aload X13.here hx rfl (hb hby at_212) rfl rfl ?_
    show Steps p.tables e below (T13.setTop (mkF m 214 #[.val (.int p1), .val (.int p2), .val (.int p3), .val (.int z3), .val (.int z4), .val (.ref b1), .val (.ref b11), .val (.ref b12), .val (.ref b19), .val (.ref j8), .val (.int (1 : Int32)), .val (.ref j9), .unset] [(.ref j9)])) _
    refine XS.aload X13.here hx rfl (hb hby at_214) rfl rfl ?_
    show Steps p.tables e below (T13.setTop (mkF m 216 #[.val (.int p1), .val (.int p2), .val (.int p3), .val (.int z3), .val (.int z4), .val (.ref b1), .val (.ref b11), .val (.ref b12), .val (.ref b19), .val (.ref j8), .val (.int (1 : Int32)), .val (.ref j9), .unset] [(.ref b1), (.ref j9)])) _
    refine XS.aload X13.here hx rfl (hb hby at_216) rfl rfl ?_
    show Steps p.tables e below (T13.setTop (mkF m 218 #[.val (.int p1), .val (.int p2), .val (.int p3), .val (.int z3), .val (.int z4), .val (.ref b1), .val (.ref b11), .val (.ref b12), .val (.ref b19), .val (.ref j8), .val (.int (1 : Int32)), .val (.ref j9), .unset] [(.ref b12), (.ref b1), (.ref j9)])) _
    refine XS.iconst X13.here hx rfl (hb hby at_218) ?_
    show Steps p.tables e below (T13.setTop (mkF m 219 #[.val (.int p1), .val (.int p2), .val (.int p3), .val (.int z3), .val (.int z4), .val (.ref b1), .val (.ref b11), .val (.ref b12), .val (.ref b19), .val (.ref j8), .val (.int (1 : Int32)), .val (.ref j9), .unset] [(.int (1 : Int32)), (.ref b12), (.ref b1), (.ref j9)])) _
    refine X13.iaload hx (j := (1 : Int32)) (v := (.int (2 : Int32))) (by rw [e13]; exact Ar15.1) (State.isArrayOf_alike hZ.alike Ar15.2.1) Ar15.2.2 hin15 hat15 (g := (mkF m 219 #[.val (.int p1), .val (.int p2), .val (.int p3), .val (.int z3), .val (.int z4), .val (.ref b1), .val (.ref b11), .val (.ref b12), .val (.ref b19), .val (.ref j8), .val (.int (1 : Int32)), .val (.ref j9), .unset] [(.int (1 : Int32)), (.ref b12), (.ref b1), (.ref j9)])) rfl rfl (hb hby at_219) _ ?_
    show Steps p.tables e below (T13.setTop (mkF m 220 #[.val (.int p1), .val (.int p2), .val (.int p3), .val (.int z3), .val (.int z4), .val (.ref b1), .val (.ref b11), .val (.ref b12), .val (.ref b19), .val (.ref j8), .val (.int (1 : Int32)), .val (.ref j9), .unset] [(.int (2 : Int32)), (.ref b1), (.ref j9)])) _
    refine X13.aaload hx (j := (2 : Int32)) (v := (.ref j9)) (by rw [e13]; exact Ar18.1) (State.isArrayOf_alike hZ.alike Ar18.2.1) rfl Ar18.2.2 hin18 hat18 (g := (mkF m 220 #[.val (.int p1), .val (.int p2), .val (.int p3), .val (.int z3), .val (.int z4), .val (.ref b1), .val (.ref b11), .val (.ref b12), .val (.ref b19), .val (.ref j8), .val (.int (1 : Int32)), .val (.ref j9), .unset] [(.int (2 : Int32)), (.ref b1), (.ref j9)])) rfl rfl (hb hby at_220) _ ?_
    show Steps p.tables e below (T13.setTop (mkF m 221 #[.val (.int p1), .val (.int p2), .val (.int p3), .val (.int z3), .val (.int z4), .val (.ref b1), .val (.ref b11), .val (.ref b12), .val (.ref b19), .val (.ref j8), .val (.int (1 : Int32)), .val (.ref j9), .unset] [(.ref j9), (.ref j9)])) _
    refine Jvm.RoadKit.acmp (g := (mkF m 221 #[.val (.int p1), .val (.int p2), .val (.int p3), .val (.int z3), .val (.int z4), .val (.ref b1), .val (.ref b11), .val (.ref b12), .val (.ref b19), .val (.ref j8), .val (.int (1 : Int32)), .val (.ref j9), .unset] [(.ref j9), (.ref j9)])) X13 hx rfl rfl rfl (pc0 := 221) (pc' := 224) (same := true) rfl (hb hby at_221) rfl (decide_eq_true rfl) (by decide) (by decide) ?_
    show Steps p.tables e below (T13.setTop (mkF m 224 #[.val (.int p1), .val (.int p2), .val (.int p3), .val (.int z3), .val (.int z4), .val (.ref b1), .val (.ref b11), .val (.ref b12), .val (.ref b19), .val (.ref j8), .val (.int (1 : Int32)), .val (.ref j9), .unset] [])) _
    refine XS.iconst X13.here hx rfl (hb hby at_224) ?_
    show Steps p.tables e below (T13.setTop (mkF m 225 #[.val (.int p1), .val (.int p2), .val (.int p3), .val (.int z3), .val (.int z4), .val (.ref b1), .val (.ref b11), .val (.ref b12), .val (.ref b19), .val (.ref j8), .val (.int (1 : Int32)), .val (.ref j9), .unset] [(.int (1 : Int32))])) _
    refine XS.goto X13.here hx rfl (pc0 := 225) (pc' := 229) rfl (hb hby at_225) (by decide) (by decide) ?_
    show Steps p.tables e below (T13.setTop (mkF m 229 #[.val (.int p1), .val (.int p2), .val (.int p3), .val (.int z3), .val (.int z4), .val (.ref b1), .val (.ref b11), .val (.ref b12), .val (.ref b19), .val (.ref j8), .val (.int (1 : Int32)), .val (.ref j9), .unset] [(.int (1 : Int32))])) _
    refine XS.istore X13.here hx rfl (hb hby at_229) rfl (l' := #[.val (.int p1), .val (.int p2), .val (.int p3), .val (.int z3), .val (.int z4), .val (.ref b1), .val (.ref b11), .val (.ref b12), .val (.ref b19), .val (.ref j8), .val (.int (1 : Int32)), .val (.ref j9), .unset]) rfl ?_
    show Steps p.tables e below (T13.setTop (mkF m 231 #[.val (.int p1), .val (.int p2), .val (.int p3), .val (.int z3), .val (.int z4), .val (.ref b1), .val (.ref b11), .val (.ref b12), .val (.ref b19), .val (.ref j8), .val (.int (1 : Int32)), .val (.ref j9), .unset] [])) _
    refine XS.aload X13.here hx rfl (hb hby at_231) rfl rfl ?_
    show Steps p.tables e below (T13.setTop (mkF m 233 #[.val (.int p1), .val (.int p2), .val (.int p3), .val (.int z3), .val (.int z4), .val (.ref b1), .val (.ref b11), .val (.ref b12), .val (.ref b19), .val (.ref j8), .val (.int (1 : Int32)), .val (.ref j9), .unset] [(.ref b19)])) _
    refine XS.aload X13.here hx rfl (hb hby at_233) rfl rfl ?_
    show Steps p.tables e below (T13.setTop (mkF m 235 #[.val (.int p1), .val (.int p2), .val (.int p3), .val (.int z3), .val (.int z4), .val (.ref b1), .val (.ref b11), .val (.ref b12), .val (.ref b19), .val (.ref j8), .val (.int (1 : Int32)), .val (.ref j9), .unset] [(.ref b11), (.ref b19)])) _
    refine XS.aload X13.here hx rfl (hb hby at_235) rfl rfl ?_
    show Steps p.tables e below (T13.setTop (mkF m 237 #[.val (.int p1), .val (.int p2), .val (.int p3), .val (.int z3), .val (.int z4), .val (.ref b1), .val (.ref b11), .val (.ref b12), .val (.ref b19), .val (.ref j8), .val (.int (1 : Int32)), .val (.ref j9), .unset] [(.ref b12), (.ref b11), (.ref b19)])) _
    refine XS.iconst X13.here hx rfl (hb hby at_237) ?_
    show Steps p.tables e below (T13.setTop (mkF m 238 #[.val (.int p1), .val (.int p2), .val (.int p3), .val (.int z3), .val (.int z4), .val (.ref b1), .val (.ref b11), .val (.ref b12), .val (.ref b19), .val (.ref j8), .val (.int (1 : Int32)), .val (.ref j9), .unset] [(.int (1 : Int32)), (.ref b12), (.ref b11), (.ref b19)])) _
    refine X13.iaload hx (j := (1 : Int32)) (v := (.int (2 : Int32))) (by rw [e13]; exact Ar20.1) (State.isArrayOf_alike hZ.alike Ar20.2.1) Ar20.2.2 hin20 hat20 (g := (mkF m 238 #[.val (.int p1), .val (.int p2), .val (.int p3), .val (.int z3), .val (.int z4), .val (.ref b1), .val (.ref b11), .val (.ref b12), .val (.ref b19), .val (.ref j8), .val (.int (1 : Int32)), .val (.ref j9), .unset] [(.int (1 : Int32)), (.ref b12), (.ref b11), (.ref b19)])) rfl rfl (hb hby at_238) _ ?_
    show Steps p.tables e below (T13.setTop (mkF m 239 #[.val (.int p1), .val (.int p2), .val (.int p3), .val (.int z3), .val (.int z4), .val (.ref b1), .val (.ref b11), .val (.ref b12), .val (.ref b19), .val (.ref j8), .val (.int (1 : Int32)), .val (.ref j9), .unset] [(.int (2 : Int32)), (.ref b11), (.ref b19)])) _
    refine X13.iaload hx (j := (2 : Int32)) (v := (.int (3 : Int32))) (by rw [e13]; exact Ar23.1) (State.isArrayOf_alike hZ.alike Ar23.2.1) Ar23.2.2 hin23 hat23 (g := (mkF m 239 #[.val (.int p1), .val (.int p2), .val (.int p3), .val (.int z3), .val (.int z4), .val (.ref b1), .val (.ref b11), .val (.ref b12), .val (.ref b19), .val (.ref j8), .val (.int (1 : Int32)), .val (.ref j9), .unset] [(.int (2 : Int32)), (.ref b11), (.ref b19)])) rfl rfl (hb hby at_239) _ ?_
    show Steps p.tables e below (T13.setTop (mkF m 240 #[.val (.int p1), .val (.int p2), .val (.int p3), .val (.int z3), .val (.int z4), .val (.ref b1), .val (.ref b11), .val (.ref b12), .val (.ref b19), .val (.ref j8), .val (.int (1 : Int32)), .val (.ref j9), .unset] [(.int (3 : Int32)), (.ref b19)])) _
    refine st25.trans ?_
    show Steps p.tables e below (T25.setTop (mkF m 243 #[.val (.int p1), .val (.int p2), .val (.int p3), .val (.int z3), .val (.int z4), .val (.ref b1), .val (.ref b11), .val (.ref b12), .val (.ref b19), .val (.ref j8), .val (.int (1 : Int32)), .val (.ref j9), .unset] [])) _
    refine XS.aload X25.here hx rfl (hb hby at_243) rfl rfl ?_
    show Steps p.tables e below (T25.setTop (mkF m 245 #[.val (.int p1), .val (.int p2), .val (.int p3), .val (.int z3), .val (.int z4), .val (.ref b1), .val (.ref b11), .val (.ref b12), .val (.ref b19), .val (.ref j8), .val (.int (1 : Int32)), .val (.ref j9), .unset] [(.ref b19)])) _
    refine st26.trans ?_
    show Steps p.tables e below (T26.setTop (mkF m 248 #[.val (.int p1), .val (.int p2), .val (.int p3), .val (.int z3), .val (.int z4), .val (.ref b1), .val (.ref b11), .val (.ref b12), .val (.ref b19), .val (.ref j8), .val (.int (1 : Int32)), .val (.ref j9), .unset] [(.ref j7)])) _
    refine st27 _ ?_
    show Steps p.tables e below (T27.setTop (mkF m 251 #[.val (.int p1), .val (.int p2), .val (.int p3), .val (.int z3), .val (.int z4), .val (.ref b1), .val (.ref b11), .val (.ref b12), .val (.ref b19), .val (.ref j8), .val (.int (1 : Int32)), .val (.ref j9), .unset] [(.ref j7)])) _
    refine XS.astore X27.here hx rfl (hb hby at_251) rfl rfl (l' := #[.val (.int p1), .val (.int p2), .val (.int p3), .val (.int z3), .val (.int z4), .val (.ref b1), .val (.ref b11), .val (.ref b12), .val (.ref b19), .val (.ref j8), .val (.int (1 : Int32)), .val (.ref j9), .val (.ref j7)]) rfl ?_
    show Steps p.tables e below (T27.setTop (mkF m 253 #[.val (.int p1), .val (.int p2), .val (.int p3), .val (.int z3), .val (.int z4), .val (.ref b1), .val (.ref b11), .val (.ref b12), .val (.ref b19), .val (.ref j8), .val (.int (1 : Int32)), .val (.ref j9), .val (.ref j7)] [])) _
    refine XS.iload X27.here hx rfl (hb hby at_253) rfl ?_
    show Steps p.tables e below (T27.setTop (mkF m 255 #[.val (.int p1), .val (.int p2), .val (.int p3), .val (.int z3), .val (.int z4), .val (.ref b1), .val (.ref b11), .val (.ref b12), .val (.ref b19), .val (.ref j8), .val (.int (1 : Int32)), .val (.ref j9), .val (.ref j7)] [(.int (1 : Int32))])) _
    refine XS.ifNo X27.here hx rfl (hb hby at_255) rfl ((if0 _ _).trans (feq (by decide : ¬ ((1 : Int32) = (0 : Int32)))).1) ?_
    show Steps p.tables e below (T27.setTop (mkF m 258 #[.val (.int p1), .val (.int p2), .val (.int p3), .val (.int z3), .val (.int z4), .val (.ref b1), .val (.ref b11), .val (.ref b12), .val (.ref b19), .val (.ref j8), .val (.int (1 : Int32)), .val (.ref j9), .val (.ref j7)] [])) _
    refine XS.aload X27.here hx rfl (hb hby at_258) rfl rfl ?_
    show Steps p.tables e below (T27.setTop (mkF m 260 #[.val (.int p1), .val (.int p2), .val (.int p3), .val (.int z3), .val (.int z4), .val (.ref b1), .val (.ref b11), .val (.ref b12), .val (.ref b19), .val (.ref j8), .val (.int (1 : Int32)), .val (.ref j9), .val (.ref j7)] [(.ref j7)])) _
    refine XS.aload X27.here hx rfl (hb hby at_260) rfl rfl ?_
    show Steps p.tables e below (T27.setTop (mkF m 262 #[.val (.int p1), .val (.int p2), .val (.int p3), .val (.int z3), .val (.int z4), .val (.ref b1), .val (.ref b11), .val (.ref b12), .val (.ref b19), .val (.ref j8), .val (.int (1 : Int32)), .val (.ref j9), .val (.ref j7)] [(.ref b1), (.ref j7)])) _
    refine XS.aload X27.here hx rfl (hb hby at_262) rfl rfl ?_
    show Steps p.tables e below (T27.setTop (mkF m 264 #[.val (.int p1), .val (.int p2), .val (.int p3), .val (.int z3), .val (.int z4), .val (.ref b1), .val (.ref b11), .val (.ref b12), .val (.ref b19), .val (.ref j8), .val (.int (1 : Int32)), .val (.ref j9), .val (.ref j7)] [(.ref b12), (.ref b1), (.ref j7)])) _
    refine XS.iconst X27.here hx rfl (hb hby at_264) ?_
    show Steps p.tables e below (T27.setTop (mkF m 265 #[.val (.int p1), .val (.int p2), .val (.int p3), .val (.int z3), .val (.int z4), .val (.ref b1), .val (.ref b11), .val (.ref b12), .val (.ref b19), .val (.ref j8), .val (.int (1 : Int32)), .val (.ref j9), .val (.ref j7)] [(.int (2 : Int32)), (.ref b12), (.ref b1), (.ref j7)])) _
    refine X27.iaload hx (j := (2 : Int32)) (v := (.int (0 : Int32))) (by rw [e27]; exact Ar29.1) (State.isArrayOf_alike hZ.alike Ar29.2.1) Ar29.2.2 hin29 hat29 (g := (mkF m 265 #[.val (.int p1), .val (.int p2), .val (.int p3), .val (.int z3), .val (.int z4), .val (.ref b1), .val (.ref b11), .val (.ref b12), .val (.ref b19), .val (.ref j8), .val (.int (1 : Int32)), .val (.ref j9), .val (.ref j7)] [(.int (2 : Int32)), (.ref b12), (.ref b1), (.ref j7)])) rfl rfl (hb hby at_265) _ ?_
    show Steps p.tables e below (T27.setTop (mkF m 266 #[.val (.int p1), .val (.int p2), .val (.int p3), .val (.int z3), .val (.int z4), .val (.ref b1), .val (.ref b11), .val (.ref b12), .val (.ref b19), .val (.ref j8), .val (.int (1 : Int32)), .val (.ref j9), .val (.ref j7)] [(.int (0 : Int32)), (.ref b1), (.ref j7)])) _
    refine X27.aaload hx (j := (0 : Int32)) (v := (.ref j7)) (by rw [e27]; exact Ar32.1) (State.isArrayOf_alike hZ.alike Ar32.2.1) rfl Ar32.2.2 hin32 hat32 (g := (mkF m 266 #[.val (.int p1), .val (.int p2), .val (.int p3), .val (.int z3), .val (.int z4), .val (.ref b1), .val (.ref b11), .val (.ref b12), .val (.ref b19), .val (.ref j8), .val (.int (1 : Int32)), .val (.ref j9), .val (.ref j7)] [(.int (0 : Int32)), (.ref b1), (.ref j7)])) rfl rfl (hb hby at_266) _ ?_
    show Steps p.tables e below (T27.setTop (mkF m 267 #[.val (.int p1), .val (.int p2), .val (.int p3), .val (.int z3), .val (.int z4), .val (.ref b1), .val (.ref b11), .val (.ref b12), .val (.ref b19), .val (.ref j8), .val (.int (1 : Int32)), .val (.ref j9), .val (.ref j7)] [(.ref j7), (.ref j7)])) _
    refine Jvm.RoadKit.acmp (g := (mkF m 267 #[.val (.int p1), .val (.int p2), .val (.int p3), .val (.int z3), .val (.int z4), .val (.ref b1), .val (.ref b11), .val (.ref b12), .val (.ref b19), .val (.ref j8), .val (.int (1 : Int32)), .val (.ref j9), .val (.ref j7)] [(.ref j7), (.ref j7)])) X27 hx rfl rfl rfl (pc0 := 267) (pc' := 270) (same := true) rfl (hb hby at_267) rfl (decide_eq_true rfl) (by decide) (by decide) ?_
    show Steps p.tables e below (T27.setTop (mkF m 270 #[.val (.int p1), .val (.int p2), .val (.int p3), .val (.int z3), .val (.int z4), .val (.ref b1), .val (.ref b11), .val (.ref b12), .val (.ref b19), .val (.ref j8), .val (.int (1 : Int32)), .val (.ref j9), .val (.ref j7)] [])) _
    refine XS.iconst X27.here hx rfl (hb hby at_270) ?_
    show Steps p.tables e below (T27.setTop (mkF m 271 #[.val (.int p1), .val (.int p2), .val (.int p3), .val (.int z3), .val (.int z4), .val (.ref b1), .val (.ref b11), .val (.ref b12), .val (.ref b19), .val (.ref j8), .val (.int (1 : Int32)), .val (.ref j9), .val (.ref j7)] [(.int (1 : Int32))])) _
    refine XS.goto X27.here hx rfl (pc0 := 271) (pc' := 275) rfl (hb hby at_271) (by decide) (by decide) ?_
    show Steps p.tables e below (T27.setTop (mkF m 275 #[.val (.int p1), .val (.int p2), .val (.int p3), .val (.int z3), .val (.int z4), .val (.ref b1), .val (.ref b11), .val (.ref b12), .val (.ref b19), .val (.ref j8), .val (.int (1 : Int32)), .val (.ref j9), .val (.ref j7)] [(.int (1 : Int32))])) _
    refine XS.istore X27.here hx rfl (hb hby at_275) rfl (l' := #[.val (.int p1), .val (.int p2), .val (.int p3), .val (.int z3), .val (.int z4), .val (.ref b1), .val (.ref b11), .val (.ref b12), .val (.ref b19), .val (.ref j8), .val (.int (1 : Int32)), .val (.ref j9), .val (.ref j7)]) rfl ?_
    show Steps p.tables e below (T27.setTop (mkF m 277 #[.val (.int p1), .val (.int p2), .val (.int p3), .val (.int z3), .val (.int z4), .val (.ref b1), .val (.ref b11), .val (.ref b12), .val (.ref b19), .val (.ref j8), .val (.int (1 : Int32)), .val (.ref j9), .val (.ref j7)] [])) _
    refine XS.iload X27.here hx rfl (hb hby at_277) rfl ?_
    exact k_
  obtain ⟨fs, hr, hrun, hended, hW, hsame⟩ := X27.leave (v := some (.int (1 : Int32))) (fun h => by rw [Bd.returns] at h; cases h)
  refine ⟨_, _, go34 _ ?_, hrun, hended, _, _, rfl, ?_, ⟨_, rfl⟩, hW, hsame.mono (by decide) (by decide)⟩
  · skip
    show Steps p.tables e below (T27.setTop (mkF m 279 #[.val (.int p1), .val (.int p2), .val (.int p3), .val (.int z3), .val (.int z4), .val (.ref b1), .val (.ref b11), .val (.ref b12), .val (.ref b19), .val (.ref j8), .val (.int (1 : Int32)), .val (.ref j9), .val (.ref j7)] [(.int (1 : Int32))])) _
    exact retN X27 hx (t := .boolean) Bd.returns (by simp) (hb hby at_279) hr
  · exact ⟨rfl, N26⟩
set_option maxRecDepth 65536 in
set_option maxHeartbeats 40000000 in
theorem pc139_1 (l : Launch) (Z : State) (a0 : Array Value) (hw : ∀ d ∈ tables_1, d.before a0 Z = true) (ws : List Jvm.Cond) (p1 : Int32) (p2 : Int32) (p3 : Int32) (j7 : Nat) (j8 : Nat) (j9 : Nat) (b1 : Nat) (b11 : Nat) (b12 : Nat) (b19 : Nat) (en : Nat) (li : Nat) (k1 : ClassId) (k11 : ClassId) (k12 : ClassId) (ke : ClassId) (kl : ClassId) (h0 : Heap) (n0 : Nat) {p : Program} {e : Env} {s : State} {m : MethodId} {below : List Frame} {meth : Method} {c : Code} {s₁ T0 : State} {locs : List Loc}
    (Bd : BodyLoose p l x (head1 (Jvm.Cond.code x code maxLocals ret :: ws) room_1) code maxLocals ret e s m #[(.int p1), (.int p2), (.int p3)] below meth c s₁) (hml : c.maxLocals = 13) (hZ : Z.Warmed39 s.vm) (X0 : Stand p l e room_1 s m #[(.int p1), (.int p2), (.int p3)] below meth c T0 locs 6 93) (e0 : T0.heap = h0) (N0 : Fr n0 locs) (Z0 : n0 ≤ h0.size) (O0 : Old Z n0 h0) (q0_ : Arv Z h0 b1 k1 (.object "java/lang/Integer") (3 : Int32) [(.ref j7), (.ref j8), (.ref j9)] .null) (q1_ : Arv Z h0 b11 k11 .int (3 : Int32) [(.int (1 : Int32)), (.int (2 : Int32)), (.int (3 : Int32))] (.int (0 : Int32))) (q2_ : Arv Z h0 b12 k12 .int (3 : Int32) [(.int (1 : Int32)), (.int (2 : Int32)), (.int (0 : Int32))] (.int (0 : Int32))) (q3_ : Exa Z h0 b19 "com/example/terrace/terrace/core/UseOrder") (q4_ : Fld Z h0 b19 "com/example/terrace/terrace/core/UseOrder" "entries" "[Ljava/lang/Object;" (.ref en)) (q5_ : Fld Z h0 b19 "com/example/terrace/terrace/core/UseOrder" "links" "[I" (.ref li)) (q6_ : Fld Z h0 b19 "com/example/terrace/terrace/core/UseOrder" "free" "I" (.int (0 : Int32))) (q7_ : Fld Z h0 b19 "com/example/terrace/terrace/core/UseOrder" "highest" "I" (.int (3 : Int32))) (q8_ : Arv Z h0 en ke (.object "java/lang/Object") (16 : Int32) (own_E (.ref j7) (.ref j8) (.ref j9)) .null) (q9_ : Arv Z h0 li kl .int (64 : Int32) (own_L 1 2 0 0 3 0 p3 0 0 3 p3 0 2 1 p3 0) (.int (0 : Int32))) (g_b1 : n0 ≤ b1) (g_b11 : n0 ≤ b11) (g_b12 : n0 ≤ b12) (g_b19 : n0 ≤ b19) (g_en : n0 ≤ en) (g_li : n0 ≤ li) (ne_b1_b11 : b1 ≠ b11) (ne_b1_b12 : b1 ≠ b12) (ne_b1_b19 : b1 ≠ b19) (ne_b1_en : b1 ≠ en) (ne_b1_li : b1 ≠ li) (ne_b11_b12 : b11 ≠ b12) (ne_b11_b19 : b11 ≠ b19) (ne_b11_en : b11 ≠ en) (ne_b11_li : b11 ≠ li) (ne_b12_b19 : b12 ≠ b19) (ne_b12_en : b12 ≠ en) (ne_b12_li : b12 ≠ li) (ne_b19_en : b19 ≠ en) (ne_b19_li : b19 ≠ li) (ne_en_li : en ≠ li) (Ov_ : Ovr Z ke "java/lang/Object") (Ej7 : Exa Z Z.heap j7 "java/lang/Integer") (Ej8 : Exa Z Z.heap j8 "java/lang/Integer") (Ej9 : Exa Z Z.heap j9 "java/lang/Integer") :
    ∃ s₂ o, Steps p.tables e below (T0.setTop (mkF m 139 #[.val (.int p1), .val (.int p2), .val (.int p3), .val (.int (0 : Int32)), .val (.int (0 : Int32)), .val (.ref b1), .val (.ref b11), .val (.ref b12), .val (.ref b19), .unset, .unset, .unset, .unset] [])) s₂ ∧ s₂.status = .running ∧ Ended s₂ below o ∧ ∃ v L, o = .returned v ∧ (v = some (.int 1) ∧ Fr n0 L) ∧ FrameEnd s o s₂ L room_1.cells room_1.slots := by
  have hw_14 := hw _ (List.mem_of_getElem? (i := 14) rfl)
  have hw_41 := hw _ (List.mem_of_getElem? (i := 41) rfl)
  have hw_42 := hw _ (List.mem_of_getElem? (i := 42) rfl)
  have hw_43 := hw _ (List.mem_of_getElem? (i := 43) rfl)
  have hw_44 := hw _ (List.mem_of_getElem? (i := 44) rfl)
  have hw_45 := hw _ (List.mem_of_getElem? (i := 45) rfl)
  have hw_50 := hw _ (List.mem_of_getElem? (i := 50) rfl)
  have hw_51 := hw _ (List.mem_of_getElem? (i := 51) rfl)
  have hw_52 := hw _ (List.mem_of_getElem? (i := 52) rfl)
  have hw_53 := hw _ (List.mem_of_getElem? (i := 53) rfl)
  have hx := Bd.exec
  have hby := Bd.bytes
  have hown : s.vm.findClass "com/example/terrace/terrace/core/UseOrderUsePinLaw" = some m.cls := findClass_of_methodNamed Bd.named
  have hnm := (name_of_methodNamed Bd.named Bd.method).1
  have pre0 : ∀ t_, Steps p.tables e below (T0.setTop (mkF m 139 #[.val (.int p1), .val (.int p2), .val (.int p3), .val (.int (0 : Int32)), .val (.int (0 : Int32)), .val (.ref b1), .val (.ref b11), .val (.ref b12), .val (.ref b19), .unset, .unset, .unset, .unset] [])) t_ → Steps p.tables e below (T0.setTop (mkF m 139 #[.val (.int p1), .val (.int p2), .val (.int p3), .val (.int (0 : Int32)), .val (.int (0 : Int32)), .val (.ref b1), .val (.ref b11), .val (.ref b12), .val (.ref b19), .unset, .unset, .unset, .unset] [])) t_ := fun _ k_ => k_
  obtain ⟨cl1, Ar1, q1, S1, M1, H1, G1⟩ := q1_
  have f2 : Arv Z h0 b11 k11 .int (3 : Int32) [(.int (1 : Int32)), (.int (2 : Int32)), (.int (3 : Int32))] (.int (0 : Int32)) := ⟨cl1, Ar1, q1, S1, M1, H1, G1⟩
  have hin1 : ¬ ((0 : Int32) < 0 ∨ cl1.slots.size ≤ ((0 : Int32)).toNatClampNeg) := inb_of S1 ⟨by decide, by decide⟩
  have hat1 : cl1.slots[((0 : Int32)).toNatClampNeg]? = some (.int (1 : Int32)) := Has.at H1 hin1 rfl
  obtain ⟨cq3, kq3, q3a, q3b, q3c⟩ := isOf hZ e0 q3_
  obtain ⟨_, _, ⟨T3, L3, k3, n3⟩, -, X3, ⟨Lc3, hQ3, l3, y3, z3⟩, st3⟩ := X0.virtualBack hx (y := (⟨"com/example/terrace/terrace/core/UseOrder", "use", "(I)V"⟩ : MethodName)) (z := (⟨"com/example/terrace/terrace/core/UseOrder", "use", "(I)V"⟩ : MethodName)) hown (mvT hZ hw_41) (mvT hZ hw_42) (notFace_of_selects (args := #[]) (mvT hZ hw_44)) (mvT hZ hw_44) (mvT hZ hw_43) (by decide) (backOf (W := 0) (rmUseN l Z a0 hw [] b19 li kl (own_L 1 2 0 0 3 0 p3 0 0 3 p3 0 2 1 p3 0) (1 : Int32) h0 n0 Z0 q5_ q9_ rfl) hZ hw_45 hw_14 (by decide) (by decide)) q3a q3c (g := (mkF m 146 #[.val (.int p1), .val (.int p2), .val (.int p3), .val (.int (0 : Int32)), .val (.int (0 : Int32)), .val (.ref b1), .val (.ref b11), .val (.ref b12), .val (.ref b19), .unset, .unset, .unset, .unset] [(.int (1 : Int32)), (.ref b19)])) rfl (by rw [hml]; rfl) (Steps.refl _) (argsL := [(.int (1 : Int32))]) (rest := []) (lenOf pd_0 rfl) rfl (by show 2 * 0 + _ ≤ _; exact Nat.le_of_eq rfl) (hb hby at_146) (fun _ _ => ⟨rfl, e0, (by decide : 6 + 0 ≤ _), (by decide : 93 + 0 ≤ _)⟩)
  dsimp only [Pt.U, Pt.locs, Pt.cells, Pt.slots] at X3 l3 y3 z3 st3 hQ3
  subst l3 y3 z3
  obtain ⟨rfl, N3q, Kc3, Vc3⟩ := hQ3
  have N3 := Fr.app N0 N3q
  have sz3 : h0.size ≤ T3.heap.size := Kc3.1
  have Z3 : n0 ≤ T3.heap.size := Nat.le_trans Z0 sz3
  have O3 : Old Z n0 T3.heap := O0.keep Kc3 (allS (show n0 ≤ li by omega) all0)
  have Vl3_ : Arv Z T3.heap li kl .int (64 : Int32) (own_L 1 2 0 0 3 0 p3 0 0 3 p3 0 2 1 p3 0) (.int (0 : Int32)) := Vc3
  have f5 := (q2_.keep Kc3 (ninS ne_b12_li nin0))
  obtain ⟨_, _, ⟨T4, L4, k4, n4⟩, -, X4, ⟨Lc4, hQ4, l4, y4, z4⟩, st4⟩ := Jvm.LawKit.callS X3 hx (y := (⟨"com/example/terrace/terrace/core/UseOrderUsePinLaw", "moveToEnd", "([II)V"⟩ : MethodName)) hown (mvT hZ hw_50) (mvT hZ hw_51) (mvT hZ hw_52) (mvT hZ hw_53) (by decide) (backOf (W := 0) (rmMove l Z a0 hw [] b12 k12 (1 : Int32) (2 : Int32) (0 : Int32) (0 : Int32) T3.heap n0 Z3 f5 (by omega)) hZ hw_53 hw_52 (by decide) (by decide)) (g := (mkF m 153 #[.val (.int p1), .val (.int p2), .val (.int p3), .val (.int (0 : Int32)), .val (.int (0 : Int32)), .val (.ref b1), .val (.ref b11), .val (.ref b12), .val (.ref b19), .unset, .unset, .unset, .unset] [(.int (0 : Int32)), (.ref b12)])) rfl (by rw [hml]; rfl) (argsL := [(.ref b12), (.int (0 : Int32))]) (rest := []) (lenOf pd_5 rfl) rfl (by show 2 * 0 + _ ≤ _; exact Nat.le_of_eq rfl) (hb hby at_153) (fun _ _ => ⟨rfl, rfl, (by decide : 6 + 0 ≤ _), (by decide : 93 + 0 ≤ _)⟩)
  dsimp only [Pt.U, Pt.locs, Pt.cells, Pt.slots] at X4 l4 y4 z4 st4 hQ4
  subst l4 y4 z4
  obtain ⟨rfl, N4q, Kc4, Vc4⟩ := hQ4
  have N4 := Fr.app N3 N4q
  have sz4 : T3.heap.size ≤ T4.heap.size := Kc4.1
  have Z4 : n0 ≤ T4.heap.size := Nat.le_trans Z3 sz4
  have O4 : Old Z n0 T4.heap := O3.keep Kc4 (allS (show n0 ≤ b12 by omega) all0)
  have Vd4 : Arv Z T4.heap b12 k12 .int (3 : Int32) [(.int (1 : Int32)), (.int (2 : Int32)), (.int (0 : Int32))] (.int (0 : Int32)) := Vc4
  have go6 : ∀ t_, Steps p.tables e below (T4.setTop (mkF m 156 #[.val (.int p1), .val (.int p2), .val (.int p3), .val (.int (0 : Int32)), .val (.int (0 : Int32)), .val (.ref b1), .val (.ref b11), .val (.ref b12), .val (.ref b19), .unset, .unset, .unset, .unset] [])) t_ → Steps p.tables e below (T0.setTop (mkF m 139 #[.val (.int p1), .val (.int p2), .val (.int p3), .val (.int (0 : Int32)), .val (.int (0 : Int32)), .val (.ref b1), .val (.ref b11), .val (.ref b12), .val (.ref b19), .unset, .unset, .unset, .unset] [])) t_ := by
    intro t_ k_
    refine pre0 t_ ?_
    show Steps p.tables e below (T0.setTop (mkF m 139 #[.val (.int p1), .val (.int p2), .val (.int p3), .val (.int (0 : Int32)), .val (.int (0 : Int32)), .val (.ref b1), .val (.ref b11), .val (.ref b12), .val (.ref b19), .unset, .unset, .unset, .unset] [])) _
    refine XS.aload X0.here hx rfl (hb hby at_139) rfl rfl ?_
    show Steps p.tables e below (T0.setTop (mkF m 141 #[.val (.int p1), .val (.int p2), .val (.int p3), .val (.int (0 : Int32)), .val (.int (0 : Int32)), .val (.ref b1), .val (.ref b11), .val (.ref b12), .val (.ref b19), .unset, .unset, .unset, .unset] [(.ref b19)])) _
    refine XS.aload X0.here hx rfl (hb hby at_141) rfl rfl ?_
    show Steps p.tables e below (T0.setTop (mkF m 143 #[.val (.int p1), .val (.int p2), .val (.int p3), .val (.int (0 : Int32)), .val (.int (0 : Int32)), .val (.ref b1), .val (.ref b11), .val (.ref b12), .val (.ref b19), .unset, .unset, .unset, .unset] [(.ref b11), (.ref b19)])) _
    refine XS.iload X0.here hx rfl (hb hby at_143) rfl ?_
    show Steps p.tables e below (T0.setTop (mkF m 145 #[.val (.int p1), .val (.int p2), .val (.int p3), .val (.int (0 : Int32)), .val (.int (0 : Int32)), .val (.ref b1), .val (.ref b11), .val (.ref b12), .val (.ref b19), .unset, .unset, .unset, .unset] [(.int (0 : Int32)), (.ref b11), (.ref b19)])) _
    refine X0.iaload hx (j := (0 : Int32)) (v := (.int (1 : Int32))) (by rw [e0]; exact Ar1.1) (State.isArrayOf_alike hZ.alike Ar1.2.1) Ar1.2.2 hin1 hat1 (g := (mkF m 145 #[.val (.int p1), .val (.int p2), .val (.int p3), .val (.int (0 : Int32)), .val (.int (0 : Int32)), .val (.ref b1), .val (.ref b11), .val (.ref b12), .val (.ref b19), .unset, .unset, .unset, .unset] [(.int (0 : Int32)), (.ref b11), (.ref b19)])) rfl rfl (hb hby at_145) _ ?_
    show Steps p.tables e below (T0.setTop (mkF m 146 #[.val (.int p1), .val (.int p2), .val (.int p3), .val (.int (0 : Int32)), .val (.int (0 : Int32)), .val (.ref b1), .val (.ref b11), .val (.ref b12), .val (.ref b19), .unset, .unset, .unset, .unset] [(.int (1 : Int32)), (.ref b19)])) _
    refine st3.trans ?_
    show Steps p.tables e below (T3.setTop (mkF m 149 #[.val (.int p1), .val (.int p2), .val (.int p3), .val (.int (0 : Int32)), .val (.int (0 : Int32)), .val (.ref b1), .val (.ref b11), .val (.ref b12), .val (.ref b19), .unset, .unset, .unset, .unset] [])) _
    refine XS.aload X3.here hx rfl (hb hby at_149) rfl rfl ?_
    show Steps p.tables e below (T3.setTop (mkF m 151 #[.val (.int p1), .val (.int p2), .val (.int p3), .val (.int (0 : Int32)), .val (.int (0 : Int32)), .val (.ref b1), .val (.ref b11), .val (.ref b12), .val (.ref b19), .unset, .unset, .unset, .unset] [(.ref b12)])) _
    refine XS.iload X3.here hx rfl (hb hby at_151) rfl ?_
    show Steps p.tables e below (T3.setTop (mkF m 153 #[.val (.int p1), .val (.int p2), .val (.int p3), .val (.int (0 : Int32)), .val (.int (0 : Int32)), .val (.ref b1), .val (.ref b11), .val (.ref b12), .val (.ref b19), .unset, .unset, .unset, .unset] [(.int (0 : Int32)), (.ref b12)])) _
    refine st4 _ ?_
    exact k_
  have f7 := (q0_.keep Kc3 (ninS ne_b1_li nin0))
  have f8 := (f7.keep Kc4 (ninS ne_b1_b12 nin0))
  have f9 := (f2.keep Kc3 (ninS ne_b11_li nin0))
  have f10 := (f9.keep Kc4 (ninS ne_b11_b12 nin0))
  have f11 := (q3_.keep Kc3)
  have f12 := (f11.keep Kc4)
  have f13 := (q4_.keep Kc3 (ninS ne_b19_li nin0))
  have f14 := (f13.keep Kc4 (ninS (Ne.symm ne_b12_b19) nin0))
  have f15 := (q5_.keep Kc3 (ninS ne_b19_li nin0))
  have f16 := (f15.keep Kc4 (ninS (Ne.symm ne_b12_b19) nin0))
  have f17 := (q6_.keep Kc3 (ninS ne_b19_li nin0))
  have f18 := (f17.keep Kc4 (ninS (Ne.symm ne_b12_b19) nin0))
  have f19 := (q7_.keep Kc3 (ninS ne_b19_li nin0))
  have f20 := (f19.keep Kc4 (ninS (Ne.symm ne_b12_b19) nin0))
  have f21 := (q8_.keep Kc3 (ninS ne_en_li nin0))
  have f22 := (f21.keep Kc4 (ninS (Ne.symm ne_b12_en) nin0))
  have f23 := (Vl3_.keep Kc4 (ninS (Ne.symm ne_b12_li) nin0))
  obtain ⟨s2_, o_, hs_, h1_, h2_, v_, L_, h3_, hq_, h4_⟩ := pc156_2 l Z a0 hw ws p1 p2 p3 j7 j8 j9 b1 b11 b12 b19 en li k1 k11 k12 ke kl (0 : Int32) (0 : Int32) T4.heap n0 Bd hml hZ X4 rfl N4 Z4 O4 f8 f10 Vd4 f12 f14 f16 f18 f20 f22 f23 g_b1 g_b11 g_b12 g_b19 g_en g_li ne_b1_b11 ne_b1_b12 ne_b1_b19 ne_b1_en ne_b1_li ne_b11_b12 ne_b11_b19 ne_b11_en ne_b11_li ne_b12_b19 ne_b12_en ne_b12_li ne_b19_en ne_b19_li ne_en_li Ov_ Ej7 Ej8 Ej9
  exact ⟨s2_, o_, go6 _ hs_, h1_, h2_, v_, L_, h3_, hq_, h4_⟩
set_option maxRecDepth 65536 in
set_option maxHeartbeats 40000000 in
theorem pc156_4 (l : Launch) (Z : State) (a0 : Array Value) (hw : ∀ d ∈ tables_1, d.before a0 Z = true) (ws : List Jvm.Cond) (p1 : Int32) (p2 : Int32) (p3 : Int32) (j7 : Nat) (j8 : Nat) (j9 : Nat) (b1 : Nat) (b11 : Nat) (b12 : Nat) (b19 : Nat) (en : Nat) (li : Nat) (k1 : ClassId) (k11 : ClassId) (k12 : ClassId) (ke : ClassId) (kl : ClassId) (z3 : Int32) (z4 : Int32) (h0 : Heap) (n0 : Nat) {p : Program} {e : Env} {s : State} {m : MethodId} {below : List Frame} {meth : Method} {c : Code} {s₁ T0 : State} {locs : List Loc}
    (Bd : BodyLoose p l x (head1 (Jvm.Cond.code x code maxLocals ret :: ws) room_1) code maxLocals ret e s m #[(.int p1), (.int p2), (.int p3)] below meth c s₁) (hml : c.maxLocals = 13) (hZ : Z.Warmed39 s.vm) (X0 : Stand p l e room_1 s m #[(.int p1), (.int p2), (.int p3)] below meth c T0 locs 6 93) (e0 : T0.heap = h0) (N0 : Fr n0 locs) (Z0 : n0 ≤ h0.size) (O0 : Old Z n0 h0) (q0_ : Arv Z h0 b1 k1 (.object "java/lang/Integer") (3 : Int32) [(.ref j7), (.ref j8), (.ref j9)] .null) (q1_ : Arv Z h0 b11 k11 .int (3 : Int32) [(.int (1 : Int32)), (.int (2 : Int32)), (.int (3 : Int32))] (.int (0 : Int32))) (q2_ : Arv Z h0 b12 k12 .int (3 : Int32) [(.int (2 : Int32)), (.int (0 : Int32)), (.int (1 : Int32))] (.int (0 : Int32))) (q3_ : Exa Z h0 b19 "com/example/terrace/terrace/core/UseOrder") (q4_ : Fld Z h0 b19 "com/example/terrace/terrace/core/UseOrder" "entries" "[Ljava/lang/Object;" (.ref en)) (q5_ : Fld Z h0 b19 "com/example/terrace/terrace/core/UseOrder" "links" "[I" (.ref li)) (q6_ : Fld Z h0 b19 "com/example/terrace/terrace/core/UseOrder" "free" "I" (.int (0 : Int32))) (q7_ : Fld Z h0 b19 "com/example/terrace/terrace/core/UseOrder" "highest" "I" (.int (3 : Int32))) (q8_ : Arv Z h0 en ke (.object "java/lang/Object") (16 : Int32) (own_E (.ref j7) (.ref j8) (.ref j9)) .null) (q9_ : Arv Z h0 li kl .int (64 : Int32) (own_L 2 3 0 0 3 2 p3 0 1 0 p3 0 0 1 p3 0) (.int (0 : Int32))) (g_b1 : n0 ≤ b1) (g_b11 : n0 ≤ b11) (g_b12 : n0 ≤ b12) (g_b19 : n0 ≤ b19) (g_en : n0 ≤ en) (g_li : n0 ≤ li) (ne_b1_b11 : b1 ≠ b11) (ne_b1_b12 : b1 ≠ b12) (ne_b1_b19 : b1 ≠ b19) (ne_b1_en : b1 ≠ en) (ne_b1_li : b1 ≠ li) (ne_b11_b12 : b11 ≠ b12) (ne_b11_b19 : b11 ≠ b19) (ne_b11_en : b11 ≠ en) (ne_b11_li : b11 ≠ li) (ne_b12_b19 : b12 ≠ b19) (ne_b12_en : b12 ≠ en) (ne_b12_li : b12 ≠ li) (ne_b19_en : b19 ≠ en) (ne_b19_li : b19 ≠ li) (ne_en_li : en ≠ li) (Ov_ : Ovr Z ke "java/lang/Object") (Ej7 : Exa Z Z.heap j7 "java/lang/Integer") (Ej8 : Exa Z Z.heap j8 "java/lang/Integer") (Ej9 : Exa Z Z.heap j9 "java/lang/Integer") :
    ∃ s₂ o, Steps p.tables e below (T0.setTop (mkF m 156 #[.val (.int p1), .val (.int p2), .val (.int p3), .val (.int z3), .val (.int z4), .val (.ref b1), .val (.ref b11), .val (.ref b12), .val (.ref b19), .unset, .unset, .unset, .unset] [])) s₂ ∧ s₂.status = .running ∧ Ended s₂ below o ∧ ∃ v L, o = .returned v ∧ (v = some (.int 1) ∧ Fr n0 L) ∧ FrameEnd s o s₂ L room_1.cells room_1.slots := by
  have hw_1 := hw _ (List.mem_of_getElem? (i := 1) rfl)
  have hw_14 := hw _ (List.mem_of_getElem? (i := 14) rfl)
  have hw_54 := hw _ (List.mem_of_getElem? (i := 54) rfl)
  have hw_55 := hw _ (List.mem_of_getElem? (i := 55) rfl)
  have hw_56 := hw _ (List.mem_of_getElem? (i := 56) rfl)
  have hw_57 := hw _ (List.mem_of_getElem? (i := 57) rfl)
  have hw_58 := hw _ (List.mem_of_getElem? (i := 58) rfl)
  have hw_63 := hw _ (List.mem_of_getElem? (i := 63) rfl)
  have hw_64 := hw _ (List.mem_of_getElem? (i := 64) rfl)
  have hw_65 := hw _ (List.mem_of_getElem? (i := 65) rfl)
  have hw_66 := hw _ (List.mem_of_getElem? (i := 66) rfl)
  have hw_67 := hw _ (List.mem_of_getElem? (i := 67) rfl)
  have hx := Bd.exec
  have hby := Bd.bytes
  have hown : s.vm.findClass "com/example/terrace/terrace/core/UseOrderUsePinLaw" = some m.cls := findClass_of_methodNamed Bd.named
  have hnm := (name_of_methodNamed Bd.named Bd.method).1
  have pre0 : ∀ t_, Steps p.tables e below (T0.setTop (mkF m 156 #[.val (.int p1), .val (.int p2), .val (.int p3), .val (.int z3), .val (.int z4), .val (.ref b1), .val (.ref b11), .val (.ref b12), .val (.ref b19), .unset, .unset, .unset, .unset] [])) t_ → Steps p.tables e below (T0.setTop (mkF m 156 #[.val (.int p1), .val (.int p2), .val (.int p3), .val (.int z3), .val (.int z4), .val (.ref b1), .val (.ref b11), .val (.ref b12), .val (.ref b19), .unset, .unset, .unset, .unset] [])) t_ := fun _ k_ => k_
  obtain ⟨cq1, kq1, q1a, q1b, q1c⟩ := isOf hZ e0 q3_
  obtain ⟨_, _, ⟨T1, L1, k1, n1⟩, -, X1, ⟨Lc1, hQ1, l1, y1, z1⟩, st1⟩ := X0.virtualBack hx (y := (⟨"com/example/terrace/terrace/core/UseOrder", "leastRecent", "()Ljava/lang/Object;"⟩ : MethodName)) (z := (⟨"com/example/terrace/terrace/core/UseOrder", "leastRecent", "()Ljava/lang/Object;"⟩ : MethodName)) hown (mvT hZ hw_54) (mvT hZ hw_55) (notFace_of_selects (args := #[]) (mvT hZ hw_57)) (mvT hZ hw_57) (mvT hZ hw_56) (by decide) (backOf (W := 0) (rmLeast l Z a0 hw [] b19 li kl (own_L 2 3 0 0 3 2 p3 0 1 0 p3 0 0 1 p3 0) en ke (own_E (.ref j7) (.ref j8) (.ref j9)) j9 (3 : Int32) h0 n0 Z0 q5_ q9_ q4_ q8_ q3_ rfl ⟨by decide, by decide⟩ rfl) hZ hw_58 hw_14 (by decide) (by decide)) q1a q1c (g := (mkF m 158 #[.val (.int p1), .val (.int p2), .val (.int p3), .val (.int z3), .val (.int z4), .val (.ref b1), .val (.ref b11), .val (.ref b12), .val (.ref b19), .unset, .unset, .unset, .unset] [(.ref b19)])) rfl (by rw [hml]; rfl) (Steps.refl _) (argsL := []) (rest := []) (lenOf pd_6 rfl) rfl (by show 2 * 0 + _ ≤ _; exact Nat.le_of_eq rfl) (hb hby at_158) (fun _ _ => ⟨rfl, e0, (by decide : 6 + 0 ≤ _), (by decide : 93 + 0 ≤ _)⟩)
  dsimp only [Pt.U, Pt.locs, Pt.cells, Pt.slots] at X1 l1 y1 z1 st1 hQ1
  subst l1 y1 z1
  obtain ⟨rfl, N1q, e1⟩ := hQ1
  have N1 := Fr.app N0 N1q
  obtain ⟨T2, X2, e2, st2⟩ := castY X1 hx hZ hown hw_1 e1 (Ins.self (Ej9.ext O0.2)) (g := (mkF m 161 #[.val (.int p1), .val (.int p2), .val (.int p3), .val (.int z3), .val (.int z4), .val (.ref b1), .val (.ref b11), .val (.ref b12), .val (.ref b19), .unset, .unset, .unset, .unset] [(.ref j9)])) rfl rfl (hb hby at_161)
  obtain ⟨cl3, Ar3, q3, S3, M3, H3, G3⟩ := q2_
  have f4 : Arv Z h0 b12 k12 .int (3 : Int32) [(.int (2 : Int32)), (.int (0 : Int32)), (.int (1 : Int32))] (.int (0 : Int32)) := ⟨cl3, Ar3, q3, S3, M3, H3, G3⟩
  have hin3 : ¬ ((0 : Int32) < 0 ∨ cl3.slots.size ≤ ((0 : Int32)).toNatClampNeg) := inb_of S3 ⟨by decide, by decide⟩
  have hat3 : cl3.slots[((0 : Int32)).toNatClampNeg]? = some (.int (2 : Int32)) := Has.at H3 hin3 rfl
  obtain ⟨cl5, Ar5, q5, S5, M5, H5, G5⟩ := q0_
  have f6 : Arv Z h0 b1 k1 (.object "java/lang/Integer") (3 : Int32) [(.ref j7), (.ref j8), (.ref j9)] .null := ⟨cl5, Ar5, q5, S5, M5, H5, G5⟩
  have hin5 : ¬ ((2 : Int32) < 0 ∨ cl5.slots.size ≤ ((2 : Int32)).toNatClampNeg) := inb_of S5 ⟨by decide, by decide⟩
  have hat5 : cl5.slots[((2 : Int32)).toNatClampNeg]? = some (.ref j9) := Has.at H5 hin5 rfl
  obtain ⟨cl7, Ar7, q7, S7, M7, H7, G7⟩ := f4
  have f8 : Arv Z h0 b12 k12 .int (3 : Int32) [(.int (2 : Int32)), (.int (0 : Int32)), (.int (1 : Int32))] (.int (0 : Int32)) := ⟨cl7, Ar7, q7, S7, M7, H7, G7⟩
  have hin7 : ¬ ((0 : Int32) < 0 ∨ cl7.slots.size ≤ ((0 : Int32)).toNatClampNeg) := inb_of S7 ⟨by decide, by decide⟩
  have hat7 : cl7.slots[((0 : Int32)).toNatClampNeg]? = some (.int (2 : Int32)) := Has.at H7 hin7 rfl
  obtain ⟨cl9, Ar9, q9, S9, M9, H9, G9⟩ := q1_
  have f10 : Arv Z h0 b11 k11 .int (3 : Int32) [(.int (1 : Int32)), (.int (2 : Int32)), (.int (3 : Int32))] (.int (0 : Int32)) := ⟨cl9, Ar9, q9, S9, M9, H9, G9⟩
  have hin9 : ¬ ((2 : Int32) < 0 ∨ cl9.slots.size ≤ ((2 : Int32)).toNatClampNeg) := inb_of S9 ⟨by decide, by decide⟩
  have hat9 : cl9.slots[((2 : Int32)).toNatClampNeg]? = some (.int (3 : Int32)) := Has.at H9 hin9 rfl
  obtain ⟨cq11, kq11, q11a, q11b, q11c⟩ := isOf hZ e2 q3_
  obtain ⟨_, _, ⟨T11, L11, k11, n11⟩, -, X11, ⟨Lc11, hQ11, l11, y11, z11⟩, st11⟩ := X2.virtualBack hx (y := (⟨"com/example/terrace/terrace/core/UseOrder", "remove", "(I)V"⟩ : MethodName)) (z := (⟨"com/example/terrace/terrace/core/UseOrder", "remove", "(I)V"⟩ : MethodName)) hown (mvT hZ hw_63) (mvT hZ hw_64) (notFace_of_selects (args := #[]) (mvT hZ hw_66)) (mvT hZ hw_66) (mvT hZ hw_65) (by decide) (backOf (W := 0) (rmRem l Z a0 hw [] b19 li kl (own_L 2 3 0 0 3 2 p3 0 1 0 p3 0 0 1 p3 0) en ke (own_E (.ref j7) (.ref j8) (.ref j9)) (3 : Int32) (0 : Int32) 12 3 (0 : Int32) (1 : Int32) 1 4 h0 n0 Z0 q5_ q9_ own_Ln ⟨by decide, by decide⟩ ⟨by decide, by decide⟩ rfl rfl ⟨by decide, by decide⟩ rfl ⟨by decide, by decide⟩ rfl (by decide) (by decide) (by omega) ne_b19_li q3_ q4_ q8_ own_En (by omega) (by omega) q6_ ne_en_li ne_b19_en ⟨by decide, by decide⟩ rfl ⟨by decide, by decide⟩ rfl ⟨by decide, by decide⟩ rfl (by decide) (by decide)) hZ hw_67 hw_14 (by decide) (by decide)) q11a q11c (g := (mkF m 194 #[.val (.int p1), .val (.int p2), .val (.int p3), .val (.int z3), .val (.int z4), .val (.ref b1), .val (.ref b11), .val (.ref b12), .val (.ref b19), .val (.ref j9), .val (.int (1 : Int32)), .unset, .unset] [(.int (3 : Int32)), (.ref b19)])) rfl (by rw [hml]; rfl) (Steps.refl _) (argsL := [(.int (3 : Int32))]) (rest := []) (lenOf pd_0 rfl) rfl (by show 2 * 0 + _ ≤ _; exact Nat.le_of_eq rfl) (hb hby at_194) (fun _ _ => ⟨rfl, e2, (by decide : 6 + 0 ≤ _), (by decide : 93 + 0 ≤ _)⟩)
  dsimp only [Pt.U, Pt.locs, Pt.cells, Pt.slots] at X11 l11 y11 z11 st11 hQ11
  subst l11 y11 z11
  obtain ⟨rfl, N11q, Kc11, c0_11, c1_11, c2_11, c3_11, c4_11, c5_11⟩ := hQ11
  have N11 := Fr.app N1 N11q
  have sz11 : h0.size ≤ T11.heap.size := Kc11.1
  have Z11 : n0 ≤ T11.heap.size := Nat.le_trans Z0 sz11
  have O11 : Old Z n0 T11.heap := O0.keep Kc11 (allS (show n0 ≤ b19 by omega) (allS (show n0 ≤ li by omega) (allS (show n0 ≤ en by omega) all0)))
  have Vl11_ : Arv Z T11.heap li kl .int (64 : Int32) (own_L 2 1 0 0 0 2 p3 0 1 0 p3 0 0 (-1) p3 0) (.int (0 : Int32)) := c4_11
  have Ve11_ : Arv Z T11.heap en ke (.object "java/lang/Object") (16 : Int32) (own_E (.ref j7) (.ref j8) .null) .null := c5_11
  obtain ⟨cq12, kq12, q12a, q12b, q12c⟩ := isOf hZ rfl c0_11
  obtain ⟨_, _, ⟨T12, L12, k12, n12⟩, -, X12, ⟨Lc12, hQ12, l12, y12, z12⟩, st12⟩ := X11.virtualBack hx (y := (⟨"com/example/terrace/terrace/core/UseOrder", "leastRecent", "()Ljava/lang/Object;"⟩ : MethodName)) (z := (⟨"com/example/terrace/terrace/core/UseOrder", "leastRecent", "()Ljava/lang/Object;"⟩ : MethodName)) hown (mvT hZ hw_54) (mvT hZ hw_55) (notFace_of_selects (args := #[]) (mvT hZ hw_57)) (mvT hZ hw_57) (mvT hZ hw_56) (by decide) (backOf (W := 0) (rmLeast l Z a0 hw [] b19 li kl (own_L 2 1 0 0 0 2 p3 0 1 0 p3 0 0 (-1) p3 0) en ke (own_E (.ref j7) (.ref j8) .null) j7 (1 : Int32) T11.heap n0 Z11 c1_11 Vl11_ c2_11 Ve11_ c0_11 rfl ⟨by decide, by decide⟩ rfl) hZ hw_58 hw_14 (by decide) (by decide)) q12a q12c (g := (mkF m 199 #[.val (.int p1), .val (.int p2), .val (.int p3), .val (.int z3), .val (.int z4), .val (.ref b1), .val (.ref b11), .val (.ref b12), .val (.ref b19), .val (.ref j9), .val (.int (1 : Int32)), .unset, .unset] [(.ref b19)])) rfl (by rw [hml]; rfl) (Steps.refl _) (argsL := []) (rest := []) (lenOf pd_6 rfl) rfl (by show 2 * 0 + _ ≤ _; exact Nat.le_of_eq rfl) (hb hby at_199) (fun _ _ => ⟨rfl, rfl, (by decide : 6 + 0 ≤ _), (by decide : 93 + 0 ≤ _)⟩)
  dsimp only [Pt.U, Pt.locs, Pt.cells, Pt.slots] at X12 l12 y12 z12 st12 hQ12
  subst l12 y12 z12
  obtain ⟨rfl, N12q, e12⟩ := hQ12
  have N12 := Fr.app N11 N12q
  obtain ⟨T13, X13, e13, st13⟩ := castY X12 hx hZ hown hw_1 e12 (Ins.self (Ej7.ext O11.2)) (g := (mkF m 202 #[.val (.int p1), .val (.int p2), .val (.int p3), .val (.int z3), .val (.int z4), .val (.ref b1), .val (.ref b11), .val (.ref b12), .val (.ref b19), .val (.ref j9), .val (.int (1 : Int32)), .unset, .unset] [(.ref j7)])) rfl rfl (hb hby at_202)
  have f14 := (f8.keep Kc11 (ninS ne_b12_b19 (ninS ne_b12_li (ninS ne_b12_en nin0))))
  obtain ⟨cl15, Ar15, q15, S15, M15, H15, G15⟩ := f14
  have f16 : Arv Z T11.heap b12 k12 .int (3 : Int32) [(.int (2 : Int32)), (.int (0 : Int32)), (.int (1 : Int32))] (.int (0 : Int32)) := ⟨cl15, Ar15, q15, S15, M15, H15, G15⟩
  have hin15 : ¬ ((1 : Int32) < 0 ∨ cl15.slots.size ≤ ((1 : Int32)).toNatClampNeg) := inb_of S15 ⟨by decide, by decide⟩
  have hat15 : cl15.slots[((1 : Int32)).toNatClampNeg]? = some (.int (0 : Int32)) := Has.at H15 hin15 rfl
  have f17 := (f6.keep Kc11 (ninS ne_b1_b19 (ninS ne_b1_li (ninS ne_b1_en nin0))))
  obtain ⟨cl18, Ar18, q18, S18, M18, H18, G18⟩ := f17
  have f19 : Arv Z T11.heap b1 k1 (.object "java/lang/Integer") (3 : Int32) [(.ref j7), (.ref j8), (.ref j9)] .null := ⟨cl18, Ar18, q18, S18, M18, H18, G18⟩
  have hin18 : ¬ ((0 : Int32) < 0 ∨ cl18.slots.size ≤ ((0 : Int32)).toNatClampNeg) := inb_of S18 ⟨by decide, by decide⟩
  have hat18 : cl18.slots[((0 : Int32)).toNatClampNeg]? = some (.ref j7) := Has.at H18 hin18 rfl
  obtain ⟨cl20, Ar20, q20, S20, M20, H20, G20⟩ := f16
  have f21 : Arv Z T11.heap b12 k12 .int (3 : Int32) [(.int (2 : Int32)), (.int (0 : Int32)), (.int (1 : Int32))] (.int (0 : Int32)) := ⟨cl20, Ar20, q20, S20, M20, H20, G20⟩
  have hin20 : ¬ ((1 : Int32) < 0 ∨ cl20.slots.size ≤ ((1 : Int32)).toNatClampNeg) := inb_of S20 ⟨by decide, by decide⟩
  have hat20 : cl20.slots[((1 : Int32)).toNatClampNeg]? = some (.int (0 : Int32)) := Has.at H20 hin20 rfl
  have f22 := (f10.keep Kc11 (ninS ne_b11_b19 (ninS ne_b11_li (ninS ne_b11_en nin0))))
  obtain ⟨cl23, Ar23, q23, S23, M23, H23, G23⟩ := f22
  have f24 : Arv Z T11.heap b11 k11 .int (3 : Int32) [(.int (1 : Int32)), (.int (2 : Int32)), (.int (3 : Int32))] (.int (0 : Int32)) := ⟨cl23, Ar23, q23, S23, M23, H23, G23⟩
  have hin23 : ¬ ((0 : Int32) < 0 ∨ cl23.slots.size ≤ ((0 : Int32)).toNatClampNeg) := inb_of S23 ⟨by decide, by decide⟩
  have hat23 : cl23.slots[((0 : Int32)).toNatClampNeg]? = some (.int (1 : Int32)) := Has.at H23 hin23 rfl
  obtain ⟨cq25, kq25, q25a, q25b, q25c⟩ := isOf hZ e13 c0_11
  obtain ⟨_, _, ⟨T25, L25, k25, n25⟩, -, X25, ⟨Lc25, hQ25, l25, y25, z25⟩, st25⟩ := X13.virtualBack hx (y := (⟨"com/example/terrace/terrace/core/UseOrder", "remove", "(I)V"⟩ : MethodName)) (z := (⟨"com/example/terrace/terrace/core/UseOrder", "remove", "(I)V"⟩ : MethodName)) hown (mvT hZ hw_63) (mvT hZ hw_64) (notFace_of_selects (args := #[]) (mvT hZ hw_66)) (mvT hZ hw_66) (mvT hZ hw_65) (by decide) (backOf (W := 0) (rmRem l Z a0 hw [] b19 li kl (own_L 2 1 0 0 0 2 p3 0 1 0 p3 0 0 (-1) p3 0) en ke (own_E (.ref j7) (.ref j8) .null) (1 : Int32) (3 : Int32) 4 1 (0 : Int32) (2 : Int32) 1 8 T11.heap n0 Z11 c1_11 Vl11_ own_Ln ⟨by decide, by decide⟩ ⟨by decide, by decide⟩ rfl rfl ⟨by decide, by decide⟩ rfl ⟨by decide, by decide⟩ rfl (by decide) (by decide) (by omega) ne_b19_li c0_11 c2_11 Ve11_ own_En (by omega) (by omega) c3_11 ne_en_li ne_b19_en ⟨by decide, by decide⟩ rfl ⟨by decide, by decide⟩ rfl ⟨by decide, by decide⟩ rfl (by decide) (by decide)) hZ hw_67 hw_14 (by decide) (by decide)) q25a q25c (g := (mkF m 240 #[.val (.int p1), .val (.int p2), .val (.int p3), .val (.int z3), .val (.int z4), .val (.ref b1), .val (.ref b11), .val (.ref b12), .val (.ref b19), .val (.ref j9), .val (.int (1 : Int32)), .val (.ref j7), .unset] [(.int (1 : Int32)), (.ref b19)])) rfl (by rw [hml]; rfl) (Steps.refl _) (argsL := [(.int (1 : Int32))]) (rest := []) (lenOf pd_0 rfl) rfl (by show 2 * 0 + _ ≤ _; exact Nat.le_of_eq rfl) (hb hby at_240) (fun _ _ => ⟨rfl, e13, (by decide : 6 + 0 ≤ _), (by decide : 93 + 0 ≤ _)⟩)
  dsimp only [Pt.U, Pt.locs, Pt.cells, Pt.slots] at X25 l25 y25 z25 st25 hQ25
  subst l25 y25 z25
  obtain ⟨rfl, N25q, Kc25, c0_25, c1_25, c2_25, c3_25, c4_25, c5_25⟩ := hQ25
  have N25 := Fr.app N12 N25q
  have sz25 : T11.heap.size ≤ T25.heap.size := Kc25.1
  have Z25 : n0 ≤ T25.heap.size := Nat.le_trans Z11 sz25
  have O25 : Old Z n0 T25.heap := O11.keep Kc25 (allS (show n0 ≤ b19 by omega) (allS (show n0 ≤ li by omega) (allS (show n0 ≤ en by omega) all0)))
  have Vl25_ : Arv Z T25.heap li kl .int (64 : Int32) (own_L 2 2 0 0 3 (-1) p3 0 0 0 p3 0 0 (-1) p3 0) (.int (0 : Int32)) := c4_25
  have Ve25_ : Arv Z T25.heap en ke (.object "java/lang/Object") (16 : Int32) (own_E .null (.ref j8) .null) .null := c5_25
  obtain ⟨cq26, kq26, q26a, q26b, q26c⟩ := isOf hZ rfl c0_25
  obtain ⟨_, _, ⟨T26, L26, k26, n26⟩, -, X26, ⟨Lc26, hQ26, l26, y26, z26⟩, st26⟩ := X25.virtualBack hx (y := (⟨"com/example/terrace/terrace/core/UseOrder", "leastRecent", "()Ljava/lang/Object;"⟩ : MethodName)) (z := (⟨"com/example/terrace/terrace/core/UseOrder", "leastRecent", "()Ljava/lang/Object;"⟩ : MethodName)) hown (mvT hZ hw_54) (mvT hZ hw_55) (notFace_of_selects (args := #[]) (mvT hZ hw_57)) (mvT hZ hw_57) (mvT hZ hw_56) (by decide) (backOf (W := 0) (rmLeast l Z a0 hw [] b19 li kl (own_L 2 2 0 0 3 (-1) p3 0 0 0 p3 0 0 (-1) p3 0) en ke (own_E .null (.ref j8) .null) j8 (2 : Int32) T25.heap n0 Z25 c1_25 Vl25_ c2_25 Ve25_ c0_25 rfl ⟨by decide, by decide⟩ rfl) hZ hw_58 hw_14 (by decide) (by decide)) q26a q26c (g := (mkF m 245 #[.val (.int p1), .val (.int p2), .val (.int p3), .val (.int z3), .val (.int z4), .val (.ref b1), .val (.ref b11), .val (.ref b12), .val (.ref b19), .val (.ref j9), .val (.int (1 : Int32)), .val (.ref j7), .unset] [(.ref b19)])) rfl (by rw [hml]; rfl) (Steps.refl _) (argsL := []) (rest := []) (lenOf pd_6 rfl) rfl (by show 2 * 0 + _ ≤ _; exact Nat.le_of_eq rfl) (hb hby at_245) (fun _ _ => ⟨rfl, rfl, (by decide : 6 + 0 ≤ _), (by decide : 93 + 0 ≤ _)⟩)
  dsimp only [Pt.U, Pt.locs, Pt.cells, Pt.slots] at X26 l26 y26 z26 st26 hQ26
  subst l26 y26 z26
  obtain ⟨rfl, N26q, e26⟩ := hQ26
  have N26 := Fr.app N25 N26q
  obtain ⟨T27, X27, e27, st27⟩ := castY X26 hx hZ hown hw_1 e26 (Ins.self (Ej8.ext O25.2)) (g := (mkF m 248 #[.val (.int p1), .val (.int p2), .val (.int p3), .val (.int z3), .val (.int z4), .val (.ref b1), .val (.ref b11), .val (.ref b12), .val (.ref b19), .val (.ref j9), .val (.int (1 : Int32)), .val (.ref j7), .unset] [(.ref j8)])) rfl rfl (hb hby at_248)
  have f28 := (f21.keep Kc25 (ninS ne_b12_b19 (ninS ne_b12_li (ninS ne_b12_en nin0))))
  obtain ⟨cl29, Ar29, q29, S29, M29, H29, G29⟩ := f28
  have f30 : Arv Z T25.heap b12 k12 .int (3 : Int32) [(.int (2 : Int32)), (.int (0 : Int32)), (.int (1 : Int32))] (.int (0 : Int32)) := ⟨cl29, Ar29, q29, S29, M29, H29, G29⟩
  have hin29 : ¬ ((2 : Int32) < 0 ∨ cl29.slots.size ≤ ((2 : Int32)).toNatClampNeg) := inb_of S29 ⟨by decide, by decide⟩
  have hat29 : cl29.slots[((2 : Int32)).toNatClampNeg]? = some (.int (1 : Int32)) := Has.at H29 hin29 rfl
  have f31 := (f19.keep Kc25 (ninS ne_b1_b19 (ninS ne_b1_li (ninS ne_b1_en nin0))))
  obtain ⟨cl32, Ar32, q32, S32, M32, H32, G32⟩ := f31
  have f33 : Arv Z T25.heap b1 k1 (.object "java/lang/Integer") (3 : Int32) [(.ref j7), (.ref j8), (.ref j9)] .null := ⟨cl32, Ar32, q32, S32, M32, H32, G32⟩
  have hin32 : ¬ ((1 : Int32) < 0 ∨ cl32.slots.size ≤ ((1 : Int32)).toNatClampNeg) := inb_of S32 ⟨by decide, by decide⟩
  have hat32 : cl32.slots[((1 : Int32)).toNatClampNeg]? = some (.ref j8) := Has.at H32 hin32 rfl
  have go34 : ∀ t_, Steps p.tables e below (T27.setTop (mkF m 279 #[.val (.int p1), .val (.int p2), .val (.int p3), .val (.int z3), .val (.int z4), .val (.ref b1), .val (.ref b11), .val (.ref b12), .val (.ref b19), .val (.ref j9), .val (.int (1 : Int32)), .val (.ref j7), .val (.ref j8)] [(.int (1 : Int32))])) t_ → Steps p.tables e below (T0.setTop (mkF m 156 #[.val (.int p1), .val (.int p2), .val (.int p3), .val (.int z3), .val (.int z4), .val (.ref b1), .val (.ref b11), .val (.ref b12), .val (.ref b19), .unset, .unset, .unset, .unset] [])) t_ := by
    intro t_ k_
    refine pre0 t_ ?_
    show Steps p.tables e below (T0.setTop (mkF m 156 #[.val (.int p1), .val (.int p2), .val (.int p3), .val (.int z3), .val (.int z4), .val (.ref b1), .val (.ref b11), .val (.ref b12), .val (.ref b19), .unset, .unset, .unset, .unset] [])) _
    refine XS.aload X0.here hx rfl (hb hby at_156) rfl rfl ?_
    show Steps p.tables e below (T0.setTop (mkF m 158 #[.val (.int p1), .val (.int p2), .val (.int p3), .val (.int z3), .val (.int z4), .val (.ref b1), .val (.ref b11), .val (.ref b12), .val (.ref b19), .unset, .unset, .unset, .unset] [(.ref b19)])) _
    refine st1.trans ?_
    show Steps p.tables e below (T1.setTop (mkF m 161 #[.val (.int p1), .val (.int p2), .val (.int p3), .val (.int z3), .val (.int z4), .val (.ref b1), .val (.ref b11), .val (.ref b12), .val (.ref b19), .unset, .unset, .unset, .unset] [(.ref j9)])) _
    refine st2 _ ?_
    show Steps p.tables e below (T2.setTop (mkF m 164 #[.val (.int p1), .val (.int p2), .val (.int p3), .val (.int z3), .val (.int z4), .val (.ref b1), .val (.ref b11), .val (.ref b12), .val (.ref b19), .unset, .unset, .unset, .unset] [(.ref j9)])) _
    refine XS.astore X2.here hx rfl (hb hby at_164) rfl rfl (l' := #[.val (.int p1), .val (.int p2), .val (.int p3), .val (.int z3), .val (.int z4), .val (.ref b1), .val (.ref b11), .val (.ref b12), .val (.ref b19), .val (.ref j9), .unset, .unset, .unset]) rfl ?_
    show Steps p.tables e below (T2.setTop (mkF m 166 #[.val (.int p1), .val (.int p2), .val (.int p3), .val (.int z3), .val (.int z4), .val (.ref b1), .val (.ref b11), .val (.ref b12), .val (.ref b19), .val (.ref j9), .unset, .unset, .unset] [])) _
    refine XS.aload X2.here hx rfl (hb hby at_166) rfl rfl ?_
    show Steps p.tables e below (T2.setTop (mkF m 168 #[.val (.int p1), .val (.int p2), .val (.int p3), .val (.int z3), .val (.int z4), .val (.ref b1), .val (.ref b11), .val (.ref b12), .val (.ref b19), .val (.ref j9), .unset, .unset, .unset] [(.ref j9)])) _
    refine XS.aload X2.here hx rfl (hb hby at_168) rfl rfl ?_
    show Steps p.tables e below (T2.setTop (mkF m 170 #[.val (.int p1), .val (.int p2), .val (.int p3), .val (.int z3), .val (.int z4), .val (.ref b1), .val (.ref b11), .val (.ref b12), .val (.ref b19), .val (.ref j9), .unset, .unset, .unset] [(.ref b1), (.ref j9)])) _
    refine XS.aload X2.here hx rfl (hb hby at_170) rfl rfl ?_
    show Steps p.tables e below (T2.setTop (mkF m 172 #[.val (.int p1), .val (.int p2), .val (.int p3), .val (.int z3), .val (.int z4), .val (.ref b1), .val (.ref b11), .val (.ref b12), .val (.ref b19), .val (.ref j9), .unset, .unset, .unset] [(.ref b12), (.ref b1), (.ref j9)])) _
    refine XS.iconst X2.here hx rfl (hb hby at_172) ?_
    show Steps p.tables e below (T2.setTop (mkF m 173 #[.val (.int p1), .val (.int p2), .val (.int p3), .val (.int z3), .val (.int z4), .val (.ref b1), .val (.ref b11), .val (.ref b12), .val (.ref b19), .val (.ref j9), .unset, .unset, .unset] [(.int (0 : Int32)), (.ref b12), (.ref b1), (.ref j9)])) _
    refine X2.iaload hx (j := (0 : Int32)) (v := (.int (2 : Int32))) (by rw [e2]; exact Ar3.1) (State.isArrayOf_alike hZ.alike Ar3.2.1) Ar3.2.2 hin3 hat3 (g := (mkF m 173 #[.val (.int p1), .val (.int p2), .val (.int p3), .val (.int z3), .val (.int z4), .val (.ref b1), .val (.ref b11), .val (.ref b12), .val (.ref b19), .val (.ref j9), .unset, .unset, .unset] [(.int (0 : Int32)), (.ref b12), (.ref b1), (.ref j9)])) rfl rfl (hb hby at_173) _ ?_
    show Steps p.tables e below (T2.setTop (mkF m 174 #[.val (.int p1), .val (.int p2), .val (.int p3), .val (.int z3), .val (.int z4), .val (.ref b1), .val (.ref b11), .val (.ref b12), .val (.ref b19), .val (.ref j9), .unset, .unset, .unset] [(.int (2 : Int32)), (.ref b1), (.ref j9)])) _
    refine X2.aaload hx (j := (2 : Int32)) (v := (.ref j9)) (by rw [e2]; exact Ar5.1) (State.isArrayOf_alike hZ.alike Ar5.2.1) rfl Ar5.2.2 hin5 hat5 (g := (mkF m 174 #[.val (.int p1), .val (.int p2), .val (.int p3), .val (.int z3), .val (.int z4), .val (.ref b1), .val (.ref b11), .val (.ref b12), .val (.ref b19), .val (.ref j9), .unset, .unset, .unset] [(.int (2 : Int32)), (.ref b1), (.ref j9)])) rfl rfl (hb hby at_174) _ ?_
    show Steps p.tables e below (T2.setTop (mkF m 175 #[.val (.int p1), .val (.int p2), .val (.int p3), .val (.int z3), .val (.int z4), .val (.ref b1), .val (.ref b11), .val (.ref b12), .val (.ref b19), .val (.ref j9), .unset, .unset, .unset] [(.ref j9), (.ref j9)])) _
    refine Jvm.RoadKit.acmp (g := (mkF m 175 #[.val (.int p1), .val (.int p2), .val (.int p3), .val (.int z3), .val (.int z4), .val (.ref b1), .val (.ref b11), .val (.ref b12), .val (.ref b19), .val (.ref j9), .unset, .unset, .unset] [(.ref j9), (.ref j9)])) X2 hx rfl rfl rfl (pc0 := 175) (pc' := 178) (same := true) rfl (hb hby at_175) rfl (decide_eq_true rfl) (by decide) (by decide) ?_
    show Steps p.tables e below (T2.setTop (mkF m 178 #[.val (.int p1), .val (.int p2), .val (.int p3), .val (.int z3), .val (.int z4), .val (.ref b1), .val (.ref b11), .val (.ref b12), .val (.ref b19), .val (.ref j9), .unset, .unset, .unset] [])) _
    refine XS.iconst X2.here hx rfl (hb hby at_178) ?_
    show Steps p.tables e below (T2.setTop (mkF m 179 #[.val (.int p1), .val (.int p2), .val (.int p3), .val (.int z3), .val (.int z4), .val (.ref b1), .val (.ref b11), .val (.ref b12), .val (.ref b19), .val (.ref j9), .unset, .unset, .unset] [(.int (1 : Int32))])) _
    refine XS.goto X2.here hx rfl (pc0 := 179) (pc' := 183) rfl (hb hby at_179) (by decide) (by decide) ?_
    show Steps p.tables e below (T2.setTop (mkF m 183 #[.val (.int p1), .val (.int p2), .val (.int p3), .val (.int z3), .val (.int z4), .val (.ref b1), .val (.ref b11), .val (.ref b12), .val (.ref b19), .val (.ref j9), .unset, .unset, .unset] [(.int (1 : Int32))])) _
    refine XS.istore X2.here hx rfl (hb hby at_183) rfl (l' := #[.val (.int p1), .val (.int p2), .val (.int p3), .val (.int z3), .val (.int z4), .val (.ref b1), .val (.ref b11), .val (.ref b12), .val (.ref b19), .val (.ref j9), .val (.int (1 : Int32)), .unset, .unset]) rfl ?_
    show Steps p.tables e below (T2.setTop (mkF m 185 #[.val (.int p1), .val (.int p2), .val (.int p3), .val (.int z3), .val (.int z4), .val (.ref b1), .val (.ref b11), .val (.ref b12), .val (.ref b19), .val (.ref j9), .val (.int (1 : Int32)), .unset, .unset] [])) _
    refine XS.aload X2.here hx rfl (hb hby at_185) rfl rfl ?_
    show Steps p.tables e below (T2.setTop (mkF m 187 #[.val (.int p1), .val (.int p2), .val (.int p3), .val (.int z3), .val (.int z4), .val (.ref b1), .val (.ref b11), .val (.ref b12), .val (.ref b19), .val (.ref j9), .val (.int (1 : Int32)), .unset, .unset] [(.ref b19)])) _
    refine XS.aload X2.here hx rfl (hb hby at_187) rfl rfl ?_
    show Steps p.tables e below (T2.setTop (mkF m 189 #[.val (.int p1), .val (.int p2), .val (.int p3), .val (.int z3), .val (.int z4), .val (.ref b1), .val (.ref b11), .val (.ref b12), .val (.ref b19), .val (.ref j9), .val (.int (1 : Int32)), .unset, .unset] [(.ref b11), (.ref b19)])) _
    refine XS.aload X2.here hx rfl (hb hby at_189) rfl rfl ?_
    show Steps p.tables e below (T2.setTop (mkF m 191 #[.val (.int p1), .val (.int p2), .val (.int p3), .val (.int z3), .val (.int z4), .val (.ref b1), .val (.ref b11), .val (.ref b12), .val (.ref b19), .val (.ref j9), .val (.int (1 : Int32)), .unset, .unset] [(.ref b12), (.ref b11), (.ref b19)])) _
    refine XS.iconst X2.here hx rfl (hb hby at_191) ?_
    show Steps p.tables e below (T2.setTop (mkF m 192 #[.val (.int p1), .val (.int p2), .val (.int p3), .val (.int z3), .val (.int z4), .val (.ref b1), .val (.ref b11), .val (.ref b12), .val (.ref b19), .val (.ref j9), .val (.int (1 : Int32)), .unset, .unset] [(.int (0 : Int32)), (.ref b12), (.ref b11), (.ref b19)])) _
    refine X2.iaload hx (j := (0 : Int32)) (v := (.int (2 : Int32))) (by rw [e2]; exact Ar7.1) (State.isArrayOf_alike hZ.alike Ar7.2.1) Ar7.2.2 hin7 hat7 (g := (mkF m 192 #[.val (.int p1), .val (.int p2), .val (.int p3), .val (.int z3), .val (.int z4), .val (.ref b1), .val (.ref b11), .val (.ref b12), .val (.ref b19), .val (.ref j9), .val (.int (1 : Int32)), .unset, .unset] [(.int (0 : Int32)), (.ref b12), (.ref b11), (.ref b19)])) rfl rfl (hb hby at_192) _ ?_
    show Steps p.tables e below (T2.setTop (mkF m 193 #[.val (.int p1), .val (.int p2), .val (.int p3), .val (.int z3), .val (.int z4), .val (.ref b1), .val (.ref b11), .val (.ref b12), .val (.ref b19), .val (.ref j9), .val (.int (1 : Int32)), .unset, .unset] [(.int (2 : Int32)), (.ref b11), (.ref b19)])) _
    refine X2.iaload hx (j := (2 : Int32)) (v := (.int (3 : Int32))) (by rw [e2]; exact Ar9.1) (State.isArrayOf_alike hZ.alike Ar9.2.1) Ar9.2.2 hin9 hat9 (g := (mkF m 193 #[.val (.int p1), .val (.int p2), .val (.int p3), .val (.int z3), .val (.int z4), .val (.ref b1), .val (.ref b11), .val (.ref b12), .val (.ref b19), .val (.ref j9), .val (.int (1 : Int32)), .unset, .unset] [(.int (2 : Int32)), (.ref b11), (.ref b19)])) rfl rfl (hb hby at_193) _ ?_
    show Steps p.tables e below (T2.setTop (mkF m 194 #[.val (.int p1), .val (.int p2), .val (.int p3), .val (.int z3), .val (.int z4), .val (.ref b1), .val (.ref b11), .val (.ref b12), .val (.ref b19), .val (.ref j9), .val (.int (1 : Int32)), .unset, .unset] [(.int (3 : Int32)), (.ref b19)])) _
    refine st11.trans ?_
    show Steps p.tables e below (T11.setTop (mkF m 197 #[.val (.int p1), .val (.int p2), .val (.int p3), .val (.int z3), .val (.int z4), .val (.ref b1), .val (.ref b11), .val (.ref b12), .val (.ref b19), .val (.ref j9), .val (.int (1 : Int32)), .unset, .unset] [])) _
    refine XS.aload X11.here hx rfl (hb hby at_197) rfl rfl ?_
    show Steps p.tables e below (T11.setTop (mkF m 199 #[.val (.int p1), .val (.int p2), .val (.int p3), .val (.int z3), .val (.int z4), .val (.ref b1), .val (.ref b11), .val (.ref b12), .val (.ref b19), .val (.ref j9), .val (.int (1 : Int32)), .unset, .unset] [(.ref b19)])) _
    refine st12.trans ?_
    show Steps p.tables e below (T12.setTop (mkF m 202 #[.val (.int p1), .val (.int p2), .val (.int p3), .val (.int z3), .val (.int z4), .val (.ref b1), .val (.ref b11), .val (.ref b12), .val (.ref b19), .val (.ref j9), .val (.int (1 : Int32)), .unset, .unset] [(.ref j7)])) _
    refine st13 _ ?_
    show Steps p.tables e below (T13.setTop (mkF m 205 #[.val (.int p1), .val (.int p2), .val (.int p3), .val (.int z3), .val (.int z4), .val (.ref b1), .val (.ref b11), .val (.ref b12), .val (.ref b19), .val (.ref j9), .val (.int (1 : Int32)), .unset, .unset] [(.ref j7)])) _
    refine XS.astore X13.here hx rfl (hb hby at_205) rfl rfl (l' := #[.val (.int p1), .val (.int p2), .val (.int p3), .val (.int z3), .val (.int z4), .val (.ref b1), .val (.ref b11), .val (.ref b12), .val (.ref b19), .val (.ref j9), .val (.int (1 : Int32)), .val (.ref j7), .unset]) rfl ?_
    show Steps p.tables e below (T13.setTop (mkF m 207 #[.val (.int p1), .val (.int p2), .val (.int p3), .val (.int z3), .val (.int z4), .val (.ref b1), .val (.ref b11), .val (.ref b12), .val (.ref b19), .val (.ref j9), .val (.int (1 : Int32)), .val (.ref j7), .unset] [])) _
    refine XS.iload X13.here hx rfl (hb hby at_207) rfl ?_
    show Steps p.tables e below (T13.setTop (mkF m 209 #[.val (.int p1), .val (.int p2), .val (.int p3), .val (.int z3), .val (.int z4), .val (.ref b1), .val (.ref b11), .val (.ref b12), .val (.ref b19), .val (.ref j9), .val (.int (1 : Int32)), .val (.ref j7), .unset] [(.int (1 : Int32))])) _
    refine XS.ifNo X13.here hx rfl (hb hby at_209) rfl ((if0 _ _).trans (feq (by decide : ¬ ((1 : Int32) = (0 : Int32)))).1) ?_
    show Steps p.tables e below (T13.setTop (mkF m 212 #[.val (.int p1), .val (.int p2), .val (.int p3), .val (.int z3), .val (.int z4), .val (.ref b1), .val (.ref b11), .val (.ref b12), .val (.ref b19), .val (.ref j9), .val (.int (1 : Int32)), .val (.ref j7), .unset] [])) _
    refine XS.aload X13.here hx rfl (hb hby at_212) rfl rfl ?_
    show Steps p.tables e below (T13.setTop (mkF m 214 #[.val (.int p1), .val (.int p2), .val (.int p3), .val (.int z3), .val (.int z4), .val (.ref b1), .val (.ref b11), .val (.ref b12), .val (.ref b19), .val (.ref j9), .val (.int (1 : Int32)), .val (.ref j7), .unset] [(.ref j7)])) _
    refine XS.aload X13.here hx rfl (hb hby at_214) rfl rfl ?_
    show Steps p.tables e below (T13.setTop (mkF m 216 #[.val (.int p1), .val (.int p2), .val (.int p3), .val (.int z3), .val (.int z4), .val (.ref b1), .val (.ref b11), .val (.ref b12), .val (.ref b19), .val (.ref j9), .val (.int (1 : Int32)), .val (.ref j7), .unset] [(.ref b1), (.ref j7)])) _
    refine XS.aload X13.here hx rfl (hb hby at_216) rfl rfl ?_
    show Steps p.tables e below (T13.setTop (mkF m 218 #[.val (.int p1), .val (.int p2), .val (.int p3), .val (.int z3), .val (.int z4), .val (.ref b1), .val (.ref b11), .val (.ref b12), .val (.ref b19), .val (.ref j9), .val (.int (1 : Int32)), .val (.ref j7), .unset] [(.ref b12), (.ref b1), (.ref j7)])) _
    refine XS.iconst X13.here hx rfl (hb hby at_218) ?_
    show Steps p.tables e below (T13.setTop (mkF m 219 #[.val (.int p1), .val (.int p2), .val (.int p3), .val (.int z3), .val (.int z4), .val (.ref b1), .val (.ref b11), .val (.ref b12), .val (.ref b19), .val (.ref j9), .val (.int (1 : Int32)), .val (.ref j7), .unset] [(.int (1 : Int32)), (.ref b12), (.ref b1), (.ref j7)])) _
    refine X13.iaload hx (j := (1 : Int32)) (v := (.int (0 : Int32))) (by rw [e13]; exact Ar15.1) (State.isArrayOf_alike hZ.alike Ar15.2.1) Ar15.2.2 hin15 hat15 (g := (mkF m 219 #[.val (.int p1), .val (.int p2), .val (.int p3), .val (.int z3), .val (.int z4), .val (.ref b1), .val (.ref b11), .val (.ref b12), .val (.ref b19), .val (.ref j9), .val (.int (1 : Int32)), .val (.ref j7), .unset] [(.int (1 : Int32)), (.ref b12), (.ref b1), (.ref j7)])) rfl rfl (hb hby at_219) _ ?_
    show Steps p.tables e below (T13.setTop (mkF m 220 #[.val (.int p1), .val (.int p2), .val (.int p3), .val (.int z3), .val (.int z4), .val (.ref b1), .val (.ref b11), .val (.ref b12), .val (.ref b19), .val (.ref j9), .val (.int (1 : Int32)), .val (.ref j7), .unset] [(.int (0 : Int32)), (.ref b1), (.ref j7)])) _
    refine X13.aaload hx (j := (0 : Int32)) (v := (.ref j7)) (by rw [e13]; exact Ar18.1) (State.isArrayOf_alike hZ.alike Ar18.2.1) rfl Ar18.2.2 hin18 hat18 (g := (mkF m 220 #[.val (.int p1), .val (.int p2), .val (.int p3), .val (.int z3), .val (.int z4), .val (.ref b1), .val (.ref b11), .val (.ref b12), .val (.ref b19), .val (.ref j9), .val (.int (1 : Int32)), .val (.ref j7), .unset] [(.int (0 : Int32)), (.ref b1), (.ref j7)])) rfl rfl (hb hby at_220) _ ?_
    show Steps p.tables e below (T13.setTop (mkF m 221 #[.val (.int p1), .val (.int p2), .val (.int p3), .val (.int z3), .val (.int z4), .val (.ref b1), .val (.ref b11), .val (.ref b12), .val (.ref b19), .val (.ref j9), .val (.int (1 : Int32)), .val (.ref j7), .unset] [(.ref j7), (.ref j7)])) _
    refine Jvm.RoadKit.acmp (g := (mkF m 221 #[.val (.int p1), .val (.int p2), .val (.int p3), .val (.int z3), .val (.int z4), .val (.ref b1), .val (.ref b11), .val (.ref b12), .val (.ref b19), .val (.ref j9), .val (.int (1 : Int32)), .val (.ref j7), .unset] [(.ref j7), (.ref j7)])) X13 hx rfl rfl rfl (pc0 := 221) (pc' := 224) (same := true) rfl (hb hby at_221) rfl (decide_eq_true rfl) (by decide) (by decide) ?_
    show Steps p.tables e below (T13.setTop (mkF m 224 #[.val (.int p1), .val (.int p2), .val (.int p3), .val (.int z3), .val (.int z4), .val (.ref b1), .val (.ref b11), .val (.ref b12), .val (.ref b19), .val (.ref j9), .val (.int (1 : Int32)), .val (.ref j7), .unset] [])) _
    refine XS.iconst X13.here hx rfl (hb hby at_224) ?_
    show Steps p.tables e below (T13.setTop (mkF m 225 #[.val (.int p1), .val (.int p2), .val (.int p3), .val (.int z3), .val (.int z4), .val (.ref b1), .val (.ref b11), .val (.ref b12), .val (.ref b19), .val (.ref j9), .val (.int (1 : Int32)), .val (.ref j7), .unset] [(.int (1 : Int32))])) _
    refine XS.goto X13.here hx rfl (pc0 := 225) (pc' := 229) rfl (hb hby at_225) (by decide) (by decide) ?_
    show Steps p.tables e below (T13.setTop (mkF m 229 #[.val (.int p1), .val (.int p2), .val (.int p3), .val (.int z3), .val (.int z4), .val (.ref b1), .val (.ref b11), .val (.ref b12), .val (.ref b19), .val (.ref j9), .val (.int (1 : Int32)), .val (.ref j7), .unset] [(.int (1 : Int32))])) _
    refine XS.istore X13.here hx rfl (hb hby at_229) rfl (l' := #[.val (.int p1), .val (.int p2), .val (.int p3), .val (.int z3), .val (.int z4), .val (.ref b1), .val (.ref b11), .val (.ref b12), .val (.ref b19), .val (.ref j9), .val (.int (1 : Int32)), .val (.ref j7), .unset]) rfl ?_
    show Steps p.tables e below (T13.setTop (mkF m 231 #[.val (.int p1), .val (.int p2), .val (.int p3), .val (.int z3), .val (.int z4), .val (.ref b1), .val (.ref b11), .val (.ref b12), .val (.ref b19), .val (.ref j9), .val (.int (1 : Int32)), .val (.ref j7), .unset] [])) _
    refine XS.aload X13.here hx rfl (hb hby at_231) rfl rfl ?_
    show Steps p.tables e below (T13.setTop (mkF m 233 #[.val (.int p1), .val (.int p2), .val (.int p3), .val (.int z3), .val (.int z4), .val (.ref b1), .val (.ref b11), .val (.ref b12), .val (.ref b19), .val (.ref j9), .val (.int (1 : Int32)), .val (.ref j7), .unset] [(.ref b19)])) _
    refine XS.aload X13.here hx rfl (hb hby at_233) rfl rfl ?_
    show Steps p.tables e below (T13.setTop (mkF m 235 #[.val (.int p1), .val (.int p2), .val (.int p3), .val (.int z3), .val (.int z4), .val (.ref b1), .val (.ref b11), .val (.ref b12), .val (.ref b19), .val (.ref j9), .val (.int (1 : Int32)), .val (.ref j7), .unset] [(.ref b11), (.ref b19)])) _
    refine XS.aload X13.here hx rfl (hb hby at_235) rfl rfl ?_
    show Steps p.tables e below (T13.setTop (mkF m 237 #[.val (.int p1), .val (.int p2), .val (.int p3), .val (.int z3), .val (.int z4), .val (.ref b1), .val (.ref b11), .val (.ref b12), .val (.ref b19), .val (.ref j9), .val (.int (1 : Int32)), .val (.ref j7), .unset] [(.ref b12), (.ref b11), (.ref b19)])) _
    refine XS.iconst X13.here hx rfl (hb hby at_237) ?_
    show Steps p.tables e below (T13.setTop (mkF m 238 #[.val (.int p1), .val (.int p2), .val (.int p3), .val (.int z3), .val (.int z4), .val (.ref b1), .val (.ref b11), .val (.ref b12), .val (.ref b19), .val (.ref j9), .val (.int (1 : Int32)), .val (.ref j7), .unset] [(.int (1 : Int32)), (.ref b12), (.ref b11), (.ref b19)])) _
    refine X13.iaload hx (j := (1 : Int32)) (v := (.int (0 : Int32))) (by rw [e13]; exact Ar20.1) (State.isArrayOf_alike hZ.alike Ar20.2.1) Ar20.2.2 hin20 hat20 (g := (mkF m 238 #[.val (.int p1), .val (.int p2), .val (.int p3), .val (.int z3), .val (.int z4), .val (.ref b1), .val (.ref b11), .val (.ref b12), .val (.ref b19), .val (.ref j9), .val (.int (1 : Int32)), .val (.ref j7), .unset] [(.int (1 : Int32)), (.ref b12), (.ref b11), (.ref b19)])) rfl rfl (hb hby at_238) _ ?_
    show Steps p.tables e below (T13.setTop (mkF m 239 #[.val (.int p1), .val (.int p2), .val (.int p3), .val (.int z3), .val (.int z4), .val (.ref b1), .val (.ref b11), .val (.ref b12), .val (.ref b19), .val (.ref j9), .val (.int (1 : Int32)), .val (.ref j7), .unset] [(.int (0 : Int32)), (.ref b11), (.ref b19)])) _
    refine X13.iaload hx (j := (0 : Int32)) (v := (.int (1 : Int32))) (by rw [e13]; exact Ar23.1) (State.isArrayOf_alike hZ.alike Ar23.2.1) Ar23.2.2 hin23 hat23 (g := (mkF m 239 #[.val (.int p1), .val (.int p2), .val (.int p3), .val (.int z3), .val (.int z4), .val (.ref b1), .val (.ref b11), .val (.ref b12), .val (.ref b19), .val (.ref j9), .val (.int (1 : Int32)), .val (.ref j7), .unset] [(.int (0 : Int32)), (.ref b11), (.ref b19)])) rfl rfl (hb hby at_239) _ ?_
    show Steps p.tables e below (T13.setTop (mkF m 240 #[.val (.int p1), .val (.int p2), .val (.int p3), .val (.int z3), .val (.int z4), .val (.ref b1), .val (.ref b11), .val (.ref b12), .val (.ref b19), .val (.ref j9), .val (.int (1 : Int32)), .val (.ref j7), .unset] [(.int (1 : Int32)), (.ref b19)])) _
    refine st25.trans ?_
    show Steps p.tables e below (T25.setTop (mkF m 243 #[.val (.int p1), .val (.int p2), .val (.int p3), .val (.int z3), .val (.int z4), .val (.ref b1), .val (.ref b11), .val (.ref b12), .val (.ref b19), .val (.ref j9), .val (.int (1 : Int32)), .val (.ref j7), .unset] [])) _
    refine XS.aload X25.here hx rfl (hb hby at_243) rfl rfl ?_
    show Steps p.tables e below (T25.setTop (mkF m 245 #[.val (.int p1), .val (.int p2), .val (.int p3), .val (.int z3), .val (.int z4), .val (.ref b1), .val (.ref b11), .val (.ref b12), .val (.ref b19), .val (.ref j9), .val (.int (1 : Int32)), .val (.ref j7), .unset] [(.ref b19)])) _
    refine st26.trans ?_
    show Steps p.tables e below (T26.setTop (mkF m 248 #[.val (.int p1), .val (.int p2), .val (.int p3), .val (.int z3), .val (.int z4), .val (.ref b1), .val (.ref b11), .val (.ref b12), .val (.ref b19), .val (.ref j9), .val (.int (1 : Int32)), .val (.ref j7), .unset] [(.ref j8)])) _
    refine st27 _ ?_
    show Steps p.tables e below (T27.setTop (mkF m 251 #[.val (.int p1), .val (.int p2), .val (.int p3), .val (.int z3), .val (.int z4), .val (.ref b1), .val (.ref b11), .val (.ref b12), .val (.ref b19), .val (.ref j9), .val (.int (1 : Int32)), .val (.ref j7), .unset] [(.ref j8)])) _
    refine XS.astore X27.here hx rfl (hb hby at_251) rfl rfl (l' := #[.val (.int p1), .val (.int p2), .val (.int p3), .val (.int z3), .val (.int z4), .val (.ref b1), .val (.ref b11), .val (.ref b12), .val (.ref b19), .val (.ref j9), .val (.int (1 : Int32)), .val (.ref j7), .val (.ref j8)]) rfl ?_
    show Steps p.tables e below (T27.setTop (mkF m 253 #[.val (.int p1), .val (.int p2), .val (.int p3), .val (.int z3), .val (.int z4), .val (.ref b1), .val (.ref b11), .val (.ref b12), .val (.ref b19), .val (.ref j9), .val (.int (1 : Int32)), .val (.ref j7), .val (.ref j8)] [])) _
    refine XS.iload X27.here hx rfl (hb hby at_253) rfl ?_
    show Steps p.tables e below (T27.setTop (mkF m 255 #[.val (.int p1), .val (.int p2), .val (.int p3), .val (.int z3), .val (.int z4), .val (.ref b1), .val (.ref b11), .val (.ref b12), .val (.ref b19), .val (.ref j9), .val (.int (1 : Int32)), .val (.ref j7), .val (.ref j8)] [(.int (1 : Int32))])) _
    refine XS.ifNo X27.here hx rfl (hb hby at_255) rfl ((if0 _ _).trans (feq (by decide : ¬ ((1 : Int32) = (0 : Int32)))).1) ?_
    show Steps p.tables e below (T27.setTop (mkF m 258 #[.val (.int p1), .val (.int p2), .val (.int p3), .val (.int z3), .val (.int z4), .val (.ref b1), .val (.ref b11), .val (.ref b12), .val (.ref b19), .val (.ref j9), .val (.int (1 : Int32)), .val (.ref j7), .val (.ref j8)] [])) _
    refine XS.aload X27.here hx rfl (hb hby at_258) rfl rfl ?_
    show Steps p.tables e below (T27.setTop (mkF m 260 #[.val (.int p1), .val (.int p2), .val (.int p3), .val (.int z3), .val (.int z4), .val (.ref b1), .val (.ref b11), .val (.ref b12), .val (.ref b19), .val (.ref j9), .val (.int (1 : Int32)), .val (.ref j7), .val (.ref j8)] [(.ref j8)])) _
    refine XS.aload X27.here hx rfl (hb hby at_260) rfl rfl ?_
    show Steps p.tables e below (T27.setTop (mkF m 262 #[.val (.int p1), .val (.int p2), .val (.int p3), .val (.int z3), .val (.int z4), .val (.ref b1), .val (.ref b11), .val (.ref b12), .val (.ref b19), .val (.ref j9), .val (.int (1 : Int32)), .val (.ref j7), .val (.ref j8)] [(.ref b1), (.ref j8)])) _
    refine XS.aload X27.here hx rfl (hb hby at_262) rfl rfl ?_
    show Steps p.tables e below (T27.setTop (mkF m 264 #[.val (.int p1), .val (.int p2), .val (.int p3), .val (.int z3), .val (.int z4), .val (.ref b1), .val (.ref b11), .val (.ref b12), .val (.ref b19), .val (.ref j9), .val (.int (1 : Int32)), .val (.ref j7), .val (.ref j8)] [(.ref b12), (.ref b1), (.ref j8)])) _
    refine XS.iconst X27.here hx rfl (hb hby at_264) ?_
    show Steps p.tables e below (T27.setTop (mkF m 265 #[.val (.int p1), .val (.int p2), .val (.int p3), .val (.int z3), .val (.int z4), .val (.ref b1), .val (.ref b11), .val (.ref b12), .val (.ref b19), .val (.ref j9), .val (.int (1 : Int32)), .val (.ref j7), .val (.ref j8)] [(.int (2 : Int32)), (.ref b12), (.ref b1), (.ref j8)])) _
    refine X27.iaload hx (j := (2 : Int32)) (v := (.int (1 : Int32))) (by rw [e27]; exact Ar29.1) (State.isArrayOf_alike hZ.alike Ar29.2.1) Ar29.2.2 hin29 hat29 (g := (mkF m 265 #[.val (.int p1), .val (.int p2), .val (.int p3), .val (.int z3), .val (.int z4), .val (.ref b1), .val (.ref b11), .val (.ref b12), .val (.ref b19), .val (.ref j9), .val (.int (1 : Int32)), .val (.ref j7), .val (.ref j8)] [(.int (2 : Int32)), (.ref b12), (.ref b1), (.ref j8)])) rfl rfl (hb hby at_265) _ ?_
    show Steps p.tables e below (T27.setTop (mkF m 266 #[.val (.int p1), .val (.int p2), .val (.int p3), .val (.int z3), .val (.int z4), .val (.ref b1), .val (.ref b11), .val (.ref b12), .val (.ref b19), .val (.ref j9), .val (.int (1 : Int32)), .val (.ref j7), .val (.ref j8)] [(.int (1 : Int32)), (.ref b1), (.ref j8)])) _
    refine X27.aaload hx (j := (1 : Int32)) (v := (.ref j8)) (by rw [e27]; exact Ar32.1) (State.isArrayOf_alike hZ.alike Ar32.2.1) rfl Ar32.2.2 hin32 hat32 (g := (mkF m 266 #[.val (.int p1), .val (.int p2), .val (.int p3), .val (.int z3), .val (.int z4), .val (.ref b1), .val (.ref b11), .val (.ref b12), .val (.ref b19), .val (.ref j9), .val (.int (1 : Int32)), .val (.ref j7), .val (.ref j8)] [(.int (1 : Int32)), (.ref b1), (.ref j8)])) rfl rfl (hb hby at_266) _ ?_
    show Steps p.tables e below (T27.setTop (mkF m 267 #[.val (.int p1), .val (.int p2), .val (.int p3), .val (.int z3), .val (.int z4), .val (.ref b1), .val (.ref b11), .val (.ref b12), .val (.ref b19), .val (.ref j9), .val (.int (1 : Int32)), .val (.ref j7), .val (.ref j8)] [(.ref j8), (.ref j8)])) _
    refine Jvm.RoadKit.acmp (g := (mkF m 267 #[.val (.int p1), .val (.int p2), .val (.int p3), .val (.int z3), .val (.int z4), .val (.ref b1), .val (.ref b11), .val (.ref b12), .val (.ref b19), .val (.ref j9), .val (.int (1 : Int32)), .val (.ref j7), .val (.ref j8)] [(.ref j8), (.ref j8)])) X27 hx rfl rfl rfl (pc0 := 267) (pc' := 270) (same := true) rfl (hb hby at_267) rfl (decide_eq_true rfl) (by decide) (by decide) ?_
    show Steps p.tables e below (T27.setTop (mkF m 270 #[.val (.int p1), .val (.int p2), .val (.int p3), .val (.int z3), .val (.int z4), .val (.ref b1), .val (.ref b11), .val (.ref b12), .val (.ref b19), .val (.ref j9), .val (.int (1 : Int32)), .val (.ref j7), .val (.ref j8)] [])) _
    refine XS.iconst X27.here hx rfl (hb hby at_270) ?_
    show Steps p.tables e below (T27.setTop (mkF m 271 #[.val (.int p1), .val (.int p2), .val (.int p3), .val (.int z3), .val (.int z4), .val (.ref b1), .val (.ref b11), .val (.ref b12), .val (.ref b19), .val (.ref j9), .val (.int (1 : Int32)), .val (.ref j7), .val (.ref j8)] [(.int (1 : Int32))])) _
    refine XS.goto X27.here hx rfl (pc0 := 271) (pc' := 275) rfl (hb hby at_271) (by decide) (by decide) ?_
    show Steps p.tables e below (T27.setTop (mkF m 275 #[.val (.int p1), .val (.int p2), .val (.int p3), .val (.int z3), .val (.int z4), .val (.ref b1), .val (.ref b11), .val (.ref b12), .val (.ref b19), .val (.ref j9), .val (.int (1 : Int32)), .val (.ref j7), .val (.ref j8)] [(.int (1 : Int32))])) _
    refine XS.istore X27.here hx rfl (hb hby at_275) rfl (l' := #[.val (.int p1), .val (.int p2), .val (.int p3), .val (.int z3), .val (.int z4), .val (.ref b1), .val (.ref b11), .val (.ref b12), .val (.ref b19), .val (.ref j9), .val (.int (1 : Int32)), .val (.ref j7), .val (.ref j8)]) rfl ?_
    show Steps p.tables e below (T27.setTop (mkF m 277 #[.val (.int p1), .val (.int p2), .val (.int p3), .val (.int z3), .val (.int z4), .val (.ref b1), .val (.ref b11), .val (.ref b12), .val (.ref b19), .val (.ref j9), .val (.int (1 : Int32)), .val (.ref j7), .val (.ref j8)] [])) _
    refine XS.iload X27.here hx rfl (hb hby at_277) rfl ?_
    exact k_
  obtain ⟨fs, hr, hrun, hended, hW, hsame⟩ := X27.leave (v := some (.int (1 : Int32))) (fun h => by rw [Bd.returns] at h; cases h)
  refine ⟨_, _, go34 _ ?_, hrun, hended, _, _, rfl, ?_, ⟨_, rfl⟩, hW, hsame.mono (by decide) (by decide)⟩
  · skip
    show Steps p.tables e below (T27.setTop (mkF m 279 #[.val (.int p1), .val (.int p2), .val (.int p3), .val (.int z3), .val (.int z4), .val (.ref b1), .val (.ref b11), .val (.ref b12), .val (.ref b19), .val (.ref j9), .val (.int (1 : Int32)), .val (.ref j7), .val (.ref j8)] [(.int (1 : Int32))])) _
    exact retN X27 hx (t := .boolean) Bd.returns (by simp) (hb hby at_279) hr
  · exact ⟨rfl, N26⟩
set_option maxRecDepth 65536 in
set_option maxHeartbeats 40000000 in
theorem pc139_3 (l : Launch) (Z : State) (a0 : Array Value) (hw : ∀ d ∈ tables_1, d.before a0 Z = true) (ws : List Jvm.Cond) (p1 : Int32) (p2 : Int32) (p3 : Int32) (j7 : Nat) (j8 : Nat) (j9 : Nat) (b1 : Nat) (b11 : Nat) (b12 : Nat) (b19 : Nat) (en : Nat) (li : Nat) (k1 : ClassId) (k11 : ClassId) (k12 : ClassId) (ke : ClassId) (kl : ClassId) (h0 : Heap) (n0 : Nat) {p : Program} {e : Env} {s : State} {m : MethodId} {below : List Frame} {meth : Method} {c : Code} {s₁ T0 : State} {locs : List Loc}
    (Bd : BodyLoose p l x (head1 (Jvm.Cond.code x code maxLocals ret :: ws) room_1) code maxLocals ret e s m #[(.int p1), (.int p2), (.int p3)] below meth c s₁) (hml : c.maxLocals = 13) (hZ : Z.Warmed39 s.vm) (X0 : Stand p l e room_1 s m #[(.int p1), (.int p2), (.int p3)] below meth c T0 locs 6 93) (e0 : T0.heap = h0) (N0 : Fr n0 locs) (Z0 : n0 ≤ h0.size) (O0 : Old Z n0 h0) (q0_ : Arv Z h0 b1 k1 (.object "java/lang/Integer") (3 : Int32) [(.ref j7), (.ref j8), (.ref j9)] .null) (q1_ : Arv Z h0 b11 k11 .int (3 : Int32) [(.int (1 : Int32)), (.int (2 : Int32)), (.int (3 : Int32))] (.int (0 : Int32))) (q2_ : Arv Z h0 b12 k12 .int (3 : Int32) [(.int (1 : Int32)), (.int (2 : Int32)), (.int (0 : Int32))] (.int (0 : Int32))) (q3_ : Exa Z h0 b19 "com/example/terrace/terrace/core/UseOrder") (q4_ : Fld Z h0 b19 "com/example/terrace/terrace/core/UseOrder" "entries" "[Ljava/lang/Object;" (.ref en)) (q5_ : Fld Z h0 b19 "com/example/terrace/terrace/core/UseOrder" "links" "[I" (.ref li)) (q6_ : Fld Z h0 b19 "com/example/terrace/terrace/core/UseOrder" "free" "I" (.int (0 : Int32))) (q7_ : Fld Z h0 b19 "com/example/terrace/terrace/core/UseOrder" "highest" "I" (.int (3 : Int32))) (q8_ : Arv Z h0 en ke (.object "java/lang/Object") (16 : Int32) (own_E (.ref j7) (.ref j8) (.ref j9)) .null) (q9_ : Arv Z h0 li kl .int (64 : Int32) (own_L 1 2 0 0 3 0 p3 0 0 3 p3 0 2 1 p3 0) (.int (0 : Int32))) (g_b1 : n0 ≤ b1) (g_b11 : n0 ≤ b11) (g_b12 : n0 ≤ b12) (g_b19 : n0 ≤ b19) (g_en : n0 ≤ en) (g_li : n0 ≤ li) (ne_b1_b11 : b1 ≠ b11) (ne_b1_b12 : b1 ≠ b12) (ne_b1_b19 : b1 ≠ b19) (ne_b1_en : b1 ≠ en) (ne_b1_li : b1 ≠ li) (ne_b11_b12 : b11 ≠ b12) (ne_b11_b19 : b11 ≠ b19) (ne_b11_en : b11 ≠ en) (ne_b11_li : b11 ≠ li) (ne_b12_b19 : b12 ≠ b19) (ne_b12_en : b12 ≠ en) (ne_b12_li : b12 ≠ li) (ne_b19_en : b19 ≠ en) (ne_b19_li : b19 ≠ li) (ne_en_li : en ≠ li) (Ov_ : Ovr Z ke "java/lang/Object") (Ej7 : Exa Z Z.heap j7 "java/lang/Integer") (Ej8 : Exa Z Z.heap j8 "java/lang/Integer") (Ej9 : Exa Z Z.heap j9 "java/lang/Integer") :
    ∃ s₂ o, Steps p.tables e below (T0.setTop (mkF m 139 #[.val (.int p1), .val (.int p2), .val (.int p3), .val (.int (0 : Int32)), .val (.int (1 : Int32)), .val (.ref b1), .val (.ref b11), .val (.ref b12), .val (.ref b19), .unset, .unset, .unset, .unset] [])) s₂ ∧ s₂.status = .running ∧ Ended s₂ below o ∧ ∃ v L, o = .returned v ∧ (v = some (.int 1) ∧ Fr n0 L) ∧ FrameEnd s o s₂ L room_1.cells room_1.slots := by
  have hw_14 := hw _ (List.mem_of_getElem? (i := 14) rfl)
  have hw_41 := hw _ (List.mem_of_getElem? (i := 41) rfl)
  have hw_42 := hw _ (List.mem_of_getElem? (i := 42) rfl)
  have hw_43 := hw _ (List.mem_of_getElem? (i := 43) rfl)
  have hw_44 := hw _ (List.mem_of_getElem? (i := 44) rfl)
  have hw_45 := hw _ (List.mem_of_getElem? (i := 45) rfl)
  have hw_50 := hw _ (List.mem_of_getElem? (i := 50) rfl)
  have hw_51 := hw _ (List.mem_of_getElem? (i := 51) rfl)
  have hw_52 := hw _ (List.mem_of_getElem? (i := 52) rfl)
  have hw_53 := hw _ (List.mem_of_getElem? (i := 53) rfl)
  have hx := Bd.exec
  have hby := Bd.bytes
  have hown : s.vm.findClass "com/example/terrace/terrace/core/UseOrderUsePinLaw" = some m.cls := findClass_of_methodNamed Bd.named
  have hnm := (name_of_methodNamed Bd.named Bd.method).1
  have pre0 : ∀ t_, Steps p.tables e below (T0.setTop (mkF m 139 #[.val (.int p1), .val (.int p2), .val (.int p3), .val (.int (0 : Int32)), .val (.int (1 : Int32)), .val (.ref b1), .val (.ref b11), .val (.ref b12), .val (.ref b19), .unset, .unset, .unset, .unset] [])) t_ → Steps p.tables e below (T0.setTop (mkF m 139 #[.val (.int p1), .val (.int p2), .val (.int p3), .val (.int (0 : Int32)), .val (.int (1 : Int32)), .val (.ref b1), .val (.ref b11), .val (.ref b12), .val (.ref b19), .unset, .unset, .unset, .unset] [])) t_ := fun _ k_ => k_
  obtain ⟨cl1, Ar1, q1, S1, M1, H1, G1⟩ := q1_
  have f2 : Arv Z h0 b11 k11 .int (3 : Int32) [(.int (1 : Int32)), (.int (2 : Int32)), (.int (3 : Int32))] (.int (0 : Int32)) := ⟨cl1, Ar1, q1, S1, M1, H1, G1⟩
  have hin1 : ¬ ((1 : Int32) < 0 ∨ cl1.slots.size ≤ ((1 : Int32)).toNatClampNeg) := inb_of S1 ⟨by decide, by decide⟩
  have hat1 : cl1.slots[((1 : Int32)).toNatClampNeg]? = some (.int (2 : Int32)) := Has.at H1 hin1 rfl
  obtain ⟨cq3, kq3, q3a, q3b, q3c⟩ := isOf hZ e0 q3_
  obtain ⟨_, _, ⟨T3, L3, k3, n3⟩, -, X3, ⟨Lc3, hQ3, l3, y3, z3⟩, st3⟩ := X0.virtualBack hx (y := (⟨"com/example/terrace/terrace/core/UseOrder", "use", "(I)V"⟩ : MethodName)) (z := (⟨"com/example/terrace/terrace/core/UseOrder", "use", "(I)V"⟩ : MethodName)) hown (mvT hZ hw_41) (mvT hZ hw_42) (notFace_of_selects (args := #[]) (mvT hZ hw_44)) (mvT hZ hw_44) (mvT hZ hw_43) (by decide) (backOf (W := 0) (rmUse l Z a0 hw [] b19 li kl (own_L 1 2 0 0 3 0 p3 0 0 3 p3 0 2 1 p3 0) (2 : Int32) (1 : Int32) 8 5 (0 : Int32) (3 : Int32) 1 12 h0 n0 Z0 q5_ q9_ own_Ln rfl (by omega) ne_b19_li ⟨by decide, by decide⟩ rfl ⟨by decide, by decide⟩ rfl ⟨by decide, by decide⟩ rfl (by decide) (by decide) ⟨by decide, by decide⟩ ⟨by decide, by decide⟩ rfl rfl ⟨by decide, by decide⟩ rfl ⟨by decide, by decide⟩ rfl (by decide) (by decide) q3_ (by decide) (by decide) (by decide)) hZ hw_45 hw_14 (by decide) (by decide)) q3a q3c (g := (mkF m 146 #[.val (.int p1), .val (.int p2), .val (.int p3), .val (.int (0 : Int32)), .val (.int (1 : Int32)), .val (.ref b1), .val (.ref b11), .val (.ref b12), .val (.ref b19), .unset, .unset, .unset, .unset] [(.int (2 : Int32)), (.ref b19)])) rfl (by rw [hml]; rfl) (Steps.refl _) (argsL := [(.int (2 : Int32))]) (rest := []) (lenOf pd_0 rfl) rfl (by show 2 * 0 + _ ≤ _; exact Nat.le_of_eq rfl) (hb hby at_146) (fun _ _ => ⟨rfl, e0, (by decide : 6 + 0 ≤ _), (by decide : 93 + 0 ≤ _)⟩)
  dsimp only [Pt.U, Pt.locs, Pt.cells, Pt.slots] at X3 l3 y3 z3 st3 hQ3
  subst l3 y3 z3
  obtain ⟨rfl, N3q, Kc3, Vc3⟩ := hQ3
  have N3 := Fr.app N0 N3q
  have sz3 : h0.size ≤ T3.heap.size := Kc3.1
  have Z3 : n0 ≤ T3.heap.size := Nat.le_trans Z0 sz3
  have O3 : Old Z n0 T3.heap := O0.keep Kc3 (allS (show n0 ≤ li by omega) all0)
  have Vl3_ : Arv Z T3.heap li kl .int (64 : Int32) (own_L 2 3 0 0 3 2 p3 0 1 0 p3 0 0 1 p3 0) (.int (0 : Int32)) := Vc3
  have f5 := (q2_.keep Kc3 (ninS ne_b12_li nin0))
  obtain ⟨_, _, ⟨T4, L4, k4, n4⟩, -, X4, ⟨Lc4, hQ4, l4, y4, z4⟩, st4⟩ := Jvm.LawKit.callS X3 hx (y := (⟨"com/example/terrace/terrace/core/UseOrderUsePinLaw", "moveToEnd", "([II)V"⟩ : MethodName)) hown (mvT hZ hw_50) (mvT hZ hw_51) (mvT hZ hw_52) (mvT hZ hw_53) (by decide) (backOf (W := 0) (rmMove l Z a0 hw [] b12 k12 (1 : Int32) (2 : Int32) (0 : Int32) (1 : Int32) T3.heap n0 Z3 f5 (by omega)) hZ hw_53 hw_52 (by decide) (by decide)) (g := (mkF m 153 #[.val (.int p1), .val (.int p2), .val (.int p3), .val (.int (0 : Int32)), .val (.int (1 : Int32)), .val (.ref b1), .val (.ref b11), .val (.ref b12), .val (.ref b19), .unset, .unset, .unset, .unset] [(.int (1 : Int32)), (.ref b12)])) rfl (by rw [hml]; rfl) (argsL := [(.ref b12), (.int (1 : Int32))]) (rest := []) (lenOf pd_5 rfl) rfl (by show 2 * 0 + _ ≤ _; exact Nat.le_of_eq rfl) (hb hby at_153) (fun _ _ => ⟨rfl, rfl, (by decide : 6 + 0 ≤ _), (by decide : 93 + 0 ≤ _)⟩)
  dsimp only [Pt.U, Pt.locs, Pt.cells, Pt.slots] at X4 l4 y4 z4 st4 hQ4
  subst l4 y4 z4
  obtain ⟨rfl, N4q, Kc4, Vc4⟩ := hQ4
  have N4 := Fr.app N3 N4q
  have sz4 : T3.heap.size ≤ T4.heap.size := Kc4.1
  have Z4 : n0 ≤ T4.heap.size := Nat.le_trans Z3 sz4
  have O4 : Old Z n0 T4.heap := O3.keep Kc4 (allS (show n0 ≤ b12 by omega) all0)
  have Vd4 : Arv Z T4.heap b12 k12 .int (3 : Int32) [(.int (2 : Int32)), (.int (0 : Int32)), (.int (1 : Int32))] (.int (0 : Int32)) := Vc4
  have go6 : ∀ t_, Steps p.tables e below (T4.setTop (mkF m 156 #[.val (.int p1), .val (.int p2), .val (.int p3), .val (.int (0 : Int32)), .val (.int (1 : Int32)), .val (.ref b1), .val (.ref b11), .val (.ref b12), .val (.ref b19), .unset, .unset, .unset, .unset] [])) t_ → Steps p.tables e below (T0.setTop (mkF m 139 #[.val (.int p1), .val (.int p2), .val (.int p3), .val (.int (0 : Int32)), .val (.int (1 : Int32)), .val (.ref b1), .val (.ref b11), .val (.ref b12), .val (.ref b19), .unset, .unset, .unset, .unset] [])) t_ := by
    intro t_ k_
    refine pre0 t_ ?_
    show Steps p.tables e below (T0.setTop (mkF m 139 #[.val (.int p1), .val (.int p2), .val (.int p3), .val (.int (0 : Int32)), .val (.int (1 : Int32)), .val (.ref b1), .val (.ref b11), .val (.ref b12), .val (.ref b19), .unset, .unset, .unset, .unset] [])) _
    refine XS.aload X0.here hx rfl (hb hby at_139) rfl rfl ?_
    show Steps p.tables e below (T0.setTop (mkF m 141 #[.val (.int p1), .val (.int p2), .val (.int p3), .val (.int (0 : Int32)), .val (.int (1 : Int32)), .val (.ref b1), .val (.ref b11), .val (.ref b12), .val (.ref b19), .unset, .unset, .unset, .unset] [(.ref b19)])) _
    refine XS.aload X0.here hx rfl (hb hby at_141) rfl rfl ?_
    show Steps p.tables e below (T0.setTop (mkF m 143 #[.val (.int p1), .val (.int p2), .val (.int p3), .val (.int (0 : Int32)), .val (.int (1 : Int32)), .val (.ref b1), .val (.ref b11), .val (.ref b12), .val (.ref b19), .unset, .unset, .unset, .unset] [(.ref b11), (.ref b19)])) _
    refine XS.iload X0.here hx rfl (hb hby at_143) rfl ?_
    show Steps p.tables e below (T0.setTop (mkF m 145 #[.val (.int p1), .val (.int p2), .val (.int p3), .val (.int (0 : Int32)), .val (.int (1 : Int32)), .val (.ref b1), .val (.ref b11), .val (.ref b12), .val (.ref b19), .unset, .unset, .unset, .unset] [(.int (1 : Int32)), (.ref b11), (.ref b19)])) _
    refine X0.iaload hx (j := (1 : Int32)) (v := (.int (2 : Int32))) (by rw [e0]; exact Ar1.1) (State.isArrayOf_alike hZ.alike Ar1.2.1) Ar1.2.2 hin1 hat1 (g := (mkF m 145 #[.val (.int p1), .val (.int p2), .val (.int p3), .val (.int (0 : Int32)), .val (.int (1 : Int32)), .val (.ref b1), .val (.ref b11), .val (.ref b12), .val (.ref b19), .unset, .unset, .unset, .unset] [(.int (1 : Int32)), (.ref b11), (.ref b19)])) rfl rfl (hb hby at_145) _ ?_
    show Steps p.tables e below (T0.setTop (mkF m 146 #[.val (.int p1), .val (.int p2), .val (.int p3), .val (.int (0 : Int32)), .val (.int (1 : Int32)), .val (.ref b1), .val (.ref b11), .val (.ref b12), .val (.ref b19), .unset, .unset, .unset, .unset] [(.int (2 : Int32)), (.ref b19)])) _
    refine st3.trans ?_
    show Steps p.tables e below (T3.setTop (mkF m 149 #[.val (.int p1), .val (.int p2), .val (.int p3), .val (.int (0 : Int32)), .val (.int (1 : Int32)), .val (.ref b1), .val (.ref b11), .val (.ref b12), .val (.ref b19), .unset, .unset, .unset, .unset] [])) _
    refine XS.aload X3.here hx rfl (hb hby at_149) rfl rfl ?_
    show Steps p.tables e below (T3.setTop (mkF m 151 #[.val (.int p1), .val (.int p2), .val (.int p3), .val (.int (0 : Int32)), .val (.int (1 : Int32)), .val (.ref b1), .val (.ref b11), .val (.ref b12), .val (.ref b19), .unset, .unset, .unset, .unset] [(.ref b12)])) _
    refine XS.iload X3.here hx rfl (hb hby at_151) rfl ?_
    show Steps p.tables e below (T3.setTop (mkF m 153 #[.val (.int p1), .val (.int p2), .val (.int p3), .val (.int (0 : Int32)), .val (.int (1 : Int32)), .val (.ref b1), .val (.ref b11), .val (.ref b12), .val (.ref b19), .unset, .unset, .unset, .unset] [(.int (1 : Int32)), (.ref b12)])) _
    refine st4 _ ?_
    exact k_
  have f7 := (q0_.keep Kc3 (ninS ne_b1_li nin0))
  have f8 := (f7.keep Kc4 (ninS ne_b1_b12 nin0))
  have f9 := (f2.keep Kc3 (ninS ne_b11_li nin0))
  have f10 := (f9.keep Kc4 (ninS ne_b11_b12 nin0))
  have f11 := (q3_.keep Kc3)
  have f12 := (f11.keep Kc4)
  have f13 := (q4_.keep Kc3 (ninS ne_b19_li nin0))
  have f14 := (f13.keep Kc4 (ninS (Ne.symm ne_b12_b19) nin0))
  have f15 := (q5_.keep Kc3 (ninS ne_b19_li nin0))
  have f16 := (f15.keep Kc4 (ninS (Ne.symm ne_b12_b19) nin0))
  have f17 := (q6_.keep Kc3 (ninS ne_b19_li nin0))
  have f18 := (f17.keep Kc4 (ninS (Ne.symm ne_b12_b19) nin0))
  have f19 := (q7_.keep Kc3 (ninS ne_b19_li nin0))
  have f20 := (f19.keep Kc4 (ninS (Ne.symm ne_b12_b19) nin0))
  have f21 := (q8_.keep Kc3 (ninS ne_en_li nin0))
  have f22 := (f21.keep Kc4 (ninS (Ne.symm ne_b12_en) nin0))
  have f23 := (Vl3_.keep Kc4 (ninS (Ne.symm ne_b12_li) nin0))
  obtain ⟨s2_, o_, hs_, h1_, h2_, v_, L_, h3_, hq_, h4_⟩ := pc156_4 l Z a0 hw ws p1 p2 p3 j7 j8 j9 b1 b11 b12 b19 en li k1 k11 k12 ke kl (0 : Int32) (1 : Int32) T4.heap n0 Bd hml hZ X4 rfl N4 Z4 O4 f8 f10 Vd4 f12 f14 f16 f18 f20 f22 f23 g_b1 g_b11 g_b12 g_b19 g_en g_li ne_b1_b11 ne_b1_b12 ne_b1_b19 ne_b1_en ne_b1_li ne_b11_b12 ne_b11_b19 ne_b11_en ne_b11_li ne_b12_b19 ne_b12_en ne_b12_li ne_b19_en ne_b19_li ne_en_li Ov_ Ej7 Ej8 Ej9
  exact ⟨s2_, o_, go6 _ hs_, h1_, h2_, v_, L_, h3_, hq_, h4_⟩
set_option maxRecDepth 65536 in
set_option maxHeartbeats 40000000 in
theorem pc156_6 (l : Launch) (Z : State) (a0 : Array Value) (hw : ∀ d ∈ tables_1, d.before a0 Z = true) (ws : List Jvm.Cond) (p1 : Int32) (p2 : Int32) (p3 : Int32) (j7 : Nat) (j8 : Nat) (j9 : Nat) (b1 : Nat) (b11 : Nat) (b12 : Nat) (b19 : Nat) (en : Nat) (li : Nat) (k1 : ClassId) (k11 : ClassId) (k12 : ClassId) (ke : ClassId) (kl : ClassId) (z3 : Int32) (z4 : Int32) (h0 : Heap) (n0 : Nat) {p : Program} {e : Env} {s : State} {m : MethodId} {below : List Frame} {meth : Method} {c : Code} {s₁ T0 : State} {locs : List Loc}
    (Bd : BodyLoose p l x (head1 (Jvm.Cond.code x code maxLocals ret :: ws) room_1) code maxLocals ret e s m #[(.int p1), (.int p2), (.int p3)] below meth c s₁) (hml : c.maxLocals = 13) (hZ : Z.Warmed39 s.vm) (X0 : Stand p l e room_1 s m #[(.int p1), (.int p2), (.int p3)] below meth c T0 locs 6 93) (e0 : T0.heap = h0) (N0 : Fr n0 locs) (Z0 : n0 ≤ h0.size) (O0 : Old Z n0 h0) (q0_ : Arv Z h0 b1 k1 (.object "java/lang/Integer") (3 : Int32) [(.ref j7), (.ref j8), (.ref j9)] .null) (q1_ : Arv Z h0 b11 k11 .int (3 : Int32) [(.int (1 : Int32)), (.int (2 : Int32)), (.int (3 : Int32))] (.int (0 : Int32))) (q2_ : Arv Z h0 b12 k12 .int (3 : Int32) [(.int (1 : Int32)), (.int (0 : Int32)), (.int (2 : Int32))] (.int (0 : Int32))) (q3_ : Exa Z h0 b19 "com/example/terrace/terrace/core/UseOrder") (q4_ : Fld Z h0 b19 "com/example/terrace/terrace/core/UseOrder" "entries" "[Ljava/lang/Object;" (.ref en)) (q5_ : Fld Z h0 b19 "com/example/terrace/terrace/core/UseOrder" "links" "[I" (.ref li)) (q6_ : Fld Z h0 b19 "com/example/terrace/terrace/core/UseOrder" "free" "I" (.int (0 : Int32))) (q7_ : Fld Z h0 b19 "com/example/terrace/terrace/core/UseOrder" "highest" "I" (.int (3 : Int32))) (q8_ : Arv Z h0 en ke (.object "java/lang/Object") (16 : Int32) (own_E (.ref j7) (.ref j8) (.ref j9)) .null) (q9_ : Arv Z h0 li kl .int (64 : Int32) (own_L 3 2 0 0 2 3 p3 0 0 1 p3 0 1 0 p3 0) (.int (0 : Int32))) (g_b1 : n0 ≤ b1) (g_b11 : n0 ≤ b11) (g_b12 : n0 ≤ b12) (g_b19 : n0 ≤ b19) (g_en : n0 ≤ en) (g_li : n0 ≤ li) (ne_b1_b11 : b1 ≠ b11) (ne_b1_b12 : b1 ≠ b12) (ne_b1_b19 : b1 ≠ b19) (ne_b1_en : b1 ≠ en) (ne_b1_li : b1 ≠ li) (ne_b11_b12 : b11 ≠ b12) (ne_b11_b19 : b11 ≠ b19) (ne_b11_en : b11 ≠ en) (ne_b11_li : b11 ≠ li) (ne_b12_b19 : b12 ≠ b19) (ne_b12_en : b12 ≠ en) (ne_b12_li : b12 ≠ li) (ne_b19_en : b19 ≠ en) (ne_b19_li : b19 ≠ li) (ne_en_li : en ≠ li) (Ov_ : Ovr Z ke "java/lang/Object") (Ej7 : Exa Z Z.heap j7 "java/lang/Integer") (Ej8 : Exa Z Z.heap j8 "java/lang/Integer") (Ej9 : Exa Z Z.heap j9 "java/lang/Integer") :
    ∃ s₂ o, Steps p.tables e below (T0.setTop (mkF m 156 #[.val (.int p1), .val (.int p2), .val (.int p3), .val (.int z3), .val (.int z4), .val (.ref b1), .val (.ref b11), .val (.ref b12), .val (.ref b19), .unset, .unset, .unset, .unset] [])) s₂ ∧ s₂.status = .running ∧ Ended s₂ below o ∧ ∃ v L, o = .returned v ∧ (v = some (.int 1) ∧ Fr n0 L) ∧ FrameEnd s o s₂ L room_1.cells room_1.slots := by
  have hw_1 := hw _ (List.mem_of_getElem? (i := 1) rfl)
  have hw_14 := hw _ (List.mem_of_getElem? (i := 14) rfl)
  have hw_54 := hw _ (List.mem_of_getElem? (i := 54) rfl)
  have hw_55 := hw _ (List.mem_of_getElem? (i := 55) rfl)
  have hw_56 := hw _ (List.mem_of_getElem? (i := 56) rfl)
  have hw_57 := hw _ (List.mem_of_getElem? (i := 57) rfl)
  have hw_58 := hw _ (List.mem_of_getElem? (i := 58) rfl)
  have hw_63 := hw _ (List.mem_of_getElem? (i := 63) rfl)
  have hw_64 := hw _ (List.mem_of_getElem? (i := 64) rfl)
  have hw_65 := hw _ (List.mem_of_getElem? (i := 65) rfl)
  have hw_66 := hw _ (List.mem_of_getElem? (i := 66) rfl)
  have hw_67 := hw _ (List.mem_of_getElem? (i := 67) rfl)
  have hx := Bd.exec
  have hby := Bd.bytes
  have hown : s.vm.findClass "com/example/terrace/terrace/core/UseOrderUsePinLaw" = some m.cls := findClass_of_methodNamed Bd.named
  have hnm := (name_of_methodNamed Bd.named Bd.method).1
  have pre0 : ∀ t_, Steps p.tables e below (T0.setTop (mkF m 156 #[.val (.int p1), .val (.int p2), .val (.int p3), .val (.int z3), .val (.int z4), .val (.ref b1), .val (.ref b11), .val (.ref b12), .val (.ref b19), .unset, .unset, .unset, .unset] [])) t_ → Steps p.tables e below (T0.setTop (mkF m 156 #[.val (.int p1), .val (.int p2), .val (.int p3), .val (.int z3), .val (.int z4), .val (.ref b1), .val (.ref b11), .val (.ref b12), .val (.ref b19), .unset, .unset, .unset, .unset] [])) t_ := fun _ k_ => k_
  obtain ⟨cq1, kq1, q1a, q1b, q1c⟩ := isOf hZ e0 q3_
  obtain ⟨_, _, ⟨T1, L1, k1, n1⟩, -, X1, ⟨Lc1, hQ1, l1, y1, z1⟩, st1⟩ := X0.virtualBack hx (y := (⟨"com/example/terrace/terrace/core/UseOrder", "leastRecent", "()Ljava/lang/Object;"⟩ : MethodName)) (z := (⟨"com/example/terrace/terrace/core/UseOrder", "leastRecent", "()Ljava/lang/Object;"⟩ : MethodName)) hown (mvT hZ hw_54) (mvT hZ hw_55) (notFace_of_selects (args := #[]) (mvT hZ hw_57)) (mvT hZ hw_57) (mvT hZ hw_56) (by decide) (backOf (W := 0) (rmLeast l Z a0 hw [] b19 li kl (own_L 3 2 0 0 2 3 p3 0 0 1 p3 0 1 0 p3 0) en ke (own_E (.ref j7) (.ref j8) (.ref j9)) j8 (2 : Int32) h0 n0 Z0 q5_ q9_ q4_ q8_ q3_ rfl ⟨by decide, by decide⟩ rfl) hZ hw_58 hw_14 (by decide) (by decide)) q1a q1c (g := (mkF m 158 #[.val (.int p1), .val (.int p2), .val (.int p3), .val (.int z3), .val (.int z4), .val (.ref b1), .val (.ref b11), .val (.ref b12), .val (.ref b19), .unset, .unset, .unset, .unset] [(.ref b19)])) rfl (by rw [hml]; rfl) (Steps.refl _) (argsL := []) (rest := []) (lenOf pd_6 rfl) rfl (by show 2 * 0 + _ ≤ _; exact Nat.le_of_eq rfl) (hb hby at_158) (fun _ _ => ⟨rfl, e0, (by decide : 6 + 0 ≤ _), (by decide : 93 + 0 ≤ _)⟩)
  dsimp only [Pt.U, Pt.locs, Pt.cells, Pt.slots] at X1 l1 y1 z1 st1 hQ1
  subst l1 y1 z1
  obtain ⟨rfl, N1q, e1⟩ := hQ1
  have N1 := Fr.app N0 N1q
  obtain ⟨T2, X2, e2, st2⟩ := castY X1 hx hZ hown hw_1 e1 (Ins.self (Ej8.ext O0.2)) (g := (mkF m 161 #[.val (.int p1), .val (.int p2), .val (.int p3), .val (.int z3), .val (.int z4), .val (.ref b1), .val (.ref b11), .val (.ref b12), .val (.ref b19), .unset, .unset, .unset, .unset] [(.ref j8)])) rfl rfl (hb hby at_161)
  obtain ⟨cl3, Ar3, q3, S3, M3, H3, G3⟩ := q2_
  have f4 : Arv Z h0 b12 k12 .int (3 : Int32) [(.int (1 : Int32)), (.int (0 : Int32)), (.int (2 : Int32))] (.int (0 : Int32)) := ⟨cl3, Ar3, q3, S3, M3, H3, G3⟩
  have hin3 : ¬ ((0 : Int32) < 0 ∨ cl3.slots.size ≤ ((0 : Int32)).toNatClampNeg) := inb_of S3 ⟨by decide, by decide⟩
  have hat3 : cl3.slots[((0 : Int32)).toNatClampNeg]? = some (.int (1 : Int32)) := Has.at H3 hin3 rfl
  obtain ⟨cl5, Ar5, q5, S5, M5, H5, G5⟩ := q0_
  have f6 : Arv Z h0 b1 k1 (.object "java/lang/Integer") (3 : Int32) [(.ref j7), (.ref j8), (.ref j9)] .null := ⟨cl5, Ar5, q5, S5, M5, H5, G5⟩
  have hin5 : ¬ ((1 : Int32) < 0 ∨ cl5.slots.size ≤ ((1 : Int32)).toNatClampNeg) := inb_of S5 ⟨by decide, by decide⟩
  have hat5 : cl5.slots[((1 : Int32)).toNatClampNeg]? = some (.ref j8) := Has.at H5 hin5 rfl
  obtain ⟨cl7, Ar7, q7, S7, M7, H7, G7⟩ := f4
  have f8 : Arv Z h0 b12 k12 .int (3 : Int32) [(.int (1 : Int32)), (.int (0 : Int32)), (.int (2 : Int32))] (.int (0 : Int32)) := ⟨cl7, Ar7, q7, S7, M7, H7, G7⟩
  have hin7 : ¬ ((0 : Int32) < 0 ∨ cl7.slots.size ≤ ((0 : Int32)).toNatClampNeg) := inb_of S7 ⟨by decide, by decide⟩
  have hat7 : cl7.slots[((0 : Int32)).toNatClampNeg]? = some (.int (1 : Int32)) := Has.at H7 hin7 rfl
  obtain ⟨cl9, Ar9, q9, S9, M9, H9, G9⟩ := q1_
  have f10 : Arv Z h0 b11 k11 .int (3 : Int32) [(.int (1 : Int32)), (.int (2 : Int32)), (.int (3 : Int32))] (.int (0 : Int32)) := ⟨cl9, Ar9, q9, S9, M9, H9, G9⟩
  have hin9 : ¬ ((1 : Int32) < 0 ∨ cl9.slots.size ≤ ((1 : Int32)).toNatClampNeg) := inb_of S9 ⟨by decide, by decide⟩
  have hat9 : cl9.slots[((1 : Int32)).toNatClampNeg]? = some (.int (2 : Int32)) := Has.at H9 hin9 rfl
  obtain ⟨cq11, kq11, q11a, q11b, q11c⟩ := isOf hZ e2 q3_
  obtain ⟨_, _, ⟨T11, L11, k11, n11⟩, -, X11, ⟨Lc11, hQ11, l11, y11, z11⟩, st11⟩ := X2.virtualBack hx (y := (⟨"com/example/terrace/terrace/core/UseOrder", "remove", "(I)V"⟩ : MethodName)) (z := (⟨"com/example/terrace/terrace/core/UseOrder", "remove", "(I)V"⟩ : MethodName)) hown (mvT hZ hw_63) (mvT hZ hw_64) (notFace_of_selects (args := #[]) (mvT hZ hw_66)) (mvT hZ hw_66) (mvT hZ hw_65) (by decide) (backOf (W := 0) (rmRem l Z a0 hw [] b19 li kl (own_L 3 2 0 0 2 3 p3 0 0 1 p3 0 1 0 p3 0) en ke (own_E (.ref j7) (.ref j8) (.ref j9)) (2 : Int32) (0 : Int32) 8 2 (0 : Int32) (1 : Int32) 1 4 h0 n0 Z0 q5_ q9_ own_Ln ⟨by decide, by decide⟩ ⟨by decide, by decide⟩ rfl rfl ⟨by decide, by decide⟩ rfl ⟨by decide, by decide⟩ rfl (by decide) (by decide) (by omega) ne_b19_li q3_ q4_ q8_ own_En (by omega) (by omega) q6_ ne_en_li ne_b19_en ⟨by decide, by decide⟩ rfl ⟨by decide, by decide⟩ rfl ⟨by decide, by decide⟩ rfl (by decide) (by decide)) hZ hw_67 hw_14 (by decide) (by decide)) q11a q11c (g := (mkF m 194 #[.val (.int p1), .val (.int p2), .val (.int p3), .val (.int z3), .val (.int z4), .val (.ref b1), .val (.ref b11), .val (.ref b12), .val (.ref b19), .val (.ref j8), .val (.int (1 : Int32)), .unset, .unset] [(.int (2 : Int32)), (.ref b19)])) rfl (by rw [hml]; rfl) (Steps.refl _) (argsL := [(.int (2 : Int32))]) (rest := []) (lenOf pd_0 rfl) rfl (by show 2 * 0 + _ ≤ _; exact Nat.le_of_eq rfl) (hb hby at_194) (fun _ _ => ⟨rfl, e2, (by decide : 6 + 0 ≤ _), (by decide : 93 + 0 ≤ _)⟩)
  dsimp only [Pt.U, Pt.locs, Pt.cells, Pt.slots] at X11 l11 y11 z11 st11 hQ11
  subst l11 y11 z11
  obtain ⟨rfl, N11q, Kc11, c0_11, c1_11, c2_11, c3_11, c4_11, c5_11⟩ := hQ11
  have N11 := Fr.app N1 N11q
  have sz11 : h0.size ≤ T11.heap.size := Kc11.1
  have Z11 : n0 ≤ T11.heap.size := Nat.le_trans Z0 sz11
  have O11 : Old Z n0 T11.heap := O0.keep Kc11 (allS (show n0 ≤ b19 by omega) (allS (show n0 ≤ li by omega) (allS (show n0 ≤ en by omega) all0)))
  have Vl11_ : Arv Z T11.heap li kl .int (64 : Int32) (own_L 3 1 0 0 0 3 p3 0 0 (-1) p3 0 1 0 p3 0) (.int (0 : Int32)) := c4_11
  have Ve11_ : Arv Z T11.heap en ke (.object "java/lang/Object") (16 : Int32) (own_E (.ref j7) .null (.ref j9)) .null := c5_11
  obtain ⟨cq12, kq12, q12a, q12b, q12c⟩ := isOf hZ rfl c0_11
  obtain ⟨_, _, ⟨T12, L12, k12, n12⟩, -, X12, ⟨Lc12, hQ12, l12, y12, z12⟩, st12⟩ := X11.virtualBack hx (y := (⟨"com/example/terrace/terrace/core/UseOrder", "leastRecent", "()Ljava/lang/Object;"⟩ : MethodName)) (z := (⟨"com/example/terrace/terrace/core/UseOrder", "leastRecent", "()Ljava/lang/Object;"⟩ : MethodName)) hown (mvT hZ hw_54) (mvT hZ hw_55) (notFace_of_selects (args := #[]) (mvT hZ hw_57)) (mvT hZ hw_57) (mvT hZ hw_56) (by decide) (backOf (W := 0) (rmLeast l Z a0 hw [] b19 li kl (own_L 3 1 0 0 0 3 p3 0 0 (-1) p3 0 1 0 p3 0) en ke (own_E (.ref j7) .null (.ref j9)) j7 (1 : Int32) T11.heap n0 Z11 c1_11 Vl11_ c2_11 Ve11_ c0_11 rfl ⟨by decide, by decide⟩ rfl) hZ hw_58 hw_14 (by decide) (by decide)) q12a q12c (g := (mkF m 199 #[.val (.int p1), .val (.int p2), .val (.int p3), .val (.int z3), .val (.int z4), .val (.ref b1), .val (.ref b11), .val (.ref b12), .val (.ref b19), .val (.ref j8), .val (.int (1 : Int32)), .unset, .unset] [(.ref b19)])) rfl (by rw [hml]; rfl) (Steps.refl _) (argsL := []) (rest := []) (lenOf pd_6 rfl) rfl (by show 2 * 0 + _ ≤ _; exact Nat.le_of_eq rfl) (hb hby at_199) (fun _ _ => ⟨rfl, rfl, (by decide : 6 + 0 ≤ _), (by decide : 93 + 0 ≤ _)⟩)
  dsimp only [Pt.U, Pt.locs, Pt.cells, Pt.slots] at X12 l12 y12 z12 st12 hQ12
  subst l12 y12 z12
  obtain ⟨rfl, N12q, e12⟩ := hQ12
  have N12 := Fr.app N11 N12q
  obtain ⟨T13, X13, e13, st13⟩ := castY X12 hx hZ hown hw_1 e12 (Ins.self (Ej7.ext O11.2)) (g := (mkF m 202 #[.val (.int p1), .val (.int p2), .val (.int p3), .val (.int z3), .val (.int z4), .val (.ref b1), .val (.ref b11), .val (.ref b12), .val (.ref b19), .val (.ref j8), .val (.int (1 : Int32)), .unset, .unset] [(.ref j7)])) rfl rfl (hb hby at_202)
  have f14 := (f8.keep Kc11 (ninS ne_b12_b19 (ninS ne_b12_li (ninS ne_b12_en nin0))))
  obtain ⟨cl15, Ar15, q15, S15, M15, H15, G15⟩ := f14
  have f16 : Arv Z T11.heap b12 k12 .int (3 : Int32) [(.int (1 : Int32)), (.int (0 : Int32)), (.int (2 : Int32))] (.int (0 : Int32)) := ⟨cl15, Ar15, q15, S15, M15, H15, G15⟩
  have hin15 : ¬ ((1 : Int32) < 0 ∨ cl15.slots.size ≤ ((1 : Int32)).toNatClampNeg) := inb_of S15 ⟨by decide, by decide⟩
  have hat15 : cl15.slots[((1 : Int32)).toNatClampNeg]? = some (.int (0 : Int32)) := Has.at H15 hin15 rfl
  have f17 := (f6.keep Kc11 (ninS ne_b1_b19 (ninS ne_b1_li (ninS ne_b1_en nin0))))
  obtain ⟨cl18, Ar18, q18, S18, M18, H18, G18⟩ := f17
  have f19 : Arv Z T11.heap b1 k1 (.object "java/lang/Integer") (3 : Int32) [(.ref j7), (.ref j8), (.ref j9)] .null := ⟨cl18, Ar18, q18, S18, M18, H18, G18⟩
  have hin18 : ¬ ((0 : Int32) < 0 ∨ cl18.slots.size ≤ ((0 : Int32)).toNatClampNeg) := inb_of S18 ⟨by decide, by decide⟩
  have hat18 : cl18.slots[((0 : Int32)).toNatClampNeg]? = some (.ref j7) := Has.at H18 hin18 rfl
  obtain ⟨cl20, Ar20, q20, S20, M20, H20, G20⟩ := f16
  have f21 : Arv Z T11.heap b12 k12 .int (3 : Int32) [(.int (1 : Int32)), (.int (0 : Int32)), (.int (2 : Int32))] (.int (0 : Int32)) := ⟨cl20, Ar20, q20, S20, M20, H20, G20⟩
  have hin20 : ¬ ((1 : Int32) < 0 ∨ cl20.slots.size ≤ ((1 : Int32)).toNatClampNeg) := inb_of S20 ⟨by decide, by decide⟩
  have hat20 : cl20.slots[((1 : Int32)).toNatClampNeg]? = some (.int (0 : Int32)) := Has.at H20 hin20 rfl
  have f22 := (f10.keep Kc11 (ninS ne_b11_b19 (ninS ne_b11_li (ninS ne_b11_en nin0))))
  obtain ⟨cl23, Ar23, q23, S23, M23, H23, G23⟩ := f22
  have f24 : Arv Z T11.heap b11 k11 .int (3 : Int32) [(.int (1 : Int32)), (.int (2 : Int32)), (.int (3 : Int32))] (.int (0 : Int32)) := ⟨cl23, Ar23, q23, S23, M23, H23, G23⟩
  have hin23 : ¬ ((0 : Int32) < 0 ∨ cl23.slots.size ≤ ((0 : Int32)).toNatClampNeg) := inb_of S23 ⟨by decide, by decide⟩
  have hat23 : cl23.slots[((0 : Int32)).toNatClampNeg]? = some (.int (1 : Int32)) := Has.at H23 hin23 rfl
  obtain ⟨cq25, kq25, q25a, q25b, q25c⟩ := isOf hZ e13 c0_11
  obtain ⟨_, _, ⟨T25, L25, k25, n25⟩, -, X25, ⟨Lc25, hQ25, l25, y25, z25⟩, st25⟩ := X13.virtualBack hx (y := (⟨"com/example/terrace/terrace/core/UseOrder", "remove", "(I)V"⟩ : MethodName)) (z := (⟨"com/example/terrace/terrace/core/UseOrder", "remove", "(I)V"⟩ : MethodName)) hown (mvT hZ hw_63) (mvT hZ hw_64) (notFace_of_selects (args := #[]) (mvT hZ hw_66)) (mvT hZ hw_66) (mvT hZ hw_65) (by decide) (backOf (W := 0) (rmRem l Z a0 hw [] b19 li kl (own_L 3 1 0 0 0 3 p3 0 0 (-1) p3 0 1 0 p3 0) en ke (own_E (.ref j7) .null (.ref j9)) (1 : Int32) (2 : Int32) 4 1 (0 : Int32) (3 : Int32) 1 12 T11.heap n0 Z11 c1_11 Vl11_ own_Ln ⟨by decide, by decide⟩ ⟨by decide, by decide⟩ rfl rfl ⟨by decide, by decide⟩ rfl ⟨by decide, by decide⟩ rfl (by decide) (by decide) (by omega) ne_b19_li c0_11 c2_11 Ve11_ own_En (by omega) (by omega) c3_11 ne_en_li ne_b19_en ⟨by decide, by decide⟩ rfl ⟨by decide, by decide⟩ rfl ⟨by decide, by decide⟩ rfl (by decide) (by decide)) hZ hw_67 hw_14 (by decide) (by decide)) q25a q25c (g := (mkF m 240 #[.val (.int p1), .val (.int p2), .val (.int p3), .val (.int z3), .val (.int z4), .val (.ref b1), .val (.ref b11), .val (.ref b12), .val (.ref b19), .val (.ref j8), .val (.int (1 : Int32)), .val (.ref j7), .unset] [(.int (1 : Int32)), (.ref b19)])) rfl (by rw [hml]; rfl) (Steps.refl _) (argsL := [(.int (1 : Int32))]) (rest := []) (lenOf pd_0 rfl) rfl (by show 2 * 0 + _ ≤ _; exact Nat.le_of_eq rfl) (hb hby at_240) (fun _ _ => ⟨rfl, e13, (by decide : 6 + 0 ≤ _), (by decide : 93 + 0 ≤ _)⟩)
  dsimp only [Pt.U, Pt.locs, Pt.cells, Pt.slots] at X25 l25 y25 z25 st25 hQ25
  subst l25 y25 z25
  obtain ⟨rfl, N25q, Kc25, c0_25, c1_25, c2_25, c3_25, c4_25, c5_25⟩ := hQ25
  have N25 := Fr.app N12 N25q
  have sz25 : T11.heap.size ≤ T25.heap.size := Kc25.1
  have Z25 : n0 ≤ T25.heap.size := Nat.le_trans Z11 sz25
  have O25 : Old Z n0 T25.heap := O11.keep Kc25 (allS (show n0 ≤ b19 by omega) (allS (show n0 ≤ li by omega) (allS (show n0 ≤ en by omega) all0)))
  have Vl25_ : Arv Z T25.heap li kl .int (64 : Int32) (own_L 3 3 0 0 2 (-1) p3 0 0 (-1) p3 0 0 0 p3 0) (.int (0 : Int32)) := c4_25
  have Ve25_ : Arv Z T25.heap en ke (.object "java/lang/Object") (16 : Int32) (own_E .null .null (.ref j9)) .null := c5_25
  obtain ⟨cq26, kq26, q26a, q26b, q26c⟩ := isOf hZ rfl c0_25
  obtain ⟨_, _, ⟨T26, L26, k26, n26⟩, -, X26, ⟨Lc26, hQ26, l26, y26, z26⟩, st26⟩ := X25.virtualBack hx (y := (⟨"com/example/terrace/terrace/core/UseOrder", "leastRecent", "()Ljava/lang/Object;"⟩ : MethodName)) (z := (⟨"com/example/terrace/terrace/core/UseOrder", "leastRecent", "()Ljava/lang/Object;"⟩ : MethodName)) hown (mvT hZ hw_54) (mvT hZ hw_55) (notFace_of_selects (args := #[]) (mvT hZ hw_57)) (mvT hZ hw_57) (mvT hZ hw_56) (by decide) (backOf (W := 0) (rmLeast l Z a0 hw [] b19 li kl (own_L 3 3 0 0 2 (-1) p3 0 0 (-1) p3 0 0 0 p3 0) en ke (own_E .null .null (.ref j9)) j9 (3 : Int32) T25.heap n0 Z25 c1_25 Vl25_ c2_25 Ve25_ c0_25 rfl ⟨by decide, by decide⟩ rfl) hZ hw_58 hw_14 (by decide) (by decide)) q26a q26c (g := (mkF m 245 #[.val (.int p1), .val (.int p2), .val (.int p3), .val (.int z3), .val (.int z4), .val (.ref b1), .val (.ref b11), .val (.ref b12), .val (.ref b19), .val (.ref j8), .val (.int (1 : Int32)), .val (.ref j7), .unset] [(.ref b19)])) rfl (by rw [hml]; rfl) (Steps.refl _) (argsL := []) (rest := []) (lenOf pd_6 rfl) rfl (by show 2 * 0 + _ ≤ _; exact Nat.le_of_eq rfl) (hb hby at_245) (fun _ _ => ⟨rfl, rfl, (by decide : 6 + 0 ≤ _), (by decide : 93 + 0 ≤ _)⟩)
  dsimp only [Pt.U, Pt.locs, Pt.cells, Pt.slots] at X26 l26 y26 z26 st26 hQ26
  subst l26 y26 z26
  obtain ⟨rfl, N26q, e26⟩ := hQ26
  have N26 := Fr.app N25 N26q
  obtain ⟨T27, X27, e27, st27⟩ := castY X26 hx hZ hown hw_1 e26 (Ins.self (Ej9.ext O25.2)) (g := (mkF m 248 #[.val (.int p1), .val (.int p2), .val (.int p3), .val (.int z3), .val (.int z4), .val (.ref b1), .val (.ref b11), .val (.ref b12), .val (.ref b19), .val (.ref j8), .val (.int (1 : Int32)), .val (.ref j7), .unset] [(.ref j9)])) rfl rfl (hb hby at_248)
  have f28 := (f21.keep Kc25 (ninS ne_b12_b19 (ninS ne_b12_li (ninS ne_b12_en nin0))))
  obtain ⟨cl29, Ar29, q29, S29, M29, H29, G29⟩ := f28
  have f30 : Arv Z T25.heap b12 k12 .int (3 : Int32) [(.int (1 : Int32)), (.int (0 : Int32)), (.int (2 : Int32))] (.int (0 : Int32)) := ⟨cl29, Ar29, q29, S29, M29, H29, G29⟩
  have hin29 : ¬ ((2 : Int32) < 0 ∨ cl29.slots.size ≤ ((2 : Int32)).toNatClampNeg) := inb_of S29 ⟨by decide, by decide⟩
  have hat29 : cl29.slots[((2 : Int32)).toNatClampNeg]? = some (.int (2 : Int32)) := Has.at H29 hin29 rfl
  have f31 := (f19.keep Kc25 (ninS ne_b1_b19 (ninS ne_b1_li (ninS ne_b1_en nin0))))
  obtain ⟨cl32, Ar32, q32, S32, M32, H32, G32⟩ := f31
  have f33 : Arv Z T25.heap b1 k1 (.object "java/lang/Integer") (3 : Int32) [(.ref j7), (.ref j8), (.ref j9)] .null := ⟨cl32, Ar32, q32, S32, M32, H32, G32⟩
  have hin32 : ¬ ((2 : Int32) < 0 ∨ cl32.slots.size ≤ ((2 : Int32)).toNatClampNeg) := inb_of S32 ⟨by decide, by decide⟩
  have hat32 : cl32.slots[((2 : Int32)).toNatClampNeg]? = some (.ref j9) := Has.at H32 hin32 rfl
  have go34 : ∀ t_, Steps p.tables e below (T27.setTop (mkF m 279 #[.val (.int p1), .val (.int p2), .val (.int p3), .val (.int z3), .val (.int z4), .val (.ref b1), .val (.ref b11), .val (.ref b12), .val (.ref b19), .val (.ref j8), .val (.int (1 : Int32)), .val (.ref j7), .val (.ref j9)] [(.int (1 : Int32))])) t_ → Steps p.tables e below (T0.setTop (mkF m 156 #[.val (.int p1), .val (.int p2), .val (.int p3), .val (.int z3), .val (.int z4), .val (.ref b1), .val (.ref b11), .val (.ref b12), .val (.ref b19), .unset, .unset, .unset, .unset] [])) t_ := by
    intro t_ k_
    refine pre0 t_ ?_
    show Steps p.tables e below (T0.setTop (mkF m 156 #[.val (.int p1), .val (.int p2), .val (.int p3), .val (.int z3), .val (.int z4), .val (.ref b1), .val (.ref b11), .val (.ref b12), .val (.ref b19), .unset, .unset, .unset, .unset] [])) _
    refine XS.aload X0.here hx rfl (hb hby at_156) rfl rfl ?_
    show Steps p.tables e below (T0.setTop (mkF m 158 #[.val (.int p1), .val (.int p2), .val (.int p3), .val (.int z3), .val (.int z4), .val (.ref b1), .val (.ref b11), .val (.ref b12), .val (.ref b19), .unset, .unset, .unset, .unset] [(.ref b19)])) _
    refine st1.trans ?_
    show Steps p.tables e below (T1.setTop (mkF m 161 #[.val (.int p1), .val (.int p2), .val (.int p3), .val (.int z3), .val (.int z4), .val (.ref b1), .val (.ref b11), .val (.ref b12), .val (.ref b19), .unset, .unset, .unset, .unset] [(.ref j8)])) _
    refine st2 _ ?_
    show Steps p.tables e below (T2.setTop (mkF m 164 #[.val (.int p1), .val (.int p2), .val (.int p3), .val (.int z3), .val (.int z4), .val (.ref b1), .val (.ref b11), .val (.ref b12), .val (.ref b19), .unset, .unset, .unset, .unset] [(.ref j8)])) _
    refine XS.astore X2.here hx rfl (hb hby at_164) rfl rfl (l' := #[.val (.int p1), .val (.int p2), .val (.int p3), .val (.int z3), .val (.int z4), .val (.ref b1), .val (.ref b11), .val (.ref b12), .val (.ref b19), .val (.ref j8), .unset, .unset, .unset]) rfl ?_
    show Steps p.tables e below (T2.setTop (mkF m 166 #[.val (.int p1), .val (.int p2), .val (.int p3), .val (.int z3), .val (.int z4), .val (.ref b1), .val (.ref b11), .val (.ref b12), .val (.ref b19), .val (.ref j8), .unset, .unset, .unset] [])) _
    refine XS.aload X2.here hx rfl (hb hby at_166) rfl rfl ?_
    show Steps p.tables e below (T2.setTop (mkF m 168 #[.val (.int p1), .val (.int p2), .val (.int p3), .val (.int z3), .val (.int z4), .val (.ref b1), .val (.ref b11), .val (.ref b12), .val (.ref b19), .val (.ref j8), .unset, .unset, .unset] [(.ref j8)])) _
    refine XS.aload X2.here hx rfl (hb hby at_168) rfl rfl ?_
    show Steps p.tables e below (T2.setTop (mkF m 170 #[.val (.int p1), .val (.int p2), .val (.int p3), .val (.int z3), .val (.int z4), .val (.ref b1), .val (.ref b11), .val (.ref b12), .val (.ref b19), .val (.ref j8), .unset, .unset, .unset] [(.ref b1), (.ref j8)])) _
    refine XS.aload X2.here hx rfl (hb hby at_170) rfl rfl ?_
    show Steps p.tables e below (T2.setTop (mkF m 172 #[.val (.int p1), .val (.int p2), .val (.int p3), .val (.int z3), .val (.int z4), .val (.ref b1), .val (.ref b11), .val (.ref b12), .val (.ref b19), .val (.ref j8), .unset, .unset, .unset] [(.ref b12), (.ref b1), (.ref j8)])) _
    refine XS.iconst X2.here hx rfl (hb hby at_172) ?_
    show Steps p.tables e below (T2.setTop (mkF m 173 #[.val (.int p1), .val (.int p2), .val (.int p3), .val (.int z3), .val (.int z4), .val (.ref b1), .val (.ref b11), .val (.ref b12), .val (.ref b19), .val (.ref j8), .unset, .unset, .unset] [(.int (0 : Int32)), (.ref b12), (.ref b1), (.ref j8)])) _
    refine X2.iaload hx (j := (0 : Int32)) (v := (.int (1 : Int32))) (by rw [e2]; exact Ar3.1) (State.isArrayOf_alike hZ.alike Ar3.2.1) Ar3.2.2 hin3 hat3 (g := (mkF m 173 #[.val (.int p1), .val (.int p2), .val (.int p3), .val (.int z3), .val (.int z4), .val (.ref b1), .val (.ref b11), .val (.ref b12), .val (.ref b19), .val (.ref j8), .unset, .unset, .unset] [(.int (0 : Int32)), (.ref b12), (.ref b1), (.ref j8)])) rfl rfl (hb hby at_173) _ ?_
    show Steps p.tables e below (T2.setTop (mkF m 174 #[.val (.int p1), .val (.int p2), .val (.int p3), .val (.int z3), .val (.int z4), .val (.ref b1), .val (.ref b11), .val (.ref b12), .val (.ref b19), .val (.ref j8), .unset, .unset, .unset] [(.int (1 : Int32)), (.ref b1), (.ref j8)])) _
    refine X2.aaload hx (j := (1 : Int32)) (v := (.ref j8)) (by rw [e2]; exact Ar5.1) (State.isArrayOf_alike hZ.alike Ar5.2.1) rfl Ar5.2.2 hin5 hat5 (g := (mkF m 174 #[.val (.int p1), .val (.int p2), .val (.int p3), .val (.int z3), .val (.int z4), .val (.ref b1), .val (.ref b11), .val (.ref b12), .val (.ref b19), .val (.ref j8), .unset, .unset, .unset] [(.int (1 : Int32)), (.ref b1), (.ref j8)])) rfl rfl (hb hby at_174) _ ?_
    show Steps p.tables e below (T2.setTop (mkF m 175 #[.val (.int p1), .val (.int p2), .val (.int p3), .val (.int z3), .val (.int z4), .val (.ref b1), .val (.ref b11), .val (.ref b12), .val (.ref b19), .val (.ref j8), .unset, .unset, .unset] [(.ref j8), (.ref j8)])) _
    refine Jvm.RoadKit.acmp (g := (mkF m 175 #[.val (.int p1), .val (.int p2), .val (.int p3), .val (.int z3), .val (.int z4), .val (.ref b1), .val (.ref b11), .val (.ref b12), .val (.ref b19), .val (.ref j8), .unset, .unset, .unset] [(.ref j8), (.ref j8)])) X2 hx rfl rfl rfl (pc0 := 175) (pc' := 178) (same := true) rfl (hb hby at_175) rfl (decide_eq_true rfl) (by decide) (by decide) ?_
    show Steps p.tables e below (T2.setTop (mkF m 178 #[.val (.int p1), .val (.int p2), .val (.int p3), .val (.int z3), .val (.int z4), .val (.ref b1), .val (.ref b11), .val (.ref b12), .val (.ref b19), .val (.ref j8), .unset, .unset, .unset] [])) _
    refine XS.iconst X2.here hx rfl (hb hby at_178) ?_
    show Steps p.tables e below (T2.setTop (mkF m 179 #[.val (.int p1), .val (.int p2), .val (.int p3), .val (.int z3), .val (.int z4), .val (.ref b1), .val (.ref b11), .val (.ref b12), .val (.ref b19), .val (.ref j8), .unset, .unset, .unset] [(.int (1 : Int32))])) _
    refine XS.goto X2.here hx rfl (pc0 := 179) (pc' := 183) rfl (hb hby at_179) (by decide) (by decide) ?_
    show Steps p.tables e below (T2.setTop (mkF m 183 #[.val (.int p1), .val (.int p2), .val (.int p3), .val (.int z3), .val (.int z4), .val (.ref b1), .val (.ref b11), .val (.ref b12), .val (.ref b19), .val (.ref j8), .unset, .unset, .unset] [(.int (1 : Int32))])) _
    refine XS.istore X2.here hx rfl (hb hby at_183) rfl (l' := #[.val (.int p1), .val (.int p2), .val (.int p3), .val (.int z3), .val (.int z4), .val (.ref b1), .val (.ref b11), .val (.ref b12), .val (.ref b19), .val (.ref j8), .val (.int (1 : Int32)), .unset, .unset]) rfl ?_
    show Steps p.tables e below (T2.setTop (mkF m 185 #[.val (.int p1), .val (.int p2), .val (.int p3), .val (.int z3), .val (.int z4), .val (.ref b1), .val (.ref b11), .val (.ref b12), .val (.ref b19), .val (.ref j8), .val (.int (1 : Int32)), .unset, .unset] [])) _
    refine XS.aload X2.here hx rfl (hb hby at_185) rfl rfl ?_
    show Steps p.tables e below (T2.setTop (mkF m 187 #[.val (.int p1), .val (.int p2), .val (.int p3), .val (.int z3), .val (.int z4), .val (.ref b1), .val (.ref b11), .val (.ref b12), .val (.ref b19), .val (.ref j8), .val (.int (1 : Int32)), .unset, .unset] [(.ref b19)])) _
    refine XS.aload X2.here hx rfl (hb hby at_187) rfl rfl ?_
    show Steps p.tables e below (T2.setTop (mkF m 189 #[.val (.int p1), .val (.int p2), .val (.int p3), .val (.int z3), .val (.int z4), .val (.ref b1), .val (.ref b11), .val (.ref b12), .val (.ref b19), .val (.ref j8), .val (.int (1 : Int32)), .unset, .unset] [(.ref b11), (.ref b19)])) _
    refine XS.aload X2.here hx rfl (hb hby at_189) rfl rfl ?_
    show Steps p.tables e below (T2.setTop (mkF m 191 #[.val (.int p1), .val (.int p2), .val (.int p3), .val (.int z3), .val (.int z4), .val (.ref b1), .val (.ref b11), .val (.ref b12), .val (.ref b19), .val (.ref j8), .val (.int (1 : Int32)), .unset, .unset] [(.ref b12), (.ref b11), (.ref b19)])) _
    refine XS.iconst X2.here hx rfl (hb hby at_191) ?_
    show Steps p.tables e below (T2.setTop (mkF m 192 #[.val (.int p1), .val (.int p2), .val (.int p3), .val (.int z3), .val (.int z4), .val (.ref b1), .val (.ref b11), .val (.ref b12), .val (.ref b19), .val (.ref j8), .val (.int (1 : Int32)), .unset, .unset] [(.int (0 : Int32)), (.ref b12), (.ref b11), (.ref b19)])) _
    refine X2.iaload hx (j := (0 : Int32)) (v := (.int (1 : Int32))) (by rw [e2]; exact Ar7.1) (State.isArrayOf_alike hZ.alike Ar7.2.1) Ar7.2.2 hin7 hat7 (g := (mkF m 192 #[.val (.int p1), .val (.int p2), .val (.int p3), .val (.int z3), .val (.int z4), .val (.ref b1), .val (.ref b11), .val (.ref b12), .val (.ref b19), .val (.ref j8), .val (.int (1 : Int32)), .unset, .unset] [(.int (0 : Int32)), (.ref b12), (.ref b11), (.ref b19)])) rfl rfl (hb hby at_192) _ ?_
    show Steps p.tables e below (T2.setTop (mkF m 193 #[.val (.int p1), .val (.int p2), .val (.int p3), .val (.int z3), .val (.int z4), .val (.ref b1), .val (.ref b11), .val (.ref b12), .val (.ref b19), .val (.ref j8), .val (.int (1 : Int32)), .unset, .unset] [(.int (1 : Int32)), (.ref b11), (.ref b19)])) _
    refine X2.iaload hx (j := (1 : Int32)) (v := (.int (2 : Int32))) (by rw [e2]; exact Ar9.1) (State.isArrayOf_alike hZ.alike Ar9.2.1) Ar9.2.2 hin9 hat9 (g := (mkF m 193 #[.val (.int p1), .val (.int p2), .val (.int p3), .val (.int z3), .val (.int z4), .val (.ref b1), .val (.ref b11), .val (.ref b12), .val (.ref b19), .val (.ref j8), .val (.int (1 : Int32)), .unset, .unset] [(.int (1 : Int32)), (.ref b11), (.ref b19)])) rfl rfl (hb hby at_193) _ ?_
    show Steps p.tables e below (T2.setTop (mkF m 194 #[.val (.int p1), .val (.int p2), .val (.int p3), .val (.int z3), .val (.int z4), .val (.ref b1), .val (.ref b11), .val (.ref b12), .val (.ref b19), .val (.ref j8), .val (.int (1 : Int32)), .unset, .unset] [(.int (2 : Int32)), (.ref b19)])) _
    refine st11.trans ?_
    show Steps p.tables e below (T11.setTop (mkF m 197 #[.val (.int p1), .val (.int p2), .val (.int p3), .val (.int z3), .val (.int z4), .val (.ref b1), .val (.ref b11), .val (.ref b12), .val (.ref b19), .val (.ref j8), .val (.int (1 : Int32)), .unset, .unset] [])) _
    refine XS.aload X11.here hx rfl (hb hby at_197) rfl rfl ?_
    show Steps p.tables e below (T11.setTop (mkF m 199 #[.val (.int p1), .val (.int p2), .val (.int p3), .val (.int z3), .val (.int z4), .val (.ref b1), .val (.ref b11), .val (.ref b12), .val (.ref b19), .val (.ref j8), .val (.int (1 : Int32)), .unset, .unset] [(.ref b19)])) _
    refine st12.trans ?_
    show Steps p.tables e below (T12.setTop (mkF m 202 #[.val (.int p1), .val (.int p2), .val (.int p3), .val (.int z3), .val (.int z4), .val (.ref b1), .val (.ref b11), .val (.ref b12), .val (.ref b19), .val (.ref j8), .val (.int (1 : Int32)), .unset, .unset] [(.ref j7)])) _
    refine st13 _ ?_
    show Steps p.tables e below (T13.setTop (mkF m 205 #[.val (.int p1), .val (.int p2), .val (.int p3), .val (.int z3), .val (.int z4), .val (.ref b1), .val (.ref b11), .val (.ref b12), .val (.ref b19), .val (.ref j8), .val (.int (1 : Int32)), .unset, .unset] [(.ref j7)])) _
    refine XS.astore X13.here hx rfl (hb hby at_205) rfl rfl (l' := #[.val (.int p1), .val (.int p2), .val (.int p3), .val (.int z3), .val (.int z4), .val (.ref b1), .val (.ref b11), .val (.ref b12), .val (.ref b19), .val (.ref j8), .val (.int (1 : Int32)), .val (.ref j7), .unset]) rfl ?_
    show Steps p.tables e below (T13.setTop (mkF m 207 #[.val (.int p1), .val (.int p2), .val (.int p3), .val (.int z3), .val (.int z4), .val (.ref b1), .val (.ref b11), .val (.ref b12), .val (.ref b19), .val (.ref j8), .val (.int (1 : Int32)), .val (.ref j7), .unset] [])) _
    refine XS.iload X13.here hx rfl (hb hby at_207) rfl ?_
    show Steps p.tables e below (T13.setTop (mkF m 209 #[.val (.int p1), .val (.int p2), .val (.int p3), .val (.int z3), .val (.int z4), .val (.ref b1), .val (.ref b11), .val (.ref b12), .val (.ref b19), .val (.ref j8), .val (.int (1 : Int32)), .val (.ref j7), .unset] [(.int (1 : Int32))])) _
    refine XS.ifNo X13.here hx rfl (hb hby at_209) rfl ((if0 _ _).trans (feq (by decide : ¬ ((1 : Int32) = (0 : Int32)))).1) ?_
    show Steps p.tables e below (T13.setTop (mkF m 212 #[.val (.int p1), .val (.int p2), .val (.int p3), .val (.int z3), .val (.int z4), .val (.ref b1), .val (.ref b11), .val (.ref b12), .val (.ref b19), .val (.ref j8), .val (.int (1 : Int32)), .val (.ref j7), .unset] [])) _
    refine XS.aload X13.here hx rfl (hb hby at_212) rfl rfl ?_
    show Steps p.tables e below (T13.setTop (mkF m 214 #[.val (.int p1), .val (.int p2), .val (.int p3), .val (.int z3), .val (.int z4), .val (.ref b1), .val (.ref b11), .val (.ref b12), .val (.ref b19), .val (.ref j8), .val (.int (1 : Int32)), .val (.ref j7), .unset] [(.ref j7)])) _
    refine XS.aload X13.here hx rfl (hb hby at_214) rfl rfl ?_
    show Steps p.tables e below (T13.setTop (mkF m 216 #[.val (.int p1), .val (.int p2), .val (.int p3), .val (.int z3), .val (.int z4), .val (.ref b1), .val (.ref b11), .val (.ref b12), .val (.ref b19), .val (.ref j8), .val (.int (1 : Int32)), .val (.ref j7), .unset] [(.ref b1), (.ref j7)])) _
    refine XS.aload X13.here hx rfl (hb hby at_216) rfl rfl ?_
    show Steps p.tables e below (T13.setTop (mkF m 218 #[.val (.int p1), .val (.int p2), .val (.int p3), .val (.int z3), .val (.int z4), .val (.ref b1), .val (.ref b11), .val (.ref b12), .val (.ref b19), .val (.ref j8), .val (.int (1 : Int32)), .val (.ref j7), .unset] [(.ref b12), (.ref b1), (.ref j7)])) _
    refine XS.iconst X13.here hx rfl (hb hby at_218) ?_
    show Steps p.tables e below (T13.setTop (mkF m 219 #[.val (.int p1), .val (.int p2), .val (.int p3), .val (.int z3), .val (.int z4), .val (.ref b1), .val (.ref b11), .val (.ref b12), .val (.ref b19), .val (.ref j8), .val (.int (1 : Int32)), .val (.ref j7), .unset] [(.int (1 : Int32)), (.ref b12), (.ref b1), (.ref j7)])) _
    refine X13.iaload hx (j := (1 : Int32)) (v := (.int (0 : Int32))) (by rw [e13]; exact Ar15.1) (State.isArrayOf_alike hZ.alike Ar15.2.1) Ar15.2.2 hin15 hat15 (g := (mkF m 219 #[.val (.int p1), .val (.int p2), .val (.int p3), .val (.int z3), .val (.int z4), .val (.ref b1), .val (.ref b11), .val (.ref b12), .val (.ref b19), .val (.ref j8), .val (.int (1 : Int32)), .val (.ref j7), .unset] [(.int (1 : Int32)), (.ref b12), (.ref b1), (.ref j7)])) rfl rfl (hb hby at_219) _ ?_
    show Steps p.tables e below (T13.setTop (mkF m 220 #[.val (.int p1), .val (.int p2), .val (.int p3), .val (.int z3), .val (.int z4), .val (.ref b1), .val (.ref b11), .val (.ref b12), .val (.ref b19), .val (.ref j8), .val (.int (1 : Int32)), .val (.ref j7), .unset] [(.int (0 : Int32)), (.ref b1), (.ref j7)])) _
    refine X13.aaload hx (j := (0 : Int32)) (v := (.ref j7)) (by rw [e13]; exact Ar18.1) (State.isArrayOf_alike hZ.alike Ar18.2.1) rfl Ar18.2.2 hin18 hat18 (g := (mkF m 220 #[.val (.int p1), .val (.int p2), .val (.int p3), .val (.int z3), .val (.int z4), .val (.ref b1), .val (.ref b11), .val (.ref b12), .val (.ref b19), .val (.ref j8), .val (.int (1 : Int32)), .val (.ref j7), .unset] [(.int (0 : Int32)), (.ref b1), (.ref j7)])) rfl rfl (hb hby at_220) _ ?_
    show Steps p.tables e below (T13.setTop (mkF m 221 #[.val (.int p1), .val (.int p2), .val (.int p3), .val (.int z3), .val (.int z4), .val (.ref b1), .val (.ref b11), .val (.ref b12), .val (.ref b19), .val (.ref j8), .val (.int (1 : Int32)), .val (.ref j7), .unset] [(.ref j7), (.ref j7)])) _
    refine Jvm.RoadKit.acmp (g := (mkF m 221 #[.val (.int p1), .val (.int p2), .val (.int p3), .val (.int z3), .val (.int z4), .val (.ref b1), .val (.ref b11), .val (.ref b12), .val (.ref b19), .val (.ref j8), .val (.int (1 : Int32)), .val (.ref j7), .unset] [(.ref j7), (.ref j7)])) X13 hx rfl rfl rfl (pc0 := 221) (pc' := 224) (same := true) rfl (hb hby at_221) rfl (decide_eq_true rfl) (by decide) (by decide) ?_
    show Steps p.tables e below (T13.setTop (mkF m 224 #[.val (.int p1), .val (.int p2), .val (.int p3), .val (.int z3), .val (.int z4), .val (.ref b1), .val (.ref b11), .val (.ref b12), .val (.ref b19), .val (.ref j8), .val (.int (1 : Int32)), .val (.ref j7), .unset] [])) _
    refine XS.iconst X13.here hx rfl (hb hby at_224) ?_
    show Steps p.tables e below (T13.setTop (mkF m 225 #[.val (.int p1), .val (.int p2), .val (.int p3), .val (.int z3), .val (.int z4), .val (.ref b1), .val (.ref b11), .val (.ref b12), .val (.ref b19), .val (.ref j8), .val (.int (1 : Int32)), .val (.ref j7), .unset] [(.int (1 : Int32))])) _
    refine XS.goto X13.here hx rfl (pc0 := 225) (pc' := 229) rfl (hb hby at_225) (by decide) (by decide) ?_
    show Steps p.tables e below (T13.setTop (mkF m 229 #[.val (.int p1), .val (.int p2), .val (.int p3), .val (.int z3), .val (.int z4), .val (.ref b1), .val (.ref b11), .val (.ref b12), .val (.ref b19), .val (.ref j8), .val (.int (1 : Int32)), .val (.ref j7), .unset] [(.int (1 : Int32))])) _
    refine XS.istore X13.here hx rfl (hb hby at_229) rfl (l' := #[.val (.int p1), .val (.int p2), .val (.int p3), .val (.int z3), .val (.int z4), .val (.ref b1), .val (.ref b11), .val (.ref b12), .val (.ref b19), .val (.ref j8), .val (.int (1 : Int32)), .val (.ref j7), .unset]) rfl ?_
    show Steps p.tables e below (T13.setTop (mkF m 231 #[.val (.int p1), .val (.int p2), .val (.int p3), .val (.int z3), .val (.int z4), .val (.ref b1), .val (.ref b11), .val (.ref b12), .val (.ref b19), .val (.ref j8), .val (.int (1 : Int32)), .val (.ref j7), .unset] [])) _
    refine XS.aload X13.here hx rfl (hb hby at_231) rfl rfl ?_
    show Steps p.tables e below (T13.setTop (mkF m 233 #[.val (.int p1), .val (.int p2), .val (.int p3), .val (.int z3), .val (.int z4), .val (.ref b1), .val (.ref b11), .val (.ref b12), .val (.ref b19), .val (.ref j8), .val (.int (1 : Int32)), .val (.ref j7), .unset] [(.ref b19)])) _
    refine XS.aload X13.here hx rfl (hb hby at_233) rfl rfl ?_
    show Steps p.tables e below (T13.setTop (mkF m 235 #[.val (.int p1), .val (.int p2), .val (.int p3), .val (.int z3), .val (.int z4), .val (.ref b1), .val (.ref b11), .val (.ref b12), .val (.ref b19), .val (.ref j8), .val (.int (1 : Int32)), .val (.ref j7), .unset] [(.ref b11), (.ref b19)])) _
    refine XS.aload X13.here hx rfl (hb hby at_235) rfl rfl ?_
    show Steps p.tables e below (T13.setTop (mkF m 237 #[.val (.int p1), .val (.int p2), .val (.int p3), .val (.int z3), .val (.int z4), .val (.ref b1), .val (.ref b11), .val (.ref b12), .val (.ref b19), .val (.ref j8), .val (.int (1 : Int32)), .val (.ref j7), .unset] [(.ref b12), (.ref b11), (.ref b19)])) _
    refine XS.iconst X13.here hx rfl (hb hby at_237) ?_
    show Steps p.tables e below (T13.setTop (mkF m 238 #[.val (.int p1), .val (.int p2), .val (.int p3), .val (.int z3), .val (.int z4), .val (.ref b1), .val (.ref b11), .val (.ref b12), .val (.ref b19), .val (.ref j8), .val (.int (1 : Int32)), .val (.ref j7), .unset] [(.int (1 : Int32)), (.ref b12), (.ref b11), (.ref b19)])) _
    refine X13.iaload hx (j := (1 : Int32)) (v := (.int (0 : Int32))) (by rw [e13]; exact Ar20.1) (State.isArrayOf_alike hZ.alike Ar20.2.1) Ar20.2.2 hin20 hat20 (g := (mkF m 238 #[.val (.int p1), .val (.int p2), .val (.int p3), .val (.int z3), .val (.int z4), .val (.ref b1), .val (.ref b11), .val (.ref b12), .val (.ref b19), .val (.ref j8), .val (.int (1 : Int32)), .val (.ref j7), .unset] [(.int (1 : Int32)), (.ref b12), (.ref b11), (.ref b19)])) rfl rfl (hb hby at_238) _ ?_
    show Steps p.tables e below (T13.setTop (mkF m 239 #[.val (.int p1), .val (.int p2), .val (.int p3), .val (.int z3), .val (.int z4), .val (.ref b1), .val (.ref b11), .val (.ref b12), .val (.ref b19), .val (.ref j8), .val (.int (1 : Int32)), .val (.ref j7), .unset] [(.int (0 : Int32)), (.ref b11), (.ref b19)])) _
    refine X13.iaload hx (j := (0 : Int32)) (v := (.int (1 : Int32))) (by rw [e13]; exact Ar23.1) (State.isArrayOf_alike hZ.alike Ar23.2.1) Ar23.2.2 hin23 hat23 (g := (mkF m 239 #[.val (.int p1), .val (.int p2), .val (.int p3), .val (.int z3), .val (.int z4), .val (.ref b1), .val (.ref b11), .val (.ref b12), .val (.ref b19), .val (.ref j8), .val (.int (1 : Int32)), .val (.ref j7), .unset] [(.int (0 : Int32)), (.ref b11), (.ref b19)])) rfl rfl (hb hby at_239) _ ?_
    show Steps p.tables e below (T13.setTop (mkF m 240 #[.val (.int p1), .val (.int p2), .val (.int p3), .val (.int z3), .val (.int z4), .val (.ref b1), .val (.ref b11), .val (.ref b12), .val (.ref b19), .val (.ref j8), .val (.int (1 : Int32)), .val (.ref j7), .unset] [(.int (1 : Int32)), (.ref b19)])) _
    refine st25.trans ?_
    show Steps p.tables e below (T25.setTop (mkF m 243 #[.val (.int p1), .val (.int p2), .val (.int p3), .val (.int z3), .val (.int z4), .val (.ref b1), .val (.ref b11), .val (.ref b12), .val (.ref b19), .val (.ref j8), .val (.int (1 : Int32)), .val (.ref j7), .unset] [])) _
    refine XS.aload X25.here hx rfl (hb hby at_243) rfl rfl ?_
    show Steps p.tables e below (T25.setTop (mkF m 245 #[.val (.int p1), .val (.int p2), .val (.int p3), .val (.int z3), .val (.int z4), .val (.ref b1), .val (.ref b11), .val (.ref b12), .val (.ref b19), .val (.ref j8), .val (.int (1 : Int32)), .val (.ref j7), .unset] [(.ref b19)])) _
    refine st26.trans ?_
    show Steps p.tables e below (T26.setTop (mkF m 248 #[.val (.int p1), .val (.int p2), .val (.int p3), .val (.int z3), .val (.int z4), .val (.ref b1), .val (.ref b11), .val (.ref b12), .val (.ref b19), .val (.ref j8), .val (.int (1 : Int32)), .val (.ref j7), .unset] [(.ref j9)])) _
    refine st27 _ ?_
    show Steps p.tables e below (T27.setTop (mkF m 251 #[.val (.int p1), .val (.int p2), .val (.int p3), .val (.int z3), .val (.int z4), .val (.ref b1), .val (.ref b11), .val (.ref b12), .val (.ref b19), .val (.ref j8), .val (.int (1 : Int32)), .val (.ref j7), .unset] [(.ref j9)])) _
    refine XS.astore X27.here hx rfl (hb hby at_251) rfl rfl (l' := #[.val (.int p1), .val (.int p2), .val (.int p3), .val (.int z3), .val (.int z4), .val (.ref b1), .val (.ref b11), .val (.ref b12), .val (.ref b19), .val (.ref j8), .val (.int (1 : Int32)), .val (.ref j7), .val (.ref j9)]) rfl ?_
    show Steps p.tables e below (T27.setTop (mkF m 253 #[.val (.int p1), .val (.int p2), .val (.int p3), .val (.int z3), .val (.int z4), .val (.ref b1), .val (.ref b11), .val (.ref b12), .val (.ref b19), .val (.ref j8), .val (.int (1 : Int32)), .val (.ref j7), .val (.ref j9)] [])) _
    refine XS.iload X27.here hx rfl (hb hby at_253) rfl ?_
    show Steps p.tables e below (T27.setTop (mkF m 255 #[.val (.int p1), .val (.int p2), .val (.int p3), .val (.int z3), .val (.int z4), .val (.ref b1), .val (.ref b11), .val (.ref b12), .val (.ref b19), .val (.ref j8), .val (.int (1 : Int32)), .val (.ref j7), .val (.ref j9)] [(.int (1 : Int32))])) _
    refine XS.ifNo X27.here hx rfl (hb hby at_255) rfl ((if0 _ _).trans (feq (by decide : ¬ ((1 : Int32) = (0 : Int32)))).1) ?_
    show Steps p.tables e below (T27.setTop (mkF m 258 #[.val (.int p1), .val (.int p2), .val (.int p3), .val (.int z3), .val (.int z4), .val (.ref b1), .val (.ref b11), .val (.ref b12), .val (.ref b19), .val (.ref j8), .val (.int (1 : Int32)), .val (.ref j7), .val (.ref j9)] [])) _
    refine XS.aload X27.here hx rfl (hb hby at_258) rfl rfl ?_
    show Steps p.tables e below (T27.setTop (mkF m 260 #[.val (.int p1), .val (.int p2), .val (.int p3), .val (.int z3), .val (.int z4), .val (.ref b1), .val (.ref b11), .val (.ref b12), .val (.ref b19), .val (.ref j8), .val (.int (1 : Int32)), .val (.ref j7), .val (.ref j9)] [(.ref j9)])) _
    refine XS.aload X27.here hx rfl (hb hby at_260) rfl rfl ?_
    show Steps p.tables e below (T27.setTop (mkF m 262 #[.val (.int p1), .val (.int p2), .val (.int p3), .val (.int z3), .val (.int z4), .val (.ref b1), .val (.ref b11), .val (.ref b12), .val (.ref b19), .val (.ref j8), .val (.int (1 : Int32)), .val (.ref j7), .val (.ref j9)] [(.ref b1), (.ref j9)])) _
    refine XS.aload X27.here hx rfl (hb hby at_262) rfl rfl ?_
    show Steps p.tables e below (T27.setTop (mkF m 264 #[.val (.int p1), .val (.int p2), .val (.int p3), .val (.int z3), .val (.int z4), .val (.ref b1), .val (.ref b11), .val (.ref b12), .val (.ref b19), .val (.ref j8), .val (.int (1 : Int32)), .val (.ref j7), .val (.ref j9)] [(.ref b12), (.ref b1), (.ref j9)])) _
    refine XS.iconst X27.here hx rfl (hb hby at_264) ?_
    show Steps p.tables e below (T27.setTop (mkF m 265 #[.val (.int p1), .val (.int p2), .val (.int p3), .val (.int z3), .val (.int z4), .val (.ref b1), .val (.ref b11), .val (.ref b12), .val (.ref b19), .val (.ref j8), .val (.int (1 : Int32)), .val (.ref j7), .val (.ref j9)] [(.int (2 : Int32)), (.ref b12), (.ref b1), (.ref j9)])) _
    refine X27.iaload hx (j := (2 : Int32)) (v := (.int (2 : Int32))) (by rw [e27]; exact Ar29.1) (State.isArrayOf_alike hZ.alike Ar29.2.1) Ar29.2.2 hin29 hat29 (g := (mkF m 265 #[.val (.int p1), .val (.int p2), .val (.int p3), .val (.int z3), .val (.int z4), .val (.ref b1), .val (.ref b11), .val (.ref b12), .val (.ref b19), .val (.ref j8), .val (.int (1 : Int32)), .val (.ref j7), .val (.ref j9)] [(.int (2 : Int32)), (.ref b12), (.ref b1), (.ref j9)])) rfl rfl (hb hby at_265) _ ?_
    show Steps p.tables e below (T27.setTop (mkF m 266 #[.val (.int p1), .val (.int p2), .val (.int p3), .val (.int z3), .val (.int z4), .val (.ref b1), .val (.ref b11), .val (.ref b12), .val (.ref b19), .val (.ref j8), .val (.int (1 : Int32)), .val (.ref j7), .val (.ref j9)] [(.int (2 : Int32)), (.ref b1), (.ref j9)])) _
    refine X27.aaload hx (j := (2 : Int32)) (v := (.ref j9)) (by rw [e27]; exact Ar32.1) (State.isArrayOf_alike hZ.alike Ar32.2.1) rfl Ar32.2.2 hin32 hat32 (g := (mkF m 266 #[.val (.int p1), .val (.int p2), .val (.int p3), .val (.int z3), .val (.int z4), .val (.ref b1), .val (.ref b11), .val (.ref b12), .val (.ref b19), .val (.ref j8), .val (.int (1 : Int32)), .val (.ref j7), .val (.ref j9)] [(.int (2 : Int32)), (.ref b1), (.ref j9)])) rfl rfl (hb hby at_266) _ ?_
    show Steps p.tables e below (T27.setTop (mkF m 267 #[.val (.int p1), .val (.int p2), .val (.int p3), .val (.int z3), .val (.int z4), .val (.ref b1), .val (.ref b11), .val (.ref b12), .val (.ref b19), .val (.ref j8), .val (.int (1 : Int32)), .val (.ref j7), .val (.ref j9)] [(.ref j9), (.ref j9)])) _
    refine Jvm.RoadKit.acmp (g := (mkF m 267 #[.val (.int p1), .val (.int p2), .val (.int p3), .val (.int z3), .val (.int z4), .val (.ref b1), .val (.ref b11), .val (.ref b12), .val (.ref b19), .val (.ref j8), .val (.int (1 : Int32)), .val (.ref j7), .val (.ref j9)] [(.ref j9), (.ref j9)])) X27 hx rfl rfl rfl (pc0 := 267) (pc' := 270) (same := true) rfl (hb hby at_267) rfl (decide_eq_true rfl) (by decide) (by decide) ?_
    show Steps p.tables e below (T27.setTop (mkF m 270 #[.val (.int p1), .val (.int p2), .val (.int p3), .val (.int z3), .val (.int z4), .val (.ref b1), .val (.ref b11), .val (.ref b12), .val (.ref b19), .val (.ref j8), .val (.int (1 : Int32)), .val (.ref j7), .val (.ref j9)] [])) _
    refine XS.iconst X27.here hx rfl (hb hby at_270) ?_
    show Steps p.tables e below (T27.setTop (mkF m 271 #[.val (.int p1), .val (.int p2), .val (.int p3), .val (.int z3), .val (.int z4), .val (.ref b1), .val (.ref b11), .val (.ref b12), .val (.ref b19), .val (.ref j8), .val (.int (1 : Int32)), .val (.ref j7), .val (.ref j9)] [(.int (1 : Int32))])) _
    refine XS.goto X27.here hx rfl (pc0 := 271) (pc' := 275) rfl (hb hby at_271) (by decide) (by decide) ?_
    show Steps p.tables e below (T27.setTop (mkF m 275 #[.val (.int p1), .val (.int p2), .val (.int p3), .val (.int z3), .val (.int z4), .val (.ref b1), .val (.ref b11), .val (.ref b12), .val (.ref b19), .val (.ref j8), .val (.int (1 : Int32)), .val (.ref j7), .val (.ref j9)] [(.int (1 : Int32))])) _
    refine XS.istore X27.here hx rfl (hb hby at_275) rfl (l' := #[.val (.int p1), .val (.int p2), .val (.int p3), .val (.int z3), .val (.int z4), .val (.ref b1), .val (.ref b11), .val (.ref b12), .val (.ref b19), .val (.ref j8), .val (.int (1 : Int32)), .val (.ref j7), .val (.ref j9)]) rfl ?_
    show Steps p.tables e below (T27.setTop (mkF m 277 #[.val (.int p1), .val (.int p2), .val (.int p3), .val (.int z3), .val (.int z4), .val (.ref b1), .val (.ref b11), .val (.ref b12), .val (.ref b19), .val (.ref j8), .val (.int (1 : Int32)), .val (.ref j7), .val (.ref j9)] [])) _
    refine XS.iload X27.here hx rfl (hb hby at_277) rfl ?_
    exact k_
  obtain ⟨fs, hr, hrun, hended, hW, hsame⟩ := X27.leave (v := some (.int (1 : Int32))) (fun h => by rw [Bd.returns] at h; cases h)
  refine ⟨_, _, go34 _ ?_, hrun, hended, _, _, rfl, ?_, ⟨_, rfl⟩, hW, hsame.mono (by decide) (by decide)⟩
  · skip
    show Steps p.tables e below (T27.setTop (mkF m 279 #[.val (.int p1), .val (.int p2), .val (.int p3), .val (.int z3), .val (.int z4), .val (.ref b1), .val (.ref b11), .val (.ref b12), .val (.ref b19), .val (.ref j8), .val (.int (1 : Int32)), .val (.ref j7), .val (.ref j9)] [(.int (1 : Int32))])) _
    exact retN X27 hx (t := .boolean) Bd.returns (by simp) (hb hby at_279) hr
  · exact ⟨rfl, N26⟩
set_option maxRecDepth 65536 in
set_option maxHeartbeats 40000000 in
theorem pc139_5 (l : Launch) (Z : State) (a0 : Array Value) (hw : ∀ d ∈ tables_1, d.before a0 Z = true) (ws : List Jvm.Cond) (p1 : Int32) (p2 : Int32) (p3 : Int32) (j7 : Nat) (j8 : Nat) (j9 : Nat) (b1 : Nat) (b11 : Nat) (b12 : Nat) (b19 : Nat) (en : Nat) (li : Nat) (k1 : ClassId) (k11 : ClassId) (k12 : ClassId) (ke : ClassId) (kl : ClassId) (h0 : Heap) (n0 : Nat) {p : Program} {e : Env} {s : State} {m : MethodId} {below : List Frame} {meth : Method} {c : Code} {s₁ T0 : State} {locs : List Loc}
    (Bd : BodyLoose p l x (head1 (Jvm.Cond.code x code maxLocals ret :: ws) room_1) code maxLocals ret e s m #[(.int p1), (.int p2), (.int p3)] below meth c s₁) (hml : c.maxLocals = 13) (hZ : Z.Warmed39 s.vm) (X0 : Stand p l e room_1 s m #[(.int p1), (.int p2), (.int p3)] below meth c T0 locs 6 93) (e0 : T0.heap = h0) (N0 : Fr n0 locs) (Z0 : n0 ≤ h0.size) (O0 : Old Z n0 h0) (q0_ : Arv Z h0 b1 k1 (.object "java/lang/Integer") (3 : Int32) [(.ref j7), (.ref j8), (.ref j9)] .null) (q1_ : Arv Z h0 b11 k11 .int (3 : Int32) [(.int (1 : Int32)), (.int (2 : Int32)), (.int (3 : Int32))] (.int (0 : Int32))) (q2_ : Arv Z h0 b12 k12 .int (3 : Int32) [(.int (1 : Int32)), (.int (2 : Int32)), (.int (0 : Int32))] (.int (0 : Int32))) (q3_ : Exa Z h0 b19 "com/example/terrace/terrace/core/UseOrder") (q4_ : Fld Z h0 b19 "com/example/terrace/terrace/core/UseOrder" "entries" "[Ljava/lang/Object;" (.ref en)) (q5_ : Fld Z h0 b19 "com/example/terrace/terrace/core/UseOrder" "links" "[I" (.ref li)) (q6_ : Fld Z h0 b19 "com/example/terrace/terrace/core/UseOrder" "free" "I" (.int (0 : Int32))) (q7_ : Fld Z h0 b19 "com/example/terrace/terrace/core/UseOrder" "highest" "I" (.int (3 : Int32))) (q8_ : Arv Z h0 en ke (.object "java/lang/Object") (16 : Int32) (own_E (.ref j7) (.ref j8) (.ref j9)) .null) (q9_ : Arv Z h0 li kl .int (64 : Int32) (own_L 1 2 0 0 3 0 p3 0 0 3 p3 0 2 1 p3 0) (.int (0 : Int32))) (g_b1 : n0 ≤ b1) (g_b11 : n0 ≤ b11) (g_b12 : n0 ≤ b12) (g_b19 : n0 ≤ b19) (g_en : n0 ≤ en) (g_li : n0 ≤ li) (ne_b1_b11 : b1 ≠ b11) (ne_b1_b12 : b1 ≠ b12) (ne_b1_b19 : b1 ≠ b19) (ne_b1_en : b1 ≠ en) (ne_b1_li : b1 ≠ li) (ne_b11_b12 : b11 ≠ b12) (ne_b11_b19 : b11 ≠ b19) (ne_b11_en : b11 ≠ en) (ne_b11_li : b11 ≠ li) (ne_b12_b19 : b12 ≠ b19) (ne_b12_en : b12 ≠ en) (ne_b12_li : b12 ≠ li) (ne_b19_en : b19 ≠ en) (ne_b19_li : b19 ≠ li) (ne_en_li : en ≠ li) (Ov_ : Ovr Z ke "java/lang/Object") (Ej7 : Exa Z Z.heap j7 "java/lang/Integer") (Ej8 : Exa Z Z.heap j8 "java/lang/Integer") (Ej9 : Exa Z Z.heap j9 "java/lang/Integer") :
    ∃ s₂ o, Steps p.tables e below (T0.setTop (mkF m 139 #[.val (.int p1), .val (.int p2), .val (.int p3), .val (.int (0 : Int32)), .val (.int (2 : Int32)), .val (.ref b1), .val (.ref b11), .val (.ref b12), .val (.ref b19), .unset, .unset, .unset, .unset] [])) s₂ ∧ s₂.status = .running ∧ Ended s₂ below o ∧ ∃ v L, o = .returned v ∧ (v = some (.int 1) ∧ Fr n0 L) ∧ FrameEnd s o s₂ L room_1.cells room_1.slots := by
  have hw_14 := hw _ (List.mem_of_getElem? (i := 14) rfl)
  have hw_41 := hw _ (List.mem_of_getElem? (i := 41) rfl)
  have hw_42 := hw _ (List.mem_of_getElem? (i := 42) rfl)
  have hw_43 := hw _ (List.mem_of_getElem? (i := 43) rfl)
  have hw_44 := hw _ (List.mem_of_getElem? (i := 44) rfl)
  have hw_45 := hw _ (List.mem_of_getElem? (i := 45) rfl)
  have hw_50 := hw _ (List.mem_of_getElem? (i := 50) rfl)
  have hw_51 := hw _ (List.mem_of_getElem? (i := 51) rfl)
  have hw_52 := hw _ (List.mem_of_getElem? (i := 52) rfl)
  have hw_53 := hw _ (List.mem_of_getElem? (i := 53) rfl)
  have hx := Bd.exec
  have hby := Bd.bytes
  have hown : s.vm.findClass "com/example/terrace/terrace/core/UseOrderUsePinLaw" = some m.cls := findClass_of_methodNamed Bd.named
  have hnm := (name_of_methodNamed Bd.named Bd.method).1
  have pre0 : ∀ t_, Steps p.tables e below (T0.setTop (mkF m 139 #[.val (.int p1), .val (.int p2), .val (.int p3), .val (.int (0 : Int32)), .val (.int (2 : Int32)), .val (.ref b1), .val (.ref b11), .val (.ref b12), .val (.ref b19), .unset, .unset, .unset, .unset] [])) t_ → Steps p.tables e below (T0.setTop (mkF m 139 #[.val (.int p1), .val (.int p2), .val (.int p3), .val (.int (0 : Int32)), .val (.int (2 : Int32)), .val (.ref b1), .val (.ref b11), .val (.ref b12), .val (.ref b19), .unset, .unset, .unset, .unset] [])) t_ := fun _ k_ => k_
  obtain ⟨cl1, Ar1, q1, S1, M1, H1, G1⟩ := q1_
  have f2 : Arv Z h0 b11 k11 .int (3 : Int32) [(.int (1 : Int32)), (.int (2 : Int32)), (.int (3 : Int32))] (.int (0 : Int32)) := ⟨cl1, Ar1, q1, S1, M1, H1, G1⟩
  have hin1 : ¬ ((2 : Int32) < 0 ∨ cl1.slots.size ≤ ((2 : Int32)).toNatClampNeg) := inb_of S1 ⟨by decide, by decide⟩
  have hat1 : cl1.slots[((2 : Int32)).toNatClampNeg]? = some (.int (3 : Int32)) := Has.at H1 hin1 rfl
  obtain ⟨cq3, kq3, q3a, q3b, q3c⟩ := isOf hZ e0 q3_
  obtain ⟨_, _, ⟨T3, L3, k3, n3⟩, -, X3, ⟨Lc3, hQ3, l3, y3, z3⟩, st3⟩ := X0.virtualBack hx (y := (⟨"com/example/terrace/terrace/core/UseOrder", "use", "(I)V"⟩ : MethodName)) (z := (⟨"com/example/terrace/terrace/core/UseOrder", "use", "(I)V"⟩ : MethodName)) hown (mvT hZ hw_41) (mvT hZ hw_42) (notFace_of_selects (args := #[]) (mvT hZ hw_44)) (mvT hZ hw_44) (mvT hZ hw_43) (by decide) (backOf (W := 0) (rmUse l Z a0 hw [] b19 li kl (own_L 1 2 0 0 3 0 p3 0 0 3 p3 0 2 1 p3 0) (3 : Int32) (1 : Int32) 12 5 (2 : Int32) (1 : Int32) 9 4 h0 n0 Z0 q5_ q9_ own_Ln rfl (by omega) ne_b19_li ⟨by decide, by decide⟩ rfl ⟨by decide, by decide⟩ rfl ⟨by decide, by decide⟩ rfl (by decide) (by decide) ⟨by decide, by decide⟩ ⟨by decide, by decide⟩ rfl rfl ⟨by decide, by decide⟩ rfl ⟨by decide, by decide⟩ rfl (by decide) (by decide) q3_ (by decide) (by decide) (by decide)) hZ hw_45 hw_14 (by decide) (by decide)) q3a q3c (g := (mkF m 146 #[.val (.int p1), .val (.int p2), .val (.int p3), .val (.int (0 : Int32)), .val (.int (2 : Int32)), .val (.ref b1), .val (.ref b11), .val (.ref b12), .val (.ref b19), .unset, .unset, .unset, .unset] [(.int (3 : Int32)), (.ref b19)])) rfl (by rw [hml]; rfl) (Steps.refl _) (argsL := [(.int (3 : Int32))]) (rest := []) (lenOf pd_0 rfl) rfl (by show 2 * 0 + _ ≤ _; exact Nat.le_of_eq rfl) (hb hby at_146) (fun _ _ => ⟨rfl, e0, (by decide : 6 + 0 ≤ _), (by decide : 93 + 0 ≤ _)⟩)
  dsimp only [Pt.U, Pt.locs, Pt.cells, Pt.slots] at X3 l3 y3 z3 st3 hQ3
  subst l3 y3 z3
  obtain ⟨rfl, N3q, Kc3, Vc3⟩ := hQ3
  have N3 := Fr.app N0 N3q
  have sz3 : h0.size ≤ T3.heap.size := Kc3.1
  have Z3 : n0 ≤ T3.heap.size := Nat.le_trans Z0 sz3
  have O3 : Old Z n0 T3.heap := O0.keep Kc3 (allS (show n0 ≤ li by omega) all0)
  have Vl3_ : Arv Z T3.heap li kl .int (64 : Int32) (own_L 3 2 0 0 2 3 p3 0 0 1 p3 0 1 0 p3 0) (.int (0 : Int32)) := Vc3
  have f5 := (q2_.keep Kc3 (ninS ne_b12_li nin0))
  obtain ⟨_, _, ⟨T4, L4, k4, n4⟩, -, X4, ⟨Lc4, hQ4, l4, y4, z4⟩, st4⟩ := Jvm.LawKit.callS X3 hx (y := (⟨"com/example/terrace/terrace/core/UseOrderUsePinLaw", "moveToEnd", "([II)V"⟩ : MethodName)) hown (mvT hZ hw_50) (mvT hZ hw_51) (mvT hZ hw_52) (mvT hZ hw_53) (by decide) (backOf (W := 0) (rmMove l Z a0 hw [] b12 k12 (1 : Int32) (2 : Int32) (0 : Int32) (2 : Int32) T3.heap n0 Z3 f5 (by omega)) hZ hw_53 hw_52 (by decide) (by decide)) (g := (mkF m 153 #[.val (.int p1), .val (.int p2), .val (.int p3), .val (.int (0 : Int32)), .val (.int (2 : Int32)), .val (.ref b1), .val (.ref b11), .val (.ref b12), .val (.ref b19), .unset, .unset, .unset, .unset] [(.int (2 : Int32)), (.ref b12)])) rfl (by rw [hml]; rfl) (argsL := [(.ref b12), (.int (2 : Int32))]) (rest := []) (lenOf pd_5 rfl) rfl (by show 2 * 0 + _ ≤ _; exact Nat.le_of_eq rfl) (hb hby at_153) (fun _ _ => ⟨rfl, rfl, (by decide : 6 + 0 ≤ _), (by decide : 93 + 0 ≤ _)⟩)
  dsimp only [Pt.U, Pt.locs, Pt.cells, Pt.slots] at X4 l4 y4 z4 st4 hQ4
  subst l4 y4 z4
  obtain ⟨rfl, N4q, Kc4, Vc4⟩ := hQ4
  have N4 := Fr.app N3 N4q
  have sz4 : T3.heap.size ≤ T4.heap.size := Kc4.1
  have Z4 : n0 ≤ T4.heap.size := Nat.le_trans Z3 sz4
  have O4 : Old Z n0 T4.heap := O3.keep Kc4 (allS (show n0 ≤ b12 by omega) all0)
  have Vd4 : Arv Z T4.heap b12 k12 .int (3 : Int32) [(.int (1 : Int32)), (.int (0 : Int32)), (.int (2 : Int32))] (.int (0 : Int32)) := Vc4
  have go6 : ∀ t_, Steps p.tables e below (T4.setTop (mkF m 156 #[.val (.int p1), .val (.int p2), .val (.int p3), .val (.int (0 : Int32)), .val (.int (2 : Int32)), .val (.ref b1), .val (.ref b11), .val (.ref b12), .val (.ref b19), .unset, .unset, .unset, .unset] [])) t_ → Steps p.tables e below (T0.setTop (mkF m 139 #[.val (.int p1), .val (.int p2), .val (.int p3), .val (.int (0 : Int32)), .val (.int (2 : Int32)), .val (.ref b1), .val (.ref b11), .val (.ref b12), .val (.ref b19), .unset, .unset, .unset, .unset] [])) t_ := by
    intro t_ k_
    refine pre0 t_ ?_
    show Steps p.tables e below (T0.setTop (mkF m 139 #[.val (.int p1), .val (.int p2), .val (.int p3), .val (.int (0 : Int32)), .val (.int (2 : Int32)), .val (.ref b1), .val (.ref b11), .val (.ref b12), .val (.ref b19), .unset, .unset, .unset, .unset] [])) _
    refine XS.aload X0.here hx rfl (hb hby at_139) rfl rfl ?_
    show Steps p.tables e below (T0.setTop (mkF m 141 #[.val (.int p1), .val (.int p2), .val (.int p3), .val (.int (0 : Int32)), .val (.int (2 : Int32)), .val (.ref b1), .val (.ref b11), .val (.ref b12), .val (.ref b19), .unset, .unset, .unset, .unset] [(.ref b19)])) _
    refine XS.aload X0.here hx rfl (hb hby at_141) rfl rfl ?_
    show Steps p.tables e below (T0.setTop (mkF m 143 #[.val (.int p1), .val (.int p2), .val (.int p3), .val (.int (0 : Int32)), .val (.int (2 : Int32)), .val (.ref b1), .val (.ref b11), .val (.ref b12), .val (.ref b19), .unset, .unset, .unset, .unset] [(.ref b11), (.ref b19)])) _
    refine XS.iload X0.here hx rfl (hb hby at_143) rfl ?_
    show Steps p.tables e below (T0.setTop (mkF m 145 #[.val (.int p1), .val (.int p2), .val (.int p3), .val (.int (0 : Int32)), .val (.int (2 : Int32)), .val (.ref b1), .val (.ref b11), .val (.ref b12), .val (.ref b19), .unset, .unset, .unset, .unset] [(.int (2 : Int32)), (.ref b11), (.ref b19)])) _
    refine X0.iaload hx (j := (2 : Int32)) (v := (.int (3 : Int32))) (by rw [e0]; exact Ar1.1) (State.isArrayOf_alike hZ.alike Ar1.2.1) Ar1.2.2 hin1 hat1 (g := (mkF m 145 #[.val (.int p1), .val (.int p2), .val (.int p3), .val (.int (0 : Int32)), .val (.int (2 : Int32)), .val (.ref b1), .val (.ref b11), .val (.ref b12), .val (.ref b19), .unset, .unset, .unset, .unset] [(.int (2 : Int32)), (.ref b11), (.ref b19)])) rfl rfl (hb hby at_145) _ ?_
    show Steps p.tables e below (T0.setTop (mkF m 146 #[.val (.int p1), .val (.int p2), .val (.int p3), .val (.int (0 : Int32)), .val (.int (2 : Int32)), .val (.ref b1), .val (.ref b11), .val (.ref b12), .val (.ref b19), .unset, .unset, .unset, .unset] [(.int (3 : Int32)), (.ref b19)])) _
    refine st3.trans ?_
    show Steps p.tables e below (T3.setTop (mkF m 149 #[.val (.int p1), .val (.int p2), .val (.int p3), .val (.int (0 : Int32)), .val (.int (2 : Int32)), .val (.ref b1), .val (.ref b11), .val (.ref b12), .val (.ref b19), .unset, .unset, .unset, .unset] [])) _
    refine XS.aload X3.here hx rfl (hb hby at_149) rfl rfl ?_
    show Steps p.tables e below (T3.setTop (mkF m 151 #[.val (.int p1), .val (.int p2), .val (.int p3), .val (.int (0 : Int32)), .val (.int (2 : Int32)), .val (.ref b1), .val (.ref b11), .val (.ref b12), .val (.ref b19), .unset, .unset, .unset, .unset] [(.ref b12)])) _
    refine XS.iload X3.here hx rfl (hb hby at_151) rfl ?_
    show Steps p.tables e below (T3.setTop (mkF m 153 #[.val (.int p1), .val (.int p2), .val (.int p3), .val (.int (0 : Int32)), .val (.int (2 : Int32)), .val (.ref b1), .val (.ref b11), .val (.ref b12), .val (.ref b19), .unset, .unset, .unset, .unset] [(.int (2 : Int32)), (.ref b12)])) _
    refine st4 _ ?_
    exact k_
  have f7 := (q0_.keep Kc3 (ninS ne_b1_li nin0))
  have f8 := (f7.keep Kc4 (ninS ne_b1_b12 nin0))
  have f9 := (f2.keep Kc3 (ninS ne_b11_li nin0))
  have f10 := (f9.keep Kc4 (ninS ne_b11_b12 nin0))
  have f11 := (q3_.keep Kc3)
  have f12 := (f11.keep Kc4)
  have f13 := (q4_.keep Kc3 (ninS ne_b19_li nin0))
  have f14 := (f13.keep Kc4 (ninS (Ne.symm ne_b12_b19) nin0))
  have f15 := (q5_.keep Kc3 (ninS ne_b19_li nin0))
  have f16 := (f15.keep Kc4 (ninS (Ne.symm ne_b12_b19) nin0))
  have f17 := (q6_.keep Kc3 (ninS ne_b19_li nin0))
  have f18 := (f17.keep Kc4 (ninS (Ne.symm ne_b12_b19) nin0))
  have f19 := (q7_.keep Kc3 (ninS ne_b19_li nin0))
  have f20 := (f19.keep Kc4 (ninS (Ne.symm ne_b12_b19) nin0))
  have f21 := (q8_.keep Kc3 (ninS ne_en_li nin0))
  have f22 := (f21.keep Kc4 (ninS (Ne.symm ne_b12_en) nin0))
  have f23 := (Vl3_.keep Kc4 (ninS (Ne.symm ne_b12_li) nin0))
  obtain ⟨s2_, o_, hs_, h1_, h2_, v_, L_, h3_, hq_, h4_⟩ := pc156_6 l Z a0 hw ws p1 p2 p3 j7 j8 j9 b1 b11 b12 b19 en li k1 k11 k12 ke kl (0 : Int32) (2 : Int32) T4.heap n0 Bd hml hZ X4 rfl N4 Z4 O4 f8 f10 Vd4 f12 f14 f16 f18 f20 f22 f23 g_b1 g_b11 g_b12 g_b19 g_en g_li ne_b1_b11 ne_b1_b12 ne_b1_b19 ne_b1_en ne_b1_li ne_b11_b12 ne_b11_b19 ne_b11_en ne_b11_li ne_b12_b19 ne_b12_en ne_b12_li ne_b19_en ne_b19_li ne_en_li Ov_ Ej7 Ej8 Ej9
  exact ⟨s2_, o_, go6 _ hs_, h1_, h2_, v_, L_, h3_, hq_, h4_⟩
set_option maxRecDepth 65536 in
set_option maxHeartbeats 40000000 in
theorem pc124_0 (l : Launch) (Z : State) (a0 : Array Value) (hw : ∀ d ∈ tables_1, d.before a0 Z = true) (ws : List Jvm.Cond) (p1 : Int32) (p2 : Int32) (p3 : Int32) (j7 : Nat) (j8 : Nat) (j9 : Nat) (b1 : Nat) (b11 : Nat) (b12 : Nat) (b19 : Nat) (en : Nat) (li : Nat) (k1 : ClassId) (k11 : ClassId) (k12 : ClassId) (ke : ClassId) (kl : ClassId) (h0 : Heap) (n0 : Nat) {p : Program} {e : Env} {s : State} {m : MethodId} {below : List Frame} {meth : Method} {c : Code} {s₁ T0 : State} {locs : List Loc}
    (Bd : BodyLoose p l x (head1 (Jvm.Cond.code x code maxLocals ret :: ws) room_1) code maxLocals ret e s m #[(.int p1), (.int p2), (.int p3)] below meth c s₁) (hml : c.maxLocals = 13) (hZ : Z.Warmed39 s.vm) (X0 : Stand p l e room_1 s m #[(.int p1), (.int p2), (.int p3)] below meth c T0 locs 6 93) (e0 : T0.heap = h0) (N0 : Fr n0 locs) (Z0 : n0 ≤ h0.size) (O0 : Old Z n0 h0) (q0_ : Arv Z h0 b1 k1 (.object "java/lang/Integer") (3 : Int32) [(.ref j7), (.ref j8), (.ref j9)] .null) (q1_ : Arv Z h0 b11 k11 .int (3 : Int32) [(.int (1 : Int32)), (.int (2 : Int32)), (.int (3 : Int32))] (.int (0 : Int32))) (q2_ : Arv Z h0 b12 k12 .int (3 : Int32) [(.int (0 : Int32)), (.int (1 : Int32)), (.int (2 : Int32))] (.int (0 : Int32))) (q3_ : Exa Z h0 b19 "com/example/terrace/terrace/core/UseOrder") (q4_ : Fld Z h0 b19 "com/example/terrace/terrace/core/UseOrder" "entries" "[Ljava/lang/Object;" (.ref en)) (q5_ : Fld Z h0 b19 "com/example/terrace/terrace/core/UseOrder" "links" "[I" (.ref li)) (q6_ : Fld Z h0 b19 "com/example/terrace/terrace/core/UseOrder" "free" "I" (.int (0 : Int32))) (q7_ : Fld Z h0 b19 "com/example/terrace/terrace/core/UseOrder" "highest" "I" (.int (3 : Int32))) (q8_ : Arv Z h0 en ke (.object "java/lang/Object") (16 : Int32) (own_E (.ref j7) (.ref j8) (.ref j9)) .null) (q9_ : Arv Z h0 li kl .int (64 : Int32) (own_L 3 1 0 0 0 2 p3 0 1 3 p3 0 2 0 p3 0) (.int (0 : Int32))) (g_b1 : n0 ≤ b1) (g_b11 : n0 ≤ b11) (g_b12 : n0 ≤ b12) (g_b19 : n0 ≤ b19) (g_en : n0 ≤ en) (g_li : n0 ≤ li) (ne_b1_b11 : b1 ≠ b11) (ne_b1_b12 : b1 ≠ b12) (ne_b1_b19 : b1 ≠ b19) (ne_b1_en : b1 ≠ en) (ne_b1_li : b1 ≠ li) (ne_b11_b12 : b11 ≠ b12) (ne_b11_b19 : b11 ≠ b19) (ne_b11_en : b11 ≠ en) (ne_b11_li : b11 ≠ li) (ne_b12_b19 : b12 ≠ b19) (ne_b12_en : b12 ≠ en) (ne_b12_li : b12 ≠ li) (ne_b19_en : b19 ≠ en) (ne_b19_li : b19 ≠ li) (ne_en_li : en ≠ li) (Ov_ : Ovr Z ke "java/lang/Object") (Ej7 : Exa Z Z.heap j7 "java/lang/Integer") (Ej8 : Exa Z Z.heap j8 "java/lang/Integer") (Ej9 : Exa Z Z.heap j9 "java/lang/Integer") :
    ∃ s₂ o, Steps p.tables e below (T0.setTop (mkF m 124 #[.val (.int p1), .val (.int p2), .val (.int p3), .val (.int (0 : Int32)), .val (.int ((p2 &&& (2147483647 : Int32)) % (3 : Int32))), .val (.ref b1), .val (.ref b11), .val (.ref b12), .val (.ref b19), .unset, .unset, .unset, .unset] [])) s₂ ∧ s₂.status = .running ∧ Ended s₂ below o ∧ ∃ v L, o = .returned v ∧ (v = some (.int 1) ∧ Fr n0 L) ∧ FrameEnd s o s₂ L room_1.cells room_1.slots := by
  have hw_14 := hw _ (List.mem_of_getElem? (i := 14) rfl)
  have hw_41 := hw _ (List.mem_of_getElem? (i := 41) rfl)
  have hw_42 := hw _ (List.mem_of_getElem? (i := 42) rfl)
  have hw_43 := hw _ (List.mem_of_getElem? (i := 43) rfl)
  have hw_44 := hw _ (List.mem_of_getElem? (i := 44) rfl)
  have hw_45 := hw _ (List.mem_of_getElem? (i := 45) rfl)
  have hw_50 := hw _ (List.mem_of_getElem? (i := 50) rfl)
  have hw_51 := hw _ (List.mem_of_getElem? (i := 51) rfl)
  have hw_52 := hw _ (List.mem_of_getElem? (i := 52) rfl)
  have hw_53 := hw _ (List.mem_of_getElem? (i := 53) rfl)
  have hx := Bd.exec
  have hby := Bd.bytes
  have hown : s.vm.findClass "com/example/terrace/terrace/core/UseOrderUsePinLaw" = some m.cls := findClass_of_methodNamed Bd.named
  have hnm := (name_of_methodNamed Bd.named Bd.method).1
  have pre0 : ∀ t_, Steps p.tables e below (T0.setTop (mkF m 124 #[.val (.int p1), .val (.int p2), .val (.int p3), .val (.int (0 : Int32)), .val (.int ((p2 &&& (2147483647 : Int32)) % (3 : Int32))), .val (.ref b1), .val (.ref b11), .val (.ref b12), .val (.ref b19), .unset, .unset, .unset, .unset] [])) t_ → Steps p.tables e below (T0.setTop (mkF m 124 #[.val (.int p1), .val (.int p2), .val (.int p3), .val (.int (0 : Int32)), .val (.int ((p2 &&& (2147483647 : Int32)) % (3 : Int32))), .val (.ref b1), .val (.ref b11), .val (.ref b12), .val (.ref b19), .unset, .unset, .unset, .unset] [])) t_ := fun _ k_ => k_
  obtain ⟨cl1, Ar1, q1, S1, M1, H1, G1⟩ := q1_
  have f2 : Arv Z h0 b11 k11 .int (3 : Int32) [(.int (1 : Int32)), (.int (2 : Int32)), (.int (3 : Int32))] (.int (0 : Int32)) := ⟨cl1, Ar1, q1, S1, M1, H1, G1⟩
  have hin1 : ¬ ((0 : Int32) < 0 ∨ cl1.slots.size ≤ ((0 : Int32)).toNatClampNeg) := inb_of S1 ⟨by decide, by decide⟩
  have hat1 : cl1.slots[((0 : Int32)).toNatClampNeg]? = some (.int (1 : Int32)) := Has.at H1 hin1 rfl
  obtain ⟨cq3, kq3, q3a, q3b, q3c⟩ := isOf hZ e0 q3_
  obtain ⟨_, _, ⟨T3, L3, k3, n3⟩, -, X3, ⟨Lc3, hQ3, l3, y3, z3⟩, st3⟩ := X0.virtualBack hx (y := (⟨"com/example/terrace/terrace/core/UseOrder", "use", "(I)V"⟩ : MethodName)) (z := (⟨"com/example/terrace/terrace/core/UseOrder", "use", "(I)V"⟩ : MethodName)) hown (mvT hZ hw_41) (mvT hZ hw_42) (notFace_of_selects (args := #[]) (mvT hZ hw_44)) (mvT hZ hw_44) (mvT hZ hw_43) (by decide) (backOf (W := 0) (rmUse l Z a0 hw [] b19 li kl (own_L 3 1 0 0 0 2 p3 0 1 3 p3 0 2 0 p3 0) (1 : Int32) (3 : Int32) 4 13 (0 : Int32) (2 : Int32) 1 8 h0 n0 Z0 q5_ q9_ own_Ln rfl (by omega) ne_b19_li ⟨by decide, by decide⟩ rfl ⟨by decide, by decide⟩ rfl ⟨by decide, by decide⟩ rfl (by decide) (by decide) ⟨by decide, by decide⟩ ⟨by decide, by decide⟩ rfl rfl ⟨by decide, by decide⟩ rfl ⟨by decide, by decide⟩ rfl (by decide) (by decide) q3_ (by decide) (by decide) (by decide)) hZ hw_45 hw_14 (by decide) (by decide)) q3a q3c (g := (mkF m 130 #[.val (.int p1), .val (.int p2), .val (.int p3), .val (.int (0 : Int32)), .val (.int ((p2 &&& (2147483647 : Int32)) % (3 : Int32))), .val (.ref b1), .val (.ref b11), .val (.ref b12), .val (.ref b19), .unset, .unset, .unset, .unset] [(.int (1 : Int32)), (.ref b19)])) rfl (by rw [hml]; rfl) (Steps.refl _) (argsL := [(.int (1 : Int32))]) (rest := []) (lenOf pd_0 rfl) rfl (by show 2 * 0 + _ ≤ _; exact Nat.le_of_eq rfl) (hb hby at_130) (fun _ _ => ⟨rfl, e0, (by decide : 6 + 0 ≤ _), (by decide : 93 + 0 ≤ _)⟩)
  dsimp only [Pt.U, Pt.locs, Pt.cells, Pt.slots] at X3 l3 y3 z3 st3 hQ3
  subst l3 y3 z3
  obtain ⟨rfl, N3q, Kc3, Vc3⟩ := hQ3
  have N3 := Fr.app N0 N3q
  have sz3 : h0.size ≤ T3.heap.size := Kc3.1
  have Z3 : n0 ≤ T3.heap.size := Nat.le_trans Z0 sz3
  have O3 : Old Z n0 T3.heap := O0.keep Kc3 (allS (show n0 ≤ li by omega) all0)
  have Vl3_ : Arv Z T3.heap li kl .int (64 : Int32) (own_L 1 2 0 0 3 0 p3 0 0 3 p3 0 2 1 p3 0) (.int (0 : Int32)) := Vc3
  have f5 := (q2_.keep Kc3 (ninS ne_b12_li nin0))
  obtain ⟨_, _, ⟨T4, L4, k4, n4⟩, -, X4, ⟨Lc4, hQ4, l4, y4, z4⟩, st4⟩ := Jvm.LawKit.callS X3 hx (y := (⟨"com/example/terrace/terrace/core/UseOrderUsePinLaw", "moveToEnd", "([II)V"⟩ : MethodName)) hown (mvT hZ hw_50) (mvT hZ hw_51) (mvT hZ hw_52) (mvT hZ hw_53) (by decide) (backOf (W := 0) (rmMove l Z a0 hw [] b12 k12 (0 : Int32) (1 : Int32) (2 : Int32) (0 : Int32) T3.heap n0 Z3 f5 (by omega)) hZ hw_53 hw_52 (by decide) (by decide)) (g := (mkF m 136 #[.val (.int p1), .val (.int p2), .val (.int p3), .val (.int (0 : Int32)), .val (.int ((p2 &&& (2147483647 : Int32)) % (3 : Int32))), .val (.ref b1), .val (.ref b11), .val (.ref b12), .val (.ref b19), .unset, .unset, .unset, .unset] [(.int (0 : Int32)), (.ref b12)])) rfl (by rw [hml]; rfl) (argsL := [(.ref b12), (.int (0 : Int32))]) (rest := []) (lenOf pd_5 rfl) rfl (by show 2 * 0 + _ ≤ _; exact Nat.le_of_eq rfl) (hb hby at_136) (fun _ _ => ⟨rfl, rfl, (by decide : 6 + 0 ≤ _), (by decide : 93 + 0 ≤ _)⟩)
  dsimp only [Pt.U, Pt.locs, Pt.cells, Pt.slots] at X4 l4 y4 z4 st4 hQ4
  subst l4 y4 z4
  obtain ⟨rfl, N4q, Kc4, Vc4⟩ := hQ4
  have N4 := Fr.app N3 N4q
  have sz4 : T3.heap.size ≤ T4.heap.size := Kc4.1
  have Z4 : n0 ≤ T4.heap.size := Nat.le_trans Z3 sz4
  have O4 : Old Z n0 T4.heap := O3.keep Kc4 (allS (show n0 ≤ b12 by omega) all0)
  have Vd4 : Arv Z T4.heap b12 k12 .int (3 : Int32) [(.int (1 : Int32)), (.int (2 : Int32)), (.int (0 : Int32))] (.int (0 : Int32)) := Vc4
  have go6 : ∀ t_, Steps p.tables e below (T4.setTop (mkF m 139 #[.val (.int p1), .val (.int p2), .val (.int p3), .val (.int (0 : Int32)), .val (.int ((p2 &&& (2147483647 : Int32)) % (3 : Int32))), .val (.ref b1), .val (.ref b11), .val (.ref b12), .val (.ref b19), .unset, .unset, .unset, .unset] [])) t_ → Steps p.tables e below (T0.setTop (mkF m 124 #[.val (.int p1), .val (.int p2), .val (.int p3), .val (.int (0 : Int32)), .val (.int ((p2 &&& (2147483647 : Int32)) % (3 : Int32))), .val (.ref b1), .val (.ref b11), .val (.ref b12), .val (.ref b19), .unset, .unset, .unset, .unset] [])) t_ := by
    intro t_ k_
    refine pre0 t_ ?_
    show Steps p.tables e below (T0.setTop (mkF m 124 #[.val (.int p1), .val (.int p2), .val (.int p3), .val (.int (0 : Int32)), .val (.int ((p2 &&& (2147483647 : Int32)) % (3 : Int32))), .val (.ref b1), .val (.ref b11), .val (.ref b12), .val (.ref b19), .unset, .unset, .unset, .unset] [])) _
    refine XS.aload X0.here hx rfl (hb hby at_124) rfl rfl ?_
    show Steps p.tables e below (T0.setTop (mkF m 126 #[.val (.int p1), .val (.int p2), .val (.int p3), .val (.int (0 : Int32)), .val (.int ((p2 &&& (2147483647 : Int32)) % (3 : Int32))), .val (.ref b1), .val (.ref b11), .val (.ref b12), .val (.ref b19), .unset, .unset, .unset, .unset] [(.ref b19)])) _
    refine XS.aload X0.here hx rfl (hb hby at_126) rfl rfl ?_
    show Steps p.tables e below (T0.setTop (mkF m 128 #[.val (.int p1), .val (.int p2), .val (.int p3), .val (.int (0 : Int32)), .val (.int ((p2 &&& (2147483647 : Int32)) % (3 : Int32))), .val (.ref b1), .val (.ref b11), .val (.ref b12), .val (.ref b19), .unset, .unset, .unset, .unset] [(.ref b11), (.ref b19)])) _
    refine XS.iloadN X0.here hx rfl (hb hby at_128) rfl ?_
    show Steps p.tables e below (T0.setTop (mkF m 129 #[.val (.int p1), .val (.int p2), .val (.int p3), .val (.int (0 : Int32)), .val (.int ((p2 &&& (2147483647 : Int32)) % (3 : Int32))), .val (.ref b1), .val (.ref b11), .val (.ref b12), .val (.ref b19), .unset, .unset, .unset, .unset] [(.int (0 : Int32)), (.ref b11), (.ref b19)])) _
    refine X0.iaload hx (j := (0 : Int32)) (v := (.int (1 : Int32))) (by rw [e0]; exact Ar1.1) (State.isArrayOf_alike hZ.alike Ar1.2.1) Ar1.2.2 hin1 hat1 (g := (mkF m 129 #[.val (.int p1), .val (.int p2), .val (.int p3), .val (.int (0 : Int32)), .val (.int ((p2 &&& (2147483647 : Int32)) % (3 : Int32))), .val (.ref b1), .val (.ref b11), .val (.ref b12), .val (.ref b19), .unset, .unset, .unset, .unset] [(.int (0 : Int32)), (.ref b11), (.ref b19)])) rfl rfl (hb hby at_129) _ ?_
    show Steps p.tables e below (T0.setTop (mkF m 130 #[.val (.int p1), .val (.int p2), .val (.int p3), .val (.int (0 : Int32)), .val (.int ((p2 &&& (2147483647 : Int32)) % (3 : Int32))), .val (.ref b1), .val (.ref b11), .val (.ref b12), .val (.ref b19), .unset, .unset, .unset, .unset] [(.int (1 : Int32)), (.ref b19)])) _
    refine st3.trans ?_
    show Steps p.tables e below (T3.setTop (mkF m 133 #[.val (.int p1), .val (.int p2), .val (.int p3), .val (.int (0 : Int32)), .val (.int ((p2 &&& (2147483647 : Int32)) % (3 : Int32))), .val (.ref b1), .val (.ref b11), .val (.ref b12), .val (.ref b19), .unset, .unset, .unset, .unset] [])) _
    refine XS.aload X3.here hx rfl (hb hby at_133) rfl rfl ?_
    show Steps p.tables e below (T3.setTop (mkF m 135 #[.val (.int p1), .val (.int p2), .val (.int p3), .val (.int (0 : Int32)), .val (.int ((p2 &&& (2147483647 : Int32)) % (3 : Int32))), .val (.ref b1), .val (.ref b11), .val (.ref b12), .val (.ref b19), .unset, .unset, .unset, .unset] [(.ref b12)])) _
    refine XS.iloadN X3.here hx rfl (hb hby at_135) rfl ?_
    show Steps p.tables e below (T3.setTop (mkF m 136 #[.val (.int p1), .val (.int p2), .val (.int p3), .val (.int (0 : Int32)), .val (.int ((p2 &&& (2147483647 : Int32)) % (3 : Int32))), .val (.ref b1), .val (.ref b11), .val (.ref b12), .val (.ref b19), .unset, .unset, .unset, .unset] [(.int (0 : Int32)), (.ref b12)])) _
    refine st4 _ ?_
    exact k_
  rcases (own_mod3 p2) with hk7 | hk7 | hk7
  · skip
    have go8 : ∀ t_, Steps p.tables e below (T4.setTop (mkF m 139 #[.val (.int p1), .val (.int p2), .val (.int p3), .val (.int (0 : Int32)), .val (.int (0 : Int32)), .val (.ref b1), .val (.ref b11), .val (.ref b12), .val (.ref b19), .unset, .unset, .unset, .unset] [])) t_ → Steps p.tables e below (T0.setTop (mkF m 124 #[.val (.int p1), .val (.int p2), .val (.int p3), .val (.int (0 : Int32)), .val (.int ((p2 &&& (2147483647 : Int32)) % (3 : Int32))), .val (.ref b1), .val (.ref b11), .val (.ref b12), .val (.ref b19), .unset, .unset, .unset, .unset] [])) t_ := by
      intro t_ k_
      refine go6 t_ ?_
      rw [hk7]
      exact k_
    have f9 := (q0_.keep Kc3 (ninS ne_b1_li nin0))
    have f10 := (f9.keep Kc4 (ninS ne_b1_b12 nin0))
    have f11 := (f2.keep Kc3 (ninS ne_b11_li nin0))
    have f12 := (f11.keep Kc4 (ninS ne_b11_b12 nin0))
    have f13 := (q3_.keep Kc3)
    have f14 := (f13.keep Kc4)
    have f15 := (q4_.keep Kc3 (ninS ne_b19_li nin0))
    have f16 := (f15.keep Kc4 (ninS (Ne.symm ne_b12_b19) nin0))
    have f17 := (q5_.keep Kc3 (ninS ne_b19_li nin0))
    have f18 := (f17.keep Kc4 (ninS (Ne.symm ne_b12_b19) nin0))
    have f19 := (q6_.keep Kc3 (ninS ne_b19_li nin0))
    have f20 := (f19.keep Kc4 (ninS (Ne.symm ne_b12_b19) nin0))
    have f21 := (q7_.keep Kc3 (ninS ne_b19_li nin0))
    have f22 := (f21.keep Kc4 (ninS (Ne.symm ne_b12_b19) nin0))
    have f23 := (q8_.keep Kc3 (ninS ne_en_li nin0))
    have f24 := (f23.keep Kc4 (ninS (Ne.symm ne_b12_en) nin0))
    have f25 := (Vl3_.keep Kc4 (ninS (Ne.symm ne_b12_li) nin0))
    obtain ⟨s2_, o_, hs_, h1_, h2_, v_, L_, h3_, hq_, h4_⟩ := pc139_1 l Z a0 hw ws p1 p2 p3 j7 j8 j9 b1 b11 b12 b19 en li k1 k11 k12 ke kl T4.heap n0 Bd hml hZ X4 rfl N4 Z4 O4 f10 f12 Vd4 f14 f16 f18 f20 f22 f24 f25 g_b1 g_b11 g_b12 g_b19 g_en g_li ne_b1_b11 ne_b1_b12 ne_b1_b19 ne_b1_en ne_b1_li ne_b11_b12 ne_b11_b19 ne_b11_en ne_b11_li ne_b12_b19 ne_b12_en ne_b12_li ne_b19_en ne_b19_li ne_en_li Ov_ Ej7 Ej8 Ej9
    exact ⟨s2_, o_, go8 _ hs_, h1_, h2_, v_, L_, h3_, hq_, h4_⟩
  · skip
    have go26 : ∀ t_, Steps p.tables e below (T4.setTop (mkF m 139 #[.val (.int p1), .val (.int p2), .val (.int p3), .val (.int (0 : Int32)), .val (.int (1 : Int32)), .val (.ref b1), .val (.ref b11), .val (.ref b12), .val (.ref b19), .unset, .unset, .unset, .unset] [])) t_ → Steps p.tables e below (T0.setTop (mkF m 124 #[.val (.int p1), .val (.int p2), .val (.int p3), .val (.int (0 : Int32)), .val (.int ((p2 &&& (2147483647 : Int32)) % (3 : Int32))), .val (.ref b1), .val (.ref b11), .val (.ref b12), .val (.ref b19), .unset, .unset, .unset, .unset] [])) t_ := by
      intro t_ k_
      refine go6 t_ ?_
      rw [hk7]
      exact k_
    have f27 := (q0_.keep Kc3 (ninS ne_b1_li nin0))
    have f28 := (f27.keep Kc4 (ninS ne_b1_b12 nin0))
    have f29 := (f2.keep Kc3 (ninS ne_b11_li nin0))
    have f30 := (f29.keep Kc4 (ninS ne_b11_b12 nin0))
    have f31 := (q3_.keep Kc3)
    have f32 := (f31.keep Kc4)
    have f33 := (q4_.keep Kc3 (ninS ne_b19_li nin0))
    have f34 := (f33.keep Kc4 (ninS (Ne.symm ne_b12_b19) nin0))
    have f35 := (q5_.keep Kc3 (ninS ne_b19_li nin0))
    have f36 := (f35.keep Kc4 (ninS (Ne.symm ne_b12_b19) nin0))
    have f37 := (q6_.keep Kc3 (ninS ne_b19_li nin0))
    have f38 := (f37.keep Kc4 (ninS (Ne.symm ne_b12_b19) nin0))
    have f39 := (q7_.keep Kc3 (ninS ne_b19_li nin0))
    have f40 := (f39.keep Kc4 (ninS (Ne.symm ne_b12_b19) nin0))
    have f41 := (q8_.keep Kc3 (ninS ne_en_li nin0))
    have f42 := (f41.keep Kc4 (ninS (Ne.symm ne_b12_en) nin0))
    have f43 := (Vl3_.keep Kc4 (ninS (Ne.symm ne_b12_li) nin0))
    obtain ⟨s2_, o_, hs_, h1_, h2_, v_, L_, h3_, hq_, h4_⟩ := pc139_3 l Z a0 hw ws p1 p2 p3 j7 j8 j9 b1 b11 b12 b19 en li k1 k11 k12 ke kl T4.heap n0 Bd hml hZ X4 rfl N4 Z4 O4 f28 f30 Vd4 f32 f34 f36 f38 f40 f42 f43 g_b1 g_b11 g_b12 g_b19 g_en g_li ne_b1_b11 ne_b1_b12 ne_b1_b19 ne_b1_en ne_b1_li ne_b11_b12 ne_b11_b19 ne_b11_en ne_b11_li ne_b12_b19 ne_b12_en ne_b12_li ne_b19_en ne_b19_li ne_en_li Ov_ Ej7 Ej8 Ej9
    exact ⟨s2_, o_, go26 _ hs_, h1_, h2_, v_, L_, h3_, hq_, h4_⟩
  · skip
    have go44 : ∀ t_, Steps p.tables e below (T4.setTop (mkF m 139 #[.val (.int p1), .val (.int p2), .val (.int p3), .val (.int (0 : Int32)), .val (.int (2 : Int32)), .val (.ref b1), .val (.ref b11), .val (.ref b12), .val (.ref b19), .unset, .unset, .unset, .unset] [])) t_ → Steps p.tables e below (T0.setTop (mkF m 124 #[.val (.int p1), .val (.int p2), .val (.int p3), .val (.int (0 : Int32)), .val (.int ((p2 &&& (2147483647 : Int32)) % (3 : Int32))), .val (.ref b1), .val (.ref b11), .val (.ref b12), .val (.ref b19), .unset, .unset, .unset, .unset] [])) t_ := by
      intro t_ k_
      refine go6 t_ ?_
      rw [hk7]
      exact k_
    have f45 := (q0_.keep Kc3 (ninS ne_b1_li nin0))
    have f46 := (f45.keep Kc4 (ninS ne_b1_b12 nin0))
    have f47 := (f2.keep Kc3 (ninS ne_b11_li nin0))
    have f48 := (f47.keep Kc4 (ninS ne_b11_b12 nin0))
    have f49 := (q3_.keep Kc3)
    have f50 := (f49.keep Kc4)
    have f51 := (q4_.keep Kc3 (ninS ne_b19_li nin0))
    have f52 := (f51.keep Kc4 (ninS (Ne.symm ne_b12_b19) nin0))
    have f53 := (q5_.keep Kc3 (ninS ne_b19_li nin0))
    have f54 := (f53.keep Kc4 (ninS (Ne.symm ne_b12_b19) nin0))
    have f55 := (q6_.keep Kc3 (ninS ne_b19_li nin0))
    have f56 := (f55.keep Kc4 (ninS (Ne.symm ne_b12_b19) nin0))
    have f57 := (q7_.keep Kc3 (ninS ne_b19_li nin0))
    have f58 := (f57.keep Kc4 (ninS (Ne.symm ne_b12_b19) nin0))
    have f59 := (q8_.keep Kc3 (ninS ne_en_li nin0))
    have f60 := (f59.keep Kc4 (ninS (Ne.symm ne_b12_en) nin0))
    have f61 := (Vl3_.keep Kc4 (ninS (Ne.symm ne_b12_li) nin0))
    obtain ⟨s2_, o_, hs_, h1_, h2_, v_, L_, h3_, hq_, h4_⟩ := pc139_5 l Z a0 hw ws p1 p2 p3 j7 j8 j9 b1 b11 b12 b19 en li k1 k11 k12 ke kl T4.heap n0 Bd hml hZ X4 rfl N4 Z4 O4 f46 f48 Vd4 f50 f52 f54 f56 f58 f60 f61 g_b1 g_b11 g_b12 g_b19 g_en g_li ne_b1_b11 ne_b1_b12 ne_b1_b19 ne_b1_en ne_b1_li ne_b11_b12 ne_b11_b19 ne_b11_en ne_b11_li ne_b12_b19 ne_b12_en ne_b12_li ne_b19_en ne_b19_li ne_en_li Ov_ Ej7 Ej8 Ej9
    exact ⟨s2_, o_, go44 _ hs_, h1_, h2_, v_, L_, h3_, hq_, h4_⟩
set_option maxRecDepth 65536 in
set_option maxHeartbeats 40000000 in
theorem pc156_9 (l : Launch) (Z : State) (a0 : Array Value) (hw : ∀ d ∈ tables_1, d.before a0 Z = true) (ws : List Jvm.Cond) (p1 : Int32) (p2 : Int32) (p3 : Int32) (j7 : Nat) (j8 : Nat) (j9 : Nat) (b1 : Nat) (b11 : Nat) (b12 : Nat) (b19 : Nat) (en : Nat) (li : Nat) (k1 : ClassId) (k11 : ClassId) (k12 : ClassId) (ke : ClassId) (kl : ClassId) (z3 : Int32) (z4 : Int32) (h0 : Heap) (n0 : Nat) {p : Program} {e : Env} {s : State} {m : MethodId} {below : List Frame} {meth : Method} {c : Code} {s₁ T0 : State} {locs : List Loc}
    (Bd : BodyLoose p l x (head1 (Jvm.Cond.code x code maxLocals ret :: ws) room_1) code maxLocals ret e s m #[(.int p1), (.int p2), (.int p3)] below meth c s₁) (hml : c.maxLocals = 13) (hZ : Z.Warmed39 s.vm) (X0 : Stand p l e room_1 s m #[(.int p1), (.int p2), (.int p3)] below meth c T0 locs 6 93) (e0 : T0.heap = h0) (N0 : Fr n0 locs) (Z0 : n0 ≤ h0.size) (O0 : Old Z n0 h0) (q0_ : Arv Z h0 b1 k1 (.object "java/lang/Integer") (3 : Int32) [(.ref j7), (.ref j8), (.ref j9)] .null) (q1_ : Arv Z h0 b11 k11 .int (3 : Int32) [(.int (1 : Int32)), (.int (2 : Int32)), (.int (3 : Int32))] (.int (0 : Int32))) (q2_ : Arv Z h0 b12 k12 .int (3 : Int32) [(.int (2 : Int32)), (.int (1 : Int32)), (.int (0 : Int32))] (.int (0 : Int32))) (q3_ : Exa Z h0 b19 "com/example/terrace/terrace/core/UseOrder") (q4_ : Fld Z h0 b19 "com/example/terrace/terrace/core/UseOrder" "entries" "[Ljava/lang/Object;" (.ref en)) (q5_ : Fld Z h0 b19 "com/example/terrace/terrace/core/UseOrder" "links" "[I" (.ref li)) (q6_ : Fld Z h0 b19 "com/example/terrace/terrace/core/UseOrder" "free" "I" (.int (0 : Int32))) (q7_ : Fld Z h0 b19 "com/example/terrace/terrace/core/UseOrder" "highest" "I" (.int (3 : Int32))) (q8_ : Arv Z h0 en ke (.object "java/lang/Object") (16 : Int32) (own_E (.ref j7) (.ref j8) (.ref j9)) .null) (q9_ : Arv Z h0 li kl .int (64 : Int32) (own_L 1 3 0 0 2 0 p3 0 3 1 p3 0 0 2 p3 0) (.int (0 : Int32))) (g_b1 : n0 ≤ b1) (g_b11 : n0 ≤ b11) (g_b12 : n0 ≤ b12) (g_b19 : n0 ≤ b19) (g_en : n0 ≤ en) (g_li : n0 ≤ li) (ne_b1_b11 : b1 ≠ b11) (ne_b1_b12 : b1 ≠ b12) (ne_b1_b19 : b1 ≠ b19) (ne_b1_en : b1 ≠ en) (ne_b1_li : b1 ≠ li) (ne_b11_b12 : b11 ≠ b12) (ne_b11_b19 : b11 ≠ b19) (ne_b11_en : b11 ≠ en) (ne_b11_li : b11 ≠ li) (ne_b12_b19 : b12 ≠ b19) (ne_b12_en : b12 ≠ en) (ne_b12_li : b12 ≠ li) (ne_b19_en : b19 ≠ en) (ne_b19_li : b19 ≠ li) (ne_en_li : en ≠ li) (Ov_ : Ovr Z ke "java/lang/Object") (Ej7 : Exa Z Z.heap j7 "java/lang/Integer") (Ej8 : Exa Z Z.heap j8 "java/lang/Integer") (Ej9 : Exa Z Z.heap j9 "java/lang/Integer") :
    ∃ s₂ o, Steps p.tables e below (T0.setTop (mkF m 156 #[.val (.int p1), .val (.int p2), .val (.int p3), .val (.int z3), .val (.int z4), .val (.ref b1), .val (.ref b11), .val (.ref b12), .val (.ref b19), .unset, .unset, .unset, .unset] [])) s₂ ∧ s₂.status = .running ∧ Ended s₂ below o ∧ ∃ v L, o = .returned v ∧ (v = some (.int 1) ∧ Fr n0 L) ∧ FrameEnd s o s₂ L room_1.cells room_1.slots := by
  have hw_1 := hw _ (List.mem_of_getElem? (i := 1) rfl)
  have hw_14 := hw _ (List.mem_of_getElem? (i := 14) rfl)
  have hw_54 := hw _ (List.mem_of_getElem? (i := 54) rfl)
  have hw_55 := hw _ (List.mem_of_getElem? (i := 55) rfl)
  have hw_56 := hw _ (List.mem_of_getElem? (i := 56) rfl)
  have hw_57 := hw _ (List.mem_of_getElem? (i := 57) rfl)
  have hw_58 := hw _ (List.mem_of_getElem? (i := 58) rfl)
  have hw_63 := hw _ (List.mem_of_getElem? (i := 63) rfl)
  have hw_64 := hw _ (List.mem_of_getElem? (i := 64) rfl)
  have hw_65 := hw _ (List.mem_of_getElem? (i := 65) rfl)
  have hw_66 := hw _ (List.mem_of_getElem? (i := 66) rfl)
  have hw_67 := hw _ (List.mem_of_getElem? (i := 67) rfl)
  have hx := Bd.exec
  have hby := Bd.bytes
  have hown : s.vm.findClass "com/example/terrace/terrace/core/UseOrderUsePinLaw" = some m.cls := findClass_of_methodNamed Bd.named
  have hnm := (name_of_methodNamed Bd.named Bd.method).1
  have pre0 : ∀ t_, Steps p.tables e below (T0.setTop (mkF m 156 #[.val (.int p1), .val (.int p2), .val (.int p3), .val (.int z3), .val (.int z4), .val (.ref b1), .val (.ref b11), .val (.ref b12), .val (.ref b19), .unset, .unset, .unset, .unset] [])) t_ → Steps p.tables e below (T0.setTop (mkF m 156 #[.val (.int p1), .val (.int p2), .val (.int p3), .val (.int z3), .val (.int z4), .val (.ref b1), .val (.ref b11), .val (.ref b12), .val (.ref b19), .unset, .unset, .unset, .unset] [])) t_ := fun _ k_ => k_
  obtain ⟨cq1, kq1, q1a, q1b, q1c⟩ := isOf hZ e0 q3_
  obtain ⟨_, _, ⟨T1, L1, k1, n1⟩, -, X1, ⟨Lc1, hQ1, l1, y1, z1⟩, st1⟩ := X0.virtualBack hx (y := (⟨"com/example/terrace/terrace/core/UseOrder", "leastRecent", "()Ljava/lang/Object;"⟩ : MethodName)) (z := (⟨"com/example/terrace/terrace/core/UseOrder", "leastRecent", "()Ljava/lang/Object;"⟩ : MethodName)) hown (mvT hZ hw_54) (mvT hZ hw_55) (notFace_of_selects (args := #[]) (mvT hZ hw_57)) (mvT hZ hw_57) (mvT hZ hw_56) (by decide) (backOf (W := 0) (rmLeast l Z a0 hw [] b19 li kl (own_L 1 3 0 0 2 0 p3 0 3 1 p3 0 0 2 p3 0) en ke (own_E (.ref j7) (.ref j8) (.ref j9)) j9 (3 : Int32) h0 n0 Z0 q5_ q9_ q4_ q8_ q3_ rfl ⟨by decide, by decide⟩ rfl) hZ hw_58 hw_14 (by decide) (by decide)) q1a q1c (g := (mkF m 158 #[.val (.int p1), .val (.int p2), .val (.int p3), .val (.int z3), .val (.int z4), .val (.ref b1), .val (.ref b11), .val (.ref b12), .val (.ref b19), .unset, .unset, .unset, .unset] [(.ref b19)])) rfl (by rw [hml]; rfl) (Steps.refl _) (argsL := []) (rest := []) (lenOf pd_6 rfl) rfl (by show 2 * 0 + _ ≤ _; exact Nat.le_of_eq rfl) (hb hby at_158) (fun _ _ => ⟨rfl, e0, (by decide : 6 + 0 ≤ _), (by decide : 93 + 0 ≤ _)⟩)
  dsimp only [Pt.U, Pt.locs, Pt.cells, Pt.slots] at X1 l1 y1 z1 st1 hQ1
  subst l1 y1 z1
  obtain ⟨rfl, N1q, e1⟩ := hQ1
  have N1 := Fr.app N0 N1q
  obtain ⟨T2, X2, e2, st2⟩ := castY X1 hx hZ hown hw_1 e1 (Ins.self (Ej9.ext O0.2)) (g := (mkF m 161 #[.val (.int p1), .val (.int p2), .val (.int p3), .val (.int z3), .val (.int z4), .val (.ref b1), .val (.ref b11), .val (.ref b12), .val (.ref b19), .unset, .unset, .unset, .unset] [(.ref j9)])) rfl rfl (hb hby at_161)
  obtain ⟨cl3, Ar3, q3, S3, M3, H3, G3⟩ := q2_
  have f4 : Arv Z h0 b12 k12 .int (3 : Int32) [(.int (2 : Int32)), (.int (1 : Int32)), (.int (0 : Int32))] (.int (0 : Int32)) := ⟨cl3, Ar3, q3, S3, M3, H3, G3⟩
  have hin3 : ¬ ((0 : Int32) < 0 ∨ cl3.slots.size ≤ ((0 : Int32)).toNatClampNeg) := inb_of S3 ⟨by decide, by decide⟩
  have hat3 : cl3.slots[((0 : Int32)).toNatClampNeg]? = some (.int (2 : Int32)) := Has.at H3 hin3 rfl
  obtain ⟨cl5, Ar5, q5, S5, M5, H5, G5⟩ := q0_
  have f6 : Arv Z h0 b1 k1 (.object "java/lang/Integer") (3 : Int32) [(.ref j7), (.ref j8), (.ref j9)] .null := ⟨cl5, Ar5, q5, S5, M5, H5, G5⟩
  have hin5 : ¬ ((2 : Int32) < 0 ∨ cl5.slots.size ≤ ((2 : Int32)).toNatClampNeg) := inb_of S5 ⟨by decide, by decide⟩
  have hat5 : cl5.slots[((2 : Int32)).toNatClampNeg]? = some (.ref j9) := Has.at H5 hin5 rfl
  obtain ⟨cl7, Ar7, q7, S7, M7, H7, G7⟩ := f4
  have f8 : Arv Z h0 b12 k12 .int (3 : Int32) [(.int (2 : Int32)), (.int (1 : Int32)), (.int (0 : Int32))] (.int (0 : Int32)) := ⟨cl7, Ar7, q7, S7, M7, H7, G7⟩
  have hin7 : ¬ ((0 : Int32) < 0 ∨ cl7.slots.size ≤ ((0 : Int32)).toNatClampNeg) := inb_of S7 ⟨by decide, by decide⟩
  have hat7 : cl7.slots[((0 : Int32)).toNatClampNeg]? = some (.int (2 : Int32)) := Has.at H7 hin7 rfl
  obtain ⟨cl9, Ar9, q9, S9, M9, H9, G9⟩ := q1_
  have f10 : Arv Z h0 b11 k11 .int (3 : Int32) [(.int (1 : Int32)), (.int (2 : Int32)), (.int (3 : Int32))] (.int (0 : Int32)) := ⟨cl9, Ar9, q9, S9, M9, H9, G9⟩
  have hin9 : ¬ ((2 : Int32) < 0 ∨ cl9.slots.size ≤ ((2 : Int32)).toNatClampNeg) := inb_of S9 ⟨by decide, by decide⟩
  have hat9 : cl9.slots[((2 : Int32)).toNatClampNeg]? = some (.int (3 : Int32)) := Has.at H9 hin9 rfl
  obtain ⟨cq11, kq11, q11a, q11b, q11c⟩ := isOf hZ e2 q3_
  obtain ⟨_, _, ⟨T11, L11, k11, n11⟩, -, X11, ⟨Lc11, hQ11, l11, y11, z11⟩, st11⟩ := X2.virtualBack hx (y := (⟨"com/example/terrace/terrace/core/UseOrder", "remove", "(I)V"⟩ : MethodName)) (z := (⟨"com/example/terrace/terrace/core/UseOrder", "remove", "(I)V"⟩ : MethodName)) hown (mvT hZ hw_63) (mvT hZ hw_64) (notFace_of_selects (args := #[]) (mvT hZ hw_66)) (mvT hZ hw_66) (mvT hZ hw_65) (by decide) (backOf (W := 0) (rmRem l Z a0 hw [] b19 li kl (own_L 1 3 0 0 2 0 p3 0 3 1 p3 0 0 2 p3 0) en ke (own_E (.ref j7) (.ref j8) (.ref j9)) (3 : Int32) (0 : Int32) 12 3 (0 : Int32) (2 : Int32) 1 8 h0 n0 Z0 q5_ q9_ own_Ln ⟨by decide, by decide⟩ ⟨by decide, by decide⟩ rfl rfl ⟨by decide, by decide⟩ rfl ⟨by decide, by decide⟩ rfl (by decide) (by decide) (by omega) ne_b19_li q3_ q4_ q8_ own_En (by omega) (by omega) q6_ ne_en_li ne_b19_en ⟨by decide, by decide⟩ rfl ⟨by decide, by decide⟩ rfl ⟨by decide, by decide⟩ rfl (by decide) (by decide)) hZ hw_67 hw_14 (by decide) (by decide)) q11a q11c (g := (mkF m 194 #[.val (.int p1), .val (.int p2), .val (.int p3), .val (.int z3), .val (.int z4), .val (.ref b1), .val (.ref b11), .val (.ref b12), .val (.ref b19), .val (.ref j9), .val (.int (1 : Int32)), .unset, .unset] [(.int (3 : Int32)), (.ref b19)])) rfl (by rw [hml]; rfl) (Steps.refl _) (argsL := [(.int (3 : Int32))]) (rest := []) (lenOf pd_0 rfl) rfl (by show 2 * 0 + _ ≤ _; exact Nat.le_of_eq rfl) (hb hby at_194) (fun _ _ => ⟨rfl, e2, (by decide : 6 + 0 ≤ _), (by decide : 93 + 0 ≤ _)⟩)
  dsimp only [Pt.U, Pt.locs, Pt.cells, Pt.slots] at X11 l11 y11 z11 st11 hQ11
  subst l11 y11 z11
  obtain ⟨rfl, N11q, Kc11, c0_11, c1_11, c2_11, c3_11, c4_11, c5_11⟩ := hQ11
  have N11 := Fr.app N1 N11q
  have sz11 : h0.size ≤ T11.heap.size := Kc11.1
  have Z11 : n0 ≤ T11.heap.size := Nat.le_trans Z0 sz11
  have O11 : Old Z n0 T11.heap := O0.keep Kc11 (allS (show n0 ≤ b19 by omega) (allS (show n0 ≤ li by omega) (allS (show n0 ≤ en by omega) all0)))
  have Vl11_ : Arv Z T11.heap li kl .int (64 : Int32) (own_L 1 2 0 0 2 0 p3 0 0 1 p3 0 0 (-1) p3 0) (.int (0 : Int32)) := c4_11
  have Ve11_ : Arv Z T11.heap en ke (.object "java/lang/Object") (16 : Int32) (own_E (.ref j7) (.ref j8) .null) .null := c5_11
  obtain ⟨cq12, kq12, q12a, q12b, q12c⟩ := isOf hZ rfl c0_11
  obtain ⟨_, _, ⟨T12, L12, k12, n12⟩, -, X12, ⟨Lc12, hQ12, l12, y12, z12⟩, st12⟩ := X11.virtualBack hx (y := (⟨"com/example/terrace/terrace/core/UseOrder", "leastRecent", "()Ljava/lang/Object;"⟩ : MethodName)) (z := (⟨"com/example/terrace/terrace/core/UseOrder", "leastRecent", "()Ljava/lang/Object;"⟩ : MethodName)) hown (mvT hZ hw_54) (mvT hZ hw_55) (notFace_of_selects (args := #[]) (mvT hZ hw_57)) (mvT hZ hw_57) (mvT hZ hw_56) (by decide) (backOf (W := 0) (rmLeast l Z a0 hw [] b19 li kl (own_L 1 2 0 0 2 0 p3 0 0 1 p3 0 0 (-1) p3 0) en ke (own_E (.ref j7) (.ref j8) .null) j8 (2 : Int32) T11.heap n0 Z11 c1_11 Vl11_ c2_11 Ve11_ c0_11 rfl ⟨by decide, by decide⟩ rfl) hZ hw_58 hw_14 (by decide) (by decide)) q12a q12c (g := (mkF m 199 #[.val (.int p1), .val (.int p2), .val (.int p3), .val (.int z3), .val (.int z4), .val (.ref b1), .val (.ref b11), .val (.ref b12), .val (.ref b19), .val (.ref j9), .val (.int (1 : Int32)), .unset, .unset] [(.ref b19)])) rfl (by rw [hml]; rfl) (Steps.refl _) (argsL := []) (rest := []) (lenOf pd_6 rfl) rfl (by show 2 * 0 + _ ≤ _; exact Nat.le_of_eq rfl) (hb hby at_199) (fun _ _ => ⟨rfl, rfl, (by decide : 6 + 0 ≤ _), (by decide : 93 + 0 ≤ _)⟩)
  dsimp only [Pt.U, Pt.locs, Pt.cells, Pt.slots] at X12 l12 y12 z12 st12 hQ12
  subst l12 y12 z12
  obtain ⟨rfl, N12q, e12⟩ := hQ12
  have N12 := Fr.app N11 N12q
  obtain ⟨T13, X13, e13, st13⟩ := castY X12 hx hZ hown hw_1 e12 (Ins.self (Ej8.ext O11.2)) (g := (mkF m 202 #[.val (.int p1), .val (.int p2), .val (.int p3), .val (.int z3), .val (.int z4), .val (.ref b1), .val (.ref b11), .val (.ref b12), .val (.ref b19), .val (.ref j9), .val (.int (1 : Int32)), .unset, .unset] [(.ref j8)])) rfl rfl (hb hby at_202)
  have f14 := (f8.keep Kc11 (ninS ne_b12_b19 (ninS ne_b12_li (ninS ne_b12_en nin0))))
  obtain ⟨cl15, Ar15, q15, S15, M15, H15, G15⟩ := f14
  have f16 : Arv Z T11.heap b12 k12 .int (3 : Int32) [(.int (2 : Int32)), (.int (1 : Int32)), (.int (0 : Int32))] (.int (0 : Int32)) := ⟨cl15, Ar15, q15, S15, M15, H15, G15⟩
  have hin15 : ¬ ((1 : Int32) < 0 ∨ cl15.slots.size ≤ ((1 : Int32)).toNatClampNeg) := inb_of S15 ⟨by decide, by decide⟩
  have hat15 : cl15.slots[((1 : Int32)).toNatClampNeg]? = some (.int (1 : Int32)) := Has.at H15 hin15 rfl
  have f17 := (f6.keep Kc11 (ninS ne_b1_b19 (ninS ne_b1_li (ninS ne_b1_en nin0))))
  obtain ⟨cl18, Ar18, q18, S18, M18, H18, G18⟩ := f17
  have f19 : Arv Z T11.heap b1 k1 (.object "java/lang/Integer") (3 : Int32) [(.ref j7), (.ref j8), (.ref j9)] .null := ⟨cl18, Ar18, q18, S18, M18, H18, G18⟩
  have hin18 : ¬ ((1 : Int32) < 0 ∨ cl18.slots.size ≤ ((1 : Int32)).toNatClampNeg) := inb_of S18 ⟨by decide, by decide⟩
  have hat18 : cl18.slots[((1 : Int32)).toNatClampNeg]? = some (.ref j8) := Has.at H18 hin18 rfl
  obtain ⟨cl20, Ar20, q20, S20, M20, H20, G20⟩ := f16
  have f21 : Arv Z T11.heap b12 k12 .int (3 : Int32) [(.int (2 : Int32)), (.int (1 : Int32)), (.int (0 : Int32))] (.int (0 : Int32)) := ⟨cl20, Ar20, q20, S20, M20, H20, G20⟩
  have hin20 : ¬ ((1 : Int32) < 0 ∨ cl20.slots.size ≤ ((1 : Int32)).toNatClampNeg) := inb_of S20 ⟨by decide, by decide⟩
  have hat20 : cl20.slots[((1 : Int32)).toNatClampNeg]? = some (.int (1 : Int32)) := Has.at H20 hin20 rfl
  have f22 := (f10.keep Kc11 (ninS ne_b11_b19 (ninS ne_b11_li (ninS ne_b11_en nin0))))
  obtain ⟨cl23, Ar23, q23, S23, M23, H23, G23⟩ := f22
  have f24 : Arv Z T11.heap b11 k11 .int (3 : Int32) [(.int (1 : Int32)), (.int (2 : Int32)), (.int (3 : Int32))] (.int (0 : Int32)) := ⟨cl23, Ar23, q23, S23, M23, H23, G23⟩
  have hin23 : ¬ ((1 : Int32) < 0 ∨ cl23.slots.size ≤ ((1 : Int32)).toNatClampNeg) := inb_of S23 ⟨by decide, by decide⟩
  have hat23 : cl23.slots[((1 : Int32)).toNatClampNeg]? = some (.int (2 : Int32)) := Has.at H23 hin23 rfl
  obtain ⟨cq25, kq25, q25a, q25b, q25c⟩ := isOf hZ e13 c0_11
  obtain ⟨_, _, ⟨T25, L25, k25, n25⟩, -, X25, ⟨Lc25, hQ25, l25, y25, z25⟩, st25⟩ := X13.virtualBack hx (y := (⟨"com/example/terrace/terrace/core/UseOrder", "remove", "(I)V"⟩ : MethodName)) (z := (⟨"com/example/terrace/terrace/core/UseOrder", "remove", "(I)V"⟩ : MethodName)) hown (mvT hZ hw_63) (mvT hZ hw_64) (notFace_of_selects (args := #[]) (mvT hZ hw_66)) (mvT hZ hw_66) (mvT hZ hw_65) (by decide) (backOf (W := 0) (rmRem l Z a0 hw [] b19 li kl (own_L 1 2 0 0 2 0 p3 0 0 1 p3 0 0 (-1) p3 0) en ke (own_E (.ref j7) (.ref j8) .null) (2 : Int32) (3 : Int32) 8 2 (0 : Int32) (1 : Int32) 1 4 T11.heap n0 Z11 c1_11 Vl11_ own_Ln ⟨by decide, by decide⟩ ⟨by decide, by decide⟩ rfl rfl ⟨by decide, by decide⟩ rfl ⟨by decide, by decide⟩ rfl (by decide) (by decide) (by omega) ne_b19_li c0_11 c2_11 Ve11_ own_En (by omega) (by omega) c3_11 ne_en_li ne_b19_en ⟨by decide, by decide⟩ rfl ⟨by decide, by decide⟩ rfl ⟨by decide, by decide⟩ rfl (by decide) (by decide)) hZ hw_67 hw_14 (by decide) (by decide)) q25a q25c (g := (mkF m 240 #[.val (.int p1), .val (.int p2), .val (.int p3), .val (.int z3), .val (.int z4), .val (.ref b1), .val (.ref b11), .val (.ref b12), .val (.ref b19), .val (.ref j9), .val (.int (1 : Int32)), .val (.ref j8), .unset] [(.int (2 : Int32)), (.ref b19)])) rfl (by rw [hml]; rfl) (Steps.refl _) (argsL := [(.int (2 : Int32))]) (rest := []) (lenOf pd_0 rfl) rfl (by show 2 * 0 + _ ≤ _; exact Nat.le_of_eq rfl) (hb hby at_240) (fun _ _ => ⟨rfl, e13, (by decide : 6 + 0 ≤ _), (by decide : 93 + 0 ≤ _)⟩)
  dsimp only [Pt.U, Pt.locs, Pt.cells, Pt.slots] at X25 l25 y25 z25 st25 hQ25
  subst l25 y25 z25
  obtain ⟨rfl, N25q, Kc25, c0_25, c1_25, c2_25, c3_25, c4_25, c5_25⟩ := hQ25
  have N25 := Fr.app N12 N25q
  have sz25 : T11.heap.size ≤ T25.heap.size := Kc25.1
  have Z25 : n0 ≤ T25.heap.size := Nat.le_trans Z11 sz25
  have O25 : Old Z n0 T25.heap := O11.keep Kc25 (allS (show n0 ≤ b19 by omega) (allS (show n0 ≤ li by omega) (allS (show n0 ≤ en by omega) all0)))
  have Vl25_ : Arv Z T25.heap li kl .int (64 : Int32) (own_L 1 1 0 0 0 0 p3 0 3 (-1) p3 0 0 (-1) p3 0) (.int (0 : Int32)) := c4_25
  have Ve25_ : Arv Z T25.heap en ke (.object "java/lang/Object") (16 : Int32) (own_E (.ref j7) .null .null) .null := c5_25
  obtain ⟨cq26, kq26, q26a, q26b, q26c⟩ := isOf hZ rfl c0_25
  obtain ⟨_, _, ⟨T26, L26, k26, n26⟩, -, X26, ⟨Lc26, hQ26, l26, y26, z26⟩, st26⟩ := X25.virtualBack hx (y := (⟨"com/example/terrace/terrace/core/UseOrder", "leastRecent", "()Ljava/lang/Object;"⟩ : MethodName)) (z := (⟨"com/example/terrace/terrace/core/UseOrder", "leastRecent", "()Ljava/lang/Object;"⟩ : MethodName)) hown (mvT hZ hw_54) (mvT hZ hw_55) (notFace_of_selects (args := #[]) (mvT hZ hw_57)) (mvT hZ hw_57) (mvT hZ hw_56) (by decide) (backOf (W := 0) (rmLeast l Z a0 hw [] b19 li kl (own_L 1 1 0 0 0 0 p3 0 3 (-1) p3 0 0 (-1) p3 0) en ke (own_E (.ref j7) .null .null) j7 (1 : Int32) T25.heap n0 Z25 c1_25 Vl25_ c2_25 Ve25_ c0_25 rfl ⟨by decide, by decide⟩ rfl) hZ hw_58 hw_14 (by decide) (by decide)) q26a q26c (g := (mkF m 245 #[.val (.int p1), .val (.int p2), .val (.int p3), .val (.int z3), .val (.int z4), .val (.ref b1), .val (.ref b11), .val (.ref b12), .val (.ref b19), .val (.ref j9), .val (.int (1 : Int32)), .val (.ref j8), .unset] [(.ref b19)])) rfl (by rw [hml]; rfl) (Steps.refl _) (argsL := []) (rest := []) (lenOf pd_6 rfl) rfl (by show 2 * 0 + _ ≤ _; exact Nat.le_of_eq rfl) (hb hby at_245) (fun _ _ => ⟨rfl, rfl, (by decide : 6 + 0 ≤ _), (by decide : 93 + 0 ≤ _)⟩)
  dsimp only [Pt.U, Pt.locs, Pt.cells, Pt.slots] at X26 l26 y26 z26 st26 hQ26
  subst l26 y26 z26
  obtain ⟨rfl, N26q, e26⟩ := hQ26
  have N26 := Fr.app N25 N26q
  obtain ⟨T27, X27, e27, st27⟩ := castY X26 hx hZ hown hw_1 e26 (Ins.self (Ej7.ext O25.2)) (g := (mkF m 248 #[.val (.int p1), .val (.int p2), .val (.int p3), .val (.int z3), .val (.int z4), .val (.ref b1), .val (.ref b11), .val (.ref b12), .val (.ref b19), .val (.ref j9), .val (.int (1 : Int32)), .val (.ref j8), .unset] [(.ref j7)])) rfl rfl (hb hby at_248)
  have f28 := (f21.keep Kc25 (ninS ne_b12_b19 (ninS ne_b12_li (ninS ne_b12_en nin0))))
  obtain ⟨cl29, Ar29, q29, S29, M29, H29, G29⟩ := f28
  have f30 : Arv Z T25.heap b12 k12 .int (3 : Int32) [(.int (2 : Int32)), (.int (1 : Int32)), (.int (0 : Int32))] (.int (0 : Int32)) := ⟨cl29, Ar29, q29, S29, M29, H29, G29⟩
  have hin29 : ¬ ((2 : Int32) < 0 ∨ cl29.slots.size ≤ ((2 : Int32)).toNatClampNeg) := inb_of S29 ⟨by decide, by decide⟩
  have hat29 : cl29.slots[((2 : Int32)).toNatClampNeg]? = some (.int (0 : Int32)) := Has.at H29 hin29 rfl
  have f31 := (f19.keep Kc25 (ninS ne_b1_b19 (ninS ne_b1_li (ninS ne_b1_en nin0))))
  obtain ⟨cl32, Ar32, q32, S32, M32, H32, G32⟩ := f31
  have f33 : Arv Z T25.heap b1 k1 (.object "java/lang/Integer") (3 : Int32) [(.ref j7), (.ref j8), (.ref j9)] .null := ⟨cl32, Ar32, q32, S32, M32, H32, G32⟩
  have hin32 : ¬ ((0 : Int32) < 0 ∨ cl32.slots.size ≤ ((0 : Int32)).toNatClampNeg) := inb_of S32 ⟨by decide, by decide⟩
  have hat32 : cl32.slots[((0 : Int32)).toNatClampNeg]? = some (.ref j7) := Has.at H32 hin32 rfl
  have go34 : ∀ t_, Steps p.tables e below (T27.setTop (mkF m 279 #[.val (.int p1), .val (.int p2), .val (.int p3), .val (.int z3), .val (.int z4), .val (.ref b1), .val (.ref b11), .val (.ref b12), .val (.ref b19), .val (.ref j9), .val (.int (1 : Int32)), .val (.ref j8), .val (.ref j7)] [(.int (1 : Int32))])) t_ → Steps p.tables e below (T0.setTop (mkF m 156 #[.val (.int p1), .val (.int p2), .val (.int p3), .val (.int z3), .val (.int z4), .val (.ref b1), .val (.ref b11), .val (.ref b12), .val (.ref b19), .unset, .unset, .unset, .unset] [])) t_ := by
    intro t_ k_
    refine pre0 t_ ?_
    show Steps p.tables e below (T0.setTop (mkF m 156 #[.val (.int p1), .val (.int p2), .val (.int p3), .val (.int z3), .val (.int z4), .val (.ref b1), .val (.ref b11), .val (.ref b12), .val (.ref b19), .unset, .unset, .unset, .unset] [])) _
    refine XS.aload X0.here hx rfl (hb hby at_156) rfl rfl ?_
    show Steps p.tables e below (T0.setTop (mkF m 158 #[.val (.int p1), .val (.int p2), .val (.int p3), .val (.int z3), .val (.int z4), .val (.ref b1), .val (.ref b11), .val (.ref b12), .val (.ref b19), .unset, .unset, .unset, .unset] [(.ref b19)])) _
    refine st1.trans ?_
    show Steps p.tables e below (T1.setTop (mkF m 161 #[.val (.int p1), .val (.int p2), .val (.int p3), .val (.int z3), .val (.int z4), .val (.ref b1), .val (.ref b11), .val (.ref b12), .val (.ref b19), .unset, .unset, .unset, .unset] [(.ref j9)])) _
    refine st2 _ ?_
    show Steps p.tables e below (T2.setTop (mkF m 164 #[.val (.int p1), .val (.int p2), .val (.int p3), .val (.int z3), .val (.int z4), .val (.ref b1), .val (.ref b11), .val (.ref b12), .val (.ref b19), .unset, .unset, .unset, .unset] [(.ref j9)])) _
    refine XS.astore X2.here hx rfl (hb hby at_164) rfl rfl (l' := #[.val (.int p1), .val (.int p2), .val (.int p3), .val (.int z3), .val (.int z4), .val (.ref b1), .val (.ref b11), .val (.ref b12), .val (.ref b19), .val (.ref j9), .unset, .unset, .unset]) rfl ?_
    show Steps p.tables e below (T2.setTop (mkF m 166 #[.val (.int p1), .val (.int p2), .val (.int p3), .val (.int z3), .val (.int z4), .val (.ref b1), .val (.ref b11), .val (.ref b12), .val (.ref b19), .val (.ref j9), .unset, .unset, .unset] [])) _
    refine XS.aload X2.here hx rfl (hb hby at_166) rfl rfl ?_
    show Steps p.tables e below (T2.setTop (mkF m 168 #[.val (.int p1), .val (.int p2), .val (.int p3), .val (.int z3), .val (.int z4), .val (.ref b1), .val (.ref b11), .val (.ref b12), .val (.ref b19), .val (.ref j9), .unset, .unset, .unset] [(.ref j9)])) _
    refine XS.aload X2.here hx rfl (hb hby at_168) rfl rfl ?_
    show Steps p.tables e below (T2.setTop (mkF m 170 #[.val (.int p1), .val (.int p2), .val (.int p3), .val (.int z3), .val (.int z4), .val (.ref b1), .val (.ref b11), .val (.ref b12), .val (.ref b19), .val (.ref j9), .unset, .unset, .unset] [(.ref b1), (.ref j9)])) _
    refine XS.aload X2.here hx rfl (hb hby at_170) rfl rfl ?_
    show Steps p.tables e below (T2.setTop (mkF m 172 #[.val (.int p1), .val (.int p2), .val (.int p3), .val (.int z3), .val (.int z4), .val (.ref b1), .val (.ref b11), .val (.ref b12), .val (.ref b19), .val (.ref j9), .unset, .unset, .unset] [(.ref b12), (.ref b1), (.ref j9)])) _
    refine XS.iconst X2.here hx rfl (hb hby at_172) ?_
    show Steps p.tables e below (T2.setTop (mkF m 173 #[.val (.int p1), .val (.int p2), .val (.int p3), .val (.int z3), .val (.int z4), .val (.ref b1), .val (.ref b11), .val (.ref b12), .val (.ref b19), .val (.ref j9), .unset, .unset, .unset] [(.int (0 : Int32)), (.ref b12), (.ref b1), (.ref j9)])) _
    refine X2.iaload hx (j := (0 : Int32)) (v := (.int (2 : Int32))) (by rw [e2]; exact Ar3.1) (State.isArrayOf_alike hZ.alike Ar3.2.1) Ar3.2.2 hin3 hat3 (g := (mkF m 173 #[.val (.int p1), .val (.int p2), .val (.int p3), .val (.int z3), .val (.int z4), .val (.ref b1), .val (.ref b11), .val (.ref b12), .val (.ref b19), .val (.ref j9), .unset, .unset, .unset] [(.int (0 : Int32)), (.ref b12), (.ref b1), (.ref j9)])) rfl rfl (hb hby at_173) _ ?_
    show Steps p.tables e below (T2.setTop (mkF m 174 #[.val (.int p1), .val (.int p2), .val (.int p3), .val (.int z3), .val (.int z4), .val (.ref b1), .val (.ref b11), .val (.ref b12), .val (.ref b19), .val (.ref j9), .unset, .unset, .unset] [(.int (2 : Int32)), (.ref b1), (.ref j9)])) _
    refine X2.aaload hx (j := (2 : Int32)) (v := (.ref j9)) (by rw [e2]; exact Ar5.1) (State.isArrayOf_alike hZ.alike Ar5.2.1) rfl Ar5.2.2 hin5 hat5 (g := (mkF m 174 #[.val (.int p1), .val (.int p2), .val (.int p3), .val (.int z3), .val (.int z4), .val (.ref b1), .val (.ref b11), .val (.ref b12), .val (.ref b19), .val (.ref j9), .unset, .unset, .unset] [(.int (2 : Int32)), (.ref b1), (.ref j9)])) rfl rfl (hb hby at_174) _ ?_
    show Steps p.tables e below (T2.setTop (mkF m 175 #[.val (.int p1), .val (.int p2), .val (.int p3), .val (.int z3), .val (.int z4), .val (.ref b1), .val (.ref b11), .val (.ref b12), .val (.ref b19), .val (.ref j9), .unset, .unset, .unset] [(.ref j9), (.ref j9)])) _
    refine Jvm.RoadKit.acmp (g := (mkF m 175 #[.val (.int p1), .val (.int p2), .val (.int p3), .val (.int z3), .val (.int z4), .val (.ref b1), .val (.ref b11), .val (.ref b12), .val (.ref b19), .val (.ref j9), .unset, .unset, .unset] [(.ref j9), (.ref j9)])) X2 hx rfl rfl rfl (pc0 := 175) (pc' := 178) (same := true) rfl (hb hby at_175) rfl (decide_eq_true rfl) (by decide) (by decide) ?_
    show Steps p.tables e below (T2.setTop (mkF m 178 #[.val (.int p1), .val (.int p2), .val (.int p3), .val (.int z3), .val (.int z4), .val (.ref b1), .val (.ref b11), .val (.ref b12), .val (.ref b19), .val (.ref j9), .unset, .unset, .unset] [])) _
    refine XS.iconst X2.here hx rfl (hb hby at_178) ?_
    show Steps p.tables e below (T2.setTop (mkF m 179 #[.val (.int p1), .val (.int p2), .val (.int p3), .val (.int z3), .val (.int z4), .val (.ref b1), .val (.ref b11), .val (.ref b12), .val (.ref b19), .val (.ref j9), .unset, .unset, .unset] [(.int (1 : Int32))])) _
    refine XS.goto X2.here hx rfl (pc0 := 179) (pc' := 183) rfl (hb hby at_179) (by decide) (by decide) ?_
    show Steps p.tables e below (T2.setTop (mkF m 183 #[.val (.int p1), .val (.int p2), .val (.int p3), .val (.int z3), .val (.int z4), .val (.ref b1), .val (.ref b11), .val (.ref b12), .val (.ref b19), .val (.ref j9), .unset, .unset, .unset] [(.int (1 : Int32))])) _
    refine XS.istore X2.here hx rfl (hb hby at_183) rfl (l' := #[.val (.int p1), .val (.int p2), .val (.int p3), .val (.int z3), .val (.int z4), .val (.ref b1), .val (.ref b11), .val (.ref b12), .val (.ref b19), .val (.ref j9), .val (.int (1 : Int32)), .unset, .unset]) rfl ?_
    show Steps p.tables e below (T2.setTop (mkF m 185 #[.val (.int p1), .val (.int p2), .val (.int p3), .val (.int z3), .val (.int z4), .val (.ref b1), .val (.ref b11), .val (.ref b12), .val (.ref b19), .val (.ref j9), .val (.int (1 : Int32)), .unset, .unset] [])) _
    refine XS.aload X2.here hx rfl (hb hby at_185) rfl rfl ?_
    show Steps p.tables e below (T2.setTop (mkF m 187 #[.val (.int p1), .val (.int p2), .val (.int p3), .val (.int z3), .val (.int z4), .val (.ref b1), .val (.ref b11), .val (.ref b12), .val (.ref b19), .val (.ref j9), .val (.int (1 : Int32)), .unset, .unset] [(.ref b19)])) _
    refine XS.aload X2.here hx rfl (hb hby at_187) rfl rfl ?_
    show Steps p.tables e below (T2.setTop (mkF m 189 #[.val (.int p1), .val (.int p2), .val (.int p3), .val (.int z3), .val (.int z4), .val (.ref b1), .val (.ref b11), .val (.ref b12), .val (.ref b19), .val (.ref j9), .val (.int (1 : Int32)), .unset, .unset] [(.ref b11), (.ref b19)])) _
    refine XS.aload X2.here hx rfl (hb hby at_189) rfl rfl ?_
    show Steps p.tables e below (T2.setTop (mkF m 191 #[.val (.int p1), .val (.int p2), .val (.int p3), .val (.int z3), .val (.int z4), .val (.ref b1), .val (.ref b11), .val (.ref b12), .val (.ref b19), .val (.ref j9), .val (.int (1 : Int32)), .unset, .unset] [(.ref b12), (.ref b11), (.ref b19)])) _
    refine XS.iconst X2.here hx rfl (hb hby at_191) ?_
    show Steps p.tables e below (T2.setTop (mkF m 192 #[.val (.int p1), .val (.int p2), .val (.int p3), .val (.int z3), .val (.int z4), .val (.ref b1), .val (.ref b11), .val (.ref b12), .val (.ref b19), .val (.ref j9), .val (.int (1 : Int32)), .unset, .unset] [(.int (0 : Int32)), (.ref b12), (.ref b11), (.ref b19)])) _
    refine X2.iaload hx (j := (0 : Int32)) (v := (.int (2 : Int32))) (by rw [e2]; exact Ar7.1) (State.isArrayOf_alike hZ.alike Ar7.2.1) Ar7.2.2 hin7 hat7 (g := (mkF m 192 #[.val (.int p1), .val (.int p2), .val (.int p3), .val (.int z3), .val (.int z4), .val (.ref b1), .val (.ref b11), .val (.ref b12), .val (.ref b19), .val (.ref j9), .val (.int (1 : Int32)), .unset, .unset] [(.int (0 : Int32)), (.ref b12), (.ref b11), (.ref b19)])) rfl rfl (hb hby at_192) _ ?_
    show Steps p.tables e below (T2.setTop (mkF m 193 #[.val (.int p1), .val (.int p2), .val (.int p3), .val (.int z3), .val (.int z4), .val (.ref b1), .val (.ref b11), .val (.ref b12), .val (.ref b19), .val (.ref j9), .val (.int (1 : Int32)), .unset, .unset] [(.int (2 : Int32)), (.ref b11), (.ref b19)])) _
    refine X2.iaload hx (j := (2 : Int32)) (v := (.int (3 : Int32))) (by rw [e2]; exact Ar9.1) (State.isArrayOf_alike hZ.alike Ar9.2.1) Ar9.2.2 hin9 hat9 (g := (mkF m 193 #[.val (.int p1), .val (.int p2), .val (.int p3), .val (.int z3), .val (.int z4), .val (.ref b1), .val (.ref b11), .val (.ref b12), .val (.ref b19), .val (.ref j9), .val (.int (1 : Int32)), .unset, .unset] [(.int (2 : Int32)), (.ref b11), (.ref b19)])) rfl rfl (hb hby at_193) _ ?_
    show Steps p.tables e below (T2.setTop (mkF m 194 #[.val (.int p1), .val (.int p2), .val (.int p3), .val (.int z3), .val (.int z4), .val (.ref b1), .val (.ref b11), .val (.ref b12), .val (.ref b19), .val (.ref j9), .val (.int (1 : Int32)), .unset, .unset] [(.int (3 : Int32)), (.ref b19)])) _
    refine st11.trans ?_
    show Steps p.tables e below (T11.setTop (mkF m 197 #[.val (.int p1), .val (.int p2), .val (.int p3), .val (.int z3), .val (.int z4), .val (.ref b1), .val (.ref b11), .val (.ref b12), .val (.ref b19), .val (.ref j9), .val (.int (1 : Int32)), .unset, .unset] [])) _
    refine XS.aload X11.here hx rfl (hb hby at_197) rfl rfl ?_
    show Steps p.tables e below (T11.setTop (mkF m 199 #[.val (.int p1), .val (.int p2), .val (.int p3), .val (.int z3), .val (.int z4), .val (.ref b1), .val (.ref b11), .val (.ref b12), .val (.ref b19), .val (.ref j9), .val (.int (1 : Int32)), .unset, .unset] [(.ref b19)])) _
    refine st12.trans ?_
    show Steps p.tables e below (T12.setTop (mkF m 202 #[.val (.int p1), .val (.int p2), .val (.int p3), .val (.int z3), .val (.int z4), .val (.ref b1), .val (.ref b11), .val (.ref b12), .val (.ref b19), .val (.ref j9), .val (.int (1 : Int32)), .unset, .unset] [(.ref j8)])) _
    refine st13 _ ?_
    show Steps p.tables e below (T13.setTop (mkF m 205 #[.val (.int p1), .val (.int p2), .val (.int p3), .val (.int z3), .val (.int z4), .val (.ref b1), .val (.ref b11), .val (.ref b12), .val (.ref b19), .val (.ref j9), .val (.int (1 : Int32)), .unset, .unset] [(.ref j8)])) _
    refine XS.astore X13.here hx rfl (hb hby at_205) rfl rfl (l' := #[.val (.int p1), .val (.int p2), .val (.int p3), .val (.int z3), .val (.int z4), .val (.ref b1), .val (.ref b11), .val (.ref b12), .val (.ref b19), .val (.ref j9), .val (.int (1 : Int32)), .val (.ref j8), .unset]) rfl ?_
    show Steps p.tables e below (T13.setTop (mkF m 207 #[.val (.int p1), .val (.int p2), .val (.int p3), .val (.int z3), .val (.int z4), .val (.ref b1), .val (.ref b11), .val (.ref b12), .val (.ref b19), .val (.ref j9), .val (.int (1 : Int32)), .val (.ref j8), .unset] [])) _
    refine XS.iload X13.here hx rfl (hb hby at_207) rfl ?_
    show Steps p.tables e below (T13.setTop (mkF m 209 #[.val (.int p1), .val (.int p2), .val (.int p3), .val (.int z3), .val (.int z4), .val (.ref b1), .val (.ref b11), .val (.ref b12), .val (.ref b19), .val (.ref j9), .val (.int (1 : Int32)), .val (.ref j8), .unset] [(.int (1 : Int32))])) _
    refine XS.ifNo X13.here hx rfl (hb hby at_209) rfl ((if0 _ _).trans (feq (by decide : ¬ ((1 : Int32) = (0 : Int32)))).1) ?_
    show Steps p.tables e below (T13.setTop (mkF m 212 #[.val (.int p1), .val (.int p2), .val (.int p3), .val (.int z3), .val (.int z4), .val (.ref b1), .val (.ref b11), .val (.ref b12), .val (.ref b19), .val (.ref j9), .val (.int (1 : Int32)), .val (.ref j8), .unset] [])) _
    refine XS.aload X13.here hx rfl (hb hby at_212) rfl rfl ?_
    show Steps p.tables e below (T13.setTop (mkF m 214 #[.val (.int p1), .val (.int p2), .val (.int p3), .val (.int z3), .val (.int z4), .val (.ref b1), .val (.ref b11), .val (.ref b12), .val (.ref b19), .val (.ref j9), .val (.int (1 : Int32)), .val (.ref j8), .unset] [(.ref j8)])) _
    refine XS.aload X13.here hx rfl (hb hby at_214) rfl rfl ?_
    show Steps p.tables e below (T13.setTop (mkF m 216 #[.val (.int p1), .val (.int p2), .val (.int p3), .val (.int z3), .val (.int z4), .val (.ref b1), .val (.ref b11), .val (.ref b12), .val (.ref b19), .val (.ref j9), .val (.int (1 : Int32)), .val (.ref j8), .unset] [(.ref b1), (.ref j8)])) _
    refine XS.aload X13.here hx rfl (hb hby at_216) rfl rfl ?_
    show Steps p.tables e below (T13.setTop (mkF m 218 #[.val (.int p1), .val (.int p2), .val (.int p3), .val (.int z3), .val (.int z4), .val (.ref b1), .val (.ref b11), .val (.ref b12), .val (.ref b19), .val (.ref j9), .val (.int (1 : Int32)), .val (.ref j8), .unset] [(.ref b12), (.ref b1), (.ref j8)])) _
    refine XS.iconst X13.here hx rfl (hb hby at_218) ?_
    show Steps p.tables e below (T13.setTop (mkF m 219 #[.val (.int p1), .val (.int p2), .val (.int p3), .val (.int z3), .val (.int z4), .val (.ref b1), .val (.ref b11), .val (.ref b12), .val (.ref b19), .val (.ref j9), .val (.int (1 : Int32)), .val (.ref j8), .unset] [(.int (1 : Int32)), (.ref b12), (.ref b1), (.ref j8)])) _
    refine X13.iaload hx (j := (1 : Int32)) (v := (.int (1 : Int32))) (by rw [e13]; exact Ar15.1) (State.isArrayOf_alike hZ.alike Ar15.2.1) Ar15.2.2 hin15 hat15 (g := (mkF m 219 #[.val (.int p1), .val (.int p2), .val (.int p3), .val (.int z3), .val (.int z4), .val (.ref b1), .val (.ref b11), .val (.ref b12), .val (.ref b19), .val (.ref j9), .val (.int (1 : Int32)), .val (.ref j8), .unset] [(.int (1 : Int32)), (.ref b12), (.ref b1), (.ref j8)])) rfl rfl (hb hby at_219) _ ?_
    show Steps p.tables e below (T13.setTop (mkF m 220 #[.val (.int p1), .val (.int p2), .val (.int p3), .val (.int z3), .val (.int z4), .val (.ref b1), .val (.ref b11), .val (.ref b12), .val (.ref b19), .val (.ref j9), .val (.int (1 : Int32)), .val (.ref j8), .unset] [(.int (1 : Int32)), (.ref b1), (.ref j8)])) _
    refine X13.aaload hx (j := (1 : Int32)) (v := (.ref j8)) (by rw [e13]; exact Ar18.1) (State.isArrayOf_alike hZ.alike Ar18.2.1) rfl Ar18.2.2 hin18 hat18 (g := (mkF m 220 #[.val (.int p1), .val (.int p2), .val (.int p3), .val (.int z3), .val (.int z4), .val (.ref b1), .val (.ref b11), .val (.ref b12), .val (.ref b19), .val (.ref j9), .val (.int (1 : Int32)), .val (.ref j8), .unset] [(.int (1 : Int32)), (.ref b1), (.ref j8)])) rfl rfl (hb hby at_220) _ ?_
    show Steps p.tables e below (T13.setTop (mkF m 221 #[.val (.int p1), .val (.int p2), .val (.int p3), .val (.int z3), .val (.int z4), .val (.ref b1), .val (.ref b11), .val (.ref b12), .val (.ref b19), .val (.ref j9), .val (.int (1 : Int32)), .val (.ref j8), .unset] [(.ref j8), (.ref j8)])) _
    refine Jvm.RoadKit.acmp (g := (mkF m 221 #[.val (.int p1), .val (.int p2), .val (.int p3), .val (.int z3), .val (.int z4), .val (.ref b1), .val (.ref b11), .val (.ref b12), .val (.ref b19), .val (.ref j9), .val (.int (1 : Int32)), .val (.ref j8), .unset] [(.ref j8), (.ref j8)])) X13 hx rfl rfl rfl (pc0 := 221) (pc' := 224) (same := true) rfl (hb hby at_221) rfl (decide_eq_true rfl) (by decide) (by decide) ?_
    show Steps p.tables e below (T13.setTop (mkF m 224 #[.val (.int p1), .val (.int p2), .val (.int p3), .val (.int z3), .val (.int z4), .val (.ref b1), .val (.ref b11), .val (.ref b12), .val (.ref b19), .val (.ref j9), .val (.int (1 : Int32)), .val (.ref j8), .unset] [])) _
    refine XS.iconst X13.here hx rfl (hb hby at_224) ?_
    show Steps p.tables e below (T13.setTop (mkF m 225 #[.val (.int p1), .val (.int p2), .val (.int p3), .val (.int z3), .val (.int z4), .val (.ref b1), .val (.ref b11), .val (.ref b12), .val (.ref b19), .val (.ref j9), .val (.int (1 : Int32)), .val (.ref j8), .unset] [(.int (1 : Int32))])) _
    refine XS.goto X13.here hx rfl (pc0 := 225) (pc' := 229) rfl (hb hby at_225) (by decide) (by decide) ?_
    show Steps p.tables e below (T13.setTop (mkF m 229 #[.val (.int p1), .val (.int p2), .val (.int p3), .val (.int z3), .val (.int z4), .val (.ref b1), .val (.ref b11), .val (.ref b12), .val (.ref b19), .val (.ref j9), .val (.int (1 : Int32)), .val (.ref j8), .unset] [(.int (1 : Int32))])) _
    refine XS.istore X13.here hx rfl (hb hby at_229) rfl (l' := #[.val (.int p1), .val (.int p2), .val (.int p3), .val (.int z3), .val (.int z4), .val (.ref b1), .val (.ref b11), .val (.ref b12), .val (.ref b19), .val (.ref j9), .val (.int (1 : Int32)), .val (.ref j8), .unset]) rfl ?_
    show Steps p.tables e below (T13.setTop (mkF m 231 #[.val (.int p1), .val (.int p2), .val (.int p3), .val (.int z3), .val (.int z4), .val (.ref b1), .val (.ref b11), .val (.ref b12), .val (.ref b19), .val (.ref j9), .val (.int (1 : Int32)), .val (.ref j8), .unset] [])) _
    refine XS.aload X13.here hx rfl (hb hby at_231) rfl rfl ?_
    show Steps p.tables e below (T13.setTop (mkF m 233 #[.val (.int p1), .val (.int p2), .val (.int p3), .val (.int z3), .val (.int z4), .val (.ref b1), .val (.ref b11), .val (.ref b12), .val (.ref b19), .val (.ref j9), .val (.int (1 : Int32)), .val (.ref j8), .unset] [(.ref b19)])) _
    refine XS.aload X13.here hx rfl (hb hby at_233) rfl rfl ?_
    show Steps p.tables e below (T13.setTop (mkF m 235 #[.val (.int p1), .val (.int p2), .val (.int p3), .val (.int z3), .val (.int z4), .val (.ref b1), .val (.ref b11), .val (.ref b12), .val (.ref b19), .val (.ref j9), .val (.int (1 : Int32)), .val (.ref j8), .unset] [(.ref b11), (.ref b19)])) _
    refine XS.aload X13.here hx rfl (hb hby at_235) rfl rfl ?_
    show Steps p.tables e below (T13.setTop (mkF m 237 #[.val (.int p1), .val (.int p2), .val (.int p3), .val (.int z3), .val (.int z4), .val (.ref b1), .val (.ref b11), .val (.ref b12), .val (.ref b19), .val (.ref j9), .val (.int (1 : Int32)), .val (.ref j8), .unset] [(.ref b12), (.ref b11), (.ref b19)])) _
    refine XS.iconst X13.here hx rfl (hb hby at_237) ?_
    show Steps p.tables e below (T13.setTop (mkF m 238 #[.val (.int p1), .val (.int p2), .val (.int p3), .val (.int z3), .val (.int z4), .val (.ref b1), .val (.ref b11), .val (.ref b12), .val (.ref b19), .val (.ref j9), .val (.int (1 : Int32)), .val (.ref j8), .unset] [(.int (1 : Int32)), (.ref b12), (.ref b11), (.ref b19)])) _
    refine X13.iaload hx (j := (1 : Int32)) (v := (.int (1 : Int32))) (by rw [e13]; exact Ar20.1) (State.isArrayOf_alike hZ.alike Ar20.2.1) Ar20.2.2 hin20 hat20 (g := (mkF m 238 #[.val (.int p1), .val (.int p2), .val (.int p3), .val (.int z3), .val (.int z4), .val (.ref b1), .val (.ref b11), .val (.ref b12), .val (.ref b19), .val (.ref j9), .val (.int (1 : Int32)), .val (.ref j8), .unset] [(.int (1 : Int32)), (.ref b12), (.ref b11), (.ref b19)])) rfl rfl (hb hby at_238) _ ?_
    show Steps p.tables e below (T13.setTop (mkF m 239 #[.val (.int p1), .val (.int p2), .val (.int p3), .val (.int z3), .val (.int z4), .val (.ref b1), .val (.ref b11), .val (.ref b12), .val (.ref b19), .val (.ref j9), .val (.int (1 : Int32)), .val (.ref j8), .unset] [(.int (1 : Int32)), (.ref b11), (.ref b19)])) _
    refine X13.iaload hx (j := (1 : Int32)) (v := (.int (2 : Int32))) (by rw [e13]; exact Ar23.1) (State.isArrayOf_alike hZ.alike Ar23.2.1) Ar23.2.2 hin23 hat23 (g := (mkF m 239 #[.val (.int p1), .val (.int p2), .val (.int p3), .val (.int z3), .val (.int z4), .val (.ref b1), .val (.ref b11), .val (.ref b12), .val (.ref b19), .val (.ref j9), .val (.int (1 : Int32)), .val (.ref j8), .unset] [(.int (1 : Int32)), (.ref b11), (.ref b19)])) rfl rfl (hb hby at_239) _ ?_
    show Steps p.tables e below (T13.setTop (mkF m 240 #[.val (.int p1), .val (.int p2), .val (.int p3), .val (.int z3), .val (.int z4), .val (.ref b1), .val (.ref b11), .val (.ref b12), .val (.ref b19), .val (.ref j9), .val (.int (1 : Int32)), .val (.ref j8), .unset] [(.int (2 : Int32)), (.ref b19)])) _
    refine st25.trans ?_
    show Steps p.tables e below (T25.setTop (mkF m 243 #[.val (.int p1), .val (.int p2), .val (.int p3), .val (.int z3), .val (.int z4), .val (.ref b1), .val (.ref b11), .val (.ref b12), .val (.ref b19), .val (.ref j9), .val (.int (1 : Int32)), .val (.ref j8), .unset] [])) _
    refine XS.aload X25.here hx rfl (hb hby at_243) rfl rfl ?_
    show Steps p.tables e below (T25.setTop (mkF m 245 #[.val (.int p1), .val (.int p2), .val (.int p3), .val (.int z3), .val (.int z4), .val (.ref b1), .val (.ref b11), .val (.ref b12), .val (.ref b19), .val (.ref j9), .val (.int (1 : Int32)), .val (.ref j8), .unset] [(.ref b19)])) _
    refine st26.trans ?_
    show Steps p.tables e below (T26.setTop (mkF m 248 #[.val (.int p1), .val (.int p2), .val (.int p3), .val (.int z3), .val (.int z4), .val (.ref b1), .val (.ref b11), .val (.ref b12), .val (.ref b19), .val (.ref j9), .val (.int (1 : Int32)), .val (.ref j8), .unset] [(.ref j7)])) _
    refine st27 _ ?_
    show Steps p.tables e below (T27.setTop (mkF m 251 #[.val (.int p1), .val (.int p2), .val (.int p3), .val (.int z3), .val (.int z4), .val (.ref b1), .val (.ref b11), .val (.ref b12), .val (.ref b19), .val (.ref j9), .val (.int (1 : Int32)), .val (.ref j8), .unset] [(.ref j7)])) _
    refine XS.astore X27.here hx rfl (hb hby at_251) rfl rfl (l' := #[.val (.int p1), .val (.int p2), .val (.int p3), .val (.int z3), .val (.int z4), .val (.ref b1), .val (.ref b11), .val (.ref b12), .val (.ref b19), .val (.ref j9), .val (.int (1 : Int32)), .val (.ref j8), .val (.ref j7)]) rfl ?_
    show Steps p.tables e below (T27.setTop (mkF m 253 #[.val (.int p1), .val (.int p2), .val (.int p3), .val (.int z3), .val (.int z4), .val (.ref b1), .val (.ref b11), .val (.ref b12), .val (.ref b19), .val (.ref j9), .val (.int (1 : Int32)), .val (.ref j8), .val (.ref j7)] [])) _
    refine XS.iload X27.here hx rfl (hb hby at_253) rfl ?_
    show Steps p.tables e below (T27.setTop (mkF m 255 #[.val (.int p1), .val (.int p2), .val (.int p3), .val (.int z3), .val (.int z4), .val (.ref b1), .val (.ref b11), .val (.ref b12), .val (.ref b19), .val (.ref j9), .val (.int (1 : Int32)), .val (.ref j8), .val (.ref j7)] [(.int (1 : Int32))])) _
    refine XS.ifNo X27.here hx rfl (hb hby at_255) rfl ((if0 _ _).trans (feq (by decide : ¬ ((1 : Int32) = (0 : Int32)))).1) ?_
    show Steps p.tables e below (T27.setTop (mkF m 258 #[.val (.int p1), .val (.int p2), .val (.int p3), .val (.int z3), .val (.int z4), .val (.ref b1), .val (.ref b11), .val (.ref b12), .val (.ref b19), .val (.ref j9), .val (.int (1 : Int32)), .val (.ref j8), .val (.ref j7)] [])) _
    refine XS.aload X27.here hx rfl (hb hby at_258) rfl rfl ?_
    show Steps p.tables e below (T27.setTop (mkF m 260 #[.val (.int p1), .val (.int p2), .val (.int p3), .val (.int z3), .val (.int z4), .val (.ref b1), .val (.ref b11), .val (.ref b12), .val (.ref b19), .val (.ref j9), .val (.int (1 : Int32)), .val (.ref j8), .val (.ref j7)] [(.ref j7)])) _
    refine XS.aload X27.here hx rfl (hb hby at_260) rfl rfl ?_
    show Steps p.tables e below (T27.setTop (mkF m 262 #[.val (.int p1), .val (.int p2), .val (.int p3), .val (.int z3), .val (.int z4), .val (.ref b1), .val (.ref b11), .val (.ref b12), .val (.ref b19), .val (.ref j9), .val (.int (1 : Int32)), .val (.ref j8), .val (.ref j7)] [(.ref b1), (.ref j7)])) _
    refine XS.aload X27.here hx rfl (hb hby at_262) rfl rfl ?_
    show Steps p.tables e below (T27.setTop (mkF m 264 #[.val (.int p1), .val (.int p2), .val (.int p3), .val (.int z3), .val (.int z4), .val (.ref b1), .val (.ref b11), .val (.ref b12), .val (.ref b19), .val (.ref j9), .val (.int (1 : Int32)), .val (.ref j8), .val (.ref j7)] [(.ref b12), (.ref b1), (.ref j7)])) _
    refine XS.iconst X27.here hx rfl (hb hby at_264) ?_
    show Steps p.tables e below (T27.setTop (mkF m 265 #[.val (.int p1), .val (.int p2), .val (.int p3), .val (.int z3), .val (.int z4), .val (.ref b1), .val (.ref b11), .val (.ref b12), .val (.ref b19), .val (.ref j9), .val (.int (1 : Int32)), .val (.ref j8), .val (.ref j7)] [(.int (2 : Int32)), (.ref b12), (.ref b1), (.ref j7)])) _
    refine X27.iaload hx (j := (2 : Int32)) (v := (.int (0 : Int32))) (by rw [e27]; exact Ar29.1) (State.isArrayOf_alike hZ.alike Ar29.2.1) Ar29.2.2 hin29 hat29 (g := (mkF m 265 #[.val (.int p1), .val (.int p2), .val (.int p3), .val (.int z3), .val (.int z4), .val (.ref b1), .val (.ref b11), .val (.ref b12), .val (.ref b19), .val (.ref j9), .val (.int (1 : Int32)), .val (.ref j8), .val (.ref j7)] [(.int (2 : Int32)), (.ref b12), (.ref b1), (.ref j7)])) rfl rfl (hb hby at_265) _ ?_
    show Steps p.tables e below (T27.setTop (mkF m 266 #[.val (.int p1), .val (.int p2), .val (.int p3), .val (.int z3), .val (.int z4), .val (.ref b1), .val (.ref b11), .val (.ref b12), .val (.ref b19), .val (.ref j9), .val (.int (1 : Int32)), .val (.ref j8), .val (.ref j7)] [(.int (0 : Int32)), (.ref b1), (.ref j7)])) _
    refine X27.aaload hx (j := (0 : Int32)) (v := (.ref j7)) (by rw [e27]; exact Ar32.1) (State.isArrayOf_alike hZ.alike Ar32.2.1) rfl Ar32.2.2 hin32 hat32 (g := (mkF m 266 #[.val (.int p1), .val (.int p2), .val (.int p3), .val (.int z3), .val (.int z4), .val (.ref b1), .val (.ref b11), .val (.ref b12), .val (.ref b19), .val (.ref j9), .val (.int (1 : Int32)), .val (.ref j8), .val (.ref j7)] [(.int (0 : Int32)), (.ref b1), (.ref j7)])) rfl rfl (hb hby at_266) _ ?_
    show Steps p.tables e below (T27.setTop (mkF m 267 #[.val (.int p1), .val (.int p2), .val (.int p3), .val (.int z3), .val (.int z4), .val (.ref b1), .val (.ref b11), .val (.ref b12), .val (.ref b19), .val (.ref j9), .val (.int (1 : Int32)), .val (.ref j8), .val (.ref j7)] [(.ref j7), (.ref j7)])) _
    refine Jvm.RoadKit.acmp (g := (mkF m 267 #[.val (.int p1), .val (.int p2), .val (.int p3), .val (.int z3), .val (.int z4), .val (.ref b1), .val (.ref b11), .val (.ref b12), .val (.ref b19), .val (.ref j9), .val (.int (1 : Int32)), .val (.ref j8), .val (.ref j7)] [(.ref j7), (.ref j7)])) X27 hx rfl rfl rfl (pc0 := 267) (pc' := 270) (same := true) rfl (hb hby at_267) rfl (decide_eq_true rfl) (by decide) (by decide) ?_
    show Steps p.tables e below (T27.setTop (mkF m 270 #[.val (.int p1), .val (.int p2), .val (.int p3), .val (.int z3), .val (.int z4), .val (.ref b1), .val (.ref b11), .val (.ref b12), .val (.ref b19), .val (.ref j9), .val (.int (1 : Int32)), .val (.ref j8), .val (.ref j7)] [])) _
    refine XS.iconst X27.here hx rfl (hb hby at_270) ?_
    show Steps p.tables e below (T27.setTop (mkF m 271 #[.val (.int p1), .val (.int p2), .val (.int p3), .val (.int z3), .val (.int z4), .val (.ref b1), .val (.ref b11), .val (.ref b12), .val (.ref b19), .val (.ref j9), .val (.int (1 : Int32)), .val (.ref j8), .val (.ref j7)] [(.int (1 : Int32))])) _
    refine XS.goto X27.here hx rfl (pc0 := 271) (pc' := 275) rfl (hb hby at_271) (by decide) (by decide) ?_
    show Steps p.tables e below (T27.setTop (mkF m 275 #[.val (.int p1), .val (.int p2), .val (.int p3), .val (.int z3), .val (.int z4), .val (.ref b1), .val (.ref b11), .val (.ref b12), .val (.ref b19), .val (.ref j9), .val (.int (1 : Int32)), .val (.ref j8), .val (.ref j7)] [(.int (1 : Int32))])) _
    refine XS.istore X27.here hx rfl (hb hby at_275) rfl (l' := #[.val (.int p1), .val (.int p2), .val (.int p3), .val (.int z3), .val (.int z4), .val (.ref b1), .val (.ref b11), .val (.ref b12), .val (.ref b19), .val (.ref j9), .val (.int (1 : Int32)), .val (.ref j8), .val (.ref j7)]) rfl ?_
    show Steps p.tables e below (T27.setTop (mkF m 277 #[.val (.int p1), .val (.int p2), .val (.int p3), .val (.int z3), .val (.int z4), .val (.ref b1), .val (.ref b11), .val (.ref b12), .val (.ref b19), .val (.ref j9), .val (.int (1 : Int32)), .val (.ref j8), .val (.ref j7)] [])) _
    refine XS.iload X27.here hx rfl (hb hby at_277) rfl ?_
    exact k_
  obtain ⟨fs, hr, hrun, hended, hW, hsame⟩ := X27.leave (v := some (.int (1 : Int32))) (fun h => by rw [Bd.returns] at h; cases h)
  refine ⟨_, _, go34 _ ?_, hrun, hended, _, _, rfl, ?_, ⟨_, rfl⟩, hW, hsame.mono (by decide) (by decide)⟩
  · skip
    show Steps p.tables e below (T27.setTop (mkF m 279 #[.val (.int p1), .val (.int p2), .val (.int p3), .val (.int z3), .val (.int z4), .val (.ref b1), .val (.ref b11), .val (.ref b12), .val (.ref b19), .val (.ref j9), .val (.int (1 : Int32)), .val (.ref j8), .val (.ref j7)] [(.int (1 : Int32))])) _
    exact retN X27 hx (t := .boolean) Bd.returns (by simp) (hb hby at_279) hr
  · exact ⟨rfl, N26⟩
set_option maxRecDepth 65536 in
set_option maxHeartbeats 40000000 in
theorem pc139_8 (l : Launch) (Z : State) (a0 : Array Value) (hw : ∀ d ∈ tables_1, d.before a0 Z = true) (ws : List Jvm.Cond) (p1 : Int32) (p2 : Int32) (p3 : Int32) (j7 : Nat) (j8 : Nat) (j9 : Nat) (b1 : Nat) (b11 : Nat) (b12 : Nat) (b19 : Nat) (en : Nat) (li : Nat) (k1 : ClassId) (k11 : ClassId) (k12 : ClassId) (ke : ClassId) (kl : ClassId) (h0 : Heap) (n0 : Nat) {p : Program} {e : Env} {s : State} {m : MethodId} {below : List Frame} {meth : Method} {c : Code} {s₁ T0 : State} {locs : List Loc}
    (Bd : BodyLoose p l x (head1 (Jvm.Cond.code x code maxLocals ret :: ws) room_1) code maxLocals ret e s m #[(.int p1), (.int p2), (.int p3)] below meth c s₁) (hml : c.maxLocals = 13) (hZ : Z.Warmed39 s.vm) (X0 : Stand p l e room_1 s m #[(.int p1), (.int p2), (.int p3)] below meth c T0 locs 6 93) (e0 : T0.heap = h0) (N0 : Fr n0 locs) (Z0 : n0 ≤ h0.size) (O0 : Old Z n0 h0) (q0_ : Arv Z h0 b1 k1 (.object "java/lang/Integer") (3 : Int32) [(.ref j7), (.ref j8), (.ref j9)] .null) (q1_ : Arv Z h0 b11 k11 .int (3 : Int32) [(.int (1 : Int32)), (.int (2 : Int32)), (.int (3 : Int32))] (.int (0 : Int32))) (q2_ : Arv Z h0 b12 k12 .int (3 : Int32) [(.int (0 : Int32)), (.int (2 : Int32)), (.int (1 : Int32))] (.int (0 : Int32))) (q3_ : Exa Z h0 b19 "com/example/terrace/terrace/core/UseOrder") (q4_ : Fld Z h0 b19 "com/example/terrace/terrace/core/UseOrder" "entries" "[Ljava/lang/Object;" (.ref en)) (q5_ : Fld Z h0 b19 "com/example/terrace/terrace/core/UseOrder" "links" "[I" (.ref li)) (q6_ : Fld Z h0 b19 "com/example/terrace/terrace/core/UseOrder" "free" "I" (.int (0 : Int32))) (q7_ : Fld Z h0 b19 "com/example/terrace/terrace/core/UseOrder" "highest" "I" (.int (3 : Int32))) (q8_ : Arv Z h0 en ke (.object "java/lang/Object") (16 : Int32) (own_E (.ref j7) (.ref j8) (.ref j9)) .null) (q9_ : Arv Z h0 li kl .int (64 : Int32) (own_L 2 1 0 0 0 3 p3 0 3 0 p3 0 1 2 p3 0) (.int (0 : Int32))) (g_b1 : n0 ≤ b1) (g_b11 : n0 ≤ b11) (g_b12 : n0 ≤ b12) (g_b19 : n0 ≤ b19) (g_en : n0 ≤ en) (g_li : n0 ≤ li) (ne_b1_b11 : b1 ≠ b11) (ne_b1_b12 : b1 ≠ b12) (ne_b1_b19 : b1 ≠ b19) (ne_b1_en : b1 ≠ en) (ne_b1_li : b1 ≠ li) (ne_b11_b12 : b11 ≠ b12) (ne_b11_b19 : b11 ≠ b19) (ne_b11_en : b11 ≠ en) (ne_b11_li : b11 ≠ li) (ne_b12_b19 : b12 ≠ b19) (ne_b12_en : b12 ≠ en) (ne_b12_li : b12 ≠ li) (ne_b19_en : b19 ≠ en) (ne_b19_li : b19 ≠ li) (ne_en_li : en ≠ li) (Ov_ : Ovr Z ke "java/lang/Object") (Ej7 : Exa Z Z.heap j7 "java/lang/Integer") (Ej8 : Exa Z Z.heap j8 "java/lang/Integer") (Ej9 : Exa Z Z.heap j9 "java/lang/Integer") :
    ∃ s₂ o, Steps p.tables e below (T0.setTop (mkF m 139 #[.val (.int p1), .val (.int p2), .val (.int p3), .val (.int (1 : Int32)), .val (.int (0 : Int32)), .val (.ref b1), .val (.ref b11), .val (.ref b12), .val (.ref b19), .unset, .unset, .unset, .unset] [])) s₂ ∧ s₂.status = .running ∧ Ended s₂ below o ∧ ∃ v L, o = .returned v ∧ (v = some (.int 1) ∧ Fr n0 L) ∧ FrameEnd s o s₂ L room_1.cells room_1.slots := by
  have hw_14 := hw _ (List.mem_of_getElem? (i := 14) rfl)
  have hw_41 := hw _ (List.mem_of_getElem? (i := 41) rfl)
  have hw_42 := hw _ (List.mem_of_getElem? (i := 42) rfl)
  have hw_43 := hw _ (List.mem_of_getElem? (i := 43) rfl)
  have hw_44 := hw _ (List.mem_of_getElem? (i := 44) rfl)
  have hw_45 := hw _ (List.mem_of_getElem? (i := 45) rfl)
  have hw_50 := hw _ (List.mem_of_getElem? (i := 50) rfl)
  have hw_51 := hw _ (List.mem_of_getElem? (i := 51) rfl)
  have hw_52 := hw _ (List.mem_of_getElem? (i := 52) rfl)
  have hw_53 := hw _ (List.mem_of_getElem? (i := 53) rfl)
  have hx := Bd.exec
  have hby := Bd.bytes
  have hown : s.vm.findClass "com/example/terrace/terrace/core/UseOrderUsePinLaw" = some m.cls := findClass_of_methodNamed Bd.named
  have hnm := (name_of_methodNamed Bd.named Bd.method).1
  have pre0 : ∀ t_, Steps p.tables e below (T0.setTop (mkF m 139 #[.val (.int p1), .val (.int p2), .val (.int p3), .val (.int (1 : Int32)), .val (.int (0 : Int32)), .val (.ref b1), .val (.ref b11), .val (.ref b12), .val (.ref b19), .unset, .unset, .unset, .unset] [])) t_ → Steps p.tables e below (T0.setTop (mkF m 139 #[.val (.int p1), .val (.int p2), .val (.int p3), .val (.int (1 : Int32)), .val (.int (0 : Int32)), .val (.ref b1), .val (.ref b11), .val (.ref b12), .val (.ref b19), .unset, .unset, .unset, .unset] [])) t_ := fun _ k_ => k_
  obtain ⟨cl1, Ar1, q1, S1, M1, H1, G1⟩ := q1_
  have f2 : Arv Z h0 b11 k11 .int (3 : Int32) [(.int (1 : Int32)), (.int (2 : Int32)), (.int (3 : Int32))] (.int (0 : Int32)) := ⟨cl1, Ar1, q1, S1, M1, H1, G1⟩
  have hin1 : ¬ ((0 : Int32) < 0 ∨ cl1.slots.size ≤ ((0 : Int32)).toNatClampNeg) := inb_of S1 ⟨by decide, by decide⟩
  have hat1 : cl1.slots[((0 : Int32)).toNatClampNeg]? = some (.int (1 : Int32)) := Has.at H1 hin1 rfl
  obtain ⟨cq3, kq3, q3a, q3b, q3c⟩ := isOf hZ e0 q3_
  obtain ⟨_, _, ⟨T3, L3, k3, n3⟩, -, X3, ⟨Lc3, hQ3, l3, y3, z3⟩, st3⟩ := X0.virtualBack hx (y := (⟨"com/example/terrace/terrace/core/UseOrder", "use", "(I)V"⟩ : MethodName)) (z := (⟨"com/example/terrace/terrace/core/UseOrder", "use", "(I)V"⟩ : MethodName)) hown (mvT hZ hw_41) (mvT hZ hw_42) (notFace_of_selects (args := #[]) (mvT hZ hw_44)) (mvT hZ hw_44) (mvT hZ hw_43) (by decide) (backOf (W := 0) (rmUse l Z a0 hw [] b19 li kl (own_L 2 1 0 0 0 3 p3 0 3 0 p3 0 1 2 p3 0) (1 : Int32) (2 : Int32) 4 9 (0 : Int32) (3 : Int32) 1 12 h0 n0 Z0 q5_ q9_ own_Ln rfl (by omega) ne_b19_li ⟨by decide, by decide⟩ rfl ⟨by decide, by decide⟩ rfl ⟨by decide, by decide⟩ rfl (by decide) (by decide) ⟨by decide, by decide⟩ ⟨by decide, by decide⟩ rfl rfl ⟨by decide, by decide⟩ rfl ⟨by decide, by decide⟩ rfl (by decide) (by decide) q3_ (by decide) (by decide) (by decide)) hZ hw_45 hw_14 (by decide) (by decide)) q3a q3c (g := (mkF m 146 #[.val (.int p1), .val (.int p2), .val (.int p3), .val (.int (1 : Int32)), .val (.int (0 : Int32)), .val (.ref b1), .val (.ref b11), .val (.ref b12), .val (.ref b19), .unset, .unset, .unset, .unset] [(.int (1 : Int32)), (.ref b19)])) rfl (by rw [hml]; rfl) (Steps.refl _) (argsL := [(.int (1 : Int32))]) (rest := []) (lenOf pd_0 rfl) rfl (by show 2 * 0 + _ ≤ _; exact Nat.le_of_eq rfl) (hb hby at_146) (fun _ _ => ⟨rfl, e0, (by decide : 6 + 0 ≤ _), (by decide : 93 + 0 ≤ _)⟩)
  dsimp only [Pt.U, Pt.locs, Pt.cells, Pt.slots] at X3 l3 y3 z3 st3 hQ3
  subst l3 y3 z3
  obtain ⟨rfl, N3q, Kc3, Vc3⟩ := hQ3
  have N3 := Fr.app N0 N3q
  have sz3 : h0.size ≤ T3.heap.size := Kc3.1
  have Z3 : n0 ≤ T3.heap.size := Nat.le_trans Z0 sz3
  have O3 : Old Z n0 T3.heap := O0.keep Kc3 (allS (show n0 ≤ li by omega) all0)
  have Vl3_ : Arv Z T3.heap li kl .int (64 : Int32) (own_L 1 3 0 0 2 0 p3 0 3 1 p3 0 0 2 p3 0) (.int (0 : Int32)) := Vc3
  have f5 := (q2_.keep Kc3 (ninS ne_b12_li nin0))
  obtain ⟨_, _, ⟨T4, L4, k4, n4⟩, -, X4, ⟨Lc4, hQ4, l4, y4, z4⟩, st4⟩ := Jvm.LawKit.callS X3 hx (y := (⟨"com/example/terrace/terrace/core/UseOrderUsePinLaw", "moveToEnd", "([II)V"⟩ : MethodName)) hown (mvT hZ hw_50) (mvT hZ hw_51) (mvT hZ hw_52) (mvT hZ hw_53) (by decide) (backOf (W := 0) (rmMove l Z a0 hw [] b12 k12 (0 : Int32) (2 : Int32) (1 : Int32) (0 : Int32) T3.heap n0 Z3 f5 (by omega)) hZ hw_53 hw_52 (by decide) (by decide)) (g := (mkF m 153 #[.val (.int p1), .val (.int p2), .val (.int p3), .val (.int (1 : Int32)), .val (.int (0 : Int32)), .val (.ref b1), .val (.ref b11), .val (.ref b12), .val (.ref b19), .unset, .unset, .unset, .unset] [(.int (0 : Int32)), (.ref b12)])) rfl (by rw [hml]; rfl) (argsL := [(.ref b12), (.int (0 : Int32))]) (rest := []) (lenOf pd_5 rfl) rfl (by show 2 * 0 + _ ≤ _; exact Nat.le_of_eq rfl) (hb hby at_153) (fun _ _ => ⟨rfl, rfl, (by decide : 6 + 0 ≤ _), (by decide : 93 + 0 ≤ _)⟩)
  dsimp only [Pt.U, Pt.locs, Pt.cells, Pt.slots] at X4 l4 y4 z4 st4 hQ4
  subst l4 y4 z4
  obtain ⟨rfl, N4q, Kc4, Vc4⟩ := hQ4
  have N4 := Fr.app N3 N4q
  have sz4 : T3.heap.size ≤ T4.heap.size := Kc4.1
  have Z4 : n0 ≤ T4.heap.size := Nat.le_trans Z3 sz4
  have O4 : Old Z n0 T4.heap := O3.keep Kc4 (allS (show n0 ≤ b12 by omega) all0)
  have Vd4 : Arv Z T4.heap b12 k12 .int (3 : Int32) [(.int (2 : Int32)), (.int (1 : Int32)), (.int (0 : Int32))] (.int (0 : Int32)) := Vc4
  have go6 : ∀ t_, Steps p.tables e below (T4.setTop (mkF m 156 #[.val (.int p1), .val (.int p2), .val (.int p3), .val (.int (1 : Int32)), .val (.int (0 : Int32)), .val (.ref b1), .val (.ref b11), .val (.ref b12), .val (.ref b19), .unset, .unset, .unset, .unset] [])) t_ → Steps p.tables e below (T0.setTop (mkF m 139 #[.val (.int p1), .val (.int p2), .val (.int p3), .val (.int (1 : Int32)), .val (.int (0 : Int32)), .val (.ref b1), .val (.ref b11), .val (.ref b12), .val (.ref b19), .unset, .unset, .unset, .unset] [])) t_ := by
    intro t_ k_
    refine pre0 t_ ?_
    show Steps p.tables e below (T0.setTop (mkF m 139 #[.val (.int p1), .val (.int p2), .val (.int p3), .val (.int (1 : Int32)), .val (.int (0 : Int32)), .val (.ref b1), .val (.ref b11), .val (.ref b12), .val (.ref b19), .unset, .unset, .unset, .unset] [])) _
    refine XS.aload X0.here hx rfl (hb hby at_139) rfl rfl ?_
    show Steps p.tables e below (T0.setTop (mkF m 141 #[.val (.int p1), .val (.int p2), .val (.int p3), .val (.int (1 : Int32)), .val (.int (0 : Int32)), .val (.ref b1), .val (.ref b11), .val (.ref b12), .val (.ref b19), .unset, .unset, .unset, .unset] [(.ref b19)])) _
    refine XS.aload X0.here hx rfl (hb hby at_141) rfl rfl ?_
    show Steps p.tables e below (T0.setTop (mkF m 143 #[.val (.int p1), .val (.int p2), .val (.int p3), .val (.int (1 : Int32)), .val (.int (0 : Int32)), .val (.ref b1), .val (.ref b11), .val (.ref b12), .val (.ref b19), .unset, .unset, .unset, .unset] [(.ref b11), (.ref b19)])) _
    refine XS.iload X0.here hx rfl (hb hby at_143) rfl ?_
    show Steps p.tables e below (T0.setTop (mkF m 145 #[.val (.int p1), .val (.int p2), .val (.int p3), .val (.int (1 : Int32)), .val (.int (0 : Int32)), .val (.ref b1), .val (.ref b11), .val (.ref b12), .val (.ref b19), .unset, .unset, .unset, .unset] [(.int (0 : Int32)), (.ref b11), (.ref b19)])) _
    refine X0.iaload hx (j := (0 : Int32)) (v := (.int (1 : Int32))) (by rw [e0]; exact Ar1.1) (State.isArrayOf_alike hZ.alike Ar1.2.1) Ar1.2.2 hin1 hat1 (g := (mkF m 145 #[.val (.int p1), .val (.int p2), .val (.int p3), .val (.int (1 : Int32)), .val (.int (0 : Int32)), .val (.ref b1), .val (.ref b11), .val (.ref b12), .val (.ref b19), .unset, .unset, .unset, .unset] [(.int (0 : Int32)), (.ref b11), (.ref b19)])) rfl rfl (hb hby at_145) _ ?_
    show Steps p.tables e below (T0.setTop (mkF m 146 #[.val (.int p1), .val (.int p2), .val (.int p3), .val (.int (1 : Int32)), .val (.int (0 : Int32)), .val (.ref b1), .val (.ref b11), .val (.ref b12), .val (.ref b19), .unset, .unset, .unset, .unset] [(.int (1 : Int32)), (.ref b19)])) _
    refine st3.trans ?_
    show Steps p.tables e below (T3.setTop (mkF m 149 #[.val (.int p1), .val (.int p2), .val (.int p3), .val (.int (1 : Int32)), .val (.int (0 : Int32)), .val (.ref b1), .val (.ref b11), .val (.ref b12), .val (.ref b19), .unset, .unset, .unset, .unset] [])) _
    refine XS.aload X3.here hx rfl (hb hby at_149) rfl rfl ?_
    show Steps p.tables e below (T3.setTop (mkF m 151 #[.val (.int p1), .val (.int p2), .val (.int p3), .val (.int (1 : Int32)), .val (.int (0 : Int32)), .val (.ref b1), .val (.ref b11), .val (.ref b12), .val (.ref b19), .unset, .unset, .unset, .unset] [(.ref b12)])) _
    refine XS.iload X3.here hx rfl (hb hby at_151) rfl ?_
    show Steps p.tables e below (T3.setTop (mkF m 153 #[.val (.int p1), .val (.int p2), .val (.int p3), .val (.int (1 : Int32)), .val (.int (0 : Int32)), .val (.ref b1), .val (.ref b11), .val (.ref b12), .val (.ref b19), .unset, .unset, .unset, .unset] [(.int (0 : Int32)), (.ref b12)])) _
    refine st4 _ ?_
    exact k_
  have f7 := (q0_.keep Kc3 (ninS ne_b1_li nin0))
  have f8 := (f7.keep Kc4 (ninS ne_b1_b12 nin0))
  have f9 := (f2.keep Kc3 (ninS ne_b11_li nin0))
  have f10 := (f9.keep Kc4 (ninS ne_b11_b12 nin0))
  have f11 := (q3_.keep Kc3)
  have f12 := (f11.keep Kc4)
  have f13 := (q4_.keep Kc3 (ninS ne_b19_li nin0))
  have f14 := (f13.keep Kc4 (ninS (Ne.symm ne_b12_b19) nin0))
  have f15 := (q5_.keep Kc3 (ninS ne_b19_li nin0))
  have f16 := (f15.keep Kc4 (ninS (Ne.symm ne_b12_b19) nin0))
  have f17 := (q6_.keep Kc3 (ninS ne_b19_li nin0))
  have f18 := (f17.keep Kc4 (ninS (Ne.symm ne_b12_b19) nin0))
  have f19 := (q7_.keep Kc3 (ninS ne_b19_li nin0))
  have f20 := (f19.keep Kc4 (ninS (Ne.symm ne_b12_b19) nin0))
  have f21 := (q8_.keep Kc3 (ninS ne_en_li nin0))
  have f22 := (f21.keep Kc4 (ninS (Ne.symm ne_b12_en) nin0))
  have f23 := (Vl3_.keep Kc4 (ninS (Ne.symm ne_b12_li) nin0))
  obtain ⟨s2_, o_, hs_, h1_, h2_, v_, L_, h3_, hq_, h4_⟩ := pc156_9 l Z a0 hw ws p1 p2 p3 j7 j8 j9 b1 b11 b12 b19 en li k1 k11 k12 ke kl (1 : Int32) (0 : Int32) T4.heap n0 Bd hml hZ X4 rfl N4 Z4 O4 f8 f10 Vd4 f12 f14 f16 f18 f20 f22 f23 g_b1 g_b11 g_b12 g_b19 g_en g_li ne_b1_b11 ne_b1_b12 ne_b1_b19 ne_b1_en ne_b1_li ne_b11_b12 ne_b11_b19 ne_b11_en ne_b11_li ne_b12_b19 ne_b12_en ne_b12_li ne_b19_en ne_b19_li ne_en_li Ov_ Ej7 Ej8 Ej9
  exact ⟨s2_, o_, go6 _ hs_, h1_, h2_, v_, L_, h3_, hq_, h4_⟩
set_option maxRecDepth 65536 in
set_option maxHeartbeats 40000000 in
theorem pc156_11 (l : Launch) (Z : State) (a0 : Array Value) (hw : ∀ d ∈ tables_1, d.before a0 Z = true) (ws : List Jvm.Cond) (p1 : Int32) (p2 : Int32) (p3 : Int32) (j7 : Nat) (j8 : Nat) (j9 : Nat) (b1 : Nat) (b11 : Nat) (b12 : Nat) (b19 : Nat) (en : Nat) (li : Nat) (k1 : ClassId) (k11 : ClassId) (k12 : ClassId) (ke : ClassId) (kl : ClassId) (z3 : Int32) (z4 : Int32) (h0 : Heap) (n0 : Nat) {p : Program} {e : Env} {s : State} {m : MethodId} {below : List Frame} {meth : Method} {c : Code} {s₁ T0 : State} {locs : List Loc}
    (Bd : BodyLoose p l x (head1 (Jvm.Cond.code x code maxLocals ret :: ws) room_1) code maxLocals ret e s m #[(.int p1), (.int p2), (.int p3)] below meth c s₁) (hml : c.maxLocals = 13) (hZ : Z.Warmed39 s.vm) (X0 : Stand p l e room_1 s m #[(.int p1), (.int p2), (.int p3)] below meth c T0 locs 6 93) (e0 : T0.heap = h0) (N0 : Fr n0 locs) (Z0 : n0 ≤ h0.size) (O0 : Old Z n0 h0) (q0_ : Arv Z h0 b1 k1 (.object "java/lang/Integer") (3 : Int32) [(.ref j7), (.ref j8), (.ref j9)] .null) (q1_ : Arv Z h0 b11 k11 .int (3 : Int32) [(.int (1 : Int32)), (.int (2 : Int32)), (.int (3 : Int32))] (.int (0 : Int32))) (q2_ : Arv Z h0 b12 k12 .int (3 : Int32) [(.int (0 : Int32)), (.int (2 : Int32)), (.int (1 : Int32))] (.int (0 : Int32))) (q3_ : Exa Z h0 b19 "com/example/terrace/terrace/core/UseOrder") (q4_ : Fld Z h0 b19 "com/example/terrace/terrace/core/UseOrder" "entries" "[Ljava/lang/Object;" (.ref en)) (q5_ : Fld Z h0 b19 "com/example/terrace/terrace/core/UseOrder" "links" "[I" (.ref li)) (q6_ : Fld Z h0 b19 "com/example/terrace/terrace/core/UseOrder" "free" "I" (.int (0 : Int32))) (q7_ : Fld Z h0 b19 "com/example/terrace/terrace/core/UseOrder" "highest" "I" (.int (3 : Int32))) (q8_ : Arv Z h0 en ke (.object "java/lang/Object") (16 : Int32) (own_E (.ref j7) (.ref j8) (.ref j9)) .null) (q9_ : Arv Z h0 li kl .int (64 : Int32) (own_L 2 1 0 0 0 3 p3 0 3 0 p3 0 1 2 p3 0) (.int (0 : Int32))) (g_b1 : n0 ≤ b1) (g_b11 : n0 ≤ b11) (g_b12 : n0 ≤ b12) (g_b19 : n0 ≤ b19) (g_en : n0 ≤ en) (g_li : n0 ≤ li) (ne_b1_b11 : b1 ≠ b11) (ne_b1_b12 : b1 ≠ b12) (ne_b1_b19 : b1 ≠ b19) (ne_b1_en : b1 ≠ en) (ne_b1_li : b1 ≠ li) (ne_b11_b12 : b11 ≠ b12) (ne_b11_b19 : b11 ≠ b19) (ne_b11_en : b11 ≠ en) (ne_b11_li : b11 ≠ li) (ne_b12_b19 : b12 ≠ b19) (ne_b12_en : b12 ≠ en) (ne_b12_li : b12 ≠ li) (ne_b19_en : b19 ≠ en) (ne_b19_li : b19 ≠ li) (ne_en_li : en ≠ li) (Ov_ : Ovr Z ke "java/lang/Object") (Ej7 : Exa Z Z.heap j7 "java/lang/Integer") (Ej8 : Exa Z Z.heap j8 "java/lang/Integer") (Ej9 : Exa Z Z.heap j9 "java/lang/Integer") :
    ∃ s₂ o, Steps p.tables e below (T0.setTop (mkF m 156 #[.val (.int p1), .val (.int p2), .val (.int p3), .val (.int z3), .val (.int z4), .val (.ref b1), .val (.ref b11), .val (.ref b12), .val (.ref b19), .unset, .unset, .unset, .unset] [])) s₂ ∧ s₂.status = .running ∧ Ended s₂ below o ∧ ∃ v L, o = .returned v ∧ (v = some (.int 1) ∧ Fr n0 L) ∧ FrameEnd s o s₂ L room_1.cells room_1.slots := by
  have hw_1 := hw _ (List.mem_of_getElem? (i := 1) rfl)
  have hw_14 := hw _ (List.mem_of_getElem? (i := 14) rfl)
  have hw_54 := hw _ (List.mem_of_getElem? (i := 54) rfl)
  have hw_55 := hw _ (List.mem_of_getElem? (i := 55) rfl)
  have hw_56 := hw _ (List.mem_of_getElem? (i := 56) rfl)
  have hw_57 := hw _ (List.mem_of_getElem? (i := 57) rfl)
  have hw_58 := hw _ (List.mem_of_getElem? (i := 58) rfl)
  have hw_63 := hw _ (List.mem_of_getElem? (i := 63) rfl)
  have hw_64 := hw _ (List.mem_of_getElem? (i := 64) rfl)
  have hw_65 := hw _ (List.mem_of_getElem? (i := 65) rfl)
  have hw_66 := hw _ (List.mem_of_getElem? (i := 66) rfl)
  have hw_67 := hw _ (List.mem_of_getElem? (i := 67) rfl)
  have hx := Bd.exec
  have hby := Bd.bytes
  have hown : s.vm.findClass "com/example/terrace/terrace/core/UseOrderUsePinLaw" = some m.cls := findClass_of_methodNamed Bd.named
  have hnm := (name_of_methodNamed Bd.named Bd.method).1
  have pre0 : ∀ t_, Steps p.tables e below (T0.setTop (mkF m 156 #[.val (.int p1), .val (.int p2), .val (.int p3), .val (.int z3), .val (.int z4), .val (.ref b1), .val (.ref b11), .val (.ref b12), .val (.ref b19), .unset, .unset, .unset, .unset] [])) t_ → Steps p.tables e below (T0.setTop (mkF m 156 #[.val (.int p1), .val (.int p2), .val (.int p3), .val (.int z3), .val (.int z4), .val (.ref b1), .val (.ref b11), .val (.ref b12), .val (.ref b19), .unset, .unset, .unset, .unset] [])) t_ := fun _ k_ => k_
  obtain ⟨cq1, kq1, q1a, q1b, q1c⟩ := isOf hZ e0 q3_
  obtain ⟨_, _, ⟨T1, L1, k1, n1⟩, -, X1, ⟨Lc1, hQ1, l1, y1, z1⟩, st1⟩ := X0.virtualBack hx (y := (⟨"com/example/terrace/terrace/core/UseOrder", "leastRecent", "()Ljava/lang/Object;"⟩ : MethodName)) (z := (⟨"com/example/terrace/terrace/core/UseOrder", "leastRecent", "()Ljava/lang/Object;"⟩ : MethodName)) hown (mvT hZ hw_54) (mvT hZ hw_55) (notFace_of_selects (args := #[]) (mvT hZ hw_57)) (mvT hZ hw_57) (mvT hZ hw_56) (by decide) (backOf (W := 0) (rmLeast l Z a0 hw [] b19 li kl (own_L 2 1 0 0 0 3 p3 0 3 0 p3 0 1 2 p3 0) en ke (own_E (.ref j7) (.ref j8) (.ref j9)) j7 (1 : Int32) h0 n0 Z0 q5_ q9_ q4_ q8_ q3_ rfl ⟨by decide, by decide⟩ rfl) hZ hw_58 hw_14 (by decide) (by decide)) q1a q1c (g := (mkF m 158 #[.val (.int p1), .val (.int p2), .val (.int p3), .val (.int z3), .val (.int z4), .val (.ref b1), .val (.ref b11), .val (.ref b12), .val (.ref b19), .unset, .unset, .unset, .unset] [(.ref b19)])) rfl (by rw [hml]; rfl) (Steps.refl _) (argsL := []) (rest := []) (lenOf pd_6 rfl) rfl (by show 2 * 0 + _ ≤ _; exact Nat.le_of_eq rfl) (hb hby at_158) (fun _ _ => ⟨rfl, e0, (by decide : 6 + 0 ≤ _), (by decide : 93 + 0 ≤ _)⟩)
  dsimp only [Pt.U, Pt.locs, Pt.cells, Pt.slots] at X1 l1 y1 z1 st1 hQ1
  subst l1 y1 z1
  obtain ⟨rfl, N1q, e1⟩ := hQ1
  have N1 := Fr.app N0 N1q
  obtain ⟨T2, X2, e2, st2⟩ := castY X1 hx hZ hown hw_1 e1 (Ins.self (Ej7.ext O0.2)) (g := (mkF m 161 #[.val (.int p1), .val (.int p2), .val (.int p3), .val (.int z3), .val (.int z4), .val (.ref b1), .val (.ref b11), .val (.ref b12), .val (.ref b19), .unset, .unset, .unset, .unset] [(.ref j7)])) rfl rfl (hb hby at_161)
  obtain ⟨cl3, Ar3, q3, S3, M3, H3, G3⟩ := q2_
  have f4 : Arv Z h0 b12 k12 .int (3 : Int32) [(.int (0 : Int32)), (.int (2 : Int32)), (.int (1 : Int32))] (.int (0 : Int32)) := ⟨cl3, Ar3, q3, S3, M3, H3, G3⟩
  have hin3 : ¬ ((0 : Int32) < 0 ∨ cl3.slots.size ≤ ((0 : Int32)).toNatClampNeg) := inb_of S3 ⟨by decide, by decide⟩
  have hat3 : cl3.slots[((0 : Int32)).toNatClampNeg]? = some (.int (0 : Int32)) := Has.at H3 hin3 rfl
  obtain ⟨cl5, Ar5, q5, S5, M5, H5, G5⟩ := q0_
  have f6 : Arv Z h0 b1 k1 (.object "java/lang/Integer") (3 : Int32) [(.ref j7), (.ref j8), (.ref j9)] .null := ⟨cl5, Ar5, q5, S5, M5, H5, G5⟩
  have hin5 : ¬ ((0 : Int32) < 0 ∨ cl5.slots.size ≤ ((0 : Int32)).toNatClampNeg) := inb_of S5 ⟨by decide, by decide⟩
  have hat5 : cl5.slots[((0 : Int32)).toNatClampNeg]? = some (.ref j7) := Has.at H5 hin5 rfl
  obtain ⟨cl7, Ar7, q7, S7, M7, H7, G7⟩ := f4
  have f8 : Arv Z h0 b12 k12 .int (3 : Int32) [(.int (0 : Int32)), (.int (2 : Int32)), (.int (1 : Int32))] (.int (0 : Int32)) := ⟨cl7, Ar7, q7, S7, M7, H7, G7⟩
  have hin7 : ¬ ((0 : Int32) < 0 ∨ cl7.slots.size ≤ ((0 : Int32)).toNatClampNeg) := inb_of S7 ⟨by decide, by decide⟩
  have hat7 : cl7.slots[((0 : Int32)).toNatClampNeg]? = some (.int (0 : Int32)) := Has.at H7 hin7 rfl
  obtain ⟨cl9, Ar9, q9, S9, M9, H9, G9⟩ := q1_
  have f10 : Arv Z h0 b11 k11 .int (3 : Int32) [(.int (1 : Int32)), (.int (2 : Int32)), (.int (3 : Int32))] (.int (0 : Int32)) := ⟨cl9, Ar9, q9, S9, M9, H9, G9⟩
  have hin9 : ¬ ((0 : Int32) < 0 ∨ cl9.slots.size ≤ ((0 : Int32)).toNatClampNeg) := inb_of S9 ⟨by decide, by decide⟩
  have hat9 : cl9.slots[((0 : Int32)).toNatClampNeg]? = some (.int (1 : Int32)) := Has.at H9 hin9 rfl
  obtain ⟨cq11, kq11, q11a, q11b, q11c⟩ := isOf hZ e2 q3_
  obtain ⟨_, _, ⟨T11, L11, k11, n11⟩, -, X11, ⟨Lc11, hQ11, l11, y11, z11⟩, st11⟩ := X2.virtualBack hx (y := (⟨"com/example/terrace/terrace/core/UseOrder", "remove", "(I)V"⟩ : MethodName)) (z := (⟨"com/example/terrace/terrace/core/UseOrder", "remove", "(I)V"⟩ : MethodName)) hown (mvT hZ hw_63) (mvT hZ hw_64) (notFace_of_selects (args := #[]) (mvT hZ hw_66)) (mvT hZ hw_66) (mvT hZ hw_65) (by decide) (backOf (W := 0) (rmRem l Z a0 hw [] b19 li kl (own_L 2 1 0 0 0 3 p3 0 3 0 p3 0 1 2 p3 0) en ke (own_E (.ref j7) (.ref j8) (.ref j9)) (1 : Int32) (0 : Int32) 4 1 (0 : Int32) (3 : Int32) 1 12 h0 n0 Z0 q5_ q9_ own_Ln ⟨by decide, by decide⟩ ⟨by decide, by decide⟩ rfl rfl ⟨by decide, by decide⟩ rfl ⟨by decide, by decide⟩ rfl (by decide) (by decide) (by omega) ne_b19_li q3_ q4_ q8_ own_En (by omega) (by omega) q6_ ne_en_li ne_b19_en ⟨by decide, by decide⟩ rfl ⟨by decide, by decide⟩ rfl ⟨by decide, by decide⟩ rfl (by decide) (by decide)) hZ hw_67 hw_14 (by decide) (by decide)) q11a q11c (g := (mkF m 194 #[.val (.int p1), .val (.int p2), .val (.int p3), .val (.int z3), .val (.int z4), .val (.ref b1), .val (.ref b11), .val (.ref b12), .val (.ref b19), .val (.ref j7), .val (.int (1 : Int32)), .unset, .unset] [(.int (1 : Int32)), (.ref b19)])) rfl (by rw [hml]; rfl) (Steps.refl _) (argsL := [(.int (1 : Int32))]) (rest := []) (lenOf pd_0 rfl) rfl (by show 2 * 0 + _ ≤ _; exact Nat.le_of_eq rfl) (hb hby at_194) (fun _ _ => ⟨rfl, e2, (by decide : 6 + 0 ≤ _), (by decide : 93 + 0 ≤ _)⟩)
  dsimp only [Pt.U, Pt.locs, Pt.cells, Pt.slots] at X11 l11 y11 z11 st11 hQ11
  subst l11 y11 z11
  obtain ⟨rfl, N11q, Kc11, c0_11, c1_11, c2_11, c3_11, c4_11, c5_11⟩ := hQ11
  have N11 := Fr.app N1 N11q
  have sz11 : h0.size ≤ T11.heap.size := Kc11.1
  have Z11 : n0 ≤ T11.heap.size := Nat.le_trans Z0 sz11
  have O11 : Old Z n0 T11.heap := O0.keep Kc11 (allS (show n0 ≤ b19 by omega) (allS (show n0 ≤ li by omega) (allS (show n0 ≤ en by omega) all0)))
  have Vl11_ : Arv Z T11.heap li kl .int (64 : Int32) (own_L 2 3 0 0 0 (-1) p3 0 3 0 p3 0 0 2 p3 0) (.int (0 : Int32)) := c4_11
  have Ve11_ : Arv Z T11.heap en ke (.object "java/lang/Object") (16 : Int32) (own_E .null (.ref j8) (.ref j9)) .null := c5_11
  obtain ⟨cq12, kq12, q12a, q12b, q12c⟩ := isOf hZ rfl c0_11
  obtain ⟨_, _, ⟨T12, L12, k12, n12⟩, -, X12, ⟨Lc12, hQ12, l12, y12, z12⟩, st12⟩ := X11.virtualBack hx (y := (⟨"com/example/terrace/terrace/core/UseOrder", "leastRecent", "()Ljava/lang/Object;"⟩ : MethodName)) (z := (⟨"com/example/terrace/terrace/core/UseOrder", "leastRecent", "()Ljava/lang/Object;"⟩ : MethodName)) hown (mvT hZ hw_54) (mvT hZ hw_55) (notFace_of_selects (args := #[]) (mvT hZ hw_57)) (mvT hZ hw_57) (mvT hZ hw_56) (by decide) (backOf (W := 0) (rmLeast l Z a0 hw [] b19 li kl (own_L 2 3 0 0 0 (-1) p3 0 3 0 p3 0 0 2 p3 0) en ke (own_E .null (.ref j8) (.ref j9)) j9 (3 : Int32) T11.heap n0 Z11 c1_11 Vl11_ c2_11 Ve11_ c0_11 rfl ⟨by decide, by decide⟩ rfl) hZ hw_58 hw_14 (by decide) (by decide)) q12a q12c (g := (mkF m 199 #[.val (.int p1), .val (.int p2), .val (.int p3), .val (.int z3), .val (.int z4), .val (.ref b1), .val (.ref b11), .val (.ref b12), .val (.ref b19), .val (.ref j7), .val (.int (1 : Int32)), .unset, .unset] [(.ref b19)])) rfl (by rw [hml]; rfl) (Steps.refl _) (argsL := []) (rest := []) (lenOf pd_6 rfl) rfl (by show 2 * 0 + _ ≤ _; exact Nat.le_of_eq rfl) (hb hby at_199) (fun _ _ => ⟨rfl, rfl, (by decide : 6 + 0 ≤ _), (by decide : 93 + 0 ≤ _)⟩)
  dsimp only [Pt.U, Pt.locs, Pt.cells, Pt.slots] at X12 l12 y12 z12 st12 hQ12
  subst l12 y12 z12
  obtain ⟨rfl, N12q, e12⟩ := hQ12
  have N12 := Fr.app N11 N12q
  obtain ⟨T13, X13, e13, st13⟩ := castY X12 hx hZ hown hw_1 e12 (Ins.self (Ej9.ext O11.2)) (g := (mkF m 202 #[.val (.int p1), .val (.int p2), .val (.int p3), .val (.int z3), .val (.int z4), .val (.ref b1), .val (.ref b11), .val (.ref b12), .val (.ref b19), .val (.ref j7), .val (.int (1 : Int32)), .unset, .unset] [(.ref j9)])) rfl rfl (hb hby at_202)
  have f14 := (f8.keep Kc11 (ninS ne_b12_b19 (ninS ne_b12_li (ninS ne_b12_en nin0))))
  obtain ⟨cl15, Ar15, q15, S15, M15, H15, G15⟩ := f14
  have f16 : Arv Z T11.heap b12 k12 .int (3 : Int32) [(.int (0 : Int32)), (.int (2 : Int32)), (.int (1 : Int32))] (.int (0 : Int32)) := ⟨cl15, Ar15, q15, S15, M15, H15, G15⟩
  have hin15 : ¬ ((1 : Int32) < 0 ∨ cl15.slots.size ≤ ((1 : Int32)).toNatClampNeg) := inb_of S15 ⟨by decide, by decide⟩
  have hat15 : cl15.slots[((1 : Int32)).toNatClampNeg]? = some (.int (2 : Int32)) := Has.at H15 hin15 rfl
  have f17 := (f6.keep Kc11 (ninS ne_b1_b19 (ninS ne_b1_li (ninS ne_b1_en nin0))))
  obtain ⟨cl18, Ar18, q18, S18, M18, H18, G18⟩ := f17
  have f19 : Arv Z T11.heap b1 k1 (.object "java/lang/Integer") (3 : Int32) [(.ref j7), (.ref j8), (.ref j9)] .null := ⟨cl18, Ar18, q18, S18, M18, H18, G18⟩
  have hin18 : ¬ ((2 : Int32) < 0 ∨ cl18.slots.size ≤ ((2 : Int32)).toNatClampNeg) := inb_of S18 ⟨by decide, by decide⟩
  have hat18 : cl18.slots[((2 : Int32)).toNatClampNeg]? = some (.ref j9) := Has.at H18 hin18 rfl
  obtain ⟨cl20, Ar20, q20, S20, M20, H20, G20⟩ := f16
  have f21 : Arv Z T11.heap b12 k12 .int (3 : Int32) [(.int (0 : Int32)), (.int (2 : Int32)), (.int (1 : Int32))] (.int (0 : Int32)) := ⟨cl20, Ar20, q20, S20, M20, H20, G20⟩
  have hin20 : ¬ ((1 : Int32) < 0 ∨ cl20.slots.size ≤ ((1 : Int32)).toNatClampNeg) := inb_of S20 ⟨by decide, by decide⟩
  have hat20 : cl20.slots[((1 : Int32)).toNatClampNeg]? = some (.int (2 : Int32)) := Has.at H20 hin20 rfl
  have f22 := (f10.keep Kc11 (ninS ne_b11_b19 (ninS ne_b11_li (ninS ne_b11_en nin0))))
  obtain ⟨cl23, Ar23, q23, S23, M23, H23, G23⟩ := f22
  have f24 : Arv Z T11.heap b11 k11 .int (3 : Int32) [(.int (1 : Int32)), (.int (2 : Int32)), (.int (3 : Int32))] (.int (0 : Int32)) := ⟨cl23, Ar23, q23, S23, M23, H23, G23⟩
  have hin23 : ¬ ((2 : Int32) < 0 ∨ cl23.slots.size ≤ ((2 : Int32)).toNatClampNeg) := inb_of S23 ⟨by decide, by decide⟩
  have hat23 : cl23.slots[((2 : Int32)).toNatClampNeg]? = some (.int (3 : Int32)) := Has.at H23 hin23 rfl
  obtain ⟨cq25, kq25, q25a, q25b, q25c⟩ := isOf hZ e13 c0_11
  obtain ⟨_, _, ⟨T25, L25, k25, n25⟩, -, X25, ⟨Lc25, hQ25, l25, y25, z25⟩, st25⟩ := X13.virtualBack hx (y := (⟨"com/example/terrace/terrace/core/UseOrder", "remove", "(I)V"⟩ : MethodName)) (z := (⟨"com/example/terrace/terrace/core/UseOrder", "remove", "(I)V"⟩ : MethodName)) hown (mvT hZ hw_63) (mvT hZ hw_64) (notFace_of_selects (args := #[]) (mvT hZ hw_66)) (mvT hZ hw_66) (mvT hZ hw_65) (by decide) (backOf (W := 0) (rmRem l Z a0 hw [] b19 li kl (own_L 2 3 0 0 0 (-1) p3 0 3 0 p3 0 0 2 p3 0) en ke (own_E .null (.ref j8) (.ref j9)) (3 : Int32) (1 : Int32) 12 3 (0 : Int32) (2 : Int32) 1 8 T11.heap n0 Z11 c1_11 Vl11_ own_Ln ⟨by decide, by decide⟩ ⟨by decide, by decide⟩ rfl rfl ⟨by decide, by decide⟩ rfl ⟨by decide, by decide⟩ rfl (by decide) (by decide) (by omega) ne_b19_li c0_11 c2_11 Ve11_ own_En (by omega) (by omega) c3_11 ne_en_li ne_b19_en ⟨by decide, by decide⟩ rfl ⟨by decide, by decide⟩ rfl ⟨by decide, by decide⟩ rfl (by decide) (by decide)) hZ hw_67 hw_14 (by decide) (by decide)) q25a q25c (g := (mkF m 240 #[.val (.int p1), .val (.int p2), .val (.int p3), .val (.int z3), .val (.int z4), .val (.ref b1), .val (.ref b11), .val (.ref b12), .val (.ref b19), .val (.ref j7), .val (.int (1 : Int32)), .val (.ref j9), .unset] [(.int (3 : Int32)), (.ref b19)])) rfl (by rw [hml]; rfl) (Steps.refl _) (argsL := [(.int (3 : Int32))]) (rest := []) (lenOf pd_0 rfl) rfl (by show 2 * 0 + _ ≤ _; exact Nat.le_of_eq rfl) (hb hby at_240) (fun _ _ => ⟨rfl, e13, (by decide : 6 + 0 ≤ _), (by decide : 93 + 0 ≤ _)⟩)
  dsimp only [Pt.U, Pt.locs, Pt.cells, Pt.slots] at X25 l25 y25 z25 st25 hQ25
  subst l25 y25 z25
  obtain ⟨rfl, N25q, Kc25, c0_25, c1_25, c2_25, c3_25, c4_25, c5_25⟩ := hQ25
  have N25 := Fr.app N12 N25q
  have sz25 : T11.heap.size ≤ T25.heap.size := Kc25.1
  have Z25 : n0 ≤ T25.heap.size := Nat.le_trans Z11 sz25
  have O25 : Old Z n0 T25.heap := O11.keep Kc25 (allS (show n0 ≤ b19 by omega) (allS (show n0 ≤ li by omega) (allS (show n0 ≤ en by omega) all0)))
  have Vl25_ : Arv Z T25.heap li kl .int (64 : Int32) (own_L 2 2 0 0 0 (-1) p3 0 0 0 p3 0 1 (-1) p3 0) (.int (0 : Int32)) := c4_25
  have Ve25_ : Arv Z T25.heap en ke (.object "java/lang/Object") (16 : Int32) (own_E .null (.ref j8) .null) .null := c5_25
  obtain ⟨cq26, kq26, q26a, q26b, q26c⟩ := isOf hZ rfl c0_25
  obtain ⟨_, _, ⟨T26, L26, k26, n26⟩, -, X26, ⟨Lc26, hQ26, l26, y26, z26⟩, st26⟩ := X25.virtualBack hx (y := (⟨"com/example/terrace/terrace/core/UseOrder", "leastRecent", "()Ljava/lang/Object;"⟩ : MethodName)) (z := (⟨"com/example/terrace/terrace/core/UseOrder", "leastRecent", "()Ljava/lang/Object;"⟩ : MethodName)) hown (mvT hZ hw_54) (mvT hZ hw_55) (notFace_of_selects (args := #[]) (mvT hZ hw_57)) (mvT hZ hw_57) (mvT hZ hw_56) (by decide) (backOf (W := 0) (rmLeast l Z a0 hw [] b19 li kl (own_L 2 2 0 0 0 (-1) p3 0 0 0 p3 0 1 (-1) p3 0) en ke (own_E .null (.ref j8) .null) j8 (2 : Int32) T25.heap n0 Z25 c1_25 Vl25_ c2_25 Ve25_ c0_25 rfl ⟨by decide, by decide⟩ rfl) hZ hw_58 hw_14 (by decide) (by decide)) q26a q26c (g := (mkF m 245 #[.val (.int p1), .val (.int p2), .val (.int p3), .val (.int z3), .val (.int z4), .val (.ref b1), .val (.ref b11), .val (.ref b12), .val (.ref b19), .val (.ref j7), .val (.int (1 : Int32)), .val (.ref j9), .unset] [(.ref b19)])) rfl (by rw [hml]; rfl) (Steps.refl _) (argsL := []) (rest := []) (lenOf pd_6 rfl) rfl (by show 2 * 0 + _ ≤ _; exact Nat.le_of_eq rfl) (hb hby at_245) (fun _ _ => ⟨rfl, rfl, (by decide : 6 + 0 ≤ _), (by decide : 93 + 0 ≤ _)⟩)
  dsimp only [Pt.U, Pt.locs, Pt.cells, Pt.slots] at X26 l26 y26 z26 st26 hQ26
  subst l26 y26 z26
  obtain ⟨rfl, N26q, e26⟩ := hQ26
  have N26 := Fr.app N25 N26q
  obtain ⟨T27, X27, e27, st27⟩ := castY X26 hx hZ hown hw_1 e26 (Ins.self (Ej8.ext O25.2)) (g := (mkF m 248 #[.val (.int p1), .val (.int p2), .val (.int p3), .val (.int z3), .val (.int z4), .val (.ref b1), .val (.ref b11), .val (.ref b12), .val (.ref b19), .val (.ref j7), .val (.int (1 : Int32)), .val (.ref j9), .unset] [(.ref j8)])) rfl rfl (hb hby at_248)
  have f28 := (f21.keep Kc25 (ninS ne_b12_b19 (ninS ne_b12_li (ninS ne_b12_en nin0))))
  obtain ⟨cl29, Ar29, q29, S29, M29, H29, G29⟩ := f28
  have f30 : Arv Z T25.heap b12 k12 .int (3 : Int32) [(.int (0 : Int32)), (.int (2 : Int32)), (.int (1 : Int32))] (.int (0 : Int32)) := ⟨cl29, Ar29, q29, S29, M29, H29, G29⟩
  have hin29 : ¬ ((2 : Int32) < 0 ∨ cl29.slots.size ≤ ((2 : Int32)).toNatClampNeg) := inb_of S29 ⟨by decide, by decide⟩
  have hat29 : cl29.slots[((2 : Int32)).toNatClampNeg]? = some (.int (1 : Int32)) := Has.at H29 hin29 rfl
  have f31 := (f19.keep Kc25 (ninS ne_b1_b19 (ninS ne_b1_li (ninS ne_b1_en nin0))))
  obtain ⟨cl32, Ar32, q32, S32, M32, H32, G32⟩ := f31
  have f33 : Arv Z T25.heap b1 k1 (.object "java/lang/Integer") (3 : Int32) [(.ref j7), (.ref j8), (.ref j9)] .null := ⟨cl32, Ar32, q32, S32, M32, H32, G32⟩
  have hin32 : ¬ ((1 : Int32) < 0 ∨ cl32.slots.size ≤ ((1 : Int32)).toNatClampNeg) := inb_of S32 ⟨by decide, by decide⟩
  have hat32 : cl32.slots[((1 : Int32)).toNatClampNeg]? = some (.ref j8) := Has.at H32 hin32 rfl
  have go34 : ∀ t_, Steps p.tables e below (T27.setTop (mkF m 279 #[.val (.int p1), .val (.int p2), .val (.int p3), .val (.int z3), .val (.int z4), .val (.ref b1), .val (.ref b11), .val (.ref b12), .val (.ref b19), .val (.ref j7), .val (.int (1 : Int32)), .val (.ref j9), .val (.ref j8)] [(.int (1 : Int32))])) t_ → Steps p.tables e below (T0.setTop (mkF m 156 #[.val (.int p1), .val (.int p2), .val (.int p3), .val (.int z3), .val (.int z4), .val (.ref b1), .val (.ref b11), .val (.ref b12), .val (.ref b19), .unset, .unset, .unset, .unset] [])) t_ := by
    intro t_ k_
    refine pre0 t_ ?_
    show Steps p.tables e below (T0.setTop (mkF m 156 #[.val (.int p1), .val (.int p2), .val (.int p3), .val (.int z3), .val (.int z4), .val (.ref b1), .val (.ref b11), .val (.ref b12), .val (.ref b19), .unset, .unset, .unset, .unset] [])) _
    refine XS.aload X0.here hx rfl (hb hby at_156) rfl rfl ?_
    show Steps p.tables e below (T0.setTop (mkF m 158 #[.val (.int p1), .val (.int p2), .val (.int p3), .val (.int z3), .val (.int z4), .val (.ref b1), .val (.ref b11), .val (.ref b12), .val (.ref b19), .unset, .unset, .unset, .unset] [(.ref b19)])) _
    refine st1.trans ?_
    show Steps p.tables e below (T1.setTop (mkF m 161 #[.val (.int p1), .val (.int p2), .val (.int p3), .val (.int z3), .val (.int z4), .val (.ref b1), .val (.ref b11), .val (.ref b12), .val (.ref b19), .unset, .unset, .unset, .unset] [(.ref j7)])) _
    refine st2 _ ?_
    show Steps p.tables e below (T2.setTop (mkF m 164 #[.val (.int p1), .val (.int p2), .val (.int p3), .val (.int z3), .val (.int z4), .val (.ref b1), .val (.ref b11), .val (.ref b12), .val (.ref b19), .unset, .unset, .unset, .unset] [(.ref j7)])) _
    refine XS.astore X2.here hx rfl (hb hby at_164) rfl rfl (l' := #[.val (.int p1), .val (.int p2), .val (.int p3), .val (.int z3), .val (.int z4), .val (.ref b1), .val (.ref b11), .val (.ref b12), .val (.ref b19), .val (.ref j7), .unset, .unset, .unset]) rfl ?_
    show Steps p.tables e below (T2.setTop (mkF m 166 #[.val (.int p1), .val (.int p2), .val (.int p3), .val (.int z3), .val (.int z4), .val (.ref b1), .val (.ref b11), .val (.ref b12), .val (.ref b19), .val (.ref j7), .unset, .unset, .unset] [])) _
    refine XS.aload X2.here hx rfl (hb hby at_166) rfl rfl ?_
    show Steps p.tables e below (T2.setTop (mkF m 168 #[.val (.int p1), .val (.int p2), .val (.int p3), .val (.int z3), .val (.int z4), .val (.ref b1), .val (.ref b11), .val (.ref b12), .val (.ref b19), .val (.ref j7), .unset, .unset, .unset] [(.ref j7)])) _
    refine XS.aload X2.here hx rfl (hb hby at_168) rfl rfl ?_
    show Steps p.tables e below (T2.setTop (mkF m 170 #[.val (.int p1), .val (.int p2), .val (.int p3), .val (.int z3), .val (.int z4), .val (.ref b1), .val (.ref b11), .val (.ref b12), .val (.ref b19), .val (.ref j7), .unset, .unset, .unset] [(.ref b1), (.ref j7)])) _
    refine XS.aload X2.here hx rfl (hb hby at_170) rfl rfl ?_
    show Steps p.tables e below (T2.setTop (mkF m 172 #[.val (.int p1), .val (.int p2), .val (.int p3), .val (.int z3), .val (.int z4), .val (.ref b1), .val (.ref b11), .val (.ref b12), .val (.ref b19), .val (.ref j7), .unset, .unset, .unset] [(.ref b12), (.ref b1), (.ref j7)])) _
    refine XS.iconst X2.here hx rfl (hb hby at_172) ?_
    show Steps p.tables e below (T2.setTop (mkF m 173 #[.val (.int p1), .val (.int p2), .val (.int p3), .val (.int z3), .val (.int z4), .val (.ref b1), .val (.ref b11), .val (.ref b12), .val (.ref b19), .val (.ref j7), .unset, .unset, .unset] [(.int (0 : Int32)), (.ref b12), (.ref b1), (.ref j7)])) _
    refine X2.iaload hx (j := (0 : Int32)) (v := (.int (0 : Int32))) (by rw [e2]; exact Ar3.1) (State.isArrayOf_alike hZ.alike Ar3.2.1) Ar3.2.2 hin3 hat3 (g := (mkF m 173 #[.val (.int p1), .val (.int p2), .val (.int p3), .val (.int z3), .val (.int z4), .val (.ref b1), .val (.ref b11), .val (.ref b12), .val (.ref b19), .val (.ref j7), .unset, .unset, .unset] [(.int (0 : Int32)), (.ref b12), (.ref b1), (.ref j7)])) rfl rfl (hb hby at_173) _ ?_
    show Steps p.tables e below (T2.setTop (mkF m 174 #[.val (.int p1), .val (.int p2), .val (.int p3), .val (.int z3), .val (.int z4), .val (.ref b1), .val (.ref b11), .val (.ref b12), .val (.ref b19), .val (.ref j7), .unset, .unset, .unset] [(.int (0 : Int32)), (.ref b1), (.ref j7)])) _
    refine X2.aaload hx (j := (0 : Int32)) (v := (.ref j7)) (by rw [e2]; exact Ar5.1) (State.isArrayOf_alike hZ.alike Ar5.2.1) rfl Ar5.2.2 hin5 hat5 (g := (mkF m 174 #[.val (.int p1), .val (.int p2), .val (.int p3), .val (.int z3), .val (.int z4), .val (.ref b1), .val (.ref b11), .val (.ref b12), .val (.ref b19), .val (.ref j7), .unset, .unset, .unset] [(.int (0 : Int32)), (.ref b1), (.ref j7)])) rfl rfl (hb hby at_174) _ ?_
    show Steps p.tables e below (T2.setTop (mkF m 175 #[.val (.int p1), .val (.int p2), .val (.int p3), .val (.int z3), .val (.int z4), .val (.ref b1), .val (.ref b11), .val (.ref b12), .val (.ref b19), .val (.ref j7), .unset, .unset, .unset] [(.ref j7), (.ref j7)])) _
    refine Jvm.RoadKit.acmp (g := (mkF m 175 #[.val (.int p1), .val (.int p2), .val (.int p3), .val (.int z3), .val (.int z4), .val (.ref b1), .val (.ref b11), .val (.ref b12), .val (.ref b19), .val (.ref j7), .unset, .unset, .unset] [(.ref j7), (.ref j7)])) X2 hx rfl rfl rfl (pc0 := 175) (pc' := 178) (same := true) rfl (hb hby at_175) rfl (decide_eq_true rfl) (by decide) (by decide) ?_
    show Steps p.tables e below (T2.setTop (mkF m 178 #[.val (.int p1), .val (.int p2), .val (.int p3), .val (.int z3), .val (.int z4), .val (.ref b1), .val (.ref b11), .val (.ref b12), .val (.ref b19), .val (.ref j7), .unset, .unset, .unset] [])) _
    refine XS.iconst X2.here hx rfl (hb hby at_178) ?_
    show Steps p.tables e below (T2.setTop (mkF m 179 #[.val (.int p1), .val (.int p2), .val (.int p3), .val (.int z3), .val (.int z4), .val (.ref b1), .val (.ref b11), .val (.ref b12), .val (.ref b19), .val (.ref j7), .unset, .unset, .unset] [(.int (1 : Int32))])) _
    refine XS.goto X2.here hx rfl (pc0 := 179) (pc' := 183) rfl (hb hby at_179) (by decide) (by decide) ?_
    show Steps p.tables e below (T2.setTop (mkF m 183 #[.val (.int p1), .val (.int p2), .val (.int p3), .val (.int z3), .val (.int z4), .val (.ref b1), .val (.ref b11), .val (.ref b12), .val (.ref b19), .val (.ref j7), .unset, .unset, .unset] [(.int (1 : Int32))])) _
    refine XS.istore X2.here hx rfl (hb hby at_183) rfl (l' := #[.val (.int p1), .val (.int p2), .val (.int p3), .val (.int z3), .val (.int z4), .val (.ref b1), .val (.ref b11), .val (.ref b12), .val (.ref b19), .val (.ref j7), .val (.int (1 : Int32)), .unset, .unset]) rfl ?_
    show Steps p.tables e below (T2.setTop (mkF m 185 #[.val (.int p1), .val (.int p2), .val (.int p3), .val (.int z3), .val (.int z4), .val (.ref b1), .val (.ref b11), .val (.ref b12), .val (.ref b19), .val (.ref j7), .val (.int (1 : Int32)), .unset, .unset] [])) _
    refine XS.aload X2.here hx rfl (hb hby at_185) rfl rfl ?_
    show Steps p.tables e below (T2.setTop (mkF m 187 #[.val (.int p1), .val (.int p2), .val (.int p3), .val (.int z3), .val (.int z4), .val (.ref b1), .val (.ref b11), .val (.ref b12), .val (.ref b19), .val (.ref j7), .val (.int (1 : Int32)), .unset, .unset] [(.ref b19)])) _
    refine XS.aload X2.here hx rfl (hb hby at_187) rfl rfl ?_
    show Steps p.tables e below (T2.setTop (mkF m 189 #[.val (.int p1), .val (.int p2), .val (.int p3), .val (.int z3), .val (.int z4), .val (.ref b1), .val (.ref b11), .val (.ref b12), .val (.ref b19), .val (.ref j7), .val (.int (1 : Int32)), .unset, .unset] [(.ref b11), (.ref b19)])) _
    refine XS.aload X2.here hx rfl (hb hby at_189) rfl rfl ?_
    show Steps p.tables e below (T2.setTop (mkF m 191 #[.val (.int p1), .val (.int p2), .val (.int p3), .val (.int z3), .val (.int z4), .val (.ref b1), .val (.ref b11), .val (.ref b12), .val (.ref b19), .val (.ref j7), .val (.int (1 : Int32)), .unset, .unset] [(.ref b12), (.ref b11), (.ref b19)])) _
    refine XS.iconst X2.here hx rfl (hb hby at_191) ?_
    show Steps p.tables e below (T2.setTop (mkF m 192 #[.val (.int p1), .val (.int p2), .val (.int p3), .val (.int z3), .val (.int z4), .val (.ref b1), .val (.ref b11), .val (.ref b12), .val (.ref b19), .val (.ref j7), .val (.int (1 : Int32)), .unset, .unset] [(.int (0 : Int32)), (.ref b12), (.ref b11), (.ref b19)])) _
    refine X2.iaload hx (j := (0 : Int32)) (v := (.int (0 : Int32))) (by rw [e2]; exact Ar7.1) (State.isArrayOf_alike hZ.alike Ar7.2.1) Ar7.2.2 hin7 hat7 (g := (mkF m 192 #[.val (.int p1), .val (.int p2), .val (.int p3), .val (.int z3), .val (.int z4), .val (.ref b1), .val (.ref b11), .val (.ref b12), .val (.ref b19), .val (.ref j7), .val (.int (1 : Int32)), .unset, .unset] [(.int (0 : Int32)), (.ref b12), (.ref b11), (.ref b19)])) rfl rfl (hb hby at_192) _ ?_
    show Steps p.tables e below (T2.setTop (mkF m 193 #[.val (.int p1), .val (.int p2), .val (.int p3), .val (.int z3), .val (.int z4), .val (.ref b1), .val (.ref b11), .val (.ref b12), .val (.ref b19), .val (.ref j7), .val (.int (1 : Int32)), .unset, .unset] [(.int (0 : Int32)), (.ref b11), (.ref b19)])) _
    refine X2.iaload hx (j := (0 : Int32)) (v := (.int (1 : Int32))) (by rw [e2]; exact Ar9.1) (State.isArrayOf_alike hZ.alike Ar9.2.1) Ar9.2.2 hin9 hat9 (g := (mkF m 193 #[.val (.int p1), .val (.int p2), .val (.int p3), .val (.int z3), .val (.int z4), .val (.ref b1), .val (.ref b11), .val (.ref b12), .val (.ref b19), .val (.ref j7), .val (.int (1 : Int32)), .unset, .unset] [(.int (0 : Int32)), (.ref b11), (.ref b19)])) rfl rfl (hb hby at_193) _ ?_
    show Steps p.tables e below (T2.setTop (mkF m 194 #[.val (.int p1), .val (.int p2), .val (.int p3), .val (.int z3), .val (.int z4), .val (.ref b1), .val (.ref b11), .val (.ref b12), .val (.ref b19), .val (.ref j7), .val (.int (1 : Int32)), .unset, .unset] [(.int (1 : Int32)), (.ref b19)])) _
    refine st11.trans ?_
    show Steps p.tables e below (T11.setTop (mkF m 197 #[.val (.int p1), .val (.int p2), .val (.int p3), .val (.int z3), .val (.int z4), .val (.ref b1), .val (.ref b11), .val (.ref b12), .val (.ref b19), .val (.ref j7), .val (.int (1 : Int32)), .unset, .unset] [])) _
    refine XS.aload X11.here hx rfl (hb hby at_197) rfl rfl ?_
    show Steps p.tables e below (T11.setTop (mkF m 199 #[.val (.int p1), .val (.int p2), .val (.int p3), .val (.int z3), .val (.int z4), .val (.ref b1), .val (.ref b11), .val (.ref b12), .val (.ref b19), .val (.ref j7), .val (.int (1 : Int32)), .unset, .unset] [(.ref b19)])) _
    refine st12.trans ?_
    show Steps p.tables e below (T12.setTop (mkF m 202 #[.val (.int p1), .val (.int p2), .val (.int p3), .val (.int z3), .val (.int z4), .val (.ref b1), .val (.ref b11), .val (.ref b12), .val (.ref b19), .val (.ref j7), .val (.int (1 : Int32)), .unset, .unset] [(.ref j9)])) _
    refine st13 _ ?_
    show Steps p.tables e below (T13.setTop (mkF m 205 #[.val (.int p1), .val (.int p2), .val (.int p3), .val (.int z3), .val (.int z4), .val (.ref b1), .val (.ref b11), .val (.ref b12), .val (.ref b19), .val (.ref j7), .val (.int (1 : Int32)), .unset, .unset] [(.ref j9)])) _
    refine XS.astore X13.here hx rfl (hb hby at_205) rfl rfl (l' := #[.val (.int p1), .val (.int p2), .val (.int p3), .val (.int z3), .val (.int z4), .val (.ref b1), .val (.ref b11), .val (.ref b12), .val (.ref b19), .val (.ref j7), .val (.int (1 : Int32)), .val (.ref j9), .unset]) rfl ?_
    show Steps p.tables e below (T13.setTop (mkF m 207 #[.val (.int p1), .val (.int p2), .val (.int p3), .val (.int z3), .val (.int z4), .val (.ref b1), .val (.ref b11), .val (.ref b12), .val (.ref b19), .val (.ref j7), .val (.int (1 : Int32)), .val (.ref j9), .unset] [])) _
    refine XS.iload X13.here hx rfl (hb hby at_207) rfl ?_
    show Steps p.tables e below (T13.setTop (mkF m 209 #[.val (.int p1), .val (.int p2), .val (.int p3), .val (.int z3), .val (.int z4), .val (.ref b1), .val (.ref b11), .val (.ref b12), .val (.ref b19), .val (.ref j7), .val (.int (1 : Int32)), .val (.ref j9), .unset] [(.int (1 : Int32))])) _
    refine XS.ifNo X13.here hx rfl (hb hby at_209) rfl ((if0 _ _).trans (feq (by decide : ¬ ((1 : Int32) = (0 : Int32)))).1) ?_
    show Steps p.tables e below (T13.setTop (mkF m 212 #[.val (.int p1), .val (.int p2), .val (.int p3), .val (.int z3), .val (.int z4), .val (.ref b1), .val (.ref b11), .val (.ref b12), .val (.ref b19), .val (.ref j7), .val (.int (1 : Int32)), .val (.ref j9), .unset] [])) _
    refine XS.aload X13.here hx rfl (hb hby at_212) rfl rfl ?_
    show Steps p.tables e below (T13.setTop (mkF m 214 #[.val (.int p1), .val (.int p2), .val (.int p3), .val (.int z3), .val (.int z4), .val (.ref b1), .val (.ref b11), .val (.ref b12), .val (.ref b19), .val (.ref j7), .val (.int (1 : Int32)), .val (.ref j9), .unset] [(.ref j9)])) _
    refine XS.aload X13.here hx rfl (hb hby at_214) rfl rfl ?_
    show Steps p.tables e below (T13.setTop (mkF m 216 #[.val (.int p1), .val (.int p2), .val (.int p3), .val (.int z3), .val (.int z4), .val (.ref b1), .val (.ref b11), .val (.ref b12), .val (.ref b19), .val (.ref j7), .val (.int (1 : Int32)), .val (.ref j9), .unset] [(.ref b1), (.ref j9)])) _
    refine XS.aload X13.here hx rfl (hb hby at_216) rfl rfl ?_
    show Steps p.tables e below (T13.setTop (mkF m 218 #[.val (.int p1), .val (.int p2), .val (.int p3), .val (.int z3), .val (.int z4), .val (.ref b1), .val (.ref b11), .val (.ref b12), .val (.ref b19), .val (.ref j7), .val (.int (1 : Int32)), .val (.ref j9), .unset] [(.ref b12), (.ref b1), (.ref j9)])) _
    refine XS.iconst X13.here hx rfl (hb hby at_218) ?_
    show Steps p.tables e below (T13.setTop (mkF m 219 #[.val (.int p1), .val (.int p2), .val (.int p3), .val (.int z3), .val (.int z4), .val (.ref b1), .val (.ref b11), .val (.ref b12), .val (.ref b19), .val (.ref j7), .val (.int (1 : Int32)), .val (.ref j9), .unset] [(.int (1 : Int32)), (.ref b12), (.ref b1), (.ref j9)])) _
    refine X13.iaload hx (j := (1 : Int32)) (v := (.int (2 : Int32))) (by rw [e13]; exact Ar15.1) (State.isArrayOf_alike hZ.alike Ar15.2.1) Ar15.2.2 hin15 hat15 (g := (mkF m 219 #[.val (.int p1), .val (.int p2), .val (.int p3), .val (.int z3), .val (.int z4), .val (.ref b1), .val (.ref b11), .val (.ref b12), .val (.ref b19), .val (.ref j7), .val (.int (1 : Int32)), .val (.ref j9), .unset] [(.int (1 : Int32)), (.ref b12), (.ref b1), (.ref j9)])) rfl rfl (hb hby at_219) _ ?_
    show Steps p.tables e below (T13.setTop (mkF m 220 #[.val (.int p1), .val (.int p2), .val (.int p3), .val (.int z3), .val (.int z4), .val (.ref b1), .val (.ref b11), .val (.ref b12), .val (.ref b19), .val (.ref j7), .val (.int (1 : Int32)), .val (.ref j9), .unset] [(.int (2 : Int32)), (.ref b1), (.ref j9)])) _
    refine X13.aaload hx (j := (2 : Int32)) (v := (.ref j9)) (by rw [e13]; exact Ar18.1) (State.isArrayOf_alike hZ.alike Ar18.2.1) rfl Ar18.2.2 hin18 hat18 (g := (mkF m 220 #[.val (.int p1), .val (.int p2), .val (.int p3), .val (.int z3), .val (.int z4), .val (.ref b1), .val (.ref b11), .val (.ref b12), .val (.ref b19), .val (.ref j7), .val (.int (1 : Int32)), .val (.ref j9), .unset] [(.int (2 : Int32)), (.ref b1), (.ref j9)])) rfl rfl (hb hby at_220) _ ?_
    show Steps p.tables e below (T13.setTop (mkF m 221 #[.val (.int p1), .val (.int p2), .val (.int p3), .val (.int z3), .val (.int z4), .val (.ref b1), .val (.ref b11), .val (.ref b12), .val (.ref b19), .val (.ref j7), .val (.int (1 : Int32)), .val (.ref j9), .unset] [(.ref j9), (.ref j9)])) _
    refine Jvm.RoadKit.acmp (g := (mkF m 221 #[.val (.int p1), .val (.int p2), .val (.int p3), .val (.int z3), .val (.int z4), .val (.ref b1), .val (.ref b11), .val (.ref b12), .val (.ref b19), .val (.ref j7), .val (.int (1 : Int32)), .val (.ref j9), .unset] [(.ref j9), (.ref j9)])) X13 hx rfl rfl rfl (pc0 := 221) (pc' := 224) (same := true) rfl (hb hby at_221) rfl (decide_eq_true rfl) (by decide) (by decide) ?_
    show Steps p.tables e below (T13.setTop (mkF m 224 #[.val (.int p1), .val (.int p2), .val (.int p3), .val (.int z3), .val (.int z4), .val (.ref b1), .val (.ref b11), .val (.ref b12), .val (.ref b19), .val (.ref j7), .val (.int (1 : Int32)), .val (.ref j9), .unset] [])) _
    refine XS.iconst X13.here hx rfl (hb hby at_224) ?_
    show Steps p.tables e below (T13.setTop (mkF m 225 #[.val (.int p1), .val (.int p2), .val (.int p3), .val (.int z3), .val (.int z4), .val (.ref b1), .val (.ref b11), .val (.ref b12), .val (.ref b19), .val (.ref j7), .val (.int (1 : Int32)), .val (.ref j9), .unset] [(.int (1 : Int32))])) _
    refine XS.goto X13.here hx rfl (pc0 := 225) (pc' := 229) rfl (hb hby at_225) (by decide) (by decide) ?_
    show Steps p.tables e below (T13.setTop (mkF m 229 #[.val (.int p1), .val (.int p2), .val (.int p3), .val (.int z3), .val (.int z4), .val (.ref b1), .val (.ref b11), .val (.ref b12), .val (.ref b19), .val (.ref j7), .val (.int (1 : Int32)), .val (.ref j9), .unset] [(.int (1 : Int32))])) _
    refine XS.istore X13.here hx rfl (hb hby at_229) rfl (l' := #[.val (.int p1), .val (.int p2), .val (.int p3), .val (.int z3), .val (.int z4), .val (.ref b1), .val (.ref b11), .val (.ref b12), .val (.ref b19), .val (.ref j7), .val (.int (1 : Int32)), .val (.ref j9), .unset]) rfl ?_
    show Steps p.tables e below (T13.setTop (mkF m 231 #[.val (.int p1), .val (.int p2), .val (.int p3), .val (.int z3), .val (.int z4), .val (.ref b1), .val (.ref b11), .val (.ref b12), .val (.ref b19), .val (.ref j7), .val (.int (1 : Int32)), .val (.ref j9), .unset] [])) _
    refine XS.aload X13.here hx rfl (hb hby at_231) rfl rfl ?_
    show Steps p.tables e below (T13.setTop (mkF m 233 #[.val (.int p1), .val (.int p2), .val (.int p3), .val (.int z3), .val (.int z4), .val (.ref b1), .val (.ref b11), .val (.ref b12), .val (.ref b19), .val (.ref j7), .val (.int (1 : Int32)), .val (.ref j9), .unset] [(.ref b19)])) _
    refine XS.aload X13.here hx rfl (hb hby at_233) rfl rfl ?_
    show Steps p.tables e below (T13.setTop (mkF m 235 #[.val (.int p1), .val (.int p2), .val (.int p3), .val (.int z3), .val (.int z4), .val (.ref b1), .val (.ref b11), .val (.ref b12), .val (.ref b19), .val (.ref j7), .val (.int (1 : Int32)), .val (.ref j9), .unset] [(.ref b11), (.ref b19)])) _
    refine XS.aload X13.here hx rfl (hb hby at_235) rfl rfl ?_
    show Steps p.tables e below (T13.setTop (mkF m 237 #[.val (.int p1), .val (.int p2), .val (.int p3), .val (.int z3), .val (.int z4), .val (.ref b1), .val (.ref b11), .val (.ref b12), .val (.ref b19), .val (.ref j7), .val (.int (1 : Int32)), .val (.ref j9), .unset] [(.ref b12), (.ref b11), (.ref b19)])) _
    refine XS.iconst X13.here hx rfl (hb hby at_237) ?_
    show Steps p.tables e below (T13.setTop (mkF m 238 #[.val (.int p1), .val (.int p2), .val (.int p3), .val (.int z3), .val (.int z4), .val (.ref b1), .val (.ref b11), .val (.ref b12), .val (.ref b19), .val (.ref j7), .val (.int (1 : Int32)), .val (.ref j9), .unset] [(.int (1 : Int32)), (.ref b12), (.ref b11), (.ref b19)])) _
    refine X13.iaload hx (j := (1 : Int32)) (v := (.int (2 : Int32))) (by rw [e13]; exact Ar20.1) (State.isArrayOf_alike hZ.alike Ar20.2.1) Ar20.2.2 hin20 hat20 (g := (mkF m 238 #[.val (.int p1), .val (.int p2), .val (.int p3), .val (.int z3), .val (.int z4), .val (.ref b1), .val (.ref b11), .val (.ref b12), .val (.ref b19), .val (.ref j7), .val (.int (1 : Int32)), .val (.ref j9), .unset] [(.int (1 : Int32)), (.ref b12), (.ref b11), (.ref b19)])) rfl rfl (hb hby at_238) _ ?_
    show Steps p.tables e below (T13.setTop (mkF m 239 #[.val (.int p1), .val (.int p2), .val (.int p3), .val (.int z3), .val (.int z4), .val (.ref b1), .val (.ref b11), .val (.ref b12), .val (.ref b19), .val (.ref j7), .val (.int (1 : Int32)), .val (.ref j9), .unset] [(.int (2 : Int32)), (.ref b11), (.ref b19)])) _
    refine X13.iaload hx (j := (2 : Int32)) (v := (.int (3 : Int32))) (by rw [e13]; exact Ar23.1) (State.isArrayOf_alike hZ.alike Ar23.2.1) Ar23.2.2 hin23 hat23 (g := (mkF m 239 #[.val (.int p1), .val (.int p2), .val (.int p3), .val (.int z3), .val (.int z4), .val (.ref b1), .val (.ref b11), .val (.ref b12), .val (.ref b19), .val (.ref j7), .val (.int (1 : Int32)), .val (.ref j9), .unset] [(.int (2 : Int32)), (.ref b11), (.ref b19)])) rfl rfl (hb hby at_239) _ ?_
    show Steps p.tables e below (T13.setTop (mkF m 240 #[.val (.int p1), .val (.int p2), .val (.int p3), .val (.int z3), .val (.int z4), .val (.ref b1), .val (.ref b11), .val (.ref b12), .val (.ref b19), .val (.ref j7), .val (.int (1 : Int32)), .val (.ref j9), .unset] [(.int (3 : Int32)), (.ref b19)])) _
    refine st25.trans ?_
    show Steps p.tables e below (T25.setTop (mkF m 243 #[.val (.int p1), .val (.int p2), .val (.int p3), .val (.int z3), .val (.int z4), .val (.ref b1), .val (.ref b11), .val (.ref b12), .val (.ref b19), .val (.ref j7), .val (.int (1 : Int32)), .val (.ref j9), .unset] [])) _
    refine XS.aload X25.here hx rfl (hb hby at_243) rfl rfl ?_
    show Steps p.tables e below (T25.setTop (mkF m 245 #[.val (.int p1), .val (.int p2), .val (.int p3), .val (.int z3), .val (.int z4), .val (.ref b1), .val (.ref b11), .val (.ref b12), .val (.ref b19), .val (.ref j7), .val (.int (1 : Int32)), .val (.ref j9), .unset] [(.ref b19)])) _
    refine st26.trans ?_
    show Steps p.tables e below (T26.setTop (mkF m 248 #[.val (.int p1), .val (.int p2), .val (.int p3), .val (.int z3), .val (.int z4), .val (.ref b1), .val (.ref b11), .val (.ref b12), .val (.ref b19), .val (.ref j7), .val (.int (1 : Int32)), .val (.ref j9), .unset] [(.ref j8)])) _
    refine st27 _ ?_
    show Steps p.tables e below (T27.setTop (mkF m 251 #[.val (.int p1), .val (.int p2), .val (.int p3), .val (.int z3), .val (.int z4), .val (.ref b1), .val (.ref b11), .val (.ref b12), .val (.ref b19), .val (.ref j7), .val (.int (1 : Int32)), .val (.ref j9), .unset] [(.ref j8)])) _
    refine XS.astore X27.here hx rfl (hb hby at_251) rfl rfl (l' := #[.val (.int p1), .val (.int p2), .val (.int p3), .val (.int z3), .val (.int z4), .val (.ref b1), .val (.ref b11), .val (.ref b12), .val (.ref b19), .val (.ref j7), .val (.int (1 : Int32)), .val (.ref j9), .val (.ref j8)]) rfl ?_
    show Steps p.tables e below (T27.setTop (mkF m 253 #[.val (.int p1), .val (.int p2), .val (.int p3), .val (.int z3), .val (.int z4), .val (.ref b1), .val (.ref b11), .val (.ref b12), .val (.ref b19), .val (.ref j7), .val (.int (1 : Int32)), .val (.ref j9), .val (.ref j8)] [])) _
    refine XS.iload X27.here hx rfl (hb hby at_253) rfl ?_
    show Steps p.tables e below (T27.setTop (mkF m 255 #[.val (.int p1), .val (.int p2), .val (.int p3), .val (.int z3), .val (.int z4), .val (.ref b1), .val (.ref b11), .val (.ref b12), .val (.ref b19), .val (.ref j7), .val (.int (1 : Int32)), .val (.ref j9), .val (.ref j8)] [(.int (1 : Int32))])) _
    refine XS.ifNo X27.here hx rfl (hb hby at_255) rfl ((if0 _ _).trans (feq (by decide : ¬ ((1 : Int32) = (0 : Int32)))).1) ?_
    show Steps p.tables e below (T27.setTop (mkF m 258 #[.val (.int p1), .val (.int p2), .val (.int p3), .val (.int z3), .val (.int z4), .val (.ref b1), .val (.ref b11), .val (.ref b12), .val (.ref b19), .val (.ref j7), .val (.int (1 : Int32)), .val (.ref j9), .val (.ref j8)] [])) _
    refine XS.aload X27.here hx rfl (hb hby at_258) rfl rfl ?_
    show Steps p.tables e below (T27.setTop (mkF m 260 #[.val (.int p1), .val (.int p2), .val (.int p3), .val (.int z3), .val (.int z4), .val (.ref b1), .val (.ref b11), .val (.ref b12), .val (.ref b19), .val (.ref j7), .val (.int (1 : Int32)), .val (.ref j9), .val (.ref j8)] [(.ref j8)])) _
    refine XS.aload X27.here hx rfl (hb hby at_260) rfl rfl ?_
    show Steps p.tables e below (T27.setTop (mkF m 262 #[.val (.int p1), .val (.int p2), .val (.int p3), .val (.int z3), .val (.int z4), .val (.ref b1), .val (.ref b11), .val (.ref b12), .val (.ref b19), .val (.ref j7), .val (.int (1 : Int32)), .val (.ref j9), .val (.ref j8)] [(.ref b1), (.ref j8)])) _
    refine XS.aload X27.here hx rfl (hb hby at_262) rfl rfl ?_
    show Steps p.tables e below (T27.setTop (mkF m 264 #[.val (.int p1), .val (.int p2), .val (.int p3), .val (.int z3), .val (.int z4), .val (.ref b1), .val (.ref b11), .val (.ref b12), .val (.ref b19), .val (.ref j7), .val (.int (1 : Int32)), .val (.ref j9), .val (.ref j8)] [(.ref b12), (.ref b1), (.ref j8)])) _
    refine XS.iconst X27.here hx rfl (hb hby at_264) ?_
    show Steps p.tables e below (T27.setTop (mkF m 265 #[.val (.int p1), .val (.int p2), .val (.int p3), .val (.int z3), .val (.int z4), .val (.ref b1), .val (.ref b11), .val (.ref b12), .val (.ref b19), .val (.ref j7), .val (.int (1 : Int32)), .val (.ref j9), .val (.ref j8)] [(.int (2 : Int32)), (.ref b12), (.ref b1), (.ref j8)])) _
    refine X27.iaload hx (j := (2 : Int32)) (v := (.int (1 : Int32))) (by rw [e27]; exact Ar29.1) (State.isArrayOf_alike hZ.alike Ar29.2.1) Ar29.2.2 hin29 hat29 (g := (mkF m 265 #[.val (.int p1), .val (.int p2), .val (.int p3), .val (.int z3), .val (.int z4), .val (.ref b1), .val (.ref b11), .val (.ref b12), .val (.ref b19), .val (.ref j7), .val (.int (1 : Int32)), .val (.ref j9), .val (.ref j8)] [(.int (2 : Int32)), (.ref b12), (.ref b1), (.ref j8)])) rfl rfl (hb hby at_265) _ ?_
    show Steps p.tables e below (T27.setTop (mkF m 266 #[.val (.int p1), .val (.int p2), .val (.int p3), .val (.int z3), .val (.int z4), .val (.ref b1), .val (.ref b11), .val (.ref b12), .val (.ref b19), .val (.ref j7), .val (.int (1 : Int32)), .val (.ref j9), .val (.ref j8)] [(.int (1 : Int32)), (.ref b1), (.ref j8)])) _
    refine X27.aaload hx (j := (1 : Int32)) (v := (.ref j8)) (by rw [e27]; exact Ar32.1) (State.isArrayOf_alike hZ.alike Ar32.2.1) rfl Ar32.2.2 hin32 hat32 (g := (mkF m 266 #[.val (.int p1), .val (.int p2), .val (.int p3), .val (.int z3), .val (.int z4), .val (.ref b1), .val (.ref b11), .val (.ref b12), .val (.ref b19), .val (.ref j7), .val (.int (1 : Int32)), .val (.ref j9), .val (.ref j8)] [(.int (1 : Int32)), (.ref b1), (.ref j8)])) rfl rfl (hb hby at_266) _ ?_
    show Steps p.tables e below (T27.setTop (mkF m 267 #[.val (.int p1), .val (.int p2), .val (.int p3), .val (.int z3), .val (.int z4), .val (.ref b1), .val (.ref b11), .val (.ref b12), .val (.ref b19), .val (.ref j7), .val (.int (1 : Int32)), .val (.ref j9), .val (.ref j8)] [(.ref j8), (.ref j8)])) _
    refine Jvm.RoadKit.acmp (g := (mkF m 267 #[.val (.int p1), .val (.int p2), .val (.int p3), .val (.int z3), .val (.int z4), .val (.ref b1), .val (.ref b11), .val (.ref b12), .val (.ref b19), .val (.ref j7), .val (.int (1 : Int32)), .val (.ref j9), .val (.ref j8)] [(.ref j8), (.ref j8)])) X27 hx rfl rfl rfl (pc0 := 267) (pc' := 270) (same := true) rfl (hb hby at_267) rfl (decide_eq_true rfl) (by decide) (by decide) ?_
    show Steps p.tables e below (T27.setTop (mkF m 270 #[.val (.int p1), .val (.int p2), .val (.int p3), .val (.int z3), .val (.int z4), .val (.ref b1), .val (.ref b11), .val (.ref b12), .val (.ref b19), .val (.ref j7), .val (.int (1 : Int32)), .val (.ref j9), .val (.ref j8)] [])) _
    refine XS.iconst X27.here hx rfl (hb hby at_270) ?_
    show Steps p.tables e below (T27.setTop (mkF m 271 #[.val (.int p1), .val (.int p2), .val (.int p3), .val (.int z3), .val (.int z4), .val (.ref b1), .val (.ref b11), .val (.ref b12), .val (.ref b19), .val (.ref j7), .val (.int (1 : Int32)), .val (.ref j9), .val (.ref j8)] [(.int (1 : Int32))])) _
    refine XS.goto X27.here hx rfl (pc0 := 271) (pc' := 275) rfl (hb hby at_271) (by decide) (by decide) ?_
    show Steps p.tables e below (T27.setTop (mkF m 275 #[.val (.int p1), .val (.int p2), .val (.int p3), .val (.int z3), .val (.int z4), .val (.ref b1), .val (.ref b11), .val (.ref b12), .val (.ref b19), .val (.ref j7), .val (.int (1 : Int32)), .val (.ref j9), .val (.ref j8)] [(.int (1 : Int32))])) _
    refine XS.istore X27.here hx rfl (hb hby at_275) rfl (l' := #[.val (.int p1), .val (.int p2), .val (.int p3), .val (.int z3), .val (.int z4), .val (.ref b1), .val (.ref b11), .val (.ref b12), .val (.ref b19), .val (.ref j7), .val (.int (1 : Int32)), .val (.ref j9), .val (.ref j8)]) rfl ?_
    show Steps p.tables e below (T27.setTop (mkF m 277 #[.val (.int p1), .val (.int p2), .val (.int p3), .val (.int z3), .val (.int z4), .val (.ref b1), .val (.ref b11), .val (.ref b12), .val (.ref b19), .val (.ref j7), .val (.int (1 : Int32)), .val (.ref j9), .val (.ref j8)] [])) _
    refine XS.iload X27.here hx rfl (hb hby at_277) rfl ?_
    exact k_
  obtain ⟨fs, hr, hrun, hended, hW, hsame⟩ := X27.leave (v := some (.int (1 : Int32))) (fun h => by rw [Bd.returns] at h; cases h)
  refine ⟨_, _, go34 _ ?_, hrun, hended, _, _, rfl, ?_, ⟨_, rfl⟩, hW, hsame.mono (by decide) (by decide)⟩
  · skip
    show Steps p.tables e below (T27.setTop (mkF m 279 #[.val (.int p1), .val (.int p2), .val (.int p3), .val (.int z3), .val (.int z4), .val (.ref b1), .val (.ref b11), .val (.ref b12), .val (.ref b19), .val (.ref j7), .val (.int (1 : Int32)), .val (.ref j9), .val (.ref j8)] [(.int (1 : Int32))])) _
    exact retN X27 hx (t := .boolean) Bd.returns (by simp) (hb hby at_279) hr
  · exact ⟨rfl, N26⟩
set_option maxRecDepth 65536 in
set_option maxHeartbeats 40000000 in
theorem pc139_10 (l : Launch) (Z : State) (a0 : Array Value) (hw : ∀ d ∈ tables_1, d.before a0 Z = true) (ws : List Jvm.Cond) (p1 : Int32) (p2 : Int32) (p3 : Int32) (j7 : Nat) (j8 : Nat) (j9 : Nat) (b1 : Nat) (b11 : Nat) (b12 : Nat) (b19 : Nat) (en : Nat) (li : Nat) (k1 : ClassId) (k11 : ClassId) (k12 : ClassId) (ke : ClassId) (kl : ClassId) (h0 : Heap) (n0 : Nat) {p : Program} {e : Env} {s : State} {m : MethodId} {below : List Frame} {meth : Method} {c : Code} {s₁ T0 : State} {locs : List Loc}
    (Bd : BodyLoose p l x (head1 (Jvm.Cond.code x code maxLocals ret :: ws) room_1) code maxLocals ret e s m #[(.int p1), (.int p2), (.int p3)] below meth c s₁) (hml : c.maxLocals = 13) (hZ : Z.Warmed39 s.vm) (X0 : Stand p l e room_1 s m #[(.int p1), (.int p2), (.int p3)] below meth c T0 locs 6 93) (e0 : T0.heap = h0) (N0 : Fr n0 locs) (Z0 : n0 ≤ h0.size) (O0 : Old Z n0 h0) (q0_ : Arv Z h0 b1 k1 (.object "java/lang/Integer") (3 : Int32) [(.ref j7), (.ref j8), (.ref j9)] .null) (q1_ : Arv Z h0 b11 k11 .int (3 : Int32) [(.int (1 : Int32)), (.int (2 : Int32)), (.int (3 : Int32))] (.int (0 : Int32))) (q2_ : Arv Z h0 b12 k12 .int (3 : Int32) [(.int (0 : Int32)), (.int (2 : Int32)), (.int (1 : Int32))] (.int (0 : Int32))) (q3_ : Exa Z h0 b19 "com/example/terrace/terrace/core/UseOrder") (q4_ : Fld Z h0 b19 "com/example/terrace/terrace/core/UseOrder" "entries" "[Ljava/lang/Object;" (.ref en)) (q5_ : Fld Z h0 b19 "com/example/terrace/terrace/core/UseOrder" "links" "[I" (.ref li)) (q6_ : Fld Z h0 b19 "com/example/terrace/terrace/core/UseOrder" "free" "I" (.int (0 : Int32))) (q7_ : Fld Z h0 b19 "com/example/terrace/terrace/core/UseOrder" "highest" "I" (.int (3 : Int32))) (q8_ : Arv Z h0 en ke (.object "java/lang/Object") (16 : Int32) (own_E (.ref j7) (.ref j8) (.ref j9)) .null) (q9_ : Arv Z h0 li kl .int (64 : Int32) (own_L 2 1 0 0 0 3 p3 0 3 0 p3 0 1 2 p3 0) (.int (0 : Int32))) (g_b1 : n0 ≤ b1) (g_b11 : n0 ≤ b11) (g_b12 : n0 ≤ b12) (g_b19 : n0 ≤ b19) (g_en : n0 ≤ en) (g_li : n0 ≤ li) (ne_b1_b11 : b1 ≠ b11) (ne_b1_b12 : b1 ≠ b12) (ne_b1_b19 : b1 ≠ b19) (ne_b1_en : b1 ≠ en) (ne_b1_li : b1 ≠ li) (ne_b11_b12 : b11 ≠ b12) (ne_b11_b19 : b11 ≠ b19) (ne_b11_en : b11 ≠ en) (ne_b11_li : b11 ≠ li) (ne_b12_b19 : b12 ≠ b19) (ne_b12_en : b12 ≠ en) (ne_b12_li : b12 ≠ li) (ne_b19_en : b19 ≠ en) (ne_b19_li : b19 ≠ li) (ne_en_li : en ≠ li) (Ov_ : Ovr Z ke "java/lang/Object") (Ej7 : Exa Z Z.heap j7 "java/lang/Integer") (Ej8 : Exa Z Z.heap j8 "java/lang/Integer") (Ej9 : Exa Z Z.heap j9 "java/lang/Integer") :
    ∃ s₂ o, Steps p.tables e below (T0.setTop (mkF m 139 #[.val (.int p1), .val (.int p2), .val (.int p3), .val (.int (1 : Int32)), .val (.int (1 : Int32)), .val (.ref b1), .val (.ref b11), .val (.ref b12), .val (.ref b19), .unset, .unset, .unset, .unset] [])) s₂ ∧ s₂.status = .running ∧ Ended s₂ below o ∧ ∃ v L, o = .returned v ∧ (v = some (.int 1) ∧ Fr n0 L) ∧ FrameEnd s o s₂ L room_1.cells room_1.slots := by
  have hw_14 := hw _ (List.mem_of_getElem? (i := 14) rfl)
  have hw_41 := hw _ (List.mem_of_getElem? (i := 41) rfl)
  have hw_42 := hw _ (List.mem_of_getElem? (i := 42) rfl)
  have hw_43 := hw _ (List.mem_of_getElem? (i := 43) rfl)
  have hw_44 := hw _ (List.mem_of_getElem? (i := 44) rfl)
  have hw_45 := hw _ (List.mem_of_getElem? (i := 45) rfl)
  have hw_50 := hw _ (List.mem_of_getElem? (i := 50) rfl)
  have hw_51 := hw _ (List.mem_of_getElem? (i := 51) rfl)
  have hw_52 := hw _ (List.mem_of_getElem? (i := 52) rfl)
  have hw_53 := hw _ (List.mem_of_getElem? (i := 53) rfl)
  have hx := Bd.exec
  have hby := Bd.bytes
  have hown : s.vm.findClass "com/example/terrace/terrace/core/UseOrderUsePinLaw" = some m.cls := findClass_of_methodNamed Bd.named
  have hnm := (name_of_methodNamed Bd.named Bd.method).1
  have pre0 : ∀ t_, Steps p.tables e below (T0.setTop (mkF m 139 #[.val (.int p1), .val (.int p2), .val (.int p3), .val (.int (1 : Int32)), .val (.int (1 : Int32)), .val (.ref b1), .val (.ref b11), .val (.ref b12), .val (.ref b19), .unset, .unset, .unset, .unset] [])) t_ → Steps p.tables e below (T0.setTop (mkF m 139 #[.val (.int p1), .val (.int p2), .val (.int p3), .val (.int (1 : Int32)), .val (.int (1 : Int32)), .val (.ref b1), .val (.ref b11), .val (.ref b12), .val (.ref b19), .unset, .unset, .unset, .unset] [])) t_ := fun _ k_ => k_
  obtain ⟨cl1, Ar1, q1, S1, M1, H1, G1⟩ := q1_
  have f2 : Arv Z h0 b11 k11 .int (3 : Int32) [(.int (1 : Int32)), (.int (2 : Int32)), (.int (3 : Int32))] (.int (0 : Int32)) := ⟨cl1, Ar1, q1, S1, M1, H1, G1⟩
  have hin1 : ¬ ((1 : Int32) < 0 ∨ cl1.slots.size ≤ ((1 : Int32)).toNatClampNeg) := inb_of S1 ⟨by decide, by decide⟩
  have hat1 : cl1.slots[((1 : Int32)).toNatClampNeg]? = some (.int (2 : Int32)) := Has.at H1 hin1 rfl
  obtain ⟨cq3, kq3, q3a, q3b, q3c⟩ := isOf hZ e0 q3_
  obtain ⟨_, _, ⟨T3, L3, k3, n3⟩, -, X3, ⟨Lc3, hQ3, l3, y3, z3⟩, st3⟩ := X0.virtualBack hx (y := (⟨"com/example/terrace/terrace/core/UseOrder", "use", "(I)V"⟩ : MethodName)) (z := (⟨"com/example/terrace/terrace/core/UseOrder", "use", "(I)V"⟩ : MethodName)) hown (mvT hZ hw_41) (mvT hZ hw_42) (notFace_of_selects (args := #[]) (mvT hZ hw_44)) (mvT hZ hw_44) (mvT hZ hw_43) (by decide) (backOf (W := 0) (rmUseN l Z a0 hw [] b19 li kl (own_L 2 1 0 0 0 3 p3 0 3 0 p3 0 1 2 p3 0) (2 : Int32) h0 n0 Z0 q5_ q9_ rfl) hZ hw_45 hw_14 (by decide) (by decide)) q3a q3c (g := (mkF m 146 #[.val (.int p1), .val (.int p2), .val (.int p3), .val (.int (1 : Int32)), .val (.int (1 : Int32)), .val (.ref b1), .val (.ref b11), .val (.ref b12), .val (.ref b19), .unset, .unset, .unset, .unset] [(.int (2 : Int32)), (.ref b19)])) rfl (by rw [hml]; rfl) (Steps.refl _) (argsL := [(.int (2 : Int32))]) (rest := []) (lenOf pd_0 rfl) rfl (by show 2 * 0 + _ ≤ _; exact Nat.le_of_eq rfl) (hb hby at_146) (fun _ _ => ⟨rfl, e0, (by decide : 6 + 0 ≤ _), (by decide : 93 + 0 ≤ _)⟩)
  dsimp only [Pt.U, Pt.locs, Pt.cells, Pt.slots] at X3 l3 y3 z3 st3 hQ3
  subst l3 y3 z3
  obtain ⟨rfl, N3q, Kc3, Vc3⟩ := hQ3
  have N3 := Fr.app N0 N3q
  have sz3 : h0.size ≤ T3.heap.size := Kc3.1
  have Z3 : n0 ≤ T3.heap.size := Nat.le_trans Z0 sz3
  have O3 : Old Z n0 T3.heap := O0.keep Kc3 (allS (show n0 ≤ li by omega) all0)
  have Vl3_ : Arv Z T3.heap li kl .int (64 : Int32) (own_L 2 1 0 0 0 3 p3 0 3 0 p3 0 1 2 p3 0) (.int (0 : Int32)) := Vc3
  have f5 := (q2_.keep Kc3 (ninS ne_b12_li nin0))
  obtain ⟨_, _, ⟨T4, L4, k4, n4⟩, -, X4, ⟨Lc4, hQ4, l4, y4, z4⟩, st4⟩ := Jvm.LawKit.callS X3 hx (y := (⟨"com/example/terrace/terrace/core/UseOrderUsePinLaw", "moveToEnd", "([II)V"⟩ : MethodName)) hown (mvT hZ hw_50) (mvT hZ hw_51) (mvT hZ hw_52) (mvT hZ hw_53) (by decide) (backOf (W := 0) (rmMove l Z a0 hw [] b12 k12 (0 : Int32) (2 : Int32) (1 : Int32) (1 : Int32) T3.heap n0 Z3 f5 (by omega)) hZ hw_53 hw_52 (by decide) (by decide)) (g := (mkF m 153 #[.val (.int p1), .val (.int p2), .val (.int p3), .val (.int (1 : Int32)), .val (.int (1 : Int32)), .val (.ref b1), .val (.ref b11), .val (.ref b12), .val (.ref b19), .unset, .unset, .unset, .unset] [(.int (1 : Int32)), (.ref b12)])) rfl (by rw [hml]; rfl) (argsL := [(.ref b12), (.int (1 : Int32))]) (rest := []) (lenOf pd_5 rfl) rfl (by show 2 * 0 + _ ≤ _; exact Nat.le_of_eq rfl) (hb hby at_153) (fun _ _ => ⟨rfl, rfl, (by decide : 6 + 0 ≤ _), (by decide : 93 + 0 ≤ _)⟩)
  dsimp only [Pt.U, Pt.locs, Pt.cells, Pt.slots] at X4 l4 y4 z4 st4 hQ4
  subst l4 y4 z4
  obtain ⟨rfl, N4q, Kc4, Vc4⟩ := hQ4
  have N4 := Fr.app N3 N4q
  have sz4 : T3.heap.size ≤ T4.heap.size := Kc4.1
  have Z4 : n0 ≤ T4.heap.size := Nat.le_trans Z3 sz4
  have O4 : Old Z n0 T4.heap := O3.keep Kc4 (allS (show n0 ≤ b12 by omega) all0)
  have Vd4 : Arv Z T4.heap b12 k12 .int (3 : Int32) [(.int (0 : Int32)), (.int (2 : Int32)), (.int (1 : Int32))] (.int (0 : Int32)) := Vc4
  have go6 : ∀ t_, Steps p.tables e below (T4.setTop (mkF m 156 #[.val (.int p1), .val (.int p2), .val (.int p3), .val (.int (1 : Int32)), .val (.int (1 : Int32)), .val (.ref b1), .val (.ref b11), .val (.ref b12), .val (.ref b19), .unset, .unset, .unset, .unset] [])) t_ → Steps p.tables e below (T0.setTop (mkF m 139 #[.val (.int p1), .val (.int p2), .val (.int p3), .val (.int (1 : Int32)), .val (.int (1 : Int32)), .val (.ref b1), .val (.ref b11), .val (.ref b12), .val (.ref b19), .unset, .unset, .unset, .unset] [])) t_ := by
    intro t_ k_
    refine pre0 t_ ?_
    show Steps p.tables e below (T0.setTop (mkF m 139 #[.val (.int p1), .val (.int p2), .val (.int p3), .val (.int (1 : Int32)), .val (.int (1 : Int32)), .val (.ref b1), .val (.ref b11), .val (.ref b12), .val (.ref b19), .unset, .unset, .unset, .unset] [])) _
    refine XS.aload X0.here hx rfl (hb hby at_139) rfl rfl ?_
    show Steps p.tables e below (T0.setTop (mkF m 141 #[.val (.int p1), .val (.int p2), .val (.int p3), .val (.int (1 : Int32)), .val (.int (1 : Int32)), .val (.ref b1), .val (.ref b11), .val (.ref b12), .val (.ref b19), .unset, .unset, .unset, .unset] [(.ref b19)])) _
    refine XS.aload X0.here hx rfl (hb hby at_141) rfl rfl ?_
    show Steps p.tables e below (T0.setTop (mkF m 143 #[.val (.int p1), .val (.int p2), .val (.int p3), .val (.int (1 : Int32)), .val (.int (1 : Int32)), .val (.ref b1), .val (.ref b11), .val (.ref b12), .val (.ref b19), .unset, .unset, .unset, .unset] [(.ref b11), (.ref b19)])) _
    refine XS.iload X0.here hx rfl (hb hby at_143) rfl ?_
    show Steps p.tables e below (T0.setTop (mkF m 145 #[.val (.int p1), .val (.int p2), .val (.int p3), .val (.int (1 : Int32)), .val (.int (1 : Int32)), .val (.ref b1), .val (.ref b11), .val (.ref b12), .val (.ref b19), .unset, .unset, .unset, .unset] [(.int (1 : Int32)), (.ref b11), (.ref b19)])) _
    refine X0.iaload hx (j := (1 : Int32)) (v := (.int (2 : Int32))) (by rw [e0]; exact Ar1.1) (State.isArrayOf_alike hZ.alike Ar1.2.1) Ar1.2.2 hin1 hat1 (g := (mkF m 145 #[.val (.int p1), .val (.int p2), .val (.int p3), .val (.int (1 : Int32)), .val (.int (1 : Int32)), .val (.ref b1), .val (.ref b11), .val (.ref b12), .val (.ref b19), .unset, .unset, .unset, .unset] [(.int (1 : Int32)), (.ref b11), (.ref b19)])) rfl rfl (hb hby at_145) _ ?_
    show Steps p.tables e below (T0.setTop (mkF m 146 #[.val (.int p1), .val (.int p2), .val (.int p3), .val (.int (1 : Int32)), .val (.int (1 : Int32)), .val (.ref b1), .val (.ref b11), .val (.ref b12), .val (.ref b19), .unset, .unset, .unset, .unset] [(.int (2 : Int32)), (.ref b19)])) _
    refine st3.trans ?_
    show Steps p.tables e below (T3.setTop (mkF m 149 #[.val (.int p1), .val (.int p2), .val (.int p3), .val (.int (1 : Int32)), .val (.int (1 : Int32)), .val (.ref b1), .val (.ref b11), .val (.ref b12), .val (.ref b19), .unset, .unset, .unset, .unset] [])) _
    refine XS.aload X3.here hx rfl (hb hby at_149) rfl rfl ?_
    show Steps p.tables e below (T3.setTop (mkF m 151 #[.val (.int p1), .val (.int p2), .val (.int p3), .val (.int (1 : Int32)), .val (.int (1 : Int32)), .val (.ref b1), .val (.ref b11), .val (.ref b12), .val (.ref b19), .unset, .unset, .unset, .unset] [(.ref b12)])) _
    refine XS.iload X3.here hx rfl (hb hby at_151) rfl ?_
    show Steps p.tables e below (T3.setTop (mkF m 153 #[.val (.int p1), .val (.int p2), .val (.int p3), .val (.int (1 : Int32)), .val (.int (1 : Int32)), .val (.ref b1), .val (.ref b11), .val (.ref b12), .val (.ref b19), .unset, .unset, .unset, .unset] [(.int (1 : Int32)), (.ref b12)])) _
    refine st4 _ ?_
    exact k_
  have f7 := (q0_.keep Kc3 (ninS ne_b1_li nin0))
  have f8 := (f7.keep Kc4 (ninS ne_b1_b12 nin0))
  have f9 := (f2.keep Kc3 (ninS ne_b11_li nin0))
  have f10 := (f9.keep Kc4 (ninS ne_b11_b12 nin0))
  have f11 := (q3_.keep Kc3)
  have f12 := (f11.keep Kc4)
  have f13 := (q4_.keep Kc3 (ninS ne_b19_li nin0))
  have f14 := (f13.keep Kc4 (ninS (Ne.symm ne_b12_b19) nin0))
  have f15 := (q5_.keep Kc3 (ninS ne_b19_li nin0))
  have f16 := (f15.keep Kc4 (ninS (Ne.symm ne_b12_b19) nin0))
  have f17 := (q6_.keep Kc3 (ninS ne_b19_li nin0))
  have f18 := (f17.keep Kc4 (ninS (Ne.symm ne_b12_b19) nin0))
  have f19 := (q7_.keep Kc3 (ninS ne_b19_li nin0))
  have f20 := (f19.keep Kc4 (ninS (Ne.symm ne_b12_b19) nin0))
  have f21 := (q8_.keep Kc3 (ninS ne_en_li nin0))
  have f22 := (f21.keep Kc4 (ninS (Ne.symm ne_b12_en) nin0))
  have f23 := (Vl3_.keep Kc4 (ninS (Ne.symm ne_b12_li) nin0))
  obtain ⟨s2_, o_, hs_, h1_, h2_, v_, L_, h3_, hq_, h4_⟩ := pc156_11 l Z a0 hw ws p1 p2 p3 j7 j8 j9 b1 b11 b12 b19 en li k1 k11 k12 ke kl (1 : Int32) (1 : Int32) T4.heap n0 Bd hml hZ X4 rfl N4 Z4 O4 f8 f10 Vd4 f12 f14 f16 f18 f20 f22 f23 g_b1 g_b11 g_b12 g_b19 g_en g_li ne_b1_b11 ne_b1_b12 ne_b1_b19 ne_b1_en ne_b1_li ne_b11_b12 ne_b11_b19 ne_b11_en ne_b11_li ne_b12_b19 ne_b12_en ne_b12_li ne_b19_en ne_b19_li ne_en_li Ov_ Ej7 Ej8 Ej9
  exact ⟨s2_, o_, go6 _ hs_, h1_, h2_, v_, L_, h3_, hq_, h4_⟩
set_option maxRecDepth 65536 in
set_option maxHeartbeats 40000000 in
theorem pc156_13 (l : Launch) (Z : State) (a0 : Array Value) (hw : ∀ d ∈ tables_1, d.before a0 Z = true) (ws : List Jvm.Cond) (p1 : Int32) (p2 : Int32) (p3 : Int32) (j7 : Nat) (j8 : Nat) (j9 : Nat) (b1 : Nat) (b11 : Nat) (b12 : Nat) (b19 : Nat) (en : Nat) (li : Nat) (k1 : ClassId) (k11 : ClassId) (k12 : ClassId) (ke : ClassId) (kl : ClassId) (z3 : Int32) (z4 : Int32) (h0 : Heap) (n0 : Nat) {p : Program} {e : Env} {s : State} {m : MethodId} {below : List Frame} {meth : Method} {c : Code} {s₁ T0 : State} {locs : List Loc}
    (Bd : BodyLoose p l x (head1 (Jvm.Cond.code x code maxLocals ret :: ws) room_1) code maxLocals ret e s m #[(.int p1), (.int p2), (.int p3)] below meth c s₁) (hml : c.maxLocals = 13) (hZ : Z.Warmed39 s.vm) (X0 : Stand p l e room_1 s m #[(.int p1), (.int p2), (.int p3)] below meth c T0 locs 6 93) (e0 : T0.heap = h0) (N0 : Fr n0 locs) (Z0 : n0 ≤ h0.size) (O0 : Old Z n0 h0) (q0_ : Arv Z h0 b1 k1 (.object "java/lang/Integer") (3 : Int32) [(.ref j7), (.ref j8), (.ref j9)] .null) (q1_ : Arv Z h0 b11 k11 .int (3 : Int32) [(.int (1 : Int32)), (.int (2 : Int32)), (.int (3 : Int32))] (.int (0 : Int32))) (q2_ : Arv Z h0 b12 k12 .int (3 : Int32) [(.int (0 : Int32)), (.int (1 : Int32)), (.int (2 : Int32))] (.int (0 : Int32))) (q3_ : Exa Z h0 b19 "com/example/terrace/terrace/core/UseOrder") (q4_ : Fld Z h0 b19 "com/example/terrace/terrace/core/UseOrder" "entries" "[Ljava/lang/Object;" (.ref en)) (q5_ : Fld Z h0 b19 "com/example/terrace/terrace/core/UseOrder" "links" "[I" (.ref li)) (q6_ : Fld Z h0 b19 "com/example/terrace/terrace/core/UseOrder" "free" "I" (.int (0 : Int32))) (q7_ : Fld Z h0 b19 "com/example/terrace/terrace/core/UseOrder" "highest" "I" (.int (3 : Int32))) (q8_ : Arv Z h0 en ke (.object "java/lang/Object") (16 : Int32) (own_E (.ref j7) (.ref j8) (.ref j9)) .null) (q9_ : Arv Z h0 li kl .int (64 : Int32) (own_L 3 1 0 0 0 2 p3 0 1 3 p3 0 2 0 p3 0) (.int (0 : Int32))) (g_b1 : n0 ≤ b1) (g_b11 : n0 ≤ b11) (g_b12 : n0 ≤ b12) (g_b19 : n0 ≤ b19) (g_en : n0 ≤ en) (g_li : n0 ≤ li) (ne_b1_b11 : b1 ≠ b11) (ne_b1_b12 : b1 ≠ b12) (ne_b1_b19 : b1 ≠ b19) (ne_b1_en : b1 ≠ en) (ne_b1_li : b1 ≠ li) (ne_b11_b12 : b11 ≠ b12) (ne_b11_b19 : b11 ≠ b19) (ne_b11_en : b11 ≠ en) (ne_b11_li : b11 ≠ li) (ne_b12_b19 : b12 ≠ b19) (ne_b12_en : b12 ≠ en) (ne_b12_li : b12 ≠ li) (ne_b19_en : b19 ≠ en) (ne_b19_li : b19 ≠ li) (ne_en_li : en ≠ li) (Ov_ : Ovr Z ke "java/lang/Object") (Ej7 : Exa Z Z.heap j7 "java/lang/Integer") (Ej8 : Exa Z Z.heap j8 "java/lang/Integer") (Ej9 : Exa Z Z.heap j9 "java/lang/Integer") :
    ∃ s₂ o, Steps p.tables e below (T0.setTop (mkF m 156 #[.val (.int p1), .val (.int p2), .val (.int p3), .val (.int z3), .val (.int z4), .val (.ref b1), .val (.ref b11), .val (.ref b12), .val (.ref b19), .unset, .unset, .unset, .unset] [])) s₂ ∧ s₂.status = .running ∧ Ended s₂ below o ∧ ∃ v L, o = .returned v ∧ (v = some (.int 1) ∧ Fr n0 L) ∧ FrameEnd s o s₂ L room_1.cells room_1.slots := by
  have hw_1 := hw _ (List.mem_of_getElem? (i := 1) rfl)
  have hw_14 := hw _ (List.mem_of_getElem? (i := 14) rfl)
  have hw_54 := hw _ (List.mem_of_getElem? (i := 54) rfl)
  have hw_55 := hw _ (List.mem_of_getElem? (i := 55) rfl)
  have hw_56 := hw _ (List.mem_of_getElem? (i := 56) rfl)
  have hw_57 := hw _ (List.mem_of_getElem? (i := 57) rfl)
  have hw_58 := hw _ (List.mem_of_getElem? (i := 58) rfl)
  have hw_63 := hw _ (List.mem_of_getElem? (i := 63) rfl)
  have hw_64 := hw _ (List.mem_of_getElem? (i := 64) rfl)
  have hw_65 := hw _ (List.mem_of_getElem? (i := 65) rfl)
  have hw_66 := hw _ (List.mem_of_getElem? (i := 66) rfl)
  have hw_67 := hw _ (List.mem_of_getElem? (i := 67) rfl)
  have hx := Bd.exec
  have hby := Bd.bytes
  have hown : s.vm.findClass "com/example/terrace/terrace/core/UseOrderUsePinLaw" = some m.cls := findClass_of_methodNamed Bd.named
  have hnm := (name_of_methodNamed Bd.named Bd.method).1
  have pre0 : ∀ t_, Steps p.tables e below (T0.setTop (mkF m 156 #[.val (.int p1), .val (.int p2), .val (.int p3), .val (.int z3), .val (.int z4), .val (.ref b1), .val (.ref b11), .val (.ref b12), .val (.ref b19), .unset, .unset, .unset, .unset] [])) t_ → Steps p.tables e below (T0.setTop (mkF m 156 #[.val (.int p1), .val (.int p2), .val (.int p3), .val (.int z3), .val (.int z4), .val (.ref b1), .val (.ref b11), .val (.ref b12), .val (.ref b19), .unset, .unset, .unset, .unset] [])) t_ := fun _ k_ => k_
  obtain ⟨cq1, kq1, q1a, q1b, q1c⟩ := isOf hZ e0 q3_
  obtain ⟨_, _, ⟨T1, L1, k1, n1⟩, -, X1, ⟨Lc1, hQ1, l1, y1, z1⟩, st1⟩ := X0.virtualBack hx (y := (⟨"com/example/terrace/terrace/core/UseOrder", "leastRecent", "()Ljava/lang/Object;"⟩ : MethodName)) (z := (⟨"com/example/terrace/terrace/core/UseOrder", "leastRecent", "()Ljava/lang/Object;"⟩ : MethodName)) hown (mvT hZ hw_54) (mvT hZ hw_55) (notFace_of_selects (args := #[]) (mvT hZ hw_57)) (mvT hZ hw_57) (mvT hZ hw_56) (by decide) (backOf (W := 0) (rmLeast l Z a0 hw [] b19 li kl (own_L 3 1 0 0 0 2 p3 0 1 3 p3 0 2 0 p3 0) en ke (own_E (.ref j7) (.ref j8) (.ref j9)) j7 (1 : Int32) h0 n0 Z0 q5_ q9_ q4_ q8_ q3_ rfl ⟨by decide, by decide⟩ rfl) hZ hw_58 hw_14 (by decide) (by decide)) q1a q1c (g := (mkF m 158 #[.val (.int p1), .val (.int p2), .val (.int p3), .val (.int z3), .val (.int z4), .val (.ref b1), .val (.ref b11), .val (.ref b12), .val (.ref b19), .unset, .unset, .unset, .unset] [(.ref b19)])) rfl (by rw [hml]; rfl) (Steps.refl _) (argsL := []) (rest := []) (lenOf pd_6 rfl) rfl (by show 2 * 0 + _ ≤ _; exact Nat.le_of_eq rfl) (hb hby at_158) (fun _ _ => ⟨rfl, e0, (by decide : 6 + 0 ≤ _), (by decide : 93 + 0 ≤ _)⟩)
  dsimp only [Pt.U, Pt.locs, Pt.cells, Pt.slots] at X1 l1 y1 z1 st1 hQ1
  subst l1 y1 z1
  obtain ⟨rfl, N1q, e1⟩ := hQ1
  have N1 := Fr.app N0 N1q
  obtain ⟨T2, X2, e2, st2⟩ := castY X1 hx hZ hown hw_1 e1 (Ins.self (Ej7.ext O0.2)) (g := (mkF m 161 #[.val (.int p1), .val (.int p2), .val (.int p3), .val (.int z3), .val (.int z4), .val (.ref b1), .val (.ref b11), .val (.ref b12), .val (.ref b19), .unset, .unset, .unset, .unset] [(.ref j7)])) rfl rfl (hb hby at_161)
  obtain ⟨cl3, Ar3, q3, S3, M3, H3, G3⟩ := q2_
  have f4 : Arv Z h0 b12 k12 .int (3 : Int32) [(.int (0 : Int32)), (.int (1 : Int32)), (.int (2 : Int32))] (.int (0 : Int32)) := ⟨cl3, Ar3, q3, S3, M3, H3, G3⟩
  have hin3 : ¬ ((0 : Int32) < 0 ∨ cl3.slots.size ≤ ((0 : Int32)).toNatClampNeg) := inb_of S3 ⟨by decide, by decide⟩
  have hat3 : cl3.slots[((0 : Int32)).toNatClampNeg]? = some (.int (0 : Int32)) := Has.at H3 hin3 rfl
  obtain ⟨cl5, Ar5, q5, S5, M5, H5, G5⟩ := q0_
  have f6 : Arv Z h0 b1 k1 (.object "java/lang/Integer") (3 : Int32) [(.ref j7), (.ref j8), (.ref j9)] .null := ⟨cl5, Ar5, q5, S5, M5, H5, G5⟩
  have hin5 : ¬ ((0 : Int32) < 0 ∨ cl5.slots.size ≤ ((0 : Int32)).toNatClampNeg) := inb_of S5 ⟨by decide, by decide⟩
  have hat5 : cl5.slots[((0 : Int32)).toNatClampNeg]? = some (.ref j7) := Has.at H5 hin5 rfl
  obtain ⟨cl7, Ar7, q7, S7, M7, H7, G7⟩ := f4
  have f8 : Arv Z h0 b12 k12 .int (3 : Int32) [(.int (0 : Int32)), (.int (1 : Int32)), (.int (2 : Int32))] (.int (0 : Int32)) := ⟨cl7, Ar7, q7, S7, M7, H7, G7⟩
  have hin7 : ¬ ((0 : Int32) < 0 ∨ cl7.slots.size ≤ ((0 : Int32)).toNatClampNeg) := inb_of S7 ⟨by decide, by decide⟩
  have hat7 : cl7.slots[((0 : Int32)).toNatClampNeg]? = some (.int (0 : Int32)) := Has.at H7 hin7 rfl
  obtain ⟨cl9, Ar9, q9, S9, M9, H9, G9⟩ := q1_
  have f10 : Arv Z h0 b11 k11 .int (3 : Int32) [(.int (1 : Int32)), (.int (2 : Int32)), (.int (3 : Int32))] (.int (0 : Int32)) := ⟨cl9, Ar9, q9, S9, M9, H9, G9⟩
  have hin9 : ¬ ((0 : Int32) < 0 ∨ cl9.slots.size ≤ ((0 : Int32)).toNatClampNeg) := inb_of S9 ⟨by decide, by decide⟩
  have hat9 : cl9.slots[((0 : Int32)).toNatClampNeg]? = some (.int (1 : Int32)) := Has.at H9 hin9 rfl
  obtain ⟨cq11, kq11, q11a, q11b, q11c⟩ := isOf hZ e2 q3_
  obtain ⟨_, _, ⟨T11, L11, k11, n11⟩, -, X11, ⟨Lc11, hQ11, l11, y11, z11⟩, st11⟩ := X2.virtualBack hx (y := (⟨"com/example/terrace/terrace/core/UseOrder", "remove", "(I)V"⟩ : MethodName)) (z := (⟨"com/example/terrace/terrace/core/UseOrder", "remove", "(I)V"⟩ : MethodName)) hown (mvT hZ hw_63) (mvT hZ hw_64) (notFace_of_selects (args := #[]) (mvT hZ hw_66)) (mvT hZ hw_66) (mvT hZ hw_65) (by decide) (backOf (W := 0) (rmRem l Z a0 hw [] b19 li kl (own_L 3 1 0 0 0 2 p3 0 1 3 p3 0 2 0 p3 0) en ke (own_E (.ref j7) (.ref j8) (.ref j9)) (1 : Int32) (0 : Int32) 4 1 (0 : Int32) (2 : Int32) 1 8 h0 n0 Z0 q5_ q9_ own_Ln ⟨by decide, by decide⟩ ⟨by decide, by decide⟩ rfl rfl ⟨by decide, by decide⟩ rfl ⟨by decide, by decide⟩ rfl (by decide) (by decide) (by omega) ne_b19_li q3_ q4_ q8_ own_En (by omega) (by omega) q6_ ne_en_li ne_b19_en ⟨by decide, by decide⟩ rfl ⟨by decide, by decide⟩ rfl ⟨by decide, by decide⟩ rfl (by decide) (by decide)) hZ hw_67 hw_14 (by decide) (by decide)) q11a q11c (g := (mkF m 194 #[.val (.int p1), .val (.int p2), .val (.int p3), .val (.int z3), .val (.int z4), .val (.ref b1), .val (.ref b11), .val (.ref b12), .val (.ref b19), .val (.ref j7), .val (.int (1 : Int32)), .unset, .unset] [(.int (1 : Int32)), (.ref b19)])) rfl (by rw [hml]; rfl) (Steps.refl _) (argsL := [(.int (1 : Int32))]) (rest := []) (lenOf pd_0 rfl) rfl (by show 2 * 0 + _ ≤ _; exact Nat.le_of_eq rfl) (hb hby at_194) (fun _ _ => ⟨rfl, e2, (by decide : 6 + 0 ≤ _), (by decide : 93 + 0 ≤ _)⟩)
  dsimp only [Pt.U, Pt.locs, Pt.cells, Pt.slots] at X11 l11 y11 z11 st11 hQ11
  subst l11 y11 z11
  obtain ⟨rfl, N11q, Kc11, c0_11, c1_11, c2_11, c3_11, c4_11, c5_11⟩ := hQ11
  have N11 := Fr.app N1 N11q
  have sz11 : h0.size ≤ T11.heap.size := Kc11.1
  have Z11 : n0 ≤ T11.heap.size := Nat.le_trans Z0 sz11
  have O11 : Old Z n0 T11.heap := O0.keep Kc11 (allS (show n0 ≤ b19 by omega) (allS (show n0 ≤ li by omega) (allS (show n0 ≤ en by omega) all0)))
  have Vl11_ : Arv Z T11.heap li kl .int (64 : Int32) (own_L 3 2 0 0 0 (-1) p3 0 0 3 p3 0 2 0 p3 0) (.int (0 : Int32)) := c4_11
  have Ve11_ : Arv Z T11.heap en ke (.object "java/lang/Object") (16 : Int32) (own_E .null (.ref j8) (.ref j9)) .null := c5_11
  obtain ⟨cq12, kq12, q12a, q12b, q12c⟩ := isOf hZ rfl c0_11
  obtain ⟨_, _, ⟨T12, L12, k12, n12⟩, -, X12, ⟨Lc12, hQ12, l12, y12, z12⟩, st12⟩ := X11.virtualBack hx (y := (⟨"com/example/terrace/terrace/core/UseOrder", "leastRecent", "()Ljava/lang/Object;"⟩ : MethodName)) (z := (⟨"com/example/terrace/terrace/core/UseOrder", "leastRecent", "()Ljava/lang/Object;"⟩ : MethodName)) hown (mvT hZ hw_54) (mvT hZ hw_55) (notFace_of_selects (args := #[]) (mvT hZ hw_57)) (mvT hZ hw_57) (mvT hZ hw_56) (by decide) (backOf (W := 0) (rmLeast l Z a0 hw [] b19 li kl (own_L 3 2 0 0 0 (-1) p3 0 0 3 p3 0 2 0 p3 0) en ke (own_E .null (.ref j8) (.ref j9)) j8 (2 : Int32) T11.heap n0 Z11 c1_11 Vl11_ c2_11 Ve11_ c0_11 rfl ⟨by decide, by decide⟩ rfl) hZ hw_58 hw_14 (by decide) (by decide)) q12a q12c (g := (mkF m 199 #[.val (.int p1), .val (.int p2), .val (.int p3), .val (.int z3), .val (.int z4), .val (.ref b1), .val (.ref b11), .val (.ref b12), .val (.ref b19), .val (.ref j7), .val (.int (1 : Int32)), .unset, .unset] [(.ref b19)])) rfl (by rw [hml]; rfl) (Steps.refl _) (argsL := []) (rest := []) (lenOf pd_6 rfl) rfl (by show 2 * 0 + _ ≤ _; exact Nat.le_of_eq rfl) (hb hby at_199) (fun _ _ => ⟨rfl, rfl, (by decide : 6 + 0 ≤ _), (by decide : 93 + 0 ≤ _)⟩)
  dsimp only [Pt.U, Pt.locs, Pt.cells, Pt.slots] at X12 l12 y12 z12 st12 hQ12
  subst l12 y12 z12
  obtain ⟨rfl, N12q, e12⟩ := hQ12
  have N12 := Fr.app N11 N12q
  obtain ⟨T13, X13, e13, st13⟩ := castY X12 hx hZ hown hw_1 e12 (Ins.self (Ej8.ext O11.2)) (g := (mkF m 202 #[.val (.int p1), .val (.int p2), .val (.int p3), .val (.int z3), .val (.int z4), .val (.ref b1), .val (.ref b11), .val (.ref b12), .val (.ref b19), .val (.ref j7), .val (.int (1 : Int32)), .unset, .unset] [(.ref j8)])) rfl rfl (hb hby at_202)
  have f14 := (f8.keep Kc11 (ninS ne_b12_b19 (ninS ne_b12_li (ninS ne_b12_en nin0))))
  obtain ⟨cl15, Ar15, q15, S15, M15, H15, G15⟩ := f14
  have f16 : Arv Z T11.heap b12 k12 .int (3 : Int32) [(.int (0 : Int32)), (.int (1 : Int32)), (.int (2 : Int32))] (.int (0 : Int32)) := ⟨cl15, Ar15, q15, S15, M15, H15, G15⟩
  have hin15 : ¬ ((1 : Int32) < 0 ∨ cl15.slots.size ≤ ((1 : Int32)).toNatClampNeg) := inb_of S15 ⟨by decide, by decide⟩
  have hat15 : cl15.slots[((1 : Int32)).toNatClampNeg]? = some (.int (1 : Int32)) := Has.at H15 hin15 rfl
  have f17 := (f6.keep Kc11 (ninS ne_b1_b19 (ninS ne_b1_li (ninS ne_b1_en nin0))))
  obtain ⟨cl18, Ar18, q18, S18, M18, H18, G18⟩ := f17
  have f19 : Arv Z T11.heap b1 k1 (.object "java/lang/Integer") (3 : Int32) [(.ref j7), (.ref j8), (.ref j9)] .null := ⟨cl18, Ar18, q18, S18, M18, H18, G18⟩
  have hin18 : ¬ ((1 : Int32) < 0 ∨ cl18.slots.size ≤ ((1 : Int32)).toNatClampNeg) := inb_of S18 ⟨by decide, by decide⟩
  have hat18 : cl18.slots[((1 : Int32)).toNatClampNeg]? = some (.ref j8) := Has.at H18 hin18 rfl
  obtain ⟨cl20, Ar20, q20, S20, M20, H20, G20⟩ := f16
  have f21 : Arv Z T11.heap b12 k12 .int (3 : Int32) [(.int (0 : Int32)), (.int (1 : Int32)), (.int (2 : Int32))] (.int (0 : Int32)) := ⟨cl20, Ar20, q20, S20, M20, H20, G20⟩
  have hin20 : ¬ ((1 : Int32) < 0 ∨ cl20.slots.size ≤ ((1 : Int32)).toNatClampNeg) := inb_of S20 ⟨by decide, by decide⟩
  have hat20 : cl20.slots[((1 : Int32)).toNatClampNeg]? = some (.int (1 : Int32)) := Has.at H20 hin20 rfl
  have f22 := (f10.keep Kc11 (ninS ne_b11_b19 (ninS ne_b11_li (ninS ne_b11_en nin0))))
  obtain ⟨cl23, Ar23, q23, S23, M23, H23, G23⟩ := f22
  have f24 : Arv Z T11.heap b11 k11 .int (3 : Int32) [(.int (1 : Int32)), (.int (2 : Int32)), (.int (3 : Int32))] (.int (0 : Int32)) := ⟨cl23, Ar23, q23, S23, M23, H23, G23⟩
  have hin23 : ¬ ((1 : Int32) < 0 ∨ cl23.slots.size ≤ ((1 : Int32)).toNatClampNeg) := inb_of S23 ⟨by decide, by decide⟩
  have hat23 : cl23.slots[((1 : Int32)).toNatClampNeg]? = some (.int (2 : Int32)) := Has.at H23 hin23 rfl
  obtain ⟨cq25, kq25, q25a, q25b, q25c⟩ := isOf hZ e13 c0_11
  obtain ⟨_, _, ⟨T25, L25, k25, n25⟩, -, X25, ⟨Lc25, hQ25, l25, y25, z25⟩, st25⟩ := X13.virtualBack hx (y := (⟨"com/example/terrace/terrace/core/UseOrder", "remove", "(I)V"⟩ : MethodName)) (z := (⟨"com/example/terrace/terrace/core/UseOrder", "remove", "(I)V"⟩ : MethodName)) hown (mvT hZ hw_63) (mvT hZ hw_64) (notFace_of_selects (args := #[]) (mvT hZ hw_66)) (mvT hZ hw_66) (mvT hZ hw_65) (by decide) (backOf (W := 0) (rmRem l Z a0 hw [] b19 li kl (own_L 3 2 0 0 0 (-1) p3 0 0 3 p3 0 2 0 p3 0) en ke (own_E .null (.ref j8) (.ref j9)) (2 : Int32) (1 : Int32) 8 2 (0 : Int32) (3 : Int32) 1 12 T11.heap n0 Z11 c1_11 Vl11_ own_Ln ⟨by decide, by decide⟩ ⟨by decide, by decide⟩ rfl rfl ⟨by decide, by decide⟩ rfl ⟨by decide, by decide⟩ rfl (by decide) (by decide) (by omega) ne_b19_li c0_11 c2_11 Ve11_ own_En (by omega) (by omega) c3_11 ne_en_li ne_b19_en ⟨by decide, by decide⟩ rfl ⟨by decide, by decide⟩ rfl ⟨by decide, by decide⟩ rfl (by decide) (by decide)) hZ hw_67 hw_14 (by decide) (by decide)) q25a q25c (g := (mkF m 240 #[.val (.int p1), .val (.int p2), .val (.int p3), .val (.int z3), .val (.int z4), .val (.ref b1), .val (.ref b11), .val (.ref b12), .val (.ref b19), .val (.ref j7), .val (.int (1 : Int32)), .val (.ref j8), .unset] [(.int (2 : Int32)), (.ref b19)])) rfl (by rw [hml]; rfl) (Steps.refl _) (argsL := [(.int (2 : Int32))]) (rest := []) (lenOf pd_0 rfl) rfl (by show 2 * 0 + _ ≤ _; exact Nat.le_of_eq rfl) (hb hby at_240) (fun _ _ => ⟨rfl, e13, (by decide : 6 + 0 ≤ _), (by decide : 93 + 0 ≤ _)⟩)
  dsimp only [Pt.U, Pt.locs, Pt.cells, Pt.slots] at X25 l25 y25 z25 st25 hQ25
  subst l25 y25 z25
  obtain ⟨rfl, N25q, Kc25, c0_25, c1_25, c2_25, c3_25, c4_25, c5_25⟩ := hQ25
  have N25 := Fr.app N12 N25q
  have sz25 : T11.heap.size ≤ T25.heap.size := Kc25.1
  have Z25 : n0 ≤ T25.heap.size := Nat.le_trans Z11 sz25
  have O25 : Old Z n0 T25.heap := O11.keep Kc25 (allS (show n0 ≤ b19 by omega) (allS (show n0 ≤ li by omega) (allS (show n0 ≤ en by omega) all0)))
  have Vl25_ : Arv Z T25.heap li kl .int (64 : Int32) (own_L 3 3 0 0 0 (-1) p3 0 1 (-1) p3 0 0 0 p3 0) (.int (0 : Int32)) := c4_25
  have Ve25_ : Arv Z T25.heap en ke (.object "java/lang/Object") (16 : Int32) (own_E .null .null (.ref j9)) .null := c5_25
  obtain ⟨cq26, kq26, q26a, q26b, q26c⟩ := isOf hZ rfl c0_25
  obtain ⟨_, _, ⟨T26, L26, k26, n26⟩, -, X26, ⟨Lc26, hQ26, l26, y26, z26⟩, st26⟩ := X25.virtualBack hx (y := (⟨"com/example/terrace/terrace/core/UseOrder", "leastRecent", "()Ljava/lang/Object;"⟩ : MethodName)) (z := (⟨"com/example/terrace/terrace/core/UseOrder", "leastRecent", "()Ljava/lang/Object;"⟩ : MethodName)) hown (mvT hZ hw_54) (mvT hZ hw_55) (notFace_of_selects (args := #[]) (mvT hZ hw_57)) (mvT hZ hw_57) (mvT hZ hw_56) (by decide) (backOf (W := 0) (rmLeast l Z a0 hw [] b19 li kl (own_L 3 3 0 0 0 (-1) p3 0 1 (-1) p3 0 0 0 p3 0) en ke (own_E .null .null (.ref j9)) j9 (3 : Int32) T25.heap n0 Z25 c1_25 Vl25_ c2_25 Ve25_ c0_25 rfl ⟨by decide, by decide⟩ rfl) hZ hw_58 hw_14 (by decide) (by decide)) q26a q26c (g := (mkF m 245 #[.val (.int p1), .val (.int p2), .val (.int p3), .val (.int z3), .val (.int z4), .val (.ref b1), .val (.ref b11), .val (.ref b12), .val (.ref b19), .val (.ref j7), .val (.int (1 : Int32)), .val (.ref j8), .unset] [(.ref b19)])) rfl (by rw [hml]; rfl) (Steps.refl _) (argsL := []) (rest := []) (lenOf pd_6 rfl) rfl (by show 2 * 0 + _ ≤ _; exact Nat.le_of_eq rfl) (hb hby at_245) (fun _ _ => ⟨rfl, rfl, (by decide : 6 + 0 ≤ _), (by decide : 93 + 0 ≤ _)⟩)
  dsimp only [Pt.U, Pt.locs, Pt.cells, Pt.slots] at X26 l26 y26 z26 st26 hQ26
  subst l26 y26 z26
  obtain ⟨rfl, N26q, e26⟩ := hQ26
  have N26 := Fr.app N25 N26q
  obtain ⟨T27, X27, e27, st27⟩ := castY X26 hx hZ hown hw_1 e26 (Ins.self (Ej9.ext O25.2)) (g := (mkF m 248 #[.val (.int p1), .val (.int p2), .val (.int p3), .val (.int z3), .val (.int z4), .val (.ref b1), .val (.ref b11), .val (.ref b12), .val (.ref b19), .val (.ref j7), .val (.int (1 : Int32)), .val (.ref j8), .unset] [(.ref j9)])) rfl rfl (hb hby at_248)
  have f28 := (f21.keep Kc25 (ninS ne_b12_b19 (ninS ne_b12_li (ninS ne_b12_en nin0))))
  obtain ⟨cl29, Ar29, q29, S29, M29, H29, G29⟩ := f28
  have f30 : Arv Z T25.heap b12 k12 .int (3 : Int32) [(.int (0 : Int32)), (.int (1 : Int32)), (.int (2 : Int32))] (.int (0 : Int32)) := ⟨cl29, Ar29, q29, S29, M29, H29, G29⟩
  have hin29 : ¬ ((2 : Int32) < 0 ∨ cl29.slots.size ≤ ((2 : Int32)).toNatClampNeg) := inb_of S29 ⟨by decide, by decide⟩
  have hat29 : cl29.slots[((2 : Int32)).toNatClampNeg]? = some (.int (2 : Int32)) := Has.at H29 hin29 rfl
  have f31 := (f19.keep Kc25 (ninS ne_b1_b19 (ninS ne_b1_li (ninS ne_b1_en nin0))))
  obtain ⟨cl32, Ar32, q32, S32, M32, H32, G32⟩ := f31
  have f33 : Arv Z T25.heap b1 k1 (.object "java/lang/Integer") (3 : Int32) [(.ref j7), (.ref j8), (.ref j9)] .null := ⟨cl32, Ar32, q32, S32, M32, H32, G32⟩
  have hin32 : ¬ ((2 : Int32) < 0 ∨ cl32.slots.size ≤ ((2 : Int32)).toNatClampNeg) := inb_of S32 ⟨by decide, by decide⟩
  have hat32 : cl32.slots[((2 : Int32)).toNatClampNeg]? = some (.ref j9) := Has.at H32 hin32 rfl
  have go34 : ∀ t_, Steps p.tables e below (T27.setTop (mkF m 279 #[.val (.int p1), .val (.int p2), .val (.int p3), .val (.int z3), .val (.int z4), .val (.ref b1), .val (.ref b11), .val (.ref b12), .val (.ref b19), .val (.ref j7), .val (.int (1 : Int32)), .val (.ref j8), .val (.ref j9)] [(.int (1 : Int32))])) t_ → Steps p.tables e below (T0.setTop (mkF m 156 #[.val (.int p1), .val (.int p2), .val (.int p3), .val (.int z3), .val (.int z4), .val (.ref b1), .val (.ref b11), .val (.ref b12), .val (.ref b19), .unset, .unset, .unset, .unset] [])) t_ := by
    intro t_ k_
    refine pre0 t_ ?_
    show Steps p.tables e below (T0.setTop (mkF m 156 #[.val (.int p1), .val (.int p2), .val (.int p3), .val (.int z3), .val (.int z4), .val (.ref b1), .val (.ref b11), .val (.ref b12), .val (.ref b19), .unset, .unset, .unset, .unset] [])) _
    refine XS.aload X0.here hx rfl (hb hby at_156) rfl rfl ?_
    show Steps p.tables e below (T0.setTop (mkF m 158 #[.val (.int p1), .val (.int p2), .val (.int p3), .val (.int z3), .val (.int z4), .val (.ref b1), .val (.ref b11), .val (.ref b12), .val (.ref b19), .unset, .unset, .unset, .unset] [(.ref b19)])) _
    refine st1.trans ?_
    show Steps p.tables e below (T1.setTop (mkF m 161 #[.val (.int p1), .val (.int p2), .val (.int p3), .val (.int z3), .val (.int z4), .val (.ref b1), .val (.ref b11), .val (.ref b12), .val (.ref b19), .unset, .unset, .unset, .unset] [(.ref j7)])) _
    refine st2 _ ?_
    show Steps p.tables e below (T2.setTop (mkF m 164 #[.val (.int p1), .val (.int p2), .val (.int p3), .val (.int z3), .val (.int z4), .val (.ref b1), .val (.ref b11), .val (.ref b12), .val (.ref b19), .unset, .unset, .unset, .unset] [(.ref j7)])) _
    refine XS.astore X2.here hx rfl (hb hby at_164) rfl rfl (l' := #[.val (.int p1), .val (.int p2), .val (.int p3), .val (.int z3), .val (.int z4), .val (.ref b1), .val (.ref b11), .val (.ref b12), .val (.ref b19), .val (.ref j7), .unset, .unset, .unset]) rfl ?_
    show Steps p.tables e below (T2.setTop (mkF m 166 #[.val (.int p1), .val (.int p2), .val (.int p3), .val (.int z3), .val (.int z4), .val (.ref b1), .val (.ref b11), .val (.ref b12), .val (.ref b19), .val (.ref j7), .unset, .unset, .unset] [])) _
    refine XS.aload X2.here hx rfl (hb hby at_166) rfl rfl ?_
    show Steps p.tables e below (T2.setTop (mkF m 168 #[.val (.int p1), .val (.int p2), .val (.int p3), .val (.int z3), .val (.int z4), .val (.ref b1), .val (.ref b11), .val (.ref b12), .val (.ref b19), .val (.ref j7), .unset, .unset, .unset] [(.ref j7)])) _
    refine XS.aload X2.here hx rfl (hb hby at_168) rfl rfl ?_
    show Steps p.tables e below (T2.setTop (mkF m 170 #[.val (.int p1), .val (.int p2), .val (.int p3), .val (.int z3), .val (.int z4), .val (.ref b1), .val (.ref b11), .val (.ref b12), .val (.ref b19), .val (.ref j7), .unset, .unset, .unset] [(.ref b1), (.ref j7)])) _
    refine XS.aload X2.here hx rfl (hb hby at_170) rfl rfl ?_
    show Steps p.tables e below (T2.setTop (mkF m 172 #[.val (.int p1), .val (.int p2), .val (.int p3), .val (.int z3), .val (.int z4), .val (.ref b1), .val (.ref b11), .val (.ref b12), .val (.ref b19), .val (.ref j7), .unset, .unset, .unset] [(.ref b12), (.ref b1), (.ref j7)])) _
    refine XS.iconst X2.here hx rfl (hb hby at_172) ?_
    show Steps p.tables e below (T2.setTop (mkF m 173 #[.val (.int p1), .val (.int p2), .val (.int p3), .val (.int z3), .val (.int z4), .val (.ref b1), .val (.ref b11), .val (.ref b12), .val (.ref b19), .val (.ref j7), .unset, .unset, .unset] [(.int (0 : Int32)), (.ref b12), (.ref b1), (.ref j7)])) _
    refine X2.iaload hx (j := (0 : Int32)) (v := (.int (0 : Int32))) (by rw [e2]; exact Ar3.1) (State.isArrayOf_alike hZ.alike Ar3.2.1) Ar3.2.2 hin3 hat3 (g := (mkF m 173 #[.val (.int p1), .val (.int p2), .val (.int p3), .val (.int z3), .val (.int z4), .val (.ref b1), .val (.ref b11), .val (.ref b12), .val (.ref b19), .val (.ref j7), .unset, .unset, .unset] [(.int (0 : Int32)), (.ref b12), (.ref b1), (.ref j7)])) rfl rfl (hb hby at_173) _ ?_
    show Steps p.tables e below (T2.setTop (mkF m 174 #[.val (.int p1), .val (.int p2), .val (.int p3), .val (.int z3), .val (.int z4), .val (.ref b1), .val (.ref b11), .val (.ref b12), .val (.ref b19), .val (.ref j7), .unset, .unset, .unset] [(.int (0 : Int32)), (.ref b1), (.ref j7)])) _
    refine X2.aaload hx (j := (0 : Int32)) (v := (.ref j7)) (by rw [e2]; exact Ar5.1) (State.isArrayOf_alike hZ.alike Ar5.2.1) rfl Ar5.2.2 hin5 hat5 (g := (mkF m 174 #[.val (.int p1), .val (.int p2), .val (.int p3), .val (.int z3), .val (.int z4), .val (.ref b1), .val (.ref b11), .val (.ref b12), .val (.ref b19), .val (.ref j7), .unset, .unset, .unset] [(.int (0 : Int32)), (.ref b1), (.ref j7)])) rfl rfl (hb hby at_174) _ ?_
    show Steps p.tables e below (T2.setTop (mkF m 175 #[.val (.int p1), .val (.int p2), .val (.int p3), .val (.int z3), .val (.int z4), .val (.ref b1), .val (.ref b11), .val (.ref b12), .val (.ref b19), .val (.ref j7), .unset, .unset, .unset] [(.ref j7), (.ref j7)])) _
    refine Jvm.RoadKit.acmp (g := (mkF m 175 #[.val (.int p1), .val (.int p2), .val (.int p3), .val (.int z3), .val (.int z4), .val (.ref b1), .val (.ref b11), .val (.ref b12), .val (.ref b19), .val (.ref j7), .unset, .unset, .unset] [(.ref j7), (.ref j7)])) X2 hx rfl rfl rfl (pc0 := 175) (pc' := 178) (same := true) rfl (hb hby at_175) rfl (decide_eq_true rfl) (by decide) (by decide) ?_
    show Steps p.tables e below (T2.setTop (mkF m 178 #[.val (.int p1), .val (.int p2), .val (.int p3), .val (.int z3), .val (.int z4), .val (.ref b1), .val (.ref b11), .val (.ref b12), .val (.ref b19), .val (.ref j7), .unset, .unset, .unset] [])) _
    refine XS.iconst X2.here hx rfl (hb hby at_178) ?_
    show Steps p.tables e below (T2.setTop (mkF m 179 #[.val (.int p1), .val (.int p2), .val (.int p3), .val (.int z3), .val (.int z4), .val (.ref b1), .val (.ref b11), .val (.ref b12), .val (.ref b19), .val (.ref j7), .unset, .unset, .unset] [(.int (1 : Int32))])) _
    refine XS.goto X2.here hx rfl (pc0 := 179) (pc' := 183) rfl (hb hby at_179) (by decide) (by decide) ?_
    show Steps p.tables e below (T2.setTop (mkF m 183 #[.val (.int p1), .val (.int p2), .val (.int p3), .val (.int z3), .val (.int z4), .val (.ref b1), .val (.ref b11), .val (.ref b12), .val (.ref b19), .val (.ref j7), .unset, .unset, .unset] [(.int (1 : Int32))])) _
    refine XS.istore X2.here hx rfl (hb hby at_183) rfl (l' := #[.val (.int p1), .val (.int p2), .val (.int p3), .val (.int z3), .val (.int z4), .val (.ref b1), .val (.ref b11), .val (.ref b12), .val (.ref b19), .val (.ref j7), .val (.int (1 : Int32)), .unset, .unset]) rfl ?_
    show Steps p.tables e below (T2.setTop (mkF m 185 #[.val (.int p1), .val (.int p2), .val (.int p3), .val (.int z3), .val (.int z4), .val (.ref b1), .val (.ref b11), .val (.ref b12), .val (.ref b19), .val (.ref j7), .val (.int (1 : Int32)), .unset, .unset] [])) _
    refine XS.aload X2.here hx rfl (hb hby at_185) rfl rfl ?_
    show Steps p.tables e below (T2.setTop (mkF m 187 #[.val (.int p1), .val (.int p2), .val (.int p3), .val (.int z3), .val (.int z4), .val (.ref b1), .val (.ref b11), .val (.ref b12), .val (.ref b19), .val (.ref j7), .val (.int (1 : Int32)), .unset, .unset] [(.ref b19)])) _
    refine XS.aload X2.here hx rfl (hb hby at_187) rfl rfl ?_
    show Steps p.tables e below (T2.setTop (mkF m 189 #[.val (.int p1), .val (.int p2), .val (.int p3), .val (.int z3), .val (.int z4), .val (.ref b1), .val (.ref b11), .val (.ref b12), .val (.ref b19), .val (.ref j7), .val (.int (1 : Int32)), .unset, .unset] [(.ref b11), (.ref b19)])) _
    refine XS.aload X2.here hx rfl (hb hby at_189) rfl rfl ?_
    show Steps p.tables e below (T2.setTop (mkF m 191 #[.val (.int p1), .val (.int p2), .val (.int p3), .val (.int z3), .val (.int z4), .val (.ref b1), .val (.ref b11), .val (.ref b12), .val (.ref b19), .val (.ref j7), .val (.int (1 : Int32)), .unset, .unset] [(.ref b12), (.ref b11), (.ref b19)])) _
    refine XS.iconst X2.here hx rfl (hb hby at_191) ?_
    show Steps p.tables e below (T2.setTop (mkF m 192 #[.val (.int p1), .val (.int p2), .val (.int p3), .val (.int z3), .val (.int z4), .val (.ref b1), .val (.ref b11), .val (.ref b12), .val (.ref b19), .val (.ref j7), .val (.int (1 : Int32)), .unset, .unset] [(.int (0 : Int32)), (.ref b12), (.ref b11), (.ref b19)])) _
    refine X2.iaload hx (j := (0 : Int32)) (v := (.int (0 : Int32))) (by rw [e2]; exact Ar7.1) (State.isArrayOf_alike hZ.alike Ar7.2.1) Ar7.2.2 hin7 hat7 (g := (mkF m 192 #[.val (.int p1), .val (.int p2), .val (.int p3), .val (.int z3), .val (.int z4), .val (.ref b1), .val (.ref b11), .val (.ref b12), .val (.ref b19), .val (.ref j7), .val (.int (1 : Int32)), .unset, .unset] [(.int (0 : Int32)), (.ref b12), (.ref b11), (.ref b19)])) rfl rfl (hb hby at_192) _ ?_
    show Steps p.tables e below (T2.setTop (mkF m 193 #[.val (.int p1), .val (.int p2), .val (.int p3), .val (.int z3), .val (.int z4), .val (.ref b1), .val (.ref b11), .val (.ref b12), .val (.ref b19), .val (.ref j7), .val (.int (1 : Int32)), .unset, .unset] [(.int (0 : Int32)), (.ref b11), (.ref b19)])) _
    refine X2.iaload hx (j := (0 : Int32)) (v := (.int (1 : Int32))) (by rw [e2]; exact Ar9.1) (State.isArrayOf_alike hZ.alike Ar9.2.1) Ar9.2.2 hin9 hat9 (g := (mkF m 193 #[.val (.int p1), .val (.int p2), .val (.int p3), .val (.int z3), .val (.int z4), .val (.ref b1), .val (.ref b11), .val (.ref b12), .val (.ref b19), .val (.ref j7), .val (.int (1 : Int32)), .unset, .unset] [(.int (0 : Int32)), (.ref b11), (.ref b19)])) rfl rfl (hb hby at_193) _ ?_
    show Steps p.tables e below (T2.setTop (mkF m 194 #[.val (.int p1), .val (.int p2), .val (.int p3), .val (.int z3), .val (.int z4), .val (.ref b1), .val (.ref b11), .val (.ref b12), .val (.ref b19), .val (.ref j7), .val (.int (1 : Int32)), .unset, .unset] [(.int (1 : Int32)), (.ref b19)])) _
    refine st11.trans ?_
    show Steps p.tables e below (T11.setTop (mkF m 197 #[.val (.int p1), .val (.int p2), .val (.int p3), .val (.int z3), .val (.int z4), .val (.ref b1), .val (.ref b11), .val (.ref b12), .val (.ref b19), .val (.ref j7), .val (.int (1 : Int32)), .unset, .unset] [])) _
    refine XS.aload X11.here hx rfl (hb hby at_197) rfl rfl ?_
    show Steps p.tables e below (T11.setTop (mkF m 199 #[.val (.int p1), .val (.int p2), .val (.int p3), .val (.int z3), .val (.int z4), .val (.ref b1), .val (.ref b11), .val (.ref b12), .val (.ref b19), .val (.ref j7), .val (.int (1 : Int32)), .unset, .unset] [(.ref b19)])) _
    refine st12.trans ?_
    show Steps p.tables e below (T12.setTop (mkF m 202 #[.val (.int p1), .val (.int p2), .val (.int p3), .val (.int z3), .val (.int z4), .val (.ref b1), .val (.ref b11), .val (.ref b12), .val (.ref b19), .val (.ref j7), .val (.int (1 : Int32)), .unset, .unset] [(.ref j8)])) _
    refine st13 _ ?_
    show Steps p.tables e below (T13.setTop (mkF m 205 #[.val (.int p1), .val (.int p2), .val (.int p3), .val (.int z3), .val (.int z4), .val (.ref b1), .val (.ref b11), .val (.ref b12), .val (.ref b19), .val (.ref j7), .val (.int (1 : Int32)), .unset, .unset] [(.ref j8)])) _
    refine XS.astore X13.here hx rfl (hb hby at_205) rfl rfl (l' := #[.val (.int p1), .val (.int p2), .val (.int p3), .val (.int z3), .val (.int z4), .val (.ref b1), .val (.ref b11), .val (.ref b12), .val (.ref b19), .val (.ref j7), .val (.int (1 : Int32)), .val (.ref j8), .unset]) rfl ?_
    show Steps p.tables e below (T13.setTop (mkF m 207 #[.val (.int p1), .val (.int p2), .val (.int p3), .val (.int z3), .val (.int z4), .val (.ref b1), .val (.ref b11), .val (.ref b12), .val (.ref b19), .val (.ref j7), .val (.int (1 : Int32)), .val (.ref j8), .unset] [])) _
    refine XS.iload X13.here hx rfl (hb hby at_207) rfl ?_
    show Steps p.tables e below (T13.setTop (mkF m 209 #[.val (.int p1), .val (.int p2), .val (.int p3), .val (.int z3), .val (.int z4), .val (.ref b1), .val (.ref b11), .val (.ref b12), .val (.ref b19), .val (.ref j7), .val (.int (1 : Int32)), .val (.ref j8), .unset] [(.int (1 : Int32))])) _
    refine XS.ifNo X13.here hx rfl (hb hby at_209) rfl ((if0 _ _).trans (feq (by decide : ¬ ((1 : Int32) = (0 : Int32)))).1) ?_
    show Steps p.tables e below (T13.setTop (mkF m 212 #[.val (.int p1), .val (.int p2), .val (.int p3), .val (.int z3), .val (.int z4), .val (.ref b1), .val (.ref b11), .val (.ref b12), .val (.ref b19), .val (.ref j7), .val (.int (1 : Int32)), .val (.ref j8), .unset] [])) _
    refine XS.aload X13.here hx rfl (hb hby at_212) rfl rfl ?_
    show Steps p.tables e below (T13.setTop (mkF m 214 #[.val (.int p1), .val (.int p2), .val (.int p3), .val (.int z3), .val (.int z4), .val (.ref b1), .val (.ref b11), .val (.ref b12), .val (.ref b19), .val (.ref j7), .val (.int (1 : Int32)), .val (.ref j8), .unset] [(.ref j8)])) _
    refine XS.aload X13.here hx rfl (hb hby at_214) rfl rfl ?_
    show Steps p.tables e below (T13.setTop (mkF m 216 #[.val (.int p1), .val (.int p2), .val (.int p3), .val (.int z3), .val (.int z4), .val (.ref b1), .val (.ref b11), .val (.ref b12), .val (.ref b19), .val (.ref j7), .val (.int (1 : Int32)), .val (.ref j8), .unset] [(.ref b1), (.ref j8)])) _
    refine XS.aload X13.here hx rfl (hb hby at_216) rfl rfl ?_
    show Steps p.tables e below (T13.setTop (mkF m 218 #[.val (.int p1), .val (.int p2), .val (.int p3), .val (.int z3), .val (.int z4), .val (.ref b1), .val (.ref b11), .val (.ref b12), .val (.ref b19), .val (.ref j7), .val (.int (1 : Int32)), .val (.ref j8), .unset] [(.ref b12), (.ref b1), (.ref j8)])) _
    refine XS.iconst X13.here hx rfl (hb hby at_218) ?_
    show Steps p.tables e below (T13.setTop (mkF m 219 #[.val (.int p1), .val (.int p2), .val (.int p3), .val (.int z3), .val (.int z4), .val (.ref b1), .val (.ref b11), .val (.ref b12), .val (.ref b19), .val (.ref j7), .val (.int (1 : Int32)), .val (.ref j8), .unset] [(.int (1 : Int32)), (.ref b12), (.ref b1), (.ref j8)])) _
    refine X13.iaload hx (j := (1 : Int32)) (v := (.int (1 : Int32))) (by rw [e13]; exact Ar15.1) (State.isArrayOf_alike hZ.alike Ar15.2.1) Ar15.2.2 hin15 hat15 (g := (mkF m 219 #[.val (.int p1), .val (.int p2), .val (.int p3), .val (.int z3), .val (.int z4), .val (.ref b1), .val (.ref b11), .val (.ref b12), .val (.ref b19), .val (.ref j7), .val (.int (1 : Int32)), .val (.ref j8), .unset] [(.int (1 : Int32)), (.ref b12), (.ref b1), (.ref j8)])) rfl rfl (hb hby at_219) _ ?_
    show Steps p.tables e below (T13.setTop (mkF m 220 #[.val (.int p1), .val (.int p2), .val (.int p3), .val (.int z3), .val (.int z4), .val (.ref b1), .val (.ref b11), .val (.ref b12), .val (.ref b19), .val (.ref j7), .val (.int (1 : Int32)), .val (.ref j8), .unset] [(.int (1 : Int32)), (.ref b1), (.ref j8)])) _
    refine X13.aaload hx (j := (1 : Int32)) (v := (.ref j8)) (by rw [e13]; exact Ar18.1) (State.isArrayOf_alike hZ.alike Ar18.2.1) rfl Ar18.2.2 hin18 hat18 (g := (mkF m 220 #[.val (.int p1), .val (.int p2), .val (.int p3), .val (.int z3), .val (.int z4), .val (.ref b1), .val (.ref b11), .val (.ref b12), .val (.ref b19), .val (.ref j7), .val (.int (1 : Int32)), .val (.ref j8), .unset] [(.int (1 : Int32)), (.ref b1), (.ref j8)])) rfl rfl (hb hby at_220) _ ?_
    show Steps p.tables e below (T13.setTop (mkF m 221 #[.val (.int p1), .val (.int p2), .val (.int p3), .val (.int z3), .val (.int z4), .val (.ref b1), .val (.ref b11), .val (.ref b12), .val (.ref b19), .val (.ref j7), .val (.int (1 : Int32)), .val (.ref j8), .unset] [(.ref j8), (.ref j8)])) _
    refine Jvm.RoadKit.acmp (g := (mkF m 221 #[.val (.int p1), .val (.int p2), .val (.int p3), .val (.int z3), .val (.int z4), .val (.ref b1), .val (.ref b11), .val (.ref b12), .val (.ref b19), .val (.ref j7), .val (.int (1 : Int32)), .val (.ref j8), .unset] [(.ref j8), (.ref j8)])) X13 hx rfl rfl rfl (pc0 := 221) (pc' := 224) (same := true) rfl (hb hby at_221) rfl (decide_eq_true rfl) (by decide) (by decide) ?_
    show Steps p.tables e below (T13.setTop (mkF m 224 #[.val (.int p1), .val (.int p2), .val (.int p3), .val (.int z3), .val (.int z4), .val (.ref b1), .val (.ref b11), .val (.ref b12), .val (.ref b19), .val (.ref j7), .val (.int (1 : Int32)), .val (.ref j8), .unset] [])) _
    refine XS.iconst X13.here hx rfl (hb hby at_224) ?_
    show Steps p.tables e below (T13.setTop (mkF m 225 #[.val (.int p1), .val (.int p2), .val (.int p3), .val (.int z3), .val (.int z4), .val (.ref b1), .val (.ref b11), .val (.ref b12), .val (.ref b19), .val (.ref j7), .val (.int (1 : Int32)), .val (.ref j8), .unset] [(.int (1 : Int32))])) _
    refine XS.goto X13.here hx rfl (pc0 := 225) (pc' := 229) rfl (hb hby at_225) (by decide) (by decide) ?_
    show Steps p.tables e below (T13.setTop (mkF m 229 #[.val (.int p1), .val (.int p2), .val (.int p3), .val (.int z3), .val (.int z4), .val (.ref b1), .val (.ref b11), .val (.ref b12), .val (.ref b19), .val (.ref j7), .val (.int (1 : Int32)), .val (.ref j8), .unset] [(.int (1 : Int32))])) _
    refine XS.istore X13.here hx rfl (hb hby at_229) rfl (l' := #[.val (.int p1), .val (.int p2), .val (.int p3), .val (.int z3), .val (.int z4), .val (.ref b1), .val (.ref b11), .val (.ref b12), .val (.ref b19), .val (.ref j7), .val (.int (1 : Int32)), .val (.ref j8), .unset]) rfl ?_
    show Steps p.tables e below (T13.setTop (mkF m 231 #[.val (.int p1), .val (.int p2), .val (.int p3), .val (.int z3), .val (.int z4), .val (.ref b1), .val (.ref b11), .val (.ref b12), .val (.ref b19), .val (.ref j7), .val (.int (1 : Int32)), .val (.ref j8), .unset] [])) _
    refine XS.aload X13.here hx rfl (hb hby at_231) rfl rfl ?_
    show Steps p.tables e below (T13.setTop (mkF m 233 #[.val (.int p1), .val (.int p2), .val (.int p3), .val (.int z3), .val (.int z4), .val (.ref b1), .val (.ref b11), .val (.ref b12), .val (.ref b19), .val (.ref j7), .val (.int (1 : Int32)), .val (.ref j8), .unset] [(.ref b19)])) _
    refine XS.aload X13.here hx rfl (hb hby at_233) rfl rfl ?_
    show Steps p.tables e below (T13.setTop (mkF m 235 #[.val (.int p1), .val (.int p2), .val (.int p3), .val (.int z3), .val (.int z4), .val (.ref b1), .val (.ref b11), .val (.ref b12), .val (.ref b19), .val (.ref j7), .val (.int (1 : Int32)), .val (.ref j8), .unset] [(.ref b11), (.ref b19)])) _
    refine XS.aload X13.here hx rfl (hb hby at_235) rfl rfl ?_
    show Steps p.tables e below (T13.setTop (mkF m 237 #[.val (.int p1), .val (.int p2), .val (.int p3), .val (.int z3), .val (.int z4), .val (.ref b1), .val (.ref b11), .val (.ref b12), .val (.ref b19), .val (.ref j7), .val (.int (1 : Int32)), .val (.ref j8), .unset] [(.ref b12), (.ref b11), (.ref b19)])) _
    refine XS.iconst X13.here hx rfl (hb hby at_237) ?_
    show Steps p.tables e below (T13.setTop (mkF m 238 #[.val (.int p1), .val (.int p2), .val (.int p3), .val (.int z3), .val (.int z4), .val (.ref b1), .val (.ref b11), .val (.ref b12), .val (.ref b19), .val (.ref j7), .val (.int (1 : Int32)), .val (.ref j8), .unset] [(.int (1 : Int32)), (.ref b12), (.ref b11), (.ref b19)])) _
    refine X13.iaload hx (j := (1 : Int32)) (v := (.int (1 : Int32))) (by rw [e13]; exact Ar20.1) (State.isArrayOf_alike hZ.alike Ar20.2.1) Ar20.2.2 hin20 hat20 (g := (mkF m 238 #[.val (.int p1), .val (.int p2), .val (.int p3), .val (.int z3), .val (.int z4), .val (.ref b1), .val (.ref b11), .val (.ref b12), .val (.ref b19), .val (.ref j7), .val (.int (1 : Int32)), .val (.ref j8), .unset] [(.int (1 : Int32)), (.ref b12), (.ref b11), (.ref b19)])) rfl rfl (hb hby at_238) _ ?_
    show Steps p.tables e below (T13.setTop (mkF m 239 #[.val (.int p1), .val (.int p2), .val (.int p3), .val (.int z3), .val (.int z4), .val (.ref b1), .val (.ref b11), .val (.ref b12), .val (.ref b19), .val (.ref j7), .val (.int (1 : Int32)), .val (.ref j8), .unset] [(.int (1 : Int32)), (.ref b11), (.ref b19)])) _
    refine X13.iaload hx (j := (1 : Int32)) (v := (.int (2 : Int32))) (by rw [e13]; exact Ar23.1) (State.isArrayOf_alike hZ.alike Ar23.2.1) Ar23.2.2 hin23 hat23 (g := (mkF m 239 #[.val (.int p1), .val (.int p2), .val (.int p3), .val (.int z3), .val (.int z4), .val (.ref b1), .val (.ref b11), .val (.ref b12), .val (.ref b19), .val (.ref j7), .val (.int (1 : Int32)), .val (.ref j8), .unset] [(.int (1 : Int32)), (.ref b11), (.ref b19)])) rfl rfl (hb hby at_239) _ ?_
    show Steps p.tables e below (T13.setTop (mkF m 240 #[.val (.int p1), .val (.int p2), .val (.int p3), .val (.int z3), .val (.int z4), .val (.ref b1), .val (.ref b11), .val (.ref b12), .val (.ref b19), .val (.ref j7), .val (.int (1 : Int32)), .val (.ref j8), .unset] [(.int (2 : Int32)), (.ref b19)])) _
    refine st25.trans ?_
    show Steps p.tables e below (T25.setTop (mkF m 243 #[.val (.int p1), .val (.int p2), .val (.int p3), .val (.int z3), .val (.int z4), .val (.ref b1), .val (.ref b11), .val (.ref b12), .val (.ref b19), .val (.ref j7), .val (.int (1 : Int32)), .val (.ref j8), .unset] [])) _
    refine XS.aload X25.here hx rfl (hb hby at_243) rfl rfl ?_
    show Steps p.tables e below (T25.setTop (mkF m 245 #[.val (.int p1), .val (.int p2), .val (.int p3), .val (.int z3), .val (.int z4), .val (.ref b1), .val (.ref b11), .val (.ref b12), .val (.ref b19), .val (.ref j7), .val (.int (1 : Int32)), .val (.ref j8), .unset] [(.ref b19)])) _
    refine st26.trans ?_
    show Steps p.tables e below (T26.setTop (mkF m 248 #[.val (.int p1), .val (.int p2), .val (.int p3), .val (.int z3), .val (.int z4), .val (.ref b1), .val (.ref b11), .val (.ref b12), .val (.ref b19), .val (.ref j7), .val (.int (1 : Int32)), .val (.ref j8), .unset] [(.ref j9)])) _
    refine st27 _ ?_
    show Steps p.tables e below (T27.setTop (mkF m 251 #[.val (.int p1), .val (.int p2), .val (.int p3), .val (.int z3), .val (.int z4), .val (.ref b1), .val (.ref b11), .val (.ref b12), .val (.ref b19), .val (.ref j7), .val (.int (1 : Int32)), .val (.ref j8), .unset] [(.ref j9)])) _
    refine XS.astore X27.here hx rfl (hb hby at_251) rfl rfl (l' := #[.val (.int p1), .val (.int p2), .val (.int p3), .val (.int z3), .val (.int z4), .val (.ref b1), .val (.ref b11), .val (.ref b12), .val (.ref b19), .val (.ref j7), .val (.int (1 : Int32)), .val (.ref j8), .val (.ref j9)]) rfl ?_
    show Steps p.tables e below (T27.setTop (mkF m 253 #[.val (.int p1), .val (.int p2), .val (.int p3), .val (.int z3), .val (.int z4), .val (.ref b1), .val (.ref b11), .val (.ref b12), .val (.ref b19), .val (.ref j7), .val (.int (1 : Int32)), .val (.ref j8), .val (.ref j9)] [])) _
    refine XS.iload X27.here hx rfl (hb hby at_253) rfl ?_
    show Steps p.tables e below (T27.setTop (mkF m 255 #[.val (.int p1), .val (.int p2), .val (.int p3), .val (.int z3), .val (.int z4), .val (.ref b1), .val (.ref b11), .val (.ref b12), .val (.ref b19), .val (.ref j7), .val (.int (1 : Int32)), .val (.ref j8), .val (.ref j9)] [(.int (1 : Int32))])) _
    refine XS.ifNo X27.here hx rfl (hb hby at_255) rfl ((if0 _ _).trans (feq (by decide : ¬ ((1 : Int32) = (0 : Int32)))).1) ?_
    show Steps p.tables e below (T27.setTop (mkF m 258 #[.val (.int p1), .val (.int p2), .val (.int p3), .val (.int z3), .val (.int z4), .val (.ref b1), .val (.ref b11), .val (.ref b12), .val (.ref b19), .val (.ref j7), .val (.int (1 : Int32)), .val (.ref j8), .val (.ref j9)] [])) _
    refine XS.aload X27.here hx rfl (hb hby at_258) rfl rfl ?_
    show Steps p.tables e below (T27.setTop (mkF m 260 #[.val (.int p1), .val (.int p2), .val (.int p3), .val (.int z3), .val (.int z4), .val (.ref b1), .val (.ref b11), .val (.ref b12), .val (.ref b19), .val (.ref j7), .val (.int (1 : Int32)), .val (.ref j8), .val (.ref j9)] [(.ref j9)])) _
    refine XS.aload X27.here hx rfl (hb hby at_260) rfl rfl ?_
    show Steps p.tables e below (T27.setTop (mkF m 262 #[.val (.int p1), .val (.int p2), .val (.int p3), .val (.int z3), .val (.int z4), .val (.ref b1), .val (.ref b11), .val (.ref b12), .val (.ref b19), .val (.ref j7), .val (.int (1 : Int32)), .val (.ref j8), .val (.ref j9)] [(.ref b1), (.ref j9)])) _
    refine XS.aload X27.here hx rfl (hb hby at_262) rfl rfl ?_
    show Steps p.tables e below (T27.setTop (mkF m 264 #[.val (.int p1), .val (.int p2), .val (.int p3), .val (.int z3), .val (.int z4), .val (.ref b1), .val (.ref b11), .val (.ref b12), .val (.ref b19), .val (.ref j7), .val (.int (1 : Int32)), .val (.ref j8), .val (.ref j9)] [(.ref b12), (.ref b1), (.ref j9)])) _
    refine XS.iconst X27.here hx rfl (hb hby at_264) ?_
    show Steps p.tables e below (T27.setTop (mkF m 265 #[.val (.int p1), .val (.int p2), .val (.int p3), .val (.int z3), .val (.int z4), .val (.ref b1), .val (.ref b11), .val (.ref b12), .val (.ref b19), .val (.ref j7), .val (.int (1 : Int32)), .val (.ref j8), .val (.ref j9)] [(.int (2 : Int32)), (.ref b12), (.ref b1), (.ref j9)])) _
    refine X27.iaload hx (j := (2 : Int32)) (v := (.int (2 : Int32))) (by rw [e27]; exact Ar29.1) (State.isArrayOf_alike hZ.alike Ar29.2.1) Ar29.2.2 hin29 hat29 (g := (mkF m 265 #[.val (.int p1), .val (.int p2), .val (.int p3), .val (.int z3), .val (.int z4), .val (.ref b1), .val (.ref b11), .val (.ref b12), .val (.ref b19), .val (.ref j7), .val (.int (1 : Int32)), .val (.ref j8), .val (.ref j9)] [(.int (2 : Int32)), (.ref b12), (.ref b1), (.ref j9)])) rfl rfl (hb hby at_265) _ ?_
    show Steps p.tables e below (T27.setTop (mkF m 266 #[.val (.int p1), .val (.int p2), .val (.int p3), .val (.int z3), .val (.int z4), .val (.ref b1), .val (.ref b11), .val (.ref b12), .val (.ref b19), .val (.ref j7), .val (.int (1 : Int32)), .val (.ref j8), .val (.ref j9)] [(.int (2 : Int32)), (.ref b1), (.ref j9)])) _
    refine X27.aaload hx (j := (2 : Int32)) (v := (.ref j9)) (by rw [e27]; exact Ar32.1) (State.isArrayOf_alike hZ.alike Ar32.2.1) rfl Ar32.2.2 hin32 hat32 (g := (mkF m 266 #[.val (.int p1), .val (.int p2), .val (.int p3), .val (.int z3), .val (.int z4), .val (.ref b1), .val (.ref b11), .val (.ref b12), .val (.ref b19), .val (.ref j7), .val (.int (1 : Int32)), .val (.ref j8), .val (.ref j9)] [(.int (2 : Int32)), (.ref b1), (.ref j9)])) rfl rfl (hb hby at_266) _ ?_
    show Steps p.tables e below (T27.setTop (mkF m 267 #[.val (.int p1), .val (.int p2), .val (.int p3), .val (.int z3), .val (.int z4), .val (.ref b1), .val (.ref b11), .val (.ref b12), .val (.ref b19), .val (.ref j7), .val (.int (1 : Int32)), .val (.ref j8), .val (.ref j9)] [(.ref j9), (.ref j9)])) _
    refine Jvm.RoadKit.acmp (g := (mkF m 267 #[.val (.int p1), .val (.int p2), .val (.int p3), .val (.int z3), .val (.int z4), .val (.ref b1), .val (.ref b11), .val (.ref b12), .val (.ref b19), .val (.ref j7), .val (.int (1 : Int32)), .val (.ref j8), .val (.ref j9)] [(.ref j9), (.ref j9)])) X27 hx rfl rfl rfl (pc0 := 267) (pc' := 270) (same := true) rfl (hb hby at_267) rfl (decide_eq_true rfl) (by decide) (by decide) ?_
    show Steps p.tables e below (T27.setTop (mkF m 270 #[.val (.int p1), .val (.int p2), .val (.int p3), .val (.int z3), .val (.int z4), .val (.ref b1), .val (.ref b11), .val (.ref b12), .val (.ref b19), .val (.ref j7), .val (.int (1 : Int32)), .val (.ref j8), .val (.ref j9)] [])) _
    refine XS.iconst X27.here hx rfl (hb hby at_270) ?_
    show Steps p.tables e below (T27.setTop (mkF m 271 #[.val (.int p1), .val (.int p2), .val (.int p3), .val (.int z3), .val (.int z4), .val (.ref b1), .val (.ref b11), .val (.ref b12), .val (.ref b19), .val (.ref j7), .val (.int (1 : Int32)), .val (.ref j8), .val (.ref j9)] [(.int (1 : Int32))])) _
    refine XS.goto X27.here hx rfl (pc0 := 271) (pc' := 275) rfl (hb hby at_271) (by decide) (by decide) ?_
    show Steps p.tables e below (T27.setTop (mkF m 275 #[.val (.int p1), .val (.int p2), .val (.int p3), .val (.int z3), .val (.int z4), .val (.ref b1), .val (.ref b11), .val (.ref b12), .val (.ref b19), .val (.ref j7), .val (.int (1 : Int32)), .val (.ref j8), .val (.ref j9)] [(.int (1 : Int32))])) _
    refine XS.istore X27.here hx rfl (hb hby at_275) rfl (l' := #[.val (.int p1), .val (.int p2), .val (.int p3), .val (.int z3), .val (.int z4), .val (.ref b1), .val (.ref b11), .val (.ref b12), .val (.ref b19), .val (.ref j7), .val (.int (1 : Int32)), .val (.ref j8), .val (.ref j9)]) rfl ?_
    show Steps p.tables e below (T27.setTop (mkF m 277 #[.val (.int p1), .val (.int p2), .val (.int p3), .val (.int z3), .val (.int z4), .val (.ref b1), .val (.ref b11), .val (.ref b12), .val (.ref b19), .val (.ref j7), .val (.int (1 : Int32)), .val (.ref j8), .val (.ref j9)] [])) _
    refine XS.iload X27.here hx rfl (hb hby at_277) rfl ?_
    exact k_
  obtain ⟨fs, hr, hrun, hended, hW, hsame⟩ := X27.leave (v := some (.int (1 : Int32))) (fun h => by rw [Bd.returns] at h; cases h)
  refine ⟨_, _, go34 _ ?_, hrun, hended, _, _, rfl, ?_, ⟨_, rfl⟩, hW, hsame.mono (by decide) (by decide)⟩
  · skip
    show Steps p.tables e below (T27.setTop (mkF m 279 #[.val (.int p1), .val (.int p2), .val (.int p3), .val (.int z3), .val (.int z4), .val (.ref b1), .val (.ref b11), .val (.ref b12), .val (.ref b19), .val (.ref j7), .val (.int (1 : Int32)), .val (.ref j8), .val (.ref j9)] [(.int (1 : Int32))])) _
    exact retN X27 hx (t := .boolean) Bd.returns (by simp) (hb hby at_279) hr
  · exact ⟨rfl, N26⟩
set_option maxRecDepth 65536 in
set_option maxHeartbeats 40000000 in
theorem pc139_12 (l : Launch) (Z : State) (a0 : Array Value) (hw : ∀ d ∈ tables_1, d.before a0 Z = true) (ws : List Jvm.Cond) (p1 : Int32) (p2 : Int32) (p3 : Int32) (j7 : Nat) (j8 : Nat) (j9 : Nat) (b1 : Nat) (b11 : Nat) (b12 : Nat) (b19 : Nat) (en : Nat) (li : Nat) (k1 : ClassId) (k11 : ClassId) (k12 : ClassId) (ke : ClassId) (kl : ClassId) (h0 : Heap) (n0 : Nat) {p : Program} {e : Env} {s : State} {m : MethodId} {below : List Frame} {meth : Method} {c : Code} {s₁ T0 : State} {locs : List Loc}
    (Bd : BodyLoose p l x (head1 (Jvm.Cond.code x code maxLocals ret :: ws) room_1) code maxLocals ret e s m #[(.int p1), (.int p2), (.int p3)] below meth c s₁) (hml : c.maxLocals = 13) (hZ : Z.Warmed39 s.vm) (X0 : Stand p l e room_1 s m #[(.int p1), (.int p2), (.int p3)] below meth c T0 locs 6 93) (e0 : T0.heap = h0) (N0 : Fr n0 locs) (Z0 : n0 ≤ h0.size) (O0 : Old Z n0 h0) (q0_ : Arv Z h0 b1 k1 (.object "java/lang/Integer") (3 : Int32) [(.ref j7), (.ref j8), (.ref j9)] .null) (q1_ : Arv Z h0 b11 k11 .int (3 : Int32) [(.int (1 : Int32)), (.int (2 : Int32)), (.int (3 : Int32))] (.int (0 : Int32))) (q2_ : Arv Z h0 b12 k12 .int (3 : Int32) [(.int (0 : Int32)), (.int (2 : Int32)), (.int (1 : Int32))] (.int (0 : Int32))) (q3_ : Exa Z h0 b19 "com/example/terrace/terrace/core/UseOrder") (q4_ : Fld Z h0 b19 "com/example/terrace/terrace/core/UseOrder" "entries" "[Ljava/lang/Object;" (.ref en)) (q5_ : Fld Z h0 b19 "com/example/terrace/terrace/core/UseOrder" "links" "[I" (.ref li)) (q6_ : Fld Z h0 b19 "com/example/terrace/terrace/core/UseOrder" "free" "I" (.int (0 : Int32))) (q7_ : Fld Z h0 b19 "com/example/terrace/terrace/core/UseOrder" "highest" "I" (.int (3 : Int32))) (q8_ : Arv Z h0 en ke (.object "java/lang/Object") (16 : Int32) (own_E (.ref j7) (.ref j8) (.ref j9)) .null) (q9_ : Arv Z h0 li kl .int (64 : Int32) (own_L 2 1 0 0 0 3 p3 0 3 0 p3 0 1 2 p3 0) (.int (0 : Int32))) (g_b1 : n0 ≤ b1) (g_b11 : n0 ≤ b11) (g_b12 : n0 ≤ b12) (g_b19 : n0 ≤ b19) (g_en : n0 ≤ en) (g_li : n0 ≤ li) (ne_b1_b11 : b1 ≠ b11) (ne_b1_b12 : b1 ≠ b12) (ne_b1_b19 : b1 ≠ b19) (ne_b1_en : b1 ≠ en) (ne_b1_li : b1 ≠ li) (ne_b11_b12 : b11 ≠ b12) (ne_b11_b19 : b11 ≠ b19) (ne_b11_en : b11 ≠ en) (ne_b11_li : b11 ≠ li) (ne_b12_b19 : b12 ≠ b19) (ne_b12_en : b12 ≠ en) (ne_b12_li : b12 ≠ li) (ne_b19_en : b19 ≠ en) (ne_b19_li : b19 ≠ li) (ne_en_li : en ≠ li) (Ov_ : Ovr Z ke "java/lang/Object") (Ej7 : Exa Z Z.heap j7 "java/lang/Integer") (Ej8 : Exa Z Z.heap j8 "java/lang/Integer") (Ej9 : Exa Z Z.heap j9 "java/lang/Integer") :
    ∃ s₂ o, Steps p.tables e below (T0.setTop (mkF m 139 #[.val (.int p1), .val (.int p2), .val (.int p3), .val (.int (1 : Int32)), .val (.int (2 : Int32)), .val (.ref b1), .val (.ref b11), .val (.ref b12), .val (.ref b19), .unset, .unset, .unset, .unset] [])) s₂ ∧ s₂.status = .running ∧ Ended s₂ below o ∧ ∃ v L, o = .returned v ∧ (v = some (.int 1) ∧ Fr n0 L) ∧ FrameEnd s o s₂ L room_1.cells room_1.slots := by
  have hw_14 := hw _ (List.mem_of_getElem? (i := 14) rfl)
  have hw_41 := hw _ (List.mem_of_getElem? (i := 41) rfl)
  have hw_42 := hw _ (List.mem_of_getElem? (i := 42) rfl)
  have hw_43 := hw _ (List.mem_of_getElem? (i := 43) rfl)
  have hw_44 := hw _ (List.mem_of_getElem? (i := 44) rfl)
  have hw_45 := hw _ (List.mem_of_getElem? (i := 45) rfl)
  have hw_50 := hw _ (List.mem_of_getElem? (i := 50) rfl)
  have hw_51 := hw _ (List.mem_of_getElem? (i := 51) rfl)
  have hw_52 := hw _ (List.mem_of_getElem? (i := 52) rfl)
  have hw_53 := hw _ (List.mem_of_getElem? (i := 53) rfl)
  have hx := Bd.exec
  have hby := Bd.bytes
  have hown : s.vm.findClass "com/example/terrace/terrace/core/UseOrderUsePinLaw" = some m.cls := findClass_of_methodNamed Bd.named
  have hnm := (name_of_methodNamed Bd.named Bd.method).1
  have pre0 : ∀ t_, Steps p.tables e below (T0.setTop (mkF m 139 #[.val (.int p1), .val (.int p2), .val (.int p3), .val (.int (1 : Int32)), .val (.int (2 : Int32)), .val (.ref b1), .val (.ref b11), .val (.ref b12), .val (.ref b19), .unset, .unset, .unset, .unset] [])) t_ → Steps p.tables e below (T0.setTop (mkF m 139 #[.val (.int p1), .val (.int p2), .val (.int p3), .val (.int (1 : Int32)), .val (.int (2 : Int32)), .val (.ref b1), .val (.ref b11), .val (.ref b12), .val (.ref b19), .unset, .unset, .unset, .unset] [])) t_ := fun _ k_ => k_
  obtain ⟨cl1, Ar1, q1, S1, M1, H1, G1⟩ := q1_
  have f2 : Arv Z h0 b11 k11 .int (3 : Int32) [(.int (1 : Int32)), (.int (2 : Int32)), (.int (3 : Int32))] (.int (0 : Int32)) := ⟨cl1, Ar1, q1, S1, M1, H1, G1⟩
  have hin1 : ¬ ((2 : Int32) < 0 ∨ cl1.slots.size ≤ ((2 : Int32)).toNatClampNeg) := inb_of S1 ⟨by decide, by decide⟩
  have hat1 : cl1.slots[((2 : Int32)).toNatClampNeg]? = some (.int (3 : Int32)) := Has.at H1 hin1 rfl
  obtain ⟨cq3, kq3, q3a, q3b, q3c⟩ := isOf hZ e0 q3_
  obtain ⟨_, _, ⟨T3, L3, k3, n3⟩, -, X3, ⟨Lc3, hQ3, l3, y3, z3⟩, st3⟩ := X0.virtualBack hx (y := (⟨"com/example/terrace/terrace/core/UseOrder", "use", "(I)V"⟩ : MethodName)) (z := (⟨"com/example/terrace/terrace/core/UseOrder", "use", "(I)V"⟩ : MethodName)) hown (mvT hZ hw_41) (mvT hZ hw_42) (notFace_of_selects (args := #[]) (mvT hZ hw_44)) (mvT hZ hw_44) (mvT hZ hw_43) (by decide) (backOf (W := 0) (rmUse l Z a0 hw [] b19 li kl (own_L 2 1 0 0 0 3 p3 0 3 0 p3 0 1 2 p3 0) (3 : Int32) (2 : Int32) 12 9 (1 : Int32) (2 : Int32) 5 8 h0 n0 Z0 q5_ q9_ own_Ln rfl (by omega) ne_b19_li ⟨by decide, by decide⟩ rfl ⟨by decide, by decide⟩ rfl ⟨by decide, by decide⟩ rfl (by decide) (by decide) ⟨by decide, by decide⟩ ⟨by decide, by decide⟩ rfl rfl ⟨by decide, by decide⟩ rfl ⟨by decide, by decide⟩ rfl (by decide) (by decide) q3_ (by decide) (by decide) (by decide)) hZ hw_45 hw_14 (by decide) (by decide)) q3a q3c (g := (mkF m 146 #[.val (.int p1), .val (.int p2), .val (.int p3), .val (.int (1 : Int32)), .val (.int (2 : Int32)), .val (.ref b1), .val (.ref b11), .val (.ref b12), .val (.ref b19), .unset, .unset, .unset, .unset] [(.int (3 : Int32)), (.ref b19)])) rfl (by rw [hml]; rfl) (Steps.refl _) (argsL := [(.int (3 : Int32))]) (rest := []) (lenOf pd_0 rfl) rfl (by show 2 * 0 + _ ≤ _; exact Nat.le_of_eq rfl) (hb hby at_146) (fun _ _ => ⟨rfl, e0, (by decide : 6 + 0 ≤ _), (by decide : 93 + 0 ≤ _)⟩)
  dsimp only [Pt.U, Pt.locs, Pt.cells, Pt.slots] at X3 l3 y3 z3 st3 hQ3
  subst l3 y3 z3
  obtain ⟨rfl, N3q, Kc3, Vc3⟩ := hQ3
  have N3 := Fr.app N0 N3q
  have sz3 : h0.size ≤ T3.heap.size := Kc3.1
  have Z3 : n0 ≤ T3.heap.size := Nat.le_trans Z0 sz3
  have O3 : Old Z n0 T3.heap := O0.keep Kc3 (allS (show n0 ≤ li by omega) all0)
  have Vl3_ : Arv Z T3.heap li kl .int (64 : Int32) (own_L 3 1 0 0 0 2 p3 0 1 3 p3 0 2 0 p3 0) (.int (0 : Int32)) := Vc3
  have f5 := (q2_.keep Kc3 (ninS ne_b12_li nin0))
  obtain ⟨_, _, ⟨T4, L4, k4, n4⟩, -, X4, ⟨Lc4, hQ4, l4, y4, z4⟩, st4⟩ := Jvm.LawKit.callS X3 hx (y := (⟨"com/example/terrace/terrace/core/UseOrderUsePinLaw", "moveToEnd", "([II)V"⟩ : MethodName)) hown (mvT hZ hw_50) (mvT hZ hw_51) (mvT hZ hw_52) (mvT hZ hw_53) (by decide) (backOf (W := 0) (rmMove l Z a0 hw [] b12 k12 (0 : Int32) (2 : Int32) (1 : Int32) (2 : Int32) T3.heap n0 Z3 f5 (by omega)) hZ hw_53 hw_52 (by decide) (by decide)) (g := (mkF m 153 #[.val (.int p1), .val (.int p2), .val (.int p3), .val (.int (1 : Int32)), .val (.int (2 : Int32)), .val (.ref b1), .val (.ref b11), .val (.ref b12), .val (.ref b19), .unset, .unset, .unset, .unset] [(.int (2 : Int32)), (.ref b12)])) rfl (by rw [hml]; rfl) (argsL := [(.ref b12), (.int (2 : Int32))]) (rest := []) (lenOf pd_5 rfl) rfl (by show 2 * 0 + _ ≤ _; exact Nat.le_of_eq rfl) (hb hby at_153) (fun _ _ => ⟨rfl, rfl, (by decide : 6 + 0 ≤ _), (by decide : 93 + 0 ≤ _)⟩)
  dsimp only [Pt.U, Pt.locs, Pt.cells, Pt.slots] at X4 l4 y4 z4 st4 hQ4
  subst l4 y4 z4
  obtain ⟨rfl, N4q, Kc4, Vc4⟩ := hQ4
  have N4 := Fr.app N3 N4q
  have sz4 : T3.heap.size ≤ T4.heap.size := Kc4.1
  have Z4 : n0 ≤ T4.heap.size := Nat.le_trans Z3 sz4
  have O4 : Old Z n0 T4.heap := O3.keep Kc4 (allS (show n0 ≤ b12 by omega) all0)
  have Vd4 : Arv Z T4.heap b12 k12 .int (3 : Int32) [(.int (0 : Int32)), (.int (1 : Int32)), (.int (2 : Int32))] (.int (0 : Int32)) := Vc4
  have go6 : ∀ t_, Steps p.tables e below (T4.setTop (mkF m 156 #[.val (.int p1), .val (.int p2), .val (.int p3), .val (.int (1 : Int32)), .val (.int (2 : Int32)), .val (.ref b1), .val (.ref b11), .val (.ref b12), .val (.ref b19), .unset, .unset, .unset, .unset] [])) t_ → Steps p.tables e below (T0.setTop (mkF m 139 #[.val (.int p1), .val (.int p2), .val (.int p3), .val (.int (1 : Int32)), .val (.int (2 : Int32)), .val (.ref b1), .val (.ref b11), .val (.ref b12), .val (.ref b19), .unset, .unset, .unset, .unset] [])) t_ := by
    intro t_ k_
    refine pre0 t_ ?_
    show Steps p.tables e below (T0.setTop (mkF m 139 #[.val (.int p1), .val (.int p2), .val (.int p3), .val (.int (1 : Int32)), .val (.int (2 : Int32)), .val (.ref b1), .val (.ref b11), .val (.ref b12), .val (.ref b19), .unset, .unset, .unset, .unset] [])) _
    refine XS.aload X0.here hx rfl (hb hby at_139) rfl rfl ?_
    show Steps p.tables e below (T0.setTop (mkF m 141 #[.val (.int p1), .val (.int p2), .val (.int p3), .val (.int (1 : Int32)), .val (.int (2 : Int32)), .val (.ref b1), .val (.ref b11), .val (.ref b12), .val (.ref b19), .unset, .unset, .unset, .unset] [(.ref b19)])) _
    refine XS.aload X0.here hx rfl (hb hby at_141) rfl rfl ?_
    show Steps p.tables e below (T0.setTop (mkF m 143 #[.val (.int p1), .val (.int p2), .val (.int p3), .val (.int (1 : Int32)), .val (.int (2 : Int32)), .val (.ref b1), .val (.ref b11), .val (.ref b12), .val (.ref b19), .unset, .unset, .unset, .unset] [(.ref b11), (.ref b19)])) _
    refine XS.iload X0.here hx rfl (hb hby at_143) rfl ?_
    show Steps p.tables e below (T0.setTop (mkF m 145 #[.val (.int p1), .val (.int p2), .val (.int p3), .val (.int (1 : Int32)), .val (.int (2 : Int32)), .val (.ref b1), .val (.ref b11), .val (.ref b12), .val (.ref b19), .unset, .unset, .unset, .unset] [(.int (2 : Int32)), (.ref b11), (.ref b19)])) _
    refine X0.iaload hx (j := (2 : Int32)) (v := (.int (3 : Int32))) (by rw [e0]; exact Ar1.1) (State.isArrayOf_alike hZ.alike Ar1.2.1) Ar1.2.2 hin1 hat1 (g := (mkF m 145 #[.val (.int p1), .val (.int p2), .val (.int p3), .val (.int (1 : Int32)), .val (.int (2 : Int32)), .val (.ref b1), .val (.ref b11), .val (.ref b12), .val (.ref b19), .unset, .unset, .unset, .unset] [(.int (2 : Int32)), (.ref b11), (.ref b19)])) rfl rfl (hb hby at_145) _ ?_
    show Steps p.tables e below (T0.setTop (mkF m 146 #[.val (.int p1), .val (.int p2), .val (.int p3), .val (.int (1 : Int32)), .val (.int (2 : Int32)), .val (.ref b1), .val (.ref b11), .val (.ref b12), .val (.ref b19), .unset, .unset, .unset, .unset] [(.int (3 : Int32)), (.ref b19)])) _
    refine st3.trans ?_
    show Steps p.tables e below (T3.setTop (mkF m 149 #[.val (.int p1), .val (.int p2), .val (.int p3), .val (.int (1 : Int32)), .val (.int (2 : Int32)), .val (.ref b1), .val (.ref b11), .val (.ref b12), .val (.ref b19), .unset, .unset, .unset, .unset] [])) _
    refine XS.aload X3.here hx rfl (hb hby at_149) rfl rfl ?_
    show Steps p.tables e below (T3.setTop (mkF m 151 #[.val (.int p1), .val (.int p2), .val (.int p3), .val (.int (1 : Int32)), .val (.int (2 : Int32)), .val (.ref b1), .val (.ref b11), .val (.ref b12), .val (.ref b19), .unset, .unset, .unset, .unset] [(.ref b12)])) _
    refine XS.iload X3.here hx rfl (hb hby at_151) rfl ?_
    show Steps p.tables e below (T3.setTop (mkF m 153 #[.val (.int p1), .val (.int p2), .val (.int p3), .val (.int (1 : Int32)), .val (.int (2 : Int32)), .val (.ref b1), .val (.ref b11), .val (.ref b12), .val (.ref b19), .unset, .unset, .unset, .unset] [(.int (2 : Int32)), (.ref b12)])) _
    refine st4 _ ?_
    exact k_
  have f7 := (q0_.keep Kc3 (ninS ne_b1_li nin0))
  have f8 := (f7.keep Kc4 (ninS ne_b1_b12 nin0))
  have f9 := (f2.keep Kc3 (ninS ne_b11_li nin0))
  have f10 := (f9.keep Kc4 (ninS ne_b11_b12 nin0))
  have f11 := (q3_.keep Kc3)
  have f12 := (f11.keep Kc4)
  have f13 := (q4_.keep Kc3 (ninS ne_b19_li nin0))
  have f14 := (f13.keep Kc4 (ninS (Ne.symm ne_b12_b19) nin0))
  have f15 := (q5_.keep Kc3 (ninS ne_b19_li nin0))
  have f16 := (f15.keep Kc4 (ninS (Ne.symm ne_b12_b19) nin0))
  have f17 := (q6_.keep Kc3 (ninS ne_b19_li nin0))
  have f18 := (f17.keep Kc4 (ninS (Ne.symm ne_b12_b19) nin0))
  have f19 := (q7_.keep Kc3 (ninS ne_b19_li nin0))
  have f20 := (f19.keep Kc4 (ninS (Ne.symm ne_b12_b19) nin0))
  have f21 := (q8_.keep Kc3 (ninS ne_en_li nin0))
  have f22 := (f21.keep Kc4 (ninS (Ne.symm ne_b12_en) nin0))
  have f23 := (Vl3_.keep Kc4 (ninS (Ne.symm ne_b12_li) nin0))
  obtain ⟨s2_, o_, hs_, h1_, h2_, v_, L_, h3_, hq_, h4_⟩ := pc156_13 l Z a0 hw ws p1 p2 p3 j7 j8 j9 b1 b11 b12 b19 en li k1 k11 k12 ke kl (1 : Int32) (2 : Int32) T4.heap n0 Bd hml hZ X4 rfl N4 Z4 O4 f8 f10 Vd4 f12 f14 f16 f18 f20 f22 f23 g_b1 g_b11 g_b12 g_b19 g_en g_li ne_b1_b11 ne_b1_b12 ne_b1_b19 ne_b1_en ne_b1_li ne_b11_b12 ne_b11_b19 ne_b11_en ne_b11_li ne_b12_b19 ne_b12_en ne_b12_li ne_b19_en ne_b19_li ne_en_li Ov_ Ej7 Ej8 Ej9
  exact ⟨s2_, o_, go6 _ hs_, h1_, h2_, v_, L_, h3_, hq_, h4_⟩
set_option maxRecDepth 65536 in
set_option maxHeartbeats 40000000 in
theorem pc124_7 (l : Launch) (Z : State) (a0 : Array Value) (hw : ∀ d ∈ tables_1, d.before a0 Z = true) (ws : List Jvm.Cond) (p1 : Int32) (p2 : Int32) (p3 : Int32) (j7 : Nat) (j8 : Nat) (j9 : Nat) (b1 : Nat) (b11 : Nat) (b12 : Nat) (b19 : Nat) (en : Nat) (li : Nat) (k1 : ClassId) (k11 : ClassId) (k12 : ClassId) (ke : ClassId) (kl : ClassId) (h0 : Heap) (n0 : Nat) {p : Program} {e : Env} {s : State} {m : MethodId} {below : List Frame} {meth : Method} {c : Code} {s₁ T0 : State} {locs : List Loc}
    (Bd : BodyLoose p l x (head1 (Jvm.Cond.code x code maxLocals ret :: ws) room_1) code maxLocals ret e s m #[(.int p1), (.int p2), (.int p3)] below meth c s₁) (hml : c.maxLocals = 13) (hZ : Z.Warmed39 s.vm) (X0 : Stand p l e room_1 s m #[(.int p1), (.int p2), (.int p3)] below meth c T0 locs 6 93) (e0 : T0.heap = h0) (N0 : Fr n0 locs) (Z0 : n0 ≤ h0.size) (O0 : Old Z n0 h0) (q0_ : Arv Z h0 b1 k1 (.object "java/lang/Integer") (3 : Int32) [(.ref j7), (.ref j8), (.ref j9)] .null) (q1_ : Arv Z h0 b11 k11 .int (3 : Int32) [(.int (1 : Int32)), (.int (2 : Int32)), (.int (3 : Int32))] (.int (0 : Int32))) (q2_ : Arv Z h0 b12 k12 .int (3 : Int32) [(.int (0 : Int32)), (.int (1 : Int32)), (.int (2 : Int32))] (.int (0 : Int32))) (q3_ : Exa Z h0 b19 "com/example/terrace/terrace/core/UseOrder") (q4_ : Fld Z h0 b19 "com/example/terrace/terrace/core/UseOrder" "entries" "[Ljava/lang/Object;" (.ref en)) (q5_ : Fld Z h0 b19 "com/example/terrace/terrace/core/UseOrder" "links" "[I" (.ref li)) (q6_ : Fld Z h0 b19 "com/example/terrace/terrace/core/UseOrder" "free" "I" (.int (0 : Int32))) (q7_ : Fld Z h0 b19 "com/example/terrace/terrace/core/UseOrder" "highest" "I" (.int (3 : Int32))) (q8_ : Arv Z h0 en ke (.object "java/lang/Object") (16 : Int32) (own_E (.ref j7) (.ref j8) (.ref j9)) .null) (q9_ : Arv Z h0 li kl .int (64 : Int32) (own_L 3 1 0 0 0 2 p3 0 1 3 p3 0 2 0 p3 0) (.int (0 : Int32))) (g_b1 : n0 ≤ b1) (g_b11 : n0 ≤ b11) (g_b12 : n0 ≤ b12) (g_b19 : n0 ≤ b19) (g_en : n0 ≤ en) (g_li : n0 ≤ li) (ne_b1_b11 : b1 ≠ b11) (ne_b1_b12 : b1 ≠ b12) (ne_b1_b19 : b1 ≠ b19) (ne_b1_en : b1 ≠ en) (ne_b1_li : b1 ≠ li) (ne_b11_b12 : b11 ≠ b12) (ne_b11_b19 : b11 ≠ b19) (ne_b11_en : b11 ≠ en) (ne_b11_li : b11 ≠ li) (ne_b12_b19 : b12 ≠ b19) (ne_b12_en : b12 ≠ en) (ne_b12_li : b12 ≠ li) (ne_b19_en : b19 ≠ en) (ne_b19_li : b19 ≠ li) (ne_en_li : en ≠ li) (Ov_ : Ovr Z ke "java/lang/Object") (Ej7 : Exa Z Z.heap j7 "java/lang/Integer") (Ej8 : Exa Z Z.heap j8 "java/lang/Integer") (Ej9 : Exa Z Z.heap j9 "java/lang/Integer") :
    ∃ s₂ o, Steps p.tables e below (T0.setTop (mkF m 124 #[.val (.int p1), .val (.int p2), .val (.int p3), .val (.int (1 : Int32)), .val (.int ((p2 &&& (2147483647 : Int32)) % (3 : Int32))), .val (.ref b1), .val (.ref b11), .val (.ref b12), .val (.ref b19), .unset, .unset, .unset, .unset] [])) s₂ ∧ s₂.status = .running ∧ Ended s₂ below o ∧ ∃ v L, o = .returned v ∧ (v = some (.int 1) ∧ Fr n0 L) ∧ FrameEnd s o s₂ L room_1.cells room_1.slots := by
  have hw_14 := hw _ (List.mem_of_getElem? (i := 14) rfl)
  have hw_41 := hw _ (List.mem_of_getElem? (i := 41) rfl)
  have hw_42 := hw _ (List.mem_of_getElem? (i := 42) rfl)
  have hw_43 := hw _ (List.mem_of_getElem? (i := 43) rfl)
  have hw_44 := hw _ (List.mem_of_getElem? (i := 44) rfl)
  have hw_45 := hw _ (List.mem_of_getElem? (i := 45) rfl)
  have hw_50 := hw _ (List.mem_of_getElem? (i := 50) rfl)
  have hw_51 := hw _ (List.mem_of_getElem? (i := 51) rfl)
  have hw_52 := hw _ (List.mem_of_getElem? (i := 52) rfl)
  have hw_53 := hw _ (List.mem_of_getElem? (i := 53) rfl)
  have hx := Bd.exec
  have hby := Bd.bytes
  have hown : s.vm.findClass "com/example/terrace/terrace/core/UseOrderUsePinLaw" = some m.cls := findClass_of_methodNamed Bd.named
  have hnm := (name_of_methodNamed Bd.named Bd.method).1
  have pre0 : ∀ t_, Steps p.tables e below (T0.setTop (mkF m 124 #[.val (.int p1), .val (.int p2), .val (.int p3), .val (.int (1 : Int32)), .val (.int ((p2 &&& (2147483647 : Int32)) % (3 : Int32))), .val (.ref b1), .val (.ref b11), .val (.ref b12), .val (.ref b19), .unset, .unset, .unset, .unset] [])) t_ → Steps p.tables e below (T0.setTop (mkF m 124 #[.val (.int p1), .val (.int p2), .val (.int p3), .val (.int (1 : Int32)), .val (.int ((p2 &&& (2147483647 : Int32)) % (3 : Int32))), .val (.ref b1), .val (.ref b11), .val (.ref b12), .val (.ref b19), .unset, .unset, .unset, .unset] [])) t_ := fun _ k_ => k_
  obtain ⟨cl1, Ar1, q1, S1, M1, H1, G1⟩ := q1_
  have f2 : Arv Z h0 b11 k11 .int (3 : Int32) [(.int (1 : Int32)), (.int (2 : Int32)), (.int (3 : Int32))] (.int (0 : Int32)) := ⟨cl1, Ar1, q1, S1, M1, H1, G1⟩
  have hin1 : ¬ ((1 : Int32) < 0 ∨ cl1.slots.size ≤ ((1 : Int32)).toNatClampNeg) := inb_of S1 ⟨by decide, by decide⟩
  have hat1 : cl1.slots[((1 : Int32)).toNatClampNeg]? = some (.int (2 : Int32)) := Has.at H1 hin1 rfl
  obtain ⟨cq3, kq3, q3a, q3b, q3c⟩ := isOf hZ e0 q3_
  obtain ⟨_, _, ⟨T3, L3, k3, n3⟩, -, X3, ⟨Lc3, hQ3, l3, y3, z3⟩, st3⟩ := X0.virtualBack hx (y := (⟨"com/example/terrace/terrace/core/UseOrder", "use", "(I)V"⟩ : MethodName)) (z := (⟨"com/example/terrace/terrace/core/UseOrder", "use", "(I)V"⟩ : MethodName)) hown (mvT hZ hw_41) (mvT hZ hw_42) (notFace_of_selects (args := #[]) (mvT hZ hw_44)) (mvT hZ hw_44) (mvT hZ hw_43) (by decide) (backOf (W := 0) (rmUse l Z a0 hw [] b19 li kl (own_L 3 1 0 0 0 2 p3 0 1 3 p3 0 2 0 p3 0) (2 : Int32) (3 : Int32) 8 13 (1 : Int32) (3 : Int32) 5 12 h0 n0 Z0 q5_ q9_ own_Ln rfl (by omega) ne_b19_li ⟨by decide, by decide⟩ rfl ⟨by decide, by decide⟩ rfl ⟨by decide, by decide⟩ rfl (by decide) (by decide) ⟨by decide, by decide⟩ ⟨by decide, by decide⟩ rfl rfl ⟨by decide, by decide⟩ rfl ⟨by decide, by decide⟩ rfl (by decide) (by decide) q3_ (by decide) (by decide) (by decide)) hZ hw_45 hw_14 (by decide) (by decide)) q3a q3c (g := (mkF m 130 #[.val (.int p1), .val (.int p2), .val (.int p3), .val (.int (1 : Int32)), .val (.int ((p2 &&& (2147483647 : Int32)) % (3 : Int32))), .val (.ref b1), .val (.ref b11), .val (.ref b12), .val (.ref b19), .unset, .unset, .unset, .unset] [(.int (2 : Int32)), (.ref b19)])) rfl (by rw [hml]; rfl) (Steps.refl _) (argsL := [(.int (2 : Int32))]) (rest := []) (lenOf pd_0 rfl) rfl (by show 2 * 0 + _ ≤ _; exact Nat.le_of_eq rfl) (hb hby at_130) (fun _ _ => ⟨rfl, e0, (by decide : 6 + 0 ≤ _), (by decide : 93 + 0 ≤ _)⟩)
  dsimp only [Pt.U, Pt.locs, Pt.cells, Pt.slots] at X3 l3 y3 z3 st3 hQ3
  subst l3 y3 z3
  obtain ⟨rfl, N3q, Kc3, Vc3⟩ := hQ3
  have N3 := Fr.app N0 N3q
  have sz3 : h0.size ≤ T3.heap.size := Kc3.1
  have Z3 : n0 ≤ T3.heap.size := Nat.le_trans Z0 sz3
  have O3 : Old Z n0 T3.heap := O0.keep Kc3 (allS (show n0 ≤ li by omega) all0)
  have Vl3_ : Arv Z T3.heap li kl .int (64 : Int32) (own_L 2 1 0 0 0 3 p3 0 3 0 p3 0 1 2 p3 0) (.int (0 : Int32)) := Vc3
  have f5 := (q2_.keep Kc3 (ninS ne_b12_li nin0))
  obtain ⟨_, _, ⟨T4, L4, k4, n4⟩, -, X4, ⟨Lc4, hQ4, l4, y4, z4⟩, st4⟩ := Jvm.LawKit.callS X3 hx (y := (⟨"com/example/terrace/terrace/core/UseOrderUsePinLaw", "moveToEnd", "([II)V"⟩ : MethodName)) hown (mvT hZ hw_50) (mvT hZ hw_51) (mvT hZ hw_52) (mvT hZ hw_53) (by decide) (backOf (W := 0) (rmMove l Z a0 hw [] b12 k12 (0 : Int32) (1 : Int32) (2 : Int32) (1 : Int32) T3.heap n0 Z3 f5 (by omega)) hZ hw_53 hw_52 (by decide) (by decide)) (g := (mkF m 136 #[.val (.int p1), .val (.int p2), .val (.int p3), .val (.int (1 : Int32)), .val (.int ((p2 &&& (2147483647 : Int32)) % (3 : Int32))), .val (.ref b1), .val (.ref b11), .val (.ref b12), .val (.ref b19), .unset, .unset, .unset, .unset] [(.int (1 : Int32)), (.ref b12)])) rfl (by rw [hml]; rfl) (argsL := [(.ref b12), (.int (1 : Int32))]) (rest := []) (lenOf pd_5 rfl) rfl (by show 2 * 0 + _ ≤ _; exact Nat.le_of_eq rfl) (hb hby at_136) (fun _ _ => ⟨rfl, rfl, (by decide : 6 + 0 ≤ _), (by decide : 93 + 0 ≤ _)⟩)
  dsimp only [Pt.U, Pt.locs, Pt.cells, Pt.slots] at X4 l4 y4 z4 st4 hQ4
  subst l4 y4 z4
  obtain ⟨rfl, N4q, Kc4, Vc4⟩ := hQ4
  have N4 := Fr.app N3 N4q
  have sz4 : T3.heap.size ≤ T4.heap.size := Kc4.1
  have Z4 : n0 ≤ T4.heap.size := Nat.le_trans Z3 sz4
  have O4 : Old Z n0 T4.heap := O3.keep Kc4 (allS (show n0 ≤ b12 by omega) all0)
  have Vd4 : Arv Z T4.heap b12 k12 .int (3 : Int32) [(.int (0 : Int32)), (.int (2 : Int32)), (.int (1 : Int32))] (.int (0 : Int32)) := Vc4
  have go6 : ∀ t_, Steps p.tables e below (T4.setTop (mkF m 139 #[.val (.int p1), .val (.int p2), .val (.int p3), .val (.int (1 : Int32)), .val (.int ((p2 &&& (2147483647 : Int32)) % (3 : Int32))), .val (.ref b1), .val (.ref b11), .val (.ref b12), .val (.ref b19), .unset, .unset, .unset, .unset] [])) t_ → Steps p.tables e below (T0.setTop (mkF m 124 #[.val (.int p1), .val (.int p2), .val (.int p3), .val (.int (1 : Int32)), .val (.int ((p2 &&& (2147483647 : Int32)) % (3 : Int32))), .val (.ref b1), .val (.ref b11), .val (.ref b12), .val (.ref b19), .unset, .unset, .unset, .unset] [])) t_ := by
    intro t_ k_
    refine pre0 t_ ?_
    show Steps p.tables e below (T0.setTop (mkF m 124 #[.val (.int p1), .val (.int p2), .val (.int p3), .val (.int (1 : Int32)), .val (.int ((p2 &&& (2147483647 : Int32)) % (3 : Int32))), .val (.ref b1), .val (.ref b11), .val (.ref b12), .val (.ref b19), .unset, .unset, .unset, .unset] [])) _
    refine XS.aload X0.here hx rfl (hb hby at_124) rfl rfl ?_
    show Steps p.tables e below (T0.setTop (mkF m 126 #[.val (.int p1), .val (.int p2), .val (.int p3), .val (.int (1 : Int32)), .val (.int ((p2 &&& (2147483647 : Int32)) % (3 : Int32))), .val (.ref b1), .val (.ref b11), .val (.ref b12), .val (.ref b19), .unset, .unset, .unset, .unset] [(.ref b19)])) _
    refine XS.aload X0.here hx rfl (hb hby at_126) rfl rfl ?_
    show Steps p.tables e below (T0.setTop (mkF m 128 #[.val (.int p1), .val (.int p2), .val (.int p3), .val (.int (1 : Int32)), .val (.int ((p2 &&& (2147483647 : Int32)) % (3 : Int32))), .val (.ref b1), .val (.ref b11), .val (.ref b12), .val (.ref b19), .unset, .unset, .unset, .unset] [(.ref b11), (.ref b19)])) _
    refine XS.iloadN X0.here hx rfl (hb hby at_128) rfl ?_
    show Steps p.tables e below (T0.setTop (mkF m 129 #[.val (.int p1), .val (.int p2), .val (.int p3), .val (.int (1 : Int32)), .val (.int ((p2 &&& (2147483647 : Int32)) % (3 : Int32))), .val (.ref b1), .val (.ref b11), .val (.ref b12), .val (.ref b19), .unset, .unset, .unset, .unset] [(.int (1 : Int32)), (.ref b11), (.ref b19)])) _
    refine X0.iaload hx (j := (1 : Int32)) (v := (.int (2 : Int32))) (by rw [e0]; exact Ar1.1) (State.isArrayOf_alike hZ.alike Ar1.2.1) Ar1.2.2 hin1 hat1 (g := (mkF m 129 #[.val (.int p1), .val (.int p2), .val (.int p3), .val (.int (1 : Int32)), .val (.int ((p2 &&& (2147483647 : Int32)) % (3 : Int32))), .val (.ref b1), .val (.ref b11), .val (.ref b12), .val (.ref b19), .unset, .unset, .unset, .unset] [(.int (1 : Int32)), (.ref b11), (.ref b19)])) rfl rfl (hb hby at_129) _ ?_
    show Steps p.tables e below (T0.setTop (mkF m 130 #[.val (.int p1), .val (.int p2), .val (.int p3), .val (.int (1 : Int32)), .val (.int ((p2 &&& (2147483647 : Int32)) % (3 : Int32))), .val (.ref b1), .val (.ref b11), .val (.ref b12), .val (.ref b19), .unset, .unset, .unset, .unset] [(.int (2 : Int32)), (.ref b19)])) _
    refine st3.trans ?_
    show Steps p.tables e below (T3.setTop (mkF m 133 #[.val (.int p1), .val (.int p2), .val (.int p3), .val (.int (1 : Int32)), .val (.int ((p2 &&& (2147483647 : Int32)) % (3 : Int32))), .val (.ref b1), .val (.ref b11), .val (.ref b12), .val (.ref b19), .unset, .unset, .unset, .unset] [])) _
    refine XS.aload X3.here hx rfl (hb hby at_133) rfl rfl ?_
    show Steps p.tables e below (T3.setTop (mkF m 135 #[.val (.int p1), .val (.int p2), .val (.int p3), .val (.int (1 : Int32)), .val (.int ((p2 &&& (2147483647 : Int32)) % (3 : Int32))), .val (.ref b1), .val (.ref b11), .val (.ref b12), .val (.ref b19), .unset, .unset, .unset, .unset] [(.ref b12)])) _
    refine XS.iloadN X3.here hx rfl (hb hby at_135) rfl ?_
    show Steps p.tables e below (T3.setTop (mkF m 136 #[.val (.int p1), .val (.int p2), .val (.int p3), .val (.int (1 : Int32)), .val (.int ((p2 &&& (2147483647 : Int32)) % (3 : Int32))), .val (.ref b1), .val (.ref b11), .val (.ref b12), .val (.ref b19), .unset, .unset, .unset, .unset] [(.int (1 : Int32)), (.ref b12)])) _
    refine st4 _ ?_
    exact k_
  rcases (own_mod3 p2) with hk7 | hk7 | hk7
  · skip
    have go8 : ∀ t_, Steps p.tables e below (T4.setTop (mkF m 139 #[.val (.int p1), .val (.int p2), .val (.int p3), .val (.int (1 : Int32)), .val (.int (0 : Int32)), .val (.ref b1), .val (.ref b11), .val (.ref b12), .val (.ref b19), .unset, .unset, .unset, .unset] [])) t_ → Steps p.tables e below (T0.setTop (mkF m 124 #[.val (.int p1), .val (.int p2), .val (.int p3), .val (.int (1 : Int32)), .val (.int ((p2 &&& (2147483647 : Int32)) % (3 : Int32))), .val (.ref b1), .val (.ref b11), .val (.ref b12), .val (.ref b19), .unset, .unset, .unset, .unset] [])) t_ := by
      intro t_ k_
      refine go6 t_ ?_
      rw [hk7]
      exact k_
    have f9 := (q0_.keep Kc3 (ninS ne_b1_li nin0))
    have f10 := (f9.keep Kc4 (ninS ne_b1_b12 nin0))
    have f11 := (f2.keep Kc3 (ninS ne_b11_li nin0))
    have f12 := (f11.keep Kc4 (ninS ne_b11_b12 nin0))
    have f13 := (q3_.keep Kc3)
    have f14 := (f13.keep Kc4)
    have f15 := (q4_.keep Kc3 (ninS ne_b19_li nin0))
    have f16 := (f15.keep Kc4 (ninS (Ne.symm ne_b12_b19) nin0))
    have f17 := (q5_.keep Kc3 (ninS ne_b19_li nin0))
    have f18 := (f17.keep Kc4 (ninS (Ne.symm ne_b12_b19) nin0))
    have f19 := (q6_.keep Kc3 (ninS ne_b19_li nin0))
    have f20 := (f19.keep Kc4 (ninS (Ne.symm ne_b12_b19) nin0))
    have f21 := (q7_.keep Kc3 (ninS ne_b19_li nin0))
    have f22 := (f21.keep Kc4 (ninS (Ne.symm ne_b12_b19) nin0))
    have f23 := (q8_.keep Kc3 (ninS ne_en_li nin0))
    have f24 := (f23.keep Kc4 (ninS (Ne.symm ne_b12_en) nin0))
    have f25 := (Vl3_.keep Kc4 (ninS (Ne.symm ne_b12_li) nin0))
    obtain ⟨s2_, o_, hs_, h1_, h2_, v_, L_, h3_, hq_, h4_⟩ := pc139_8 l Z a0 hw ws p1 p2 p3 j7 j8 j9 b1 b11 b12 b19 en li k1 k11 k12 ke kl T4.heap n0 Bd hml hZ X4 rfl N4 Z4 O4 f10 f12 Vd4 f14 f16 f18 f20 f22 f24 f25 g_b1 g_b11 g_b12 g_b19 g_en g_li ne_b1_b11 ne_b1_b12 ne_b1_b19 ne_b1_en ne_b1_li ne_b11_b12 ne_b11_b19 ne_b11_en ne_b11_li ne_b12_b19 ne_b12_en ne_b12_li ne_b19_en ne_b19_li ne_en_li Ov_ Ej7 Ej8 Ej9
    exact ⟨s2_, o_, go8 _ hs_, h1_, h2_, v_, L_, h3_, hq_, h4_⟩
  · skip
    have go26 : ∀ t_, Steps p.tables e below (T4.setTop (mkF m 139 #[.val (.int p1), .val (.int p2), .val (.int p3), .val (.int (1 : Int32)), .val (.int (1 : Int32)), .val (.ref b1), .val (.ref b11), .val (.ref b12), .val (.ref b19), .unset, .unset, .unset, .unset] [])) t_ → Steps p.tables e below (T0.setTop (mkF m 124 #[.val (.int p1), .val (.int p2), .val (.int p3), .val (.int (1 : Int32)), .val (.int ((p2 &&& (2147483647 : Int32)) % (3 : Int32))), .val (.ref b1), .val (.ref b11), .val (.ref b12), .val (.ref b19), .unset, .unset, .unset, .unset] [])) t_ := by
      intro t_ k_
      refine go6 t_ ?_
      rw [hk7]
      exact k_
    have f27 := (q0_.keep Kc3 (ninS ne_b1_li nin0))
    have f28 := (f27.keep Kc4 (ninS ne_b1_b12 nin0))
    have f29 := (f2.keep Kc3 (ninS ne_b11_li nin0))
    have f30 := (f29.keep Kc4 (ninS ne_b11_b12 nin0))
    have f31 := (q3_.keep Kc3)
    have f32 := (f31.keep Kc4)
    have f33 := (q4_.keep Kc3 (ninS ne_b19_li nin0))
    have f34 := (f33.keep Kc4 (ninS (Ne.symm ne_b12_b19) nin0))
    have f35 := (q5_.keep Kc3 (ninS ne_b19_li nin0))
    have f36 := (f35.keep Kc4 (ninS (Ne.symm ne_b12_b19) nin0))
    have f37 := (q6_.keep Kc3 (ninS ne_b19_li nin0))
    have f38 := (f37.keep Kc4 (ninS (Ne.symm ne_b12_b19) nin0))
    have f39 := (q7_.keep Kc3 (ninS ne_b19_li nin0))
    have f40 := (f39.keep Kc4 (ninS (Ne.symm ne_b12_b19) nin0))
    have f41 := (q8_.keep Kc3 (ninS ne_en_li nin0))
    have f42 := (f41.keep Kc4 (ninS (Ne.symm ne_b12_en) nin0))
    have f43 := (Vl3_.keep Kc4 (ninS (Ne.symm ne_b12_li) nin0))
    obtain ⟨s2_, o_, hs_, h1_, h2_, v_, L_, h3_, hq_, h4_⟩ := pc139_10 l Z a0 hw ws p1 p2 p3 j7 j8 j9 b1 b11 b12 b19 en li k1 k11 k12 ke kl T4.heap n0 Bd hml hZ X4 rfl N4 Z4 O4 f28 f30 Vd4 f32 f34 f36 f38 f40 f42 f43 g_b1 g_b11 g_b12 g_b19 g_en g_li ne_b1_b11 ne_b1_b12 ne_b1_b19 ne_b1_en ne_b1_li ne_b11_b12 ne_b11_b19 ne_b11_en ne_b11_li ne_b12_b19 ne_b12_en ne_b12_li ne_b19_en ne_b19_li ne_en_li Ov_ Ej7 Ej8 Ej9
    exact ⟨s2_, o_, go26 _ hs_, h1_, h2_, v_, L_, h3_, hq_, h4_⟩
  · skip
    have go44 : ∀ t_, Steps p.tables e below (T4.setTop (mkF m 139 #[.val (.int p1), .val (.int p2), .val (.int p3), .val (.int (1 : Int32)), .val (.int (2 : Int32)), .val (.ref b1), .val (.ref b11), .val (.ref b12), .val (.ref b19), .unset, .unset, .unset, .unset] [])) t_ → Steps p.tables e below (T0.setTop (mkF m 124 #[.val (.int p1), .val (.int p2), .val (.int p3), .val (.int (1 : Int32)), .val (.int ((p2 &&& (2147483647 : Int32)) % (3 : Int32))), .val (.ref b1), .val (.ref b11), .val (.ref b12), .val (.ref b19), .unset, .unset, .unset, .unset] [])) t_ := by
      intro t_ k_
      refine go6 t_ ?_
      rw [hk7]
      exact k_
    have f45 := (q0_.keep Kc3 (ninS ne_b1_li nin0))
    have f46 := (f45.keep Kc4 (ninS ne_b1_b12 nin0))
    have f47 := (f2.keep Kc3 (ninS ne_b11_li nin0))
    have f48 := (f47.keep Kc4 (ninS ne_b11_b12 nin0))
    have f49 := (q3_.keep Kc3)
    have f50 := (f49.keep Kc4)
    have f51 := (q4_.keep Kc3 (ninS ne_b19_li nin0))
    have f52 := (f51.keep Kc4 (ninS (Ne.symm ne_b12_b19) nin0))
    have f53 := (q5_.keep Kc3 (ninS ne_b19_li nin0))
    have f54 := (f53.keep Kc4 (ninS (Ne.symm ne_b12_b19) nin0))
    have f55 := (q6_.keep Kc3 (ninS ne_b19_li nin0))
    have f56 := (f55.keep Kc4 (ninS (Ne.symm ne_b12_b19) nin0))
    have f57 := (q7_.keep Kc3 (ninS ne_b19_li nin0))
    have f58 := (f57.keep Kc4 (ninS (Ne.symm ne_b12_b19) nin0))
    have f59 := (q8_.keep Kc3 (ninS ne_en_li nin0))
    have f60 := (f59.keep Kc4 (ninS (Ne.symm ne_b12_en) nin0))
    have f61 := (Vl3_.keep Kc4 (ninS (Ne.symm ne_b12_li) nin0))
    obtain ⟨s2_, o_, hs_, h1_, h2_, v_, L_, h3_, hq_, h4_⟩ := pc139_12 l Z a0 hw ws p1 p2 p3 j7 j8 j9 b1 b11 b12 b19 en li k1 k11 k12 ke kl T4.heap n0 Bd hml hZ X4 rfl N4 Z4 O4 f46 f48 Vd4 f50 f52 f54 f56 f58 f60 f61 g_b1 g_b11 g_b12 g_b19 g_en g_li ne_b1_b11 ne_b1_b12 ne_b1_b19 ne_b1_en ne_b1_li ne_b11_b12 ne_b11_b19 ne_b11_en ne_b11_li ne_b12_b19 ne_b12_en ne_b12_li ne_b19_en ne_b19_li ne_en_li Ov_ Ej7 Ej8 Ej9
    exact ⟨s2_, o_, go44 _ hs_, h1_, h2_, v_, L_, h3_, hq_, h4_⟩
set_option maxRecDepth 65536 in
set_option maxHeartbeats 40000000 in
theorem pc139_15 (l : Launch) (Z : State) (a0 : Array Value) (hw : ∀ d ∈ tables_1, d.before a0 Z = true) (ws : List Jvm.Cond) (p1 : Int32) (p2 : Int32) (p3 : Int32) (j7 : Nat) (j8 : Nat) (j9 : Nat) (b1 : Nat) (b11 : Nat) (b12 : Nat) (b19 : Nat) (en : Nat) (li : Nat) (k1 : ClassId) (k11 : ClassId) (k12 : ClassId) (ke : ClassId) (kl : ClassId) (h0 : Heap) (n0 : Nat) {p : Program} {e : Env} {s : State} {m : MethodId} {below : List Frame} {meth : Method} {c : Code} {s₁ T0 : State} {locs : List Loc}
    (Bd : BodyLoose p l x (head1 (Jvm.Cond.code x code maxLocals ret :: ws) room_1) code maxLocals ret e s m #[(.int p1), (.int p2), (.int p3)] below meth c s₁) (hml : c.maxLocals = 13) (hZ : Z.Warmed39 s.vm) (X0 : Stand p l e room_1 s m #[(.int p1), (.int p2), (.int p3)] below meth c T0 locs 6 93) (e0 : T0.heap = h0) (N0 : Fr n0 locs) (Z0 : n0 ≤ h0.size) (O0 : Old Z n0 h0) (q0_ : Arv Z h0 b1 k1 (.object "java/lang/Integer") (3 : Int32) [(.ref j7), (.ref j8), (.ref j9)] .null) (q1_ : Arv Z h0 b11 k11 .int (3 : Int32) [(.int (1 : Int32)), (.int (2 : Int32)), (.int (3 : Int32))] (.int (0 : Int32))) (q2_ : Arv Z h0 b12 k12 .int (3 : Int32) [(.int (0 : Int32)), (.int (1 : Int32)), (.int (2 : Int32))] (.int (0 : Int32))) (q3_ : Exa Z h0 b19 "com/example/terrace/terrace/core/UseOrder") (q4_ : Fld Z h0 b19 "com/example/terrace/terrace/core/UseOrder" "entries" "[Ljava/lang/Object;" (.ref en)) (q5_ : Fld Z h0 b19 "com/example/terrace/terrace/core/UseOrder" "links" "[I" (.ref li)) (q6_ : Fld Z h0 b19 "com/example/terrace/terrace/core/UseOrder" "free" "I" (.int (0 : Int32))) (q7_ : Fld Z h0 b19 "com/example/terrace/terrace/core/UseOrder" "highest" "I" (.int (3 : Int32))) (q8_ : Arv Z h0 en ke (.object "java/lang/Object") (16 : Int32) (own_E (.ref j7) (.ref j8) (.ref j9)) .null) (q9_ : Arv Z h0 li kl .int (64 : Int32) (own_L 3 1 0 0 0 2 p3 0 1 3 p3 0 2 0 p3 0) (.int (0 : Int32))) (g_b1 : n0 ≤ b1) (g_b11 : n0 ≤ b11) (g_b12 : n0 ≤ b12) (g_b19 : n0 ≤ b19) (g_en : n0 ≤ en) (g_li : n0 ≤ li) (ne_b1_b11 : b1 ≠ b11) (ne_b1_b12 : b1 ≠ b12) (ne_b1_b19 : b1 ≠ b19) (ne_b1_en : b1 ≠ en) (ne_b1_li : b1 ≠ li) (ne_b11_b12 : b11 ≠ b12) (ne_b11_b19 : b11 ≠ b19) (ne_b11_en : b11 ≠ en) (ne_b11_li : b11 ≠ li) (ne_b12_b19 : b12 ≠ b19) (ne_b12_en : b12 ≠ en) (ne_b12_li : b12 ≠ li) (ne_b19_en : b19 ≠ en) (ne_b19_li : b19 ≠ li) (ne_en_li : en ≠ li) (Ov_ : Ovr Z ke "java/lang/Object") (Ej7 : Exa Z Z.heap j7 "java/lang/Integer") (Ej8 : Exa Z Z.heap j8 "java/lang/Integer") (Ej9 : Exa Z Z.heap j9 "java/lang/Integer") :
    ∃ s₂ o, Steps p.tables e below (T0.setTop (mkF m 139 #[.val (.int p1), .val (.int p2), .val (.int p3), .val (.int (2 : Int32)), .val (.int (0 : Int32)), .val (.ref b1), .val (.ref b11), .val (.ref b12), .val (.ref b19), .unset, .unset, .unset, .unset] [])) s₂ ∧ s₂.status = .running ∧ Ended s₂ below o ∧ ∃ v L, o = .returned v ∧ (v = some (.int 1) ∧ Fr n0 L) ∧ FrameEnd s o s₂ L room_1.cells room_1.slots := by
  have hw_14 := hw _ (List.mem_of_getElem? (i := 14) rfl)
  have hw_41 := hw _ (List.mem_of_getElem? (i := 41) rfl)
  have hw_42 := hw _ (List.mem_of_getElem? (i := 42) rfl)
  have hw_43 := hw _ (List.mem_of_getElem? (i := 43) rfl)
  have hw_44 := hw _ (List.mem_of_getElem? (i := 44) rfl)
  have hw_45 := hw _ (List.mem_of_getElem? (i := 45) rfl)
  have hw_50 := hw _ (List.mem_of_getElem? (i := 50) rfl)
  have hw_51 := hw _ (List.mem_of_getElem? (i := 51) rfl)
  have hw_52 := hw _ (List.mem_of_getElem? (i := 52) rfl)
  have hw_53 := hw _ (List.mem_of_getElem? (i := 53) rfl)
  have hx := Bd.exec
  have hby := Bd.bytes
  have hown : s.vm.findClass "com/example/terrace/terrace/core/UseOrderUsePinLaw" = some m.cls := findClass_of_methodNamed Bd.named
  have hnm := (name_of_methodNamed Bd.named Bd.method).1
  have pre0 : ∀ t_, Steps p.tables e below (T0.setTop (mkF m 139 #[.val (.int p1), .val (.int p2), .val (.int p3), .val (.int (2 : Int32)), .val (.int (0 : Int32)), .val (.ref b1), .val (.ref b11), .val (.ref b12), .val (.ref b19), .unset, .unset, .unset, .unset] [])) t_ → Steps p.tables e below (T0.setTop (mkF m 139 #[.val (.int p1), .val (.int p2), .val (.int p3), .val (.int (2 : Int32)), .val (.int (0 : Int32)), .val (.ref b1), .val (.ref b11), .val (.ref b12), .val (.ref b19), .unset, .unset, .unset, .unset] [])) t_ := fun _ k_ => k_
  obtain ⟨cl1, Ar1, q1, S1, M1, H1, G1⟩ := q1_
  have f2 : Arv Z h0 b11 k11 .int (3 : Int32) [(.int (1 : Int32)), (.int (2 : Int32)), (.int (3 : Int32))] (.int (0 : Int32)) := ⟨cl1, Ar1, q1, S1, M1, H1, G1⟩
  have hin1 : ¬ ((0 : Int32) < 0 ∨ cl1.slots.size ≤ ((0 : Int32)).toNatClampNeg) := inb_of S1 ⟨by decide, by decide⟩
  have hat1 : cl1.slots[((0 : Int32)).toNatClampNeg]? = some (.int (1 : Int32)) := Has.at H1 hin1 rfl
  obtain ⟨cq3, kq3, q3a, q3b, q3c⟩ := isOf hZ e0 q3_
  obtain ⟨_, _, ⟨T3, L3, k3, n3⟩, -, X3, ⟨Lc3, hQ3, l3, y3, z3⟩, st3⟩ := X0.virtualBack hx (y := (⟨"com/example/terrace/terrace/core/UseOrder", "use", "(I)V"⟩ : MethodName)) (z := (⟨"com/example/terrace/terrace/core/UseOrder", "use", "(I)V"⟩ : MethodName)) hown (mvT hZ hw_41) (mvT hZ hw_42) (notFace_of_selects (args := #[]) (mvT hZ hw_44)) (mvT hZ hw_44) (mvT hZ hw_43) (by decide) (backOf (W := 0) (rmUse l Z a0 hw [] b19 li kl (own_L 3 1 0 0 0 2 p3 0 1 3 p3 0 2 0 p3 0) (1 : Int32) (3 : Int32) 4 13 (0 : Int32) (2 : Int32) 1 8 h0 n0 Z0 q5_ q9_ own_Ln rfl (by omega) ne_b19_li ⟨by decide, by decide⟩ rfl ⟨by decide, by decide⟩ rfl ⟨by decide, by decide⟩ rfl (by decide) (by decide) ⟨by decide, by decide⟩ ⟨by decide, by decide⟩ rfl rfl ⟨by decide, by decide⟩ rfl ⟨by decide, by decide⟩ rfl (by decide) (by decide) q3_ (by decide) (by decide) (by decide)) hZ hw_45 hw_14 (by decide) (by decide)) q3a q3c (g := (mkF m 146 #[.val (.int p1), .val (.int p2), .val (.int p3), .val (.int (2 : Int32)), .val (.int (0 : Int32)), .val (.ref b1), .val (.ref b11), .val (.ref b12), .val (.ref b19), .unset, .unset, .unset, .unset] [(.int (1 : Int32)), (.ref b19)])) rfl (by rw [hml]; rfl) (Steps.refl _) (argsL := [(.int (1 : Int32))]) (rest := []) (lenOf pd_0 rfl) rfl (by show 2 * 0 + _ ≤ _; exact Nat.le_of_eq rfl) (hb hby at_146) (fun _ _ => ⟨rfl, e0, (by decide : 6 + 0 ≤ _), (by decide : 93 + 0 ≤ _)⟩)
  dsimp only [Pt.U, Pt.locs, Pt.cells, Pt.slots] at X3 l3 y3 z3 st3 hQ3
  subst l3 y3 z3
  obtain ⟨rfl, N3q, Kc3, Vc3⟩ := hQ3
  have N3 := Fr.app N0 N3q
  have sz3 : h0.size ≤ T3.heap.size := Kc3.1
  have Z3 : n0 ≤ T3.heap.size := Nat.le_trans Z0 sz3
  have O3 : Old Z n0 T3.heap := O0.keep Kc3 (allS (show n0 ≤ li by omega) all0)
  have Vl3_ : Arv Z T3.heap li kl .int (64 : Int32) (own_L 1 2 0 0 3 0 p3 0 0 3 p3 0 2 1 p3 0) (.int (0 : Int32)) := Vc3
  have f5 := (q2_.keep Kc3 (ninS ne_b12_li nin0))
  obtain ⟨_, _, ⟨T4, L4, k4, n4⟩, -, X4, ⟨Lc4, hQ4, l4, y4, z4⟩, st4⟩ := Jvm.LawKit.callS X3 hx (y := (⟨"com/example/terrace/terrace/core/UseOrderUsePinLaw", "moveToEnd", "([II)V"⟩ : MethodName)) hown (mvT hZ hw_50) (mvT hZ hw_51) (mvT hZ hw_52) (mvT hZ hw_53) (by decide) (backOf (W := 0) (rmMove l Z a0 hw [] b12 k12 (0 : Int32) (1 : Int32) (2 : Int32) (0 : Int32) T3.heap n0 Z3 f5 (by omega)) hZ hw_53 hw_52 (by decide) (by decide)) (g := (mkF m 153 #[.val (.int p1), .val (.int p2), .val (.int p3), .val (.int (2 : Int32)), .val (.int (0 : Int32)), .val (.ref b1), .val (.ref b11), .val (.ref b12), .val (.ref b19), .unset, .unset, .unset, .unset] [(.int (0 : Int32)), (.ref b12)])) rfl (by rw [hml]; rfl) (argsL := [(.ref b12), (.int (0 : Int32))]) (rest := []) (lenOf pd_5 rfl) rfl (by show 2 * 0 + _ ≤ _; exact Nat.le_of_eq rfl) (hb hby at_153) (fun _ _ => ⟨rfl, rfl, (by decide : 6 + 0 ≤ _), (by decide : 93 + 0 ≤ _)⟩)
  dsimp only [Pt.U, Pt.locs, Pt.cells, Pt.slots] at X4 l4 y4 z4 st4 hQ4
  subst l4 y4 z4
  obtain ⟨rfl, N4q, Kc4, Vc4⟩ := hQ4
  have N4 := Fr.app N3 N4q
  have sz4 : T3.heap.size ≤ T4.heap.size := Kc4.1
  have Z4 : n0 ≤ T4.heap.size := Nat.le_trans Z3 sz4
  have O4 : Old Z n0 T4.heap := O3.keep Kc4 (allS (show n0 ≤ b12 by omega) all0)
  have Vd4 : Arv Z T4.heap b12 k12 .int (3 : Int32) [(.int (1 : Int32)), (.int (2 : Int32)), (.int (0 : Int32))] (.int (0 : Int32)) := Vc4
  have go6 : ∀ t_, Steps p.tables e below (T4.setTop (mkF m 156 #[.val (.int p1), .val (.int p2), .val (.int p3), .val (.int (2 : Int32)), .val (.int (0 : Int32)), .val (.ref b1), .val (.ref b11), .val (.ref b12), .val (.ref b19), .unset, .unset, .unset, .unset] [])) t_ → Steps p.tables e below (T0.setTop (mkF m 139 #[.val (.int p1), .val (.int p2), .val (.int p3), .val (.int (2 : Int32)), .val (.int (0 : Int32)), .val (.ref b1), .val (.ref b11), .val (.ref b12), .val (.ref b19), .unset, .unset, .unset, .unset] [])) t_ := by
    intro t_ k_
    refine pre0 t_ ?_
    show Steps p.tables e below (T0.setTop (mkF m 139 #[.val (.int p1), .val (.int p2), .val (.int p3), .val (.int (2 : Int32)), .val (.int (0 : Int32)), .val (.ref b1), .val (.ref b11), .val (.ref b12), .val (.ref b19), .unset, .unset, .unset, .unset] [])) _
    refine XS.aload X0.here hx rfl (hb hby at_139) rfl rfl ?_
    show Steps p.tables e below (T0.setTop (mkF m 141 #[.val (.int p1), .val (.int p2), .val (.int p3), .val (.int (2 : Int32)), .val (.int (0 : Int32)), .val (.ref b1), .val (.ref b11), .val (.ref b12), .val (.ref b19), .unset, .unset, .unset, .unset] [(.ref b19)])) _
    refine XS.aload X0.here hx rfl (hb hby at_141) rfl rfl ?_
    show Steps p.tables e below (T0.setTop (mkF m 143 #[.val (.int p1), .val (.int p2), .val (.int p3), .val (.int (2 : Int32)), .val (.int (0 : Int32)), .val (.ref b1), .val (.ref b11), .val (.ref b12), .val (.ref b19), .unset, .unset, .unset, .unset] [(.ref b11), (.ref b19)])) _
    refine XS.iload X0.here hx rfl (hb hby at_143) rfl ?_
    show Steps p.tables e below (T0.setTop (mkF m 145 #[.val (.int p1), .val (.int p2), .val (.int p3), .val (.int (2 : Int32)), .val (.int (0 : Int32)), .val (.ref b1), .val (.ref b11), .val (.ref b12), .val (.ref b19), .unset, .unset, .unset, .unset] [(.int (0 : Int32)), (.ref b11), (.ref b19)])) _
    refine X0.iaload hx (j := (0 : Int32)) (v := (.int (1 : Int32))) (by rw [e0]; exact Ar1.1) (State.isArrayOf_alike hZ.alike Ar1.2.1) Ar1.2.2 hin1 hat1 (g := (mkF m 145 #[.val (.int p1), .val (.int p2), .val (.int p3), .val (.int (2 : Int32)), .val (.int (0 : Int32)), .val (.ref b1), .val (.ref b11), .val (.ref b12), .val (.ref b19), .unset, .unset, .unset, .unset] [(.int (0 : Int32)), (.ref b11), (.ref b19)])) rfl rfl (hb hby at_145) _ ?_
    show Steps p.tables e below (T0.setTop (mkF m 146 #[.val (.int p1), .val (.int p2), .val (.int p3), .val (.int (2 : Int32)), .val (.int (0 : Int32)), .val (.ref b1), .val (.ref b11), .val (.ref b12), .val (.ref b19), .unset, .unset, .unset, .unset] [(.int (1 : Int32)), (.ref b19)])) _
    refine st3.trans ?_
    show Steps p.tables e below (T3.setTop (mkF m 149 #[.val (.int p1), .val (.int p2), .val (.int p3), .val (.int (2 : Int32)), .val (.int (0 : Int32)), .val (.ref b1), .val (.ref b11), .val (.ref b12), .val (.ref b19), .unset, .unset, .unset, .unset] [])) _
    refine XS.aload X3.here hx rfl (hb hby at_149) rfl rfl ?_
    show Steps p.tables e below (T3.setTop (mkF m 151 #[.val (.int p1), .val (.int p2), .val (.int p3), .val (.int (2 : Int32)), .val (.int (0 : Int32)), .val (.ref b1), .val (.ref b11), .val (.ref b12), .val (.ref b19), .unset, .unset, .unset, .unset] [(.ref b12)])) _
    refine XS.iload X3.here hx rfl (hb hby at_151) rfl ?_
    show Steps p.tables e below (T3.setTop (mkF m 153 #[.val (.int p1), .val (.int p2), .val (.int p3), .val (.int (2 : Int32)), .val (.int (0 : Int32)), .val (.ref b1), .val (.ref b11), .val (.ref b12), .val (.ref b19), .unset, .unset, .unset, .unset] [(.int (0 : Int32)), (.ref b12)])) _
    refine st4 _ ?_
    exact k_
  have f7 := (q0_.keep Kc3 (ninS ne_b1_li nin0))
  have f8 := (f7.keep Kc4 (ninS ne_b1_b12 nin0))
  have f9 := (f2.keep Kc3 (ninS ne_b11_li nin0))
  have f10 := (f9.keep Kc4 (ninS ne_b11_b12 nin0))
  have f11 := (q3_.keep Kc3)
  have f12 := (f11.keep Kc4)
  have f13 := (q4_.keep Kc3 (ninS ne_b19_li nin0))
  have f14 := (f13.keep Kc4 (ninS (Ne.symm ne_b12_b19) nin0))
  have f15 := (q5_.keep Kc3 (ninS ne_b19_li nin0))
  have f16 := (f15.keep Kc4 (ninS (Ne.symm ne_b12_b19) nin0))
  have f17 := (q6_.keep Kc3 (ninS ne_b19_li nin0))
  have f18 := (f17.keep Kc4 (ninS (Ne.symm ne_b12_b19) nin0))
  have f19 := (q7_.keep Kc3 (ninS ne_b19_li nin0))
  have f20 := (f19.keep Kc4 (ninS (Ne.symm ne_b12_b19) nin0))
  have f21 := (q8_.keep Kc3 (ninS ne_en_li nin0))
  have f22 := (f21.keep Kc4 (ninS (Ne.symm ne_b12_en) nin0))
  have f23 := (Vl3_.keep Kc4 (ninS (Ne.symm ne_b12_li) nin0))
  obtain ⟨s2_, o_, hs_, h1_, h2_, v_, L_, h3_, hq_, h4_⟩ := pc156_2 l Z a0 hw ws p1 p2 p3 j7 j8 j9 b1 b11 b12 b19 en li k1 k11 k12 ke kl (2 : Int32) (0 : Int32) T4.heap n0 Bd hml hZ X4 rfl N4 Z4 O4 f8 f10 Vd4 f12 f14 f16 f18 f20 f22 f23 g_b1 g_b11 g_b12 g_b19 g_en g_li ne_b1_b11 ne_b1_b12 ne_b1_b19 ne_b1_en ne_b1_li ne_b11_b12 ne_b11_b19 ne_b11_en ne_b11_li ne_b12_b19 ne_b12_en ne_b12_li ne_b19_en ne_b19_li ne_en_li Ov_ Ej7 Ej8 Ej9
  exact ⟨s2_, o_, go6 _ hs_, h1_, h2_, v_, L_, h3_, hq_, h4_⟩
set_option maxRecDepth 65536 in
set_option maxHeartbeats 40000000 in
theorem pc139_16 (l : Launch) (Z : State) (a0 : Array Value) (hw : ∀ d ∈ tables_1, d.before a0 Z = true) (ws : List Jvm.Cond) (p1 : Int32) (p2 : Int32) (p3 : Int32) (j7 : Nat) (j8 : Nat) (j9 : Nat) (b1 : Nat) (b11 : Nat) (b12 : Nat) (b19 : Nat) (en : Nat) (li : Nat) (k1 : ClassId) (k11 : ClassId) (k12 : ClassId) (ke : ClassId) (kl : ClassId) (h0 : Heap) (n0 : Nat) {p : Program} {e : Env} {s : State} {m : MethodId} {below : List Frame} {meth : Method} {c : Code} {s₁ T0 : State} {locs : List Loc}
    (Bd : BodyLoose p l x (head1 (Jvm.Cond.code x code maxLocals ret :: ws) room_1) code maxLocals ret e s m #[(.int p1), (.int p2), (.int p3)] below meth c s₁) (hml : c.maxLocals = 13) (hZ : Z.Warmed39 s.vm) (X0 : Stand p l e room_1 s m #[(.int p1), (.int p2), (.int p3)] below meth c T0 locs 6 93) (e0 : T0.heap = h0) (N0 : Fr n0 locs) (Z0 : n0 ≤ h0.size) (O0 : Old Z n0 h0) (q0_ : Arv Z h0 b1 k1 (.object "java/lang/Integer") (3 : Int32) [(.ref j7), (.ref j8), (.ref j9)] .null) (q1_ : Arv Z h0 b11 k11 .int (3 : Int32) [(.int (1 : Int32)), (.int (2 : Int32)), (.int (3 : Int32))] (.int (0 : Int32))) (q2_ : Arv Z h0 b12 k12 .int (3 : Int32) [(.int (0 : Int32)), (.int (1 : Int32)), (.int (2 : Int32))] (.int (0 : Int32))) (q3_ : Exa Z h0 b19 "com/example/terrace/terrace/core/UseOrder") (q4_ : Fld Z h0 b19 "com/example/terrace/terrace/core/UseOrder" "entries" "[Ljava/lang/Object;" (.ref en)) (q5_ : Fld Z h0 b19 "com/example/terrace/terrace/core/UseOrder" "links" "[I" (.ref li)) (q6_ : Fld Z h0 b19 "com/example/terrace/terrace/core/UseOrder" "free" "I" (.int (0 : Int32))) (q7_ : Fld Z h0 b19 "com/example/terrace/terrace/core/UseOrder" "highest" "I" (.int (3 : Int32))) (q8_ : Arv Z h0 en ke (.object "java/lang/Object") (16 : Int32) (own_E (.ref j7) (.ref j8) (.ref j9)) .null) (q9_ : Arv Z h0 li kl .int (64 : Int32) (own_L 3 1 0 0 0 2 p3 0 1 3 p3 0 2 0 p3 0) (.int (0 : Int32))) (g_b1 : n0 ≤ b1) (g_b11 : n0 ≤ b11) (g_b12 : n0 ≤ b12) (g_b19 : n0 ≤ b19) (g_en : n0 ≤ en) (g_li : n0 ≤ li) (ne_b1_b11 : b1 ≠ b11) (ne_b1_b12 : b1 ≠ b12) (ne_b1_b19 : b1 ≠ b19) (ne_b1_en : b1 ≠ en) (ne_b1_li : b1 ≠ li) (ne_b11_b12 : b11 ≠ b12) (ne_b11_b19 : b11 ≠ b19) (ne_b11_en : b11 ≠ en) (ne_b11_li : b11 ≠ li) (ne_b12_b19 : b12 ≠ b19) (ne_b12_en : b12 ≠ en) (ne_b12_li : b12 ≠ li) (ne_b19_en : b19 ≠ en) (ne_b19_li : b19 ≠ li) (ne_en_li : en ≠ li) (Ov_ : Ovr Z ke "java/lang/Object") (Ej7 : Exa Z Z.heap j7 "java/lang/Integer") (Ej8 : Exa Z Z.heap j8 "java/lang/Integer") (Ej9 : Exa Z Z.heap j9 "java/lang/Integer") :
    ∃ s₂ o, Steps p.tables e below (T0.setTop (mkF m 139 #[.val (.int p1), .val (.int p2), .val (.int p3), .val (.int (2 : Int32)), .val (.int (1 : Int32)), .val (.ref b1), .val (.ref b11), .val (.ref b12), .val (.ref b19), .unset, .unset, .unset, .unset] [])) s₂ ∧ s₂.status = .running ∧ Ended s₂ below o ∧ ∃ v L, o = .returned v ∧ (v = some (.int 1) ∧ Fr n0 L) ∧ FrameEnd s o s₂ L room_1.cells room_1.slots := by
  have hw_14 := hw _ (List.mem_of_getElem? (i := 14) rfl)
  have hw_41 := hw _ (List.mem_of_getElem? (i := 41) rfl)
  have hw_42 := hw _ (List.mem_of_getElem? (i := 42) rfl)
  have hw_43 := hw _ (List.mem_of_getElem? (i := 43) rfl)
  have hw_44 := hw _ (List.mem_of_getElem? (i := 44) rfl)
  have hw_45 := hw _ (List.mem_of_getElem? (i := 45) rfl)
  have hw_50 := hw _ (List.mem_of_getElem? (i := 50) rfl)
  have hw_51 := hw _ (List.mem_of_getElem? (i := 51) rfl)
  have hw_52 := hw _ (List.mem_of_getElem? (i := 52) rfl)
  have hw_53 := hw _ (List.mem_of_getElem? (i := 53) rfl)
  have hx := Bd.exec
  have hby := Bd.bytes
  have hown : s.vm.findClass "com/example/terrace/terrace/core/UseOrderUsePinLaw" = some m.cls := findClass_of_methodNamed Bd.named
  have hnm := (name_of_methodNamed Bd.named Bd.method).1
  have pre0 : ∀ t_, Steps p.tables e below (T0.setTop (mkF m 139 #[.val (.int p1), .val (.int p2), .val (.int p3), .val (.int (2 : Int32)), .val (.int (1 : Int32)), .val (.ref b1), .val (.ref b11), .val (.ref b12), .val (.ref b19), .unset, .unset, .unset, .unset] [])) t_ → Steps p.tables e below (T0.setTop (mkF m 139 #[.val (.int p1), .val (.int p2), .val (.int p3), .val (.int (2 : Int32)), .val (.int (1 : Int32)), .val (.ref b1), .val (.ref b11), .val (.ref b12), .val (.ref b19), .unset, .unset, .unset, .unset] [])) t_ := fun _ k_ => k_
  obtain ⟨cl1, Ar1, q1, S1, M1, H1, G1⟩ := q1_
  have f2 : Arv Z h0 b11 k11 .int (3 : Int32) [(.int (1 : Int32)), (.int (2 : Int32)), (.int (3 : Int32))] (.int (0 : Int32)) := ⟨cl1, Ar1, q1, S1, M1, H1, G1⟩
  have hin1 : ¬ ((1 : Int32) < 0 ∨ cl1.slots.size ≤ ((1 : Int32)).toNatClampNeg) := inb_of S1 ⟨by decide, by decide⟩
  have hat1 : cl1.slots[((1 : Int32)).toNatClampNeg]? = some (.int (2 : Int32)) := Has.at H1 hin1 rfl
  obtain ⟨cq3, kq3, q3a, q3b, q3c⟩ := isOf hZ e0 q3_
  obtain ⟨_, _, ⟨T3, L3, k3, n3⟩, -, X3, ⟨Lc3, hQ3, l3, y3, z3⟩, st3⟩ := X0.virtualBack hx (y := (⟨"com/example/terrace/terrace/core/UseOrder", "use", "(I)V"⟩ : MethodName)) (z := (⟨"com/example/terrace/terrace/core/UseOrder", "use", "(I)V"⟩ : MethodName)) hown (mvT hZ hw_41) (mvT hZ hw_42) (notFace_of_selects (args := #[]) (mvT hZ hw_44)) (mvT hZ hw_44) (mvT hZ hw_43) (by decide) (backOf (W := 0) (rmUse l Z a0 hw [] b19 li kl (own_L 3 1 0 0 0 2 p3 0 1 3 p3 0 2 0 p3 0) (2 : Int32) (3 : Int32) 8 13 (1 : Int32) (3 : Int32) 5 12 h0 n0 Z0 q5_ q9_ own_Ln rfl (by omega) ne_b19_li ⟨by decide, by decide⟩ rfl ⟨by decide, by decide⟩ rfl ⟨by decide, by decide⟩ rfl (by decide) (by decide) ⟨by decide, by decide⟩ ⟨by decide, by decide⟩ rfl rfl ⟨by decide, by decide⟩ rfl ⟨by decide, by decide⟩ rfl (by decide) (by decide) q3_ (by decide) (by decide) (by decide)) hZ hw_45 hw_14 (by decide) (by decide)) q3a q3c (g := (mkF m 146 #[.val (.int p1), .val (.int p2), .val (.int p3), .val (.int (2 : Int32)), .val (.int (1 : Int32)), .val (.ref b1), .val (.ref b11), .val (.ref b12), .val (.ref b19), .unset, .unset, .unset, .unset] [(.int (2 : Int32)), (.ref b19)])) rfl (by rw [hml]; rfl) (Steps.refl _) (argsL := [(.int (2 : Int32))]) (rest := []) (lenOf pd_0 rfl) rfl (by show 2 * 0 + _ ≤ _; exact Nat.le_of_eq rfl) (hb hby at_146) (fun _ _ => ⟨rfl, e0, (by decide : 6 + 0 ≤ _), (by decide : 93 + 0 ≤ _)⟩)
  dsimp only [Pt.U, Pt.locs, Pt.cells, Pt.slots] at X3 l3 y3 z3 st3 hQ3
  subst l3 y3 z3
  obtain ⟨rfl, N3q, Kc3, Vc3⟩ := hQ3
  have N3 := Fr.app N0 N3q
  have sz3 : h0.size ≤ T3.heap.size := Kc3.1
  have Z3 : n0 ≤ T3.heap.size := Nat.le_trans Z0 sz3
  have O3 : Old Z n0 T3.heap := O0.keep Kc3 (allS (show n0 ≤ li by omega) all0)
  have Vl3_ : Arv Z T3.heap li kl .int (64 : Int32) (own_L 2 1 0 0 0 3 p3 0 3 0 p3 0 1 2 p3 0) (.int (0 : Int32)) := Vc3
  have f5 := (q2_.keep Kc3 (ninS ne_b12_li nin0))
  obtain ⟨_, _, ⟨T4, L4, k4, n4⟩, -, X4, ⟨Lc4, hQ4, l4, y4, z4⟩, st4⟩ := Jvm.LawKit.callS X3 hx (y := (⟨"com/example/terrace/terrace/core/UseOrderUsePinLaw", "moveToEnd", "([II)V"⟩ : MethodName)) hown (mvT hZ hw_50) (mvT hZ hw_51) (mvT hZ hw_52) (mvT hZ hw_53) (by decide) (backOf (W := 0) (rmMove l Z a0 hw [] b12 k12 (0 : Int32) (1 : Int32) (2 : Int32) (1 : Int32) T3.heap n0 Z3 f5 (by omega)) hZ hw_53 hw_52 (by decide) (by decide)) (g := (mkF m 153 #[.val (.int p1), .val (.int p2), .val (.int p3), .val (.int (2 : Int32)), .val (.int (1 : Int32)), .val (.ref b1), .val (.ref b11), .val (.ref b12), .val (.ref b19), .unset, .unset, .unset, .unset] [(.int (1 : Int32)), (.ref b12)])) rfl (by rw [hml]; rfl) (argsL := [(.ref b12), (.int (1 : Int32))]) (rest := []) (lenOf pd_5 rfl) rfl (by show 2 * 0 + _ ≤ _; exact Nat.le_of_eq rfl) (hb hby at_153) (fun _ _ => ⟨rfl, rfl, (by decide : 6 + 0 ≤ _), (by decide : 93 + 0 ≤ _)⟩)
  dsimp only [Pt.U, Pt.locs, Pt.cells, Pt.slots] at X4 l4 y4 z4 st4 hQ4
  subst l4 y4 z4
  obtain ⟨rfl, N4q, Kc4, Vc4⟩ := hQ4
  have N4 := Fr.app N3 N4q
  have sz4 : T3.heap.size ≤ T4.heap.size := Kc4.1
  have Z4 : n0 ≤ T4.heap.size := Nat.le_trans Z3 sz4
  have O4 : Old Z n0 T4.heap := O3.keep Kc4 (allS (show n0 ≤ b12 by omega) all0)
  have Vd4 : Arv Z T4.heap b12 k12 .int (3 : Int32) [(.int (0 : Int32)), (.int (2 : Int32)), (.int (1 : Int32))] (.int (0 : Int32)) := Vc4
  have go6 : ∀ t_, Steps p.tables e below (T4.setTop (mkF m 156 #[.val (.int p1), .val (.int p2), .val (.int p3), .val (.int (2 : Int32)), .val (.int (1 : Int32)), .val (.ref b1), .val (.ref b11), .val (.ref b12), .val (.ref b19), .unset, .unset, .unset, .unset] [])) t_ → Steps p.tables e below (T0.setTop (mkF m 139 #[.val (.int p1), .val (.int p2), .val (.int p3), .val (.int (2 : Int32)), .val (.int (1 : Int32)), .val (.ref b1), .val (.ref b11), .val (.ref b12), .val (.ref b19), .unset, .unset, .unset, .unset] [])) t_ := by
    intro t_ k_
    refine pre0 t_ ?_
    show Steps p.tables e below (T0.setTop (mkF m 139 #[.val (.int p1), .val (.int p2), .val (.int p3), .val (.int (2 : Int32)), .val (.int (1 : Int32)), .val (.ref b1), .val (.ref b11), .val (.ref b12), .val (.ref b19), .unset, .unset, .unset, .unset] [])) _
    refine XS.aload X0.here hx rfl (hb hby at_139) rfl rfl ?_
    show Steps p.tables e below (T0.setTop (mkF m 141 #[.val (.int p1), .val (.int p2), .val (.int p3), .val (.int (2 : Int32)), .val (.int (1 : Int32)), .val (.ref b1), .val (.ref b11), .val (.ref b12), .val (.ref b19), .unset, .unset, .unset, .unset] [(.ref b19)])) _
    refine XS.aload X0.here hx rfl (hb hby at_141) rfl rfl ?_
    show Steps p.tables e below (T0.setTop (mkF m 143 #[.val (.int p1), .val (.int p2), .val (.int p3), .val (.int (2 : Int32)), .val (.int (1 : Int32)), .val (.ref b1), .val (.ref b11), .val (.ref b12), .val (.ref b19), .unset, .unset, .unset, .unset] [(.ref b11), (.ref b19)])) _
    refine XS.iload X0.here hx rfl (hb hby at_143) rfl ?_
    show Steps p.tables e below (T0.setTop (mkF m 145 #[.val (.int p1), .val (.int p2), .val (.int p3), .val (.int (2 : Int32)), .val (.int (1 : Int32)), .val (.ref b1), .val (.ref b11), .val (.ref b12), .val (.ref b19), .unset, .unset, .unset, .unset] [(.int (1 : Int32)), (.ref b11), (.ref b19)])) _
    refine X0.iaload hx (j := (1 : Int32)) (v := (.int (2 : Int32))) (by rw [e0]; exact Ar1.1) (State.isArrayOf_alike hZ.alike Ar1.2.1) Ar1.2.2 hin1 hat1 (g := (mkF m 145 #[.val (.int p1), .val (.int p2), .val (.int p3), .val (.int (2 : Int32)), .val (.int (1 : Int32)), .val (.ref b1), .val (.ref b11), .val (.ref b12), .val (.ref b19), .unset, .unset, .unset, .unset] [(.int (1 : Int32)), (.ref b11), (.ref b19)])) rfl rfl (hb hby at_145) _ ?_
    show Steps p.tables e below (T0.setTop (mkF m 146 #[.val (.int p1), .val (.int p2), .val (.int p3), .val (.int (2 : Int32)), .val (.int (1 : Int32)), .val (.ref b1), .val (.ref b11), .val (.ref b12), .val (.ref b19), .unset, .unset, .unset, .unset] [(.int (2 : Int32)), (.ref b19)])) _
    refine st3.trans ?_
    show Steps p.tables e below (T3.setTop (mkF m 149 #[.val (.int p1), .val (.int p2), .val (.int p3), .val (.int (2 : Int32)), .val (.int (1 : Int32)), .val (.ref b1), .val (.ref b11), .val (.ref b12), .val (.ref b19), .unset, .unset, .unset, .unset] [])) _
    refine XS.aload X3.here hx rfl (hb hby at_149) rfl rfl ?_
    show Steps p.tables e below (T3.setTop (mkF m 151 #[.val (.int p1), .val (.int p2), .val (.int p3), .val (.int (2 : Int32)), .val (.int (1 : Int32)), .val (.ref b1), .val (.ref b11), .val (.ref b12), .val (.ref b19), .unset, .unset, .unset, .unset] [(.ref b12)])) _
    refine XS.iload X3.here hx rfl (hb hby at_151) rfl ?_
    show Steps p.tables e below (T3.setTop (mkF m 153 #[.val (.int p1), .val (.int p2), .val (.int p3), .val (.int (2 : Int32)), .val (.int (1 : Int32)), .val (.ref b1), .val (.ref b11), .val (.ref b12), .val (.ref b19), .unset, .unset, .unset, .unset] [(.int (1 : Int32)), (.ref b12)])) _
    refine st4 _ ?_
    exact k_
  have f7 := (q0_.keep Kc3 (ninS ne_b1_li nin0))
  have f8 := (f7.keep Kc4 (ninS ne_b1_b12 nin0))
  have f9 := (f2.keep Kc3 (ninS ne_b11_li nin0))
  have f10 := (f9.keep Kc4 (ninS ne_b11_b12 nin0))
  have f11 := (q3_.keep Kc3)
  have f12 := (f11.keep Kc4)
  have f13 := (q4_.keep Kc3 (ninS ne_b19_li nin0))
  have f14 := (f13.keep Kc4 (ninS (Ne.symm ne_b12_b19) nin0))
  have f15 := (q5_.keep Kc3 (ninS ne_b19_li nin0))
  have f16 := (f15.keep Kc4 (ninS (Ne.symm ne_b12_b19) nin0))
  have f17 := (q6_.keep Kc3 (ninS ne_b19_li nin0))
  have f18 := (f17.keep Kc4 (ninS (Ne.symm ne_b12_b19) nin0))
  have f19 := (q7_.keep Kc3 (ninS ne_b19_li nin0))
  have f20 := (f19.keep Kc4 (ninS (Ne.symm ne_b12_b19) nin0))
  have f21 := (q8_.keep Kc3 (ninS ne_en_li nin0))
  have f22 := (f21.keep Kc4 (ninS (Ne.symm ne_b12_en) nin0))
  have f23 := (Vl3_.keep Kc4 (ninS (Ne.symm ne_b12_li) nin0))
  obtain ⟨s2_, o_, hs_, h1_, h2_, v_, L_, h3_, hq_, h4_⟩ := pc156_11 l Z a0 hw ws p1 p2 p3 j7 j8 j9 b1 b11 b12 b19 en li k1 k11 k12 ke kl (2 : Int32) (1 : Int32) T4.heap n0 Bd hml hZ X4 rfl N4 Z4 O4 f8 f10 Vd4 f12 f14 f16 f18 f20 f22 f23 g_b1 g_b11 g_b12 g_b19 g_en g_li ne_b1_b11 ne_b1_b12 ne_b1_b19 ne_b1_en ne_b1_li ne_b11_b12 ne_b11_b19 ne_b11_en ne_b11_li ne_b12_b19 ne_b12_en ne_b12_li ne_b19_en ne_b19_li ne_en_li Ov_ Ej7 Ej8 Ej9
  exact ⟨s2_, o_, go6 _ hs_, h1_, h2_, v_, L_, h3_, hq_, h4_⟩
set_option maxRecDepth 65536 in
set_option maxHeartbeats 40000000 in
theorem pc139_17 (l : Launch) (Z : State) (a0 : Array Value) (hw : ∀ d ∈ tables_1, d.before a0 Z = true) (ws : List Jvm.Cond) (p1 : Int32) (p2 : Int32) (p3 : Int32) (j7 : Nat) (j8 : Nat) (j9 : Nat) (b1 : Nat) (b11 : Nat) (b12 : Nat) (b19 : Nat) (en : Nat) (li : Nat) (k1 : ClassId) (k11 : ClassId) (k12 : ClassId) (ke : ClassId) (kl : ClassId) (h0 : Heap) (n0 : Nat) {p : Program} {e : Env} {s : State} {m : MethodId} {below : List Frame} {meth : Method} {c : Code} {s₁ T0 : State} {locs : List Loc}
    (Bd : BodyLoose p l x (head1 (Jvm.Cond.code x code maxLocals ret :: ws) room_1) code maxLocals ret e s m #[(.int p1), (.int p2), (.int p3)] below meth c s₁) (hml : c.maxLocals = 13) (hZ : Z.Warmed39 s.vm) (X0 : Stand p l e room_1 s m #[(.int p1), (.int p2), (.int p3)] below meth c T0 locs 6 93) (e0 : T0.heap = h0) (N0 : Fr n0 locs) (Z0 : n0 ≤ h0.size) (O0 : Old Z n0 h0) (q0_ : Arv Z h0 b1 k1 (.object "java/lang/Integer") (3 : Int32) [(.ref j7), (.ref j8), (.ref j9)] .null) (q1_ : Arv Z h0 b11 k11 .int (3 : Int32) [(.int (1 : Int32)), (.int (2 : Int32)), (.int (3 : Int32))] (.int (0 : Int32))) (q2_ : Arv Z h0 b12 k12 .int (3 : Int32) [(.int (0 : Int32)), (.int (1 : Int32)), (.int (2 : Int32))] (.int (0 : Int32))) (q3_ : Exa Z h0 b19 "com/example/terrace/terrace/core/UseOrder") (q4_ : Fld Z h0 b19 "com/example/terrace/terrace/core/UseOrder" "entries" "[Ljava/lang/Object;" (.ref en)) (q5_ : Fld Z h0 b19 "com/example/terrace/terrace/core/UseOrder" "links" "[I" (.ref li)) (q6_ : Fld Z h0 b19 "com/example/terrace/terrace/core/UseOrder" "free" "I" (.int (0 : Int32))) (q7_ : Fld Z h0 b19 "com/example/terrace/terrace/core/UseOrder" "highest" "I" (.int (3 : Int32))) (q8_ : Arv Z h0 en ke (.object "java/lang/Object") (16 : Int32) (own_E (.ref j7) (.ref j8) (.ref j9)) .null) (q9_ : Arv Z h0 li kl .int (64 : Int32) (own_L 3 1 0 0 0 2 p3 0 1 3 p3 0 2 0 p3 0) (.int (0 : Int32))) (g_b1 : n0 ≤ b1) (g_b11 : n0 ≤ b11) (g_b12 : n0 ≤ b12) (g_b19 : n0 ≤ b19) (g_en : n0 ≤ en) (g_li : n0 ≤ li) (ne_b1_b11 : b1 ≠ b11) (ne_b1_b12 : b1 ≠ b12) (ne_b1_b19 : b1 ≠ b19) (ne_b1_en : b1 ≠ en) (ne_b1_li : b1 ≠ li) (ne_b11_b12 : b11 ≠ b12) (ne_b11_b19 : b11 ≠ b19) (ne_b11_en : b11 ≠ en) (ne_b11_li : b11 ≠ li) (ne_b12_b19 : b12 ≠ b19) (ne_b12_en : b12 ≠ en) (ne_b12_li : b12 ≠ li) (ne_b19_en : b19 ≠ en) (ne_b19_li : b19 ≠ li) (ne_en_li : en ≠ li) (Ov_ : Ovr Z ke "java/lang/Object") (Ej7 : Exa Z Z.heap j7 "java/lang/Integer") (Ej8 : Exa Z Z.heap j8 "java/lang/Integer") (Ej9 : Exa Z Z.heap j9 "java/lang/Integer") :
    ∃ s₂ o, Steps p.tables e below (T0.setTop (mkF m 139 #[.val (.int p1), .val (.int p2), .val (.int p3), .val (.int (2 : Int32)), .val (.int (2 : Int32)), .val (.ref b1), .val (.ref b11), .val (.ref b12), .val (.ref b19), .unset, .unset, .unset, .unset] [])) s₂ ∧ s₂.status = .running ∧ Ended s₂ below o ∧ ∃ v L, o = .returned v ∧ (v = some (.int 1) ∧ Fr n0 L) ∧ FrameEnd s o s₂ L room_1.cells room_1.slots := by
  have hw_14 := hw _ (List.mem_of_getElem? (i := 14) rfl)
  have hw_41 := hw _ (List.mem_of_getElem? (i := 41) rfl)
  have hw_42 := hw _ (List.mem_of_getElem? (i := 42) rfl)
  have hw_43 := hw _ (List.mem_of_getElem? (i := 43) rfl)
  have hw_44 := hw _ (List.mem_of_getElem? (i := 44) rfl)
  have hw_45 := hw _ (List.mem_of_getElem? (i := 45) rfl)
  have hw_50 := hw _ (List.mem_of_getElem? (i := 50) rfl)
  have hw_51 := hw _ (List.mem_of_getElem? (i := 51) rfl)
  have hw_52 := hw _ (List.mem_of_getElem? (i := 52) rfl)
  have hw_53 := hw _ (List.mem_of_getElem? (i := 53) rfl)
  have hx := Bd.exec
  have hby := Bd.bytes
  have hown : s.vm.findClass "com/example/terrace/terrace/core/UseOrderUsePinLaw" = some m.cls := findClass_of_methodNamed Bd.named
  have hnm := (name_of_methodNamed Bd.named Bd.method).1
  have pre0 : ∀ t_, Steps p.tables e below (T0.setTop (mkF m 139 #[.val (.int p1), .val (.int p2), .val (.int p3), .val (.int (2 : Int32)), .val (.int (2 : Int32)), .val (.ref b1), .val (.ref b11), .val (.ref b12), .val (.ref b19), .unset, .unset, .unset, .unset] [])) t_ → Steps p.tables e below (T0.setTop (mkF m 139 #[.val (.int p1), .val (.int p2), .val (.int p3), .val (.int (2 : Int32)), .val (.int (2 : Int32)), .val (.ref b1), .val (.ref b11), .val (.ref b12), .val (.ref b19), .unset, .unset, .unset, .unset] [])) t_ := fun _ k_ => k_
  obtain ⟨cl1, Ar1, q1, S1, M1, H1, G1⟩ := q1_
  have f2 : Arv Z h0 b11 k11 .int (3 : Int32) [(.int (1 : Int32)), (.int (2 : Int32)), (.int (3 : Int32))] (.int (0 : Int32)) := ⟨cl1, Ar1, q1, S1, M1, H1, G1⟩
  have hin1 : ¬ ((2 : Int32) < 0 ∨ cl1.slots.size ≤ ((2 : Int32)).toNatClampNeg) := inb_of S1 ⟨by decide, by decide⟩
  have hat1 : cl1.slots[((2 : Int32)).toNatClampNeg]? = some (.int (3 : Int32)) := Has.at H1 hin1 rfl
  obtain ⟨cq3, kq3, q3a, q3b, q3c⟩ := isOf hZ e0 q3_
  obtain ⟨_, _, ⟨T3, L3, k3, n3⟩, -, X3, ⟨Lc3, hQ3, l3, y3, z3⟩, st3⟩ := X0.virtualBack hx (y := (⟨"com/example/terrace/terrace/core/UseOrder", "use", "(I)V"⟩ : MethodName)) (z := (⟨"com/example/terrace/terrace/core/UseOrder", "use", "(I)V"⟩ : MethodName)) hown (mvT hZ hw_41) (mvT hZ hw_42) (notFace_of_selects (args := #[]) (mvT hZ hw_44)) (mvT hZ hw_44) (mvT hZ hw_43) (by decide) (backOf (W := 0) (rmUseN l Z a0 hw [] b19 li kl (own_L 3 1 0 0 0 2 p3 0 1 3 p3 0 2 0 p3 0) (3 : Int32) h0 n0 Z0 q5_ q9_ rfl) hZ hw_45 hw_14 (by decide) (by decide)) q3a q3c (g := (mkF m 146 #[.val (.int p1), .val (.int p2), .val (.int p3), .val (.int (2 : Int32)), .val (.int (2 : Int32)), .val (.ref b1), .val (.ref b11), .val (.ref b12), .val (.ref b19), .unset, .unset, .unset, .unset] [(.int (3 : Int32)), (.ref b19)])) rfl (by rw [hml]; rfl) (Steps.refl _) (argsL := [(.int (3 : Int32))]) (rest := []) (lenOf pd_0 rfl) rfl (by show 2 * 0 + _ ≤ _; exact Nat.le_of_eq rfl) (hb hby at_146) (fun _ _ => ⟨rfl, e0, (by decide : 6 + 0 ≤ _), (by decide : 93 + 0 ≤ _)⟩)
  dsimp only [Pt.U, Pt.locs, Pt.cells, Pt.slots] at X3 l3 y3 z3 st3 hQ3
  subst l3 y3 z3
  obtain ⟨rfl, N3q, Kc3, Vc3⟩ := hQ3
  have N3 := Fr.app N0 N3q
  have sz3 : h0.size ≤ T3.heap.size := Kc3.1
  have Z3 : n0 ≤ T3.heap.size := Nat.le_trans Z0 sz3
  have O3 : Old Z n0 T3.heap := O0.keep Kc3 (allS (show n0 ≤ li by omega) all0)
  have Vl3_ : Arv Z T3.heap li kl .int (64 : Int32) (own_L 3 1 0 0 0 2 p3 0 1 3 p3 0 2 0 p3 0) (.int (0 : Int32)) := Vc3
  have f5 := (q2_.keep Kc3 (ninS ne_b12_li nin0))
  obtain ⟨_, _, ⟨T4, L4, k4, n4⟩, -, X4, ⟨Lc4, hQ4, l4, y4, z4⟩, st4⟩ := Jvm.LawKit.callS X3 hx (y := (⟨"com/example/terrace/terrace/core/UseOrderUsePinLaw", "moveToEnd", "([II)V"⟩ : MethodName)) hown (mvT hZ hw_50) (mvT hZ hw_51) (mvT hZ hw_52) (mvT hZ hw_53) (by decide) (backOf (W := 0) (rmMove l Z a0 hw [] b12 k12 (0 : Int32) (1 : Int32) (2 : Int32) (2 : Int32) T3.heap n0 Z3 f5 (by omega)) hZ hw_53 hw_52 (by decide) (by decide)) (g := (mkF m 153 #[.val (.int p1), .val (.int p2), .val (.int p3), .val (.int (2 : Int32)), .val (.int (2 : Int32)), .val (.ref b1), .val (.ref b11), .val (.ref b12), .val (.ref b19), .unset, .unset, .unset, .unset] [(.int (2 : Int32)), (.ref b12)])) rfl (by rw [hml]; rfl) (argsL := [(.ref b12), (.int (2 : Int32))]) (rest := []) (lenOf pd_5 rfl) rfl (by show 2 * 0 + _ ≤ _; exact Nat.le_of_eq rfl) (hb hby at_153) (fun _ _ => ⟨rfl, rfl, (by decide : 6 + 0 ≤ _), (by decide : 93 + 0 ≤ _)⟩)
  dsimp only [Pt.U, Pt.locs, Pt.cells, Pt.slots] at X4 l4 y4 z4 st4 hQ4
  subst l4 y4 z4
  obtain ⟨rfl, N4q, Kc4, Vc4⟩ := hQ4
  have N4 := Fr.app N3 N4q
  have sz4 : T3.heap.size ≤ T4.heap.size := Kc4.1
  have Z4 : n0 ≤ T4.heap.size := Nat.le_trans Z3 sz4
  have O4 : Old Z n0 T4.heap := O3.keep Kc4 (allS (show n0 ≤ b12 by omega) all0)
  have Vd4 : Arv Z T4.heap b12 k12 .int (3 : Int32) [(.int (0 : Int32)), (.int (1 : Int32)), (.int (2 : Int32))] (.int (0 : Int32)) := Vc4
  have go6 : ∀ t_, Steps p.tables e below (T4.setTop (mkF m 156 #[.val (.int p1), .val (.int p2), .val (.int p3), .val (.int (2 : Int32)), .val (.int (2 : Int32)), .val (.ref b1), .val (.ref b11), .val (.ref b12), .val (.ref b19), .unset, .unset, .unset, .unset] [])) t_ → Steps p.tables e below (T0.setTop (mkF m 139 #[.val (.int p1), .val (.int p2), .val (.int p3), .val (.int (2 : Int32)), .val (.int (2 : Int32)), .val (.ref b1), .val (.ref b11), .val (.ref b12), .val (.ref b19), .unset, .unset, .unset, .unset] [])) t_ := by
    intro t_ k_
    refine pre0 t_ ?_
    show Steps p.tables e below (T0.setTop (mkF m 139 #[.val (.int p1), .val (.int p2), .val (.int p3), .val (.int (2 : Int32)), .val (.int (2 : Int32)), .val (.ref b1), .val (.ref b11), .val (.ref b12), .val (.ref b19), .unset, .unset, .unset, .unset] [])) _
    refine XS.aload X0.here hx rfl (hb hby at_139) rfl rfl ?_
    show Steps p.tables e below (T0.setTop (mkF m 141 #[.val (.int p1), .val (.int p2), .val (.int p3), .val (.int (2 : Int32)), .val (.int (2 : Int32)), .val (.ref b1), .val (.ref b11), .val (.ref b12), .val (.ref b19), .unset, .unset, .unset, .unset] [(.ref b19)])) _
    refine XS.aload X0.here hx rfl (hb hby at_141) rfl rfl ?_
    show Steps p.tables e below (T0.setTop (mkF m 143 #[.val (.int p1), .val (.int p2), .val (.int p3), .val (.int (2 : Int32)), .val (.int (2 : Int32)), .val (.ref b1), .val (.ref b11), .val (.ref b12), .val (.ref b19), .unset, .unset, .unset, .unset] [(.ref b11), (.ref b19)])) _
    refine XS.iload X0.here hx rfl (hb hby at_143) rfl ?_
    show Steps p.tables e below (T0.setTop (mkF m 145 #[.val (.int p1), .val (.int p2), .val (.int p3), .val (.int (2 : Int32)), .val (.int (2 : Int32)), .val (.ref b1), .val (.ref b11), .val (.ref b12), .val (.ref b19), .unset, .unset, .unset, .unset] [(.int (2 : Int32)), (.ref b11), (.ref b19)])) _
    refine X0.iaload hx (j := (2 : Int32)) (v := (.int (3 : Int32))) (by rw [e0]; exact Ar1.1) (State.isArrayOf_alike hZ.alike Ar1.2.1) Ar1.2.2 hin1 hat1 (g := (mkF m 145 #[.val (.int p1), .val (.int p2), .val (.int p3), .val (.int (2 : Int32)), .val (.int (2 : Int32)), .val (.ref b1), .val (.ref b11), .val (.ref b12), .val (.ref b19), .unset, .unset, .unset, .unset] [(.int (2 : Int32)), (.ref b11), (.ref b19)])) rfl rfl (hb hby at_145) _ ?_
    show Steps p.tables e below (T0.setTop (mkF m 146 #[.val (.int p1), .val (.int p2), .val (.int p3), .val (.int (2 : Int32)), .val (.int (2 : Int32)), .val (.ref b1), .val (.ref b11), .val (.ref b12), .val (.ref b19), .unset, .unset, .unset, .unset] [(.int (3 : Int32)), (.ref b19)])) _
    refine st3.trans ?_
    show Steps p.tables e below (T3.setTop (mkF m 149 #[.val (.int p1), .val (.int p2), .val (.int p3), .val (.int (2 : Int32)), .val (.int (2 : Int32)), .val (.ref b1), .val (.ref b11), .val (.ref b12), .val (.ref b19), .unset, .unset, .unset, .unset] [])) _
    refine XS.aload X3.here hx rfl (hb hby at_149) rfl rfl ?_
    show Steps p.tables e below (T3.setTop (mkF m 151 #[.val (.int p1), .val (.int p2), .val (.int p3), .val (.int (2 : Int32)), .val (.int (2 : Int32)), .val (.ref b1), .val (.ref b11), .val (.ref b12), .val (.ref b19), .unset, .unset, .unset, .unset] [(.ref b12)])) _
    refine XS.iload X3.here hx rfl (hb hby at_151) rfl ?_
    show Steps p.tables e below (T3.setTop (mkF m 153 #[.val (.int p1), .val (.int p2), .val (.int p3), .val (.int (2 : Int32)), .val (.int (2 : Int32)), .val (.ref b1), .val (.ref b11), .val (.ref b12), .val (.ref b19), .unset, .unset, .unset, .unset] [(.int (2 : Int32)), (.ref b12)])) _
    refine st4 _ ?_
    exact k_
  have f7 := (q0_.keep Kc3 (ninS ne_b1_li nin0))
  have f8 := (f7.keep Kc4 (ninS ne_b1_b12 nin0))
  have f9 := (f2.keep Kc3 (ninS ne_b11_li nin0))
  have f10 := (f9.keep Kc4 (ninS ne_b11_b12 nin0))
  have f11 := (q3_.keep Kc3)
  have f12 := (f11.keep Kc4)
  have f13 := (q4_.keep Kc3 (ninS ne_b19_li nin0))
  have f14 := (f13.keep Kc4 (ninS (Ne.symm ne_b12_b19) nin0))
  have f15 := (q5_.keep Kc3 (ninS ne_b19_li nin0))
  have f16 := (f15.keep Kc4 (ninS (Ne.symm ne_b12_b19) nin0))
  have f17 := (q6_.keep Kc3 (ninS ne_b19_li nin0))
  have f18 := (f17.keep Kc4 (ninS (Ne.symm ne_b12_b19) nin0))
  have f19 := (q7_.keep Kc3 (ninS ne_b19_li nin0))
  have f20 := (f19.keep Kc4 (ninS (Ne.symm ne_b12_b19) nin0))
  have f21 := (q8_.keep Kc3 (ninS ne_en_li nin0))
  have f22 := (f21.keep Kc4 (ninS (Ne.symm ne_b12_en) nin0))
  have f23 := (Vl3_.keep Kc4 (ninS (Ne.symm ne_b12_li) nin0))
  obtain ⟨s2_, o_, hs_, h1_, h2_, v_, L_, h3_, hq_, h4_⟩ := pc156_13 l Z a0 hw ws p1 p2 p3 j7 j8 j9 b1 b11 b12 b19 en li k1 k11 k12 ke kl (2 : Int32) (2 : Int32) T4.heap n0 Bd hml hZ X4 rfl N4 Z4 O4 f8 f10 Vd4 f12 f14 f16 f18 f20 f22 f23 g_b1 g_b11 g_b12 g_b19 g_en g_li ne_b1_b11 ne_b1_b12 ne_b1_b19 ne_b1_en ne_b1_li ne_b11_b12 ne_b11_b19 ne_b11_en ne_b11_li ne_b12_b19 ne_b12_en ne_b12_li ne_b19_en ne_b19_li ne_en_li Ov_ Ej7 Ej8 Ej9
  exact ⟨s2_, o_, go6 _ hs_, h1_, h2_, v_, L_, h3_, hq_, h4_⟩
set_option maxRecDepth 65536 in
set_option maxHeartbeats 40000000 in
theorem pc124_14 (l : Launch) (Z : State) (a0 : Array Value) (hw : ∀ d ∈ tables_1, d.before a0 Z = true) (ws : List Jvm.Cond) (p1 : Int32) (p2 : Int32) (p3 : Int32) (j7 : Nat) (j8 : Nat) (j9 : Nat) (b1 : Nat) (b11 : Nat) (b12 : Nat) (b19 : Nat) (en : Nat) (li : Nat) (k1 : ClassId) (k11 : ClassId) (k12 : ClassId) (ke : ClassId) (kl : ClassId) (h0 : Heap) (n0 : Nat) {p : Program} {e : Env} {s : State} {m : MethodId} {below : List Frame} {meth : Method} {c : Code} {s₁ T0 : State} {locs : List Loc}
    (Bd : BodyLoose p l x (head1 (Jvm.Cond.code x code maxLocals ret :: ws) room_1) code maxLocals ret e s m #[(.int p1), (.int p2), (.int p3)] below meth c s₁) (hml : c.maxLocals = 13) (hZ : Z.Warmed39 s.vm) (X0 : Stand p l e room_1 s m #[(.int p1), (.int p2), (.int p3)] below meth c T0 locs 6 93) (e0 : T0.heap = h0) (N0 : Fr n0 locs) (Z0 : n0 ≤ h0.size) (O0 : Old Z n0 h0) (q0_ : Arv Z h0 b1 k1 (.object "java/lang/Integer") (3 : Int32) [(.ref j7), (.ref j8), (.ref j9)] .null) (q1_ : Arv Z h0 b11 k11 .int (3 : Int32) [(.int (1 : Int32)), (.int (2 : Int32)), (.int (3 : Int32))] (.int (0 : Int32))) (q2_ : Arv Z h0 b12 k12 .int (3 : Int32) [(.int (0 : Int32)), (.int (1 : Int32)), (.int (2 : Int32))] (.int (0 : Int32))) (q3_ : Exa Z h0 b19 "com/example/terrace/terrace/core/UseOrder") (q4_ : Fld Z h0 b19 "com/example/terrace/terrace/core/UseOrder" "entries" "[Ljava/lang/Object;" (.ref en)) (q5_ : Fld Z h0 b19 "com/example/terrace/terrace/core/UseOrder" "links" "[I" (.ref li)) (q6_ : Fld Z h0 b19 "com/example/terrace/terrace/core/UseOrder" "free" "I" (.int (0 : Int32))) (q7_ : Fld Z h0 b19 "com/example/terrace/terrace/core/UseOrder" "highest" "I" (.int (3 : Int32))) (q8_ : Arv Z h0 en ke (.object "java/lang/Object") (16 : Int32) (own_E (.ref j7) (.ref j8) (.ref j9)) .null) (q9_ : Arv Z h0 li kl .int (64 : Int32) (own_L 3 1 0 0 0 2 p3 0 1 3 p3 0 2 0 p3 0) (.int (0 : Int32))) (g_b1 : n0 ≤ b1) (g_b11 : n0 ≤ b11) (g_b12 : n0 ≤ b12) (g_b19 : n0 ≤ b19) (g_en : n0 ≤ en) (g_li : n0 ≤ li) (ne_b1_b11 : b1 ≠ b11) (ne_b1_b12 : b1 ≠ b12) (ne_b1_b19 : b1 ≠ b19) (ne_b1_en : b1 ≠ en) (ne_b1_li : b1 ≠ li) (ne_b11_b12 : b11 ≠ b12) (ne_b11_b19 : b11 ≠ b19) (ne_b11_en : b11 ≠ en) (ne_b11_li : b11 ≠ li) (ne_b12_b19 : b12 ≠ b19) (ne_b12_en : b12 ≠ en) (ne_b12_li : b12 ≠ li) (ne_b19_en : b19 ≠ en) (ne_b19_li : b19 ≠ li) (ne_en_li : en ≠ li) (Ov_ : Ovr Z ke "java/lang/Object") (Ej7 : Exa Z Z.heap j7 "java/lang/Integer") (Ej8 : Exa Z Z.heap j8 "java/lang/Integer") (Ej9 : Exa Z Z.heap j9 "java/lang/Integer") :
    ∃ s₂ o, Steps p.tables e below (T0.setTop (mkF m 124 #[.val (.int p1), .val (.int p2), .val (.int p3), .val (.int (2 : Int32)), .val (.int ((p2 &&& (2147483647 : Int32)) % (3 : Int32))), .val (.ref b1), .val (.ref b11), .val (.ref b12), .val (.ref b19), .unset, .unset, .unset, .unset] [])) s₂ ∧ s₂.status = .running ∧ Ended s₂ below o ∧ ∃ v L, o = .returned v ∧ (v = some (.int 1) ∧ Fr n0 L) ∧ FrameEnd s o s₂ L room_1.cells room_1.slots := by
  have hw_14 := hw _ (List.mem_of_getElem? (i := 14) rfl)
  have hw_41 := hw _ (List.mem_of_getElem? (i := 41) rfl)
  have hw_42 := hw _ (List.mem_of_getElem? (i := 42) rfl)
  have hw_43 := hw _ (List.mem_of_getElem? (i := 43) rfl)
  have hw_44 := hw _ (List.mem_of_getElem? (i := 44) rfl)
  have hw_45 := hw _ (List.mem_of_getElem? (i := 45) rfl)
  have hw_50 := hw _ (List.mem_of_getElem? (i := 50) rfl)
  have hw_51 := hw _ (List.mem_of_getElem? (i := 51) rfl)
  have hw_52 := hw _ (List.mem_of_getElem? (i := 52) rfl)
  have hw_53 := hw _ (List.mem_of_getElem? (i := 53) rfl)
  have hx := Bd.exec
  have hby := Bd.bytes
  have hown : s.vm.findClass "com/example/terrace/terrace/core/UseOrderUsePinLaw" = some m.cls := findClass_of_methodNamed Bd.named
  have hnm := (name_of_methodNamed Bd.named Bd.method).1
  have pre0 : ∀ t_, Steps p.tables e below (T0.setTop (mkF m 124 #[.val (.int p1), .val (.int p2), .val (.int p3), .val (.int (2 : Int32)), .val (.int ((p2 &&& (2147483647 : Int32)) % (3 : Int32))), .val (.ref b1), .val (.ref b11), .val (.ref b12), .val (.ref b19), .unset, .unset, .unset, .unset] [])) t_ → Steps p.tables e below (T0.setTop (mkF m 124 #[.val (.int p1), .val (.int p2), .val (.int p3), .val (.int (2 : Int32)), .val (.int ((p2 &&& (2147483647 : Int32)) % (3 : Int32))), .val (.ref b1), .val (.ref b11), .val (.ref b12), .val (.ref b19), .unset, .unset, .unset, .unset] [])) t_ := fun _ k_ => k_
  obtain ⟨cl1, Ar1, q1, S1, M1, H1, G1⟩ := q1_
  have f2 : Arv Z h0 b11 k11 .int (3 : Int32) [(.int (1 : Int32)), (.int (2 : Int32)), (.int (3 : Int32))] (.int (0 : Int32)) := ⟨cl1, Ar1, q1, S1, M1, H1, G1⟩
  have hin1 : ¬ ((2 : Int32) < 0 ∨ cl1.slots.size ≤ ((2 : Int32)).toNatClampNeg) := inb_of S1 ⟨by decide, by decide⟩
  have hat1 : cl1.slots[((2 : Int32)).toNatClampNeg]? = some (.int (3 : Int32)) := Has.at H1 hin1 rfl
  obtain ⟨cq3, kq3, q3a, q3b, q3c⟩ := isOf hZ e0 q3_
  obtain ⟨_, _, ⟨T3, L3, k3, n3⟩, -, X3, ⟨Lc3, hQ3, l3, y3, z3⟩, st3⟩ := X0.virtualBack hx (y := (⟨"com/example/terrace/terrace/core/UseOrder", "use", "(I)V"⟩ : MethodName)) (z := (⟨"com/example/terrace/terrace/core/UseOrder", "use", "(I)V"⟩ : MethodName)) hown (mvT hZ hw_41) (mvT hZ hw_42) (notFace_of_selects (args := #[]) (mvT hZ hw_44)) (mvT hZ hw_44) (mvT hZ hw_43) (by decide) (backOf (W := 0) (rmUseN l Z a0 hw [] b19 li kl (own_L 3 1 0 0 0 2 p3 0 1 3 p3 0 2 0 p3 0) (3 : Int32) h0 n0 Z0 q5_ q9_ rfl) hZ hw_45 hw_14 (by decide) (by decide)) q3a q3c (g := (mkF m 130 #[.val (.int p1), .val (.int p2), .val (.int p3), .val (.int (2 : Int32)), .val (.int ((p2 &&& (2147483647 : Int32)) % (3 : Int32))), .val (.ref b1), .val (.ref b11), .val (.ref b12), .val (.ref b19), .unset, .unset, .unset, .unset] [(.int (3 : Int32)), (.ref b19)])) rfl (by rw [hml]; rfl) (Steps.refl _) (argsL := [(.int (3 : Int32))]) (rest := []) (lenOf pd_0 rfl) rfl (by show 2 * 0 + _ ≤ _; exact Nat.le_of_eq rfl) (hb hby at_130) (fun _ _ => ⟨rfl, e0, (by decide : 6 + 0 ≤ _), (by decide : 93 + 0 ≤ _)⟩)
  dsimp only [Pt.U, Pt.locs, Pt.cells, Pt.slots] at X3 l3 y3 z3 st3 hQ3
  subst l3 y3 z3
  obtain ⟨rfl, N3q, Kc3, Vc3⟩ := hQ3
  have N3 := Fr.app N0 N3q
  have sz3 : h0.size ≤ T3.heap.size := Kc3.1
  have Z3 : n0 ≤ T3.heap.size := Nat.le_trans Z0 sz3
  have O3 : Old Z n0 T3.heap := O0.keep Kc3 (allS (show n0 ≤ li by omega) all0)
  have Vl3_ : Arv Z T3.heap li kl .int (64 : Int32) (own_L 3 1 0 0 0 2 p3 0 1 3 p3 0 2 0 p3 0) (.int (0 : Int32)) := Vc3
  have f5 := (q2_.keep Kc3 (ninS ne_b12_li nin0))
  obtain ⟨_, _, ⟨T4, L4, k4, n4⟩, -, X4, ⟨Lc4, hQ4, l4, y4, z4⟩, st4⟩ := Jvm.LawKit.callS X3 hx (y := (⟨"com/example/terrace/terrace/core/UseOrderUsePinLaw", "moveToEnd", "([II)V"⟩ : MethodName)) hown (mvT hZ hw_50) (mvT hZ hw_51) (mvT hZ hw_52) (mvT hZ hw_53) (by decide) (backOf (W := 0) (rmMove l Z a0 hw [] b12 k12 (0 : Int32) (1 : Int32) (2 : Int32) (2 : Int32) T3.heap n0 Z3 f5 (by omega)) hZ hw_53 hw_52 (by decide) (by decide)) (g := (mkF m 136 #[.val (.int p1), .val (.int p2), .val (.int p3), .val (.int (2 : Int32)), .val (.int ((p2 &&& (2147483647 : Int32)) % (3 : Int32))), .val (.ref b1), .val (.ref b11), .val (.ref b12), .val (.ref b19), .unset, .unset, .unset, .unset] [(.int (2 : Int32)), (.ref b12)])) rfl (by rw [hml]; rfl) (argsL := [(.ref b12), (.int (2 : Int32))]) (rest := []) (lenOf pd_5 rfl) rfl (by show 2 * 0 + _ ≤ _; exact Nat.le_of_eq rfl) (hb hby at_136) (fun _ _ => ⟨rfl, rfl, (by decide : 6 + 0 ≤ _), (by decide : 93 + 0 ≤ _)⟩)
  dsimp only [Pt.U, Pt.locs, Pt.cells, Pt.slots] at X4 l4 y4 z4 st4 hQ4
  subst l4 y4 z4
  obtain ⟨rfl, N4q, Kc4, Vc4⟩ := hQ4
  have N4 := Fr.app N3 N4q
  have sz4 : T3.heap.size ≤ T4.heap.size := Kc4.1
  have Z4 : n0 ≤ T4.heap.size := Nat.le_trans Z3 sz4
  have O4 : Old Z n0 T4.heap := O3.keep Kc4 (allS (show n0 ≤ b12 by omega) all0)
  have Vd4 : Arv Z T4.heap b12 k12 .int (3 : Int32) [(.int (0 : Int32)), (.int (1 : Int32)), (.int (2 : Int32))] (.int (0 : Int32)) := Vc4
  have go6 : ∀ t_, Steps p.tables e below (T4.setTop (mkF m 139 #[.val (.int p1), .val (.int p2), .val (.int p3), .val (.int (2 : Int32)), .val (.int ((p2 &&& (2147483647 : Int32)) % (3 : Int32))), .val (.ref b1), .val (.ref b11), .val (.ref b12), .val (.ref b19), .unset, .unset, .unset, .unset] [])) t_ → Steps p.tables e below (T0.setTop (mkF m 124 #[.val (.int p1), .val (.int p2), .val (.int p3), .val (.int (2 : Int32)), .val (.int ((p2 &&& (2147483647 : Int32)) % (3 : Int32))), .val (.ref b1), .val (.ref b11), .val (.ref b12), .val (.ref b19), .unset, .unset, .unset, .unset] [])) t_ := by
    intro t_ k_
    refine pre0 t_ ?_
    show Steps p.tables e below (T0.setTop (mkF m 124 #[.val (.int p1), .val (.int p2), .val (.int p3), .val (.int (2 : Int32)), .val (.int ((p2 &&& (2147483647 : Int32)) % (3 : Int32))), .val (.ref b1), .val (.ref b11), .val (.ref b12), .val (.ref b19), .unset, .unset, .unset, .unset] [])) _
    refine XS.aload X0.here hx rfl (hb hby at_124) rfl rfl ?_
    show Steps p.tables e below (T0.setTop (mkF m 126 #[.val (.int p1), .val (.int p2), .val (.int p3), .val (.int (2 : Int32)), .val (.int ((p2 &&& (2147483647 : Int32)) % (3 : Int32))), .val (.ref b1), .val (.ref b11), .val (.ref b12), .val (.ref b19), .unset, .unset, .unset, .unset] [(.ref b19)])) _
    refine XS.aload X0.here hx rfl (hb hby at_126) rfl rfl ?_
    show Steps p.tables e below (T0.setTop (mkF m 128 #[.val (.int p1), .val (.int p2), .val (.int p3), .val (.int (2 : Int32)), .val (.int ((p2 &&& (2147483647 : Int32)) % (3 : Int32))), .val (.ref b1), .val (.ref b11), .val (.ref b12), .val (.ref b19), .unset, .unset, .unset, .unset] [(.ref b11), (.ref b19)])) _
    refine XS.iloadN X0.here hx rfl (hb hby at_128) rfl ?_
    show Steps p.tables e below (T0.setTop (mkF m 129 #[.val (.int p1), .val (.int p2), .val (.int p3), .val (.int (2 : Int32)), .val (.int ((p2 &&& (2147483647 : Int32)) % (3 : Int32))), .val (.ref b1), .val (.ref b11), .val (.ref b12), .val (.ref b19), .unset, .unset, .unset, .unset] [(.int (2 : Int32)), (.ref b11), (.ref b19)])) _
    refine X0.iaload hx (j := (2 : Int32)) (v := (.int (3 : Int32))) (by rw [e0]; exact Ar1.1) (State.isArrayOf_alike hZ.alike Ar1.2.1) Ar1.2.2 hin1 hat1 (g := (mkF m 129 #[.val (.int p1), .val (.int p2), .val (.int p3), .val (.int (2 : Int32)), .val (.int ((p2 &&& (2147483647 : Int32)) % (3 : Int32))), .val (.ref b1), .val (.ref b11), .val (.ref b12), .val (.ref b19), .unset, .unset, .unset, .unset] [(.int (2 : Int32)), (.ref b11), (.ref b19)])) rfl rfl (hb hby at_129) _ ?_
    show Steps p.tables e below (T0.setTop (mkF m 130 #[.val (.int p1), .val (.int p2), .val (.int p3), .val (.int (2 : Int32)), .val (.int ((p2 &&& (2147483647 : Int32)) % (3 : Int32))), .val (.ref b1), .val (.ref b11), .val (.ref b12), .val (.ref b19), .unset, .unset, .unset, .unset] [(.int (3 : Int32)), (.ref b19)])) _
    refine st3.trans ?_
    show Steps p.tables e below (T3.setTop (mkF m 133 #[.val (.int p1), .val (.int p2), .val (.int p3), .val (.int (2 : Int32)), .val (.int ((p2 &&& (2147483647 : Int32)) % (3 : Int32))), .val (.ref b1), .val (.ref b11), .val (.ref b12), .val (.ref b19), .unset, .unset, .unset, .unset] [])) _
    refine XS.aload X3.here hx rfl (hb hby at_133) rfl rfl ?_
    show Steps p.tables e below (T3.setTop (mkF m 135 #[.val (.int p1), .val (.int p2), .val (.int p3), .val (.int (2 : Int32)), .val (.int ((p2 &&& (2147483647 : Int32)) % (3 : Int32))), .val (.ref b1), .val (.ref b11), .val (.ref b12), .val (.ref b19), .unset, .unset, .unset, .unset] [(.ref b12)])) _
    refine XS.iloadN X3.here hx rfl (hb hby at_135) rfl ?_
    show Steps p.tables e below (T3.setTop (mkF m 136 #[.val (.int p1), .val (.int p2), .val (.int p3), .val (.int (2 : Int32)), .val (.int ((p2 &&& (2147483647 : Int32)) % (3 : Int32))), .val (.ref b1), .val (.ref b11), .val (.ref b12), .val (.ref b19), .unset, .unset, .unset, .unset] [(.int (2 : Int32)), (.ref b12)])) _
    refine st4 _ ?_
    exact k_
  rcases (own_mod3 p2) with hk7 | hk7 | hk7
  · skip
    have go8 : ∀ t_, Steps p.tables e below (T4.setTop (mkF m 139 #[.val (.int p1), .val (.int p2), .val (.int p3), .val (.int (2 : Int32)), .val (.int (0 : Int32)), .val (.ref b1), .val (.ref b11), .val (.ref b12), .val (.ref b19), .unset, .unset, .unset, .unset] [])) t_ → Steps p.tables e below (T0.setTop (mkF m 124 #[.val (.int p1), .val (.int p2), .val (.int p3), .val (.int (2 : Int32)), .val (.int ((p2 &&& (2147483647 : Int32)) % (3 : Int32))), .val (.ref b1), .val (.ref b11), .val (.ref b12), .val (.ref b19), .unset, .unset, .unset, .unset] [])) t_ := by
      intro t_ k_
      refine go6 t_ ?_
      rw [hk7]
      exact k_
    have f9 := (q0_.keep Kc3 (ninS ne_b1_li nin0))
    have f10 := (f9.keep Kc4 (ninS ne_b1_b12 nin0))
    have f11 := (f2.keep Kc3 (ninS ne_b11_li nin0))
    have f12 := (f11.keep Kc4 (ninS ne_b11_b12 nin0))
    have f13 := (q3_.keep Kc3)
    have f14 := (f13.keep Kc4)
    have f15 := (q4_.keep Kc3 (ninS ne_b19_li nin0))
    have f16 := (f15.keep Kc4 (ninS (Ne.symm ne_b12_b19) nin0))
    have f17 := (q5_.keep Kc3 (ninS ne_b19_li nin0))
    have f18 := (f17.keep Kc4 (ninS (Ne.symm ne_b12_b19) nin0))
    have f19 := (q6_.keep Kc3 (ninS ne_b19_li nin0))
    have f20 := (f19.keep Kc4 (ninS (Ne.symm ne_b12_b19) nin0))
    have f21 := (q7_.keep Kc3 (ninS ne_b19_li nin0))
    have f22 := (f21.keep Kc4 (ninS (Ne.symm ne_b12_b19) nin0))
    have f23 := (q8_.keep Kc3 (ninS ne_en_li nin0))
    have f24 := (f23.keep Kc4 (ninS (Ne.symm ne_b12_en) nin0))
    have f25 := (Vl3_.keep Kc4 (ninS (Ne.symm ne_b12_li) nin0))
    obtain ⟨s2_, o_, hs_, h1_, h2_, v_, L_, h3_, hq_, h4_⟩ := pc139_15 l Z a0 hw ws p1 p2 p3 j7 j8 j9 b1 b11 b12 b19 en li k1 k11 k12 ke kl T4.heap n0 Bd hml hZ X4 rfl N4 Z4 O4 f10 f12 Vd4 f14 f16 f18 f20 f22 f24 f25 g_b1 g_b11 g_b12 g_b19 g_en g_li ne_b1_b11 ne_b1_b12 ne_b1_b19 ne_b1_en ne_b1_li ne_b11_b12 ne_b11_b19 ne_b11_en ne_b11_li ne_b12_b19 ne_b12_en ne_b12_li ne_b19_en ne_b19_li ne_en_li Ov_ Ej7 Ej8 Ej9
    exact ⟨s2_, o_, go8 _ hs_, h1_, h2_, v_, L_, h3_, hq_, h4_⟩
  · skip
    have go26 : ∀ t_, Steps p.tables e below (T4.setTop (mkF m 139 #[.val (.int p1), .val (.int p2), .val (.int p3), .val (.int (2 : Int32)), .val (.int (1 : Int32)), .val (.ref b1), .val (.ref b11), .val (.ref b12), .val (.ref b19), .unset, .unset, .unset, .unset] [])) t_ → Steps p.tables e below (T0.setTop (mkF m 124 #[.val (.int p1), .val (.int p2), .val (.int p3), .val (.int (2 : Int32)), .val (.int ((p2 &&& (2147483647 : Int32)) % (3 : Int32))), .val (.ref b1), .val (.ref b11), .val (.ref b12), .val (.ref b19), .unset, .unset, .unset, .unset] [])) t_ := by
      intro t_ k_
      refine go6 t_ ?_
      rw [hk7]
      exact k_
    have f27 := (q0_.keep Kc3 (ninS ne_b1_li nin0))
    have f28 := (f27.keep Kc4 (ninS ne_b1_b12 nin0))
    have f29 := (f2.keep Kc3 (ninS ne_b11_li nin0))
    have f30 := (f29.keep Kc4 (ninS ne_b11_b12 nin0))
    have f31 := (q3_.keep Kc3)
    have f32 := (f31.keep Kc4)
    have f33 := (q4_.keep Kc3 (ninS ne_b19_li nin0))
    have f34 := (f33.keep Kc4 (ninS (Ne.symm ne_b12_b19) nin0))
    have f35 := (q5_.keep Kc3 (ninS ne_b19_li nin0))
    have f36 := (f35.keep Kc4 (ninS (Ne.symm ne_b12_b19) nin0))
    have f37 := (q6_.keep Kc3 (ninS ne_b19_li nin0))
    have f38 := (f37.keep Kc4 (ninS (Ne.symm ne_b12_b19) nin0))
    have f39 := (q7_.keep Kc3 (ninS ne_b19_li nin0))
    have f40 := (f39.keep Kc4 (ninS (Ne.symm ne_b12_b19) nin0))
    have f41 := (q8_.keep Kc3 (ninS ne_en_li nin0))
    have f42 := (f41.keep Kc4 (ninS (Ne.symm ne_b12_en) nin0))
    have f43 := (Vl3_.keep Kc4 (ninS (Ne.symm ne_b12_li) nin0))
    obtain ⟨s2_, o_, hs_, h1_, h2_, v_, L_, h3_, hq_, h4_⟩ := pc139_16 l Z a0 hw ws p1 p2 p3 j7 j8 j9 b1 b11 b12 b19 en li k1 k11 k12 ke kl T4.heap n0 Bd hml hZ X4 rfl N4 Z4 O4 f28 f30 Vd4 f32 f34 f36 f38 f40 f42 f43 g_b1 g_b11 g_b12 g_b19 g_en g_li ne_b1_b11 ne_b1_b12 ne_b1_b19 ne_b1_en ne_b1_li ne_b11_b12 ne_b11_b19 ne_b11_en ne_b11_li ne_b12_b19 ne_b12_en ne_b12_li ne_b19_en ne_b19_li ne_en_li Ov_ Ej7 Ej8 Ej9
    exact ⟨s2_, o_, go26 _ hs_, h1_, h2_, v_, L_, h3_, hq_, h4_⟩
  · skip
    have go44 : ∀ t_, Steps p.tables e below (T4.setTop (mkF m 139 #[.val (.int p1), .val (.int p2), .val (.int p3), .val (.int (2 : Int32)), .val (.int (2 : Int32)), .val (.ref b1), .val (.ref b11), .val (.ref b12), .val (.ref b19), .unset, .unset, .unset, .unset] [])) t_ → Steps p.tables e below (T0.setTop (mkF m 124 #[.val (.int p1), .val (.int p2), .val (.int p3), .val (.int (2 : Int32)), .val (.int ((p2 &&& (2147483647 : Int32)) % (3 : Int32))), .val (.ref b1), .val (.ref b11), .val (.ref b12), .val (.ref b19), .unset, .unset, .unset, .unset] [])) t_ := by
      intro t_ k_
      refine go6 t_ ?_
      rw [hk7]
      exact k_
    have f45 := (q0_.keep Kc3 (ninS ne_b1_li nin0))
    have f46 := (f45.keep Kc4 (ninS ne_b1_b12 nin0))
    have f47 := (f2.keep Kc3 (ninS ne_b11_li nin0))
    have f48 := (f47.keep Kc4 (ninS ne_b11_b12 nin0))
    have f49 := (q3_.keep Kc3)
    have f50 := (f49.keep Kc4)
    have f51 := (q4_.keep Kc3 (ninS ne_b19_li nin0))
    have f52 := (f51.keep Kc4 (ninS (Ne.symm ne_b12_b19) nin0))
    have f53 := (q5_.keep Kc3 (ninS ne_b19_li nin0))
    have f54 := (f53.keep Kc4 (ninS (Ne.symm ne_b12_b19) nin0))
    have f55 := (q6_.keep Kc3 (ninS ne_b19_li nin0))
    have f56 := (f55.keep Kc4 (ninS (Ne.symm ne_b12_b19) nin0))
    have f57 := (q7_.keep Kc3 (ninS ne_b19_li nin0))
    have f58 := (f57.keep Kc4 (ninS (Ne.symm ne_b12_b19) nin0))
    have f59 := (q8_.keep Kc3 (ninS ne_en_li nin0))
    have f60 := (f59.keep Kc4 (ninS (Ne.symm ne_b12_en) nin0))
    have f61 := (Vl3_.keep Kc4 (ninS (Ne.symm ne_b12_li) nin0))
    obtain ⟨s2_, o_, hs_, h1_, h2_, v_, L_, h3_, hq_, h4_⟩ := pc139_17 l Z a0 hw ws p1 p2 p3 j7 j8 j9 b1 b11 b12 b19 en li k1 k11 k12 ke kl T4.heap n0 Bd hml hZ X4 rfl N4 Z4 O4 f46 f48 Vd4 f50 f52 f54 f56 f58 f60 f61 g_b1 g_b11 g_b12 g_b19 g_en g_li ne_b1_b11 ne_b1_b12 ne_b1_b19 ne_b1_en ne_b1_li ne_b11_b12 ne_b11_b19 ne_b11_en ne_b11_li ne_b12_b19 ne_b12_en ne_b12_li ne_b19_en ne_b19_li ne_en_li Ov_ Ej7 Ej8 Ej9
    exact ⟨s2_, o_, go44 _ hs_, h1_, h2_, v_, L_, h3_, hq_, h4_⟩
def Q_rm0 (Z : State) (p1 : Int32) (p2 : Int32) (p3 : Int32) (ca : Nat) (cc : Cell) (j7 : Nat) (j8 : Nat) (j9 : Nat) (h0 : Heap) (n0 : Nat) (v : Option Value) (h : Heap) (L : List Loc) : Prop := v = some (.int 1) ∧ Fr n0 L
set_option maxRecDepth 65536 in
set_option maxHeartbeats 40000000 in
theorem rm0 (l : Launch) (Z : State) (a0 : Array Value) (hw : ∀ d ∈ tables_1, d.before a0 Z = true) (ws : List Jvm.Cond) (p1 : Int32) (p2 : Int32) (p3 : Int32) (ca : Nat) (cc : Cell) (j7 : Nat) (j8 : Nat) (j9 : Nat) (h0 : Heap) (n0 : Nat) (Z0 : n0 ≤ h0.size) (S_high : Sta Z Z.heap "java/lang/Integer$IntegerCache" "high" "I" (.int (127 : Int32))) (S_cache : Sta Z Z.heap "java/lang/Integer$IntegerCache" "cache" "[Ljava/lang/Integer;" (.ref ca)) (Ac : Arr Z Z.heap ca cc (.object "java/lang/Integer")) (hia7 : ¬ (((7 : Int32) + (128 : Int32)) < 0 ∨ cc.slots.size ≤ ((7 : Int32) + (128 : Int32)).toNatClampNeg)) (hta7 : cc.slots[((7 : Int32) + (128 : Int32)).toNatClampNeg]? = some (.ref j7)) (Ej7 : Exa Z Z.heap j7 "java/lang/Integer") (hia8 : ¬ (((8 : Int32) + (128 : Int32)) < 0 ∨ cc.slots.size ≤ ((8 : Int32) + (128 : Int32)).toNatClampNeg)) (hta8 : cc.slots[((8 : Int32) + (128 : Int32)).toNatClampNeg]? = some (.ref j8)) (Ej8 : Exa Z Z.heap j8 "java/lang/Integer") (hia9 : ¬ (((9 : Int32) + (128 : Int32)) < 0 ∨ cc.slots.size ≤ ((9 : Int32) + (128 : Int32)).toNatClampNeg)) (hta9 : cc.slots[((9 : Int32) + (128 : Int32)).toNatClampNeg]? = some (.ref j9)) (Ej9 : Exa Z Z.heap j9 "java/lang/Integer") (O0 : Old Z n0 h0) :
    MetFree l x (head1 (Jvm.Cond.code x code maxLocals ret :: ws) room_1) (fun a U => a = #[(.int p1), (.int p2), (.int p3)] ∧ Z.Warmed39 U.vm ∧ U.heap = h0) (fun _ _ _ _ _ => True) (fun _ U o U' => ∃ v L, o = .returned v ∧ Q_rm0 Z p1 p2 p3 ca cc j7 j8 j9 h0 n0 v U'.heap L ∧ FrameEnd U o U' L room_1.cells room_1.slots) := by
  have hw_0 := hw _ (List.mem_of_getElem? (i := 0) rfl)
  have hw_1 := hw _ (List.mem_of_getElem? (i := 1) rfl)
  have hw_2 := hw _ (List.mem_of_getElem? (i := 2) rfl)
  have hw_3 := hw _ (List.mem_of_getElem? (i := 3) rfl)
  have hw_4 := hw _ (List.mem_of_getElem? (i := 4) rfl)
  have hw_5 := hw _ (List.mem_of_getElem? (i := 5) rfl)
  have hw_6 := hw _ (List.mem_of_getElem? (i := 6) rfl)
  have hw_11 := hw _ (List.mem_of_getElem? (i := 11) rfl)
  have hw_12 := hw _ (List.mem_of_getElem? (i := 12) rfl)
  have hw_13 := hw _ (List.mem_of_getElem? (i := 13) rfl)
  have hw_14 := hw _ (List.mem_of_getElem? (i := 14) rfl)
  have hw_15 := hw _ (List.mem_of_getElem? (i := 15) rfl)
  have hw_16 := hw _ (List.mem_of_getElem? (i := 16) rfl)
  have hw_17 := hw _ (List.mem_of_getElem? (i := 17) rfl)
  have hw_24 := hw _ (List.mem_of_getElem? (i := 24) rfl)
  have hw_26 := hw _ (List.mem_of_getElem? (i := 26) rfl)
  have hw_28 := hw _ (List.mem_of_getElem? (i := 28) rfl)
  have hw_30 := hw _ (List.mem_of_getElem? (i := 30) rfl)
  have hw_31 := hw _ (List.mem_of_getElem? (i := 31) rfl)
  have hw_32 := hw _ (List.mem_of_getElem? (i := 32) rfl)
  have hw_33 := hw _ (List.mem_of_getElem? (i := 33) rfl)
  have hw_34 := hw _ (List.mem_of_getElem? (i := 34) rfl)
  have hw_35 := hw _ (List.mem_of_getElem? (i := 35) rfl)
  refine MetFree.of_bodySF (plainFor_of_name pn_UseOrderUsePinLaw) hisR ?_
  intro p e s m args below meth c s₁ Bd hml0 hP hK
  obtain ⟨rfl, hZ, hh⟩ := hP
  have hx := Bd.exec
  have hby := Bd.bytes
  have hml : c.maxLocals = 13 := hml0
  have hown : s.vm.findClass "com/example/terrace/terrace/core/UseOrderUsePinLaw" = some m.cls := findClass_of_methodNamed Bd.named
  have hnm := (name_of_methodNamed Bd.named Bd.method).1
  have X0 : Stand p l e room_1 s m #[(.int p1), (.int p2), (.int p3)] below meth c s₁ [] 0 0 := Stand.of_body Bd
  have e0 : s₁.heap = h0 := by rw [← hh, Bd.state]; rfl
  have N0 := Fr.nil n0
  have pre0 : ∀ t_, Steps p.tables e below (s₁.setTop (mkF m 0 #[.val (.int p1), .val (.int p2), .val (.int p3), .unset, .unset, .unset, .unset, .unset, .unset, .unset, .unset, .unset, .unset] [])) t_ → Steps p.tables e below (s₁.setTop (entryFrame m #[(.int p1), (.int p2), (.int p3)] maxLocals)) t_ := fun t_ k_ => castTop (ef_0 m p1 p2 p3) k_
  obtain ⟨T1, h1, k1, X1, e1, E1, A1, Ov1, st1⟩ := newR X0 hx hZ hown hw_1 hw_2 e0 (g := (mkF m 16 #[.val (.int p1), .val (.int p2), .val (.int p3), .val (.int ((p1 &&& (2147483647 : Int32)) % (3 : Int32))), .val (.int ((p2 &&& (2147483647 : Int32)) % (3 : Int32))), .unset, .unset, .unset, .unset, .unset, .unset, .unset, .unset] [(.int (3 : Int32))])) rfl (hb hby at_16) rfl (by decide) (cap := 3) (by decide) (by decide) (by decide) (by decide)
  obtain ⟨b1, g1⟩ : ∃ z, z = h0.size := ⟨_, rfl⟩
  rw [← g1] at A1 st1
  have lt1 : b1 < h1.size := A1.lt
  have V1 : Arv Z h1 b1 k1 (.object "java/lang/Integer") (3 : Int32) [.null, .null, .null] .null := (Arv.new A1 (by decide)).pad (pad_rep [] .null 3)
  have sz1 : h0.size ≤ h1.size := E1.1
  have Z1 : n0 ≤ h1.size := Nat.le_trans Z0 sz1
  have O1 : Old Z n0 h1 := O0.ext E1
  obtain ⟨_, _, ⟨T2, L2, k2, n2⟩, -, X2, ⟨Lc2, hQ2, l2, y2, z2⟩, st2⟩ := Jvm.LawKit.callS X1 hx (y := (⟨"java/lang/Integer", "valueOf", "(I)Ljava/lang/Integer;"⟩ : MethodName)) hown (mvT hZ hw_3) (mvT hZ hw_4) (mvT hZ hw_5) (mvT hZ hw_6) (by decide) (backOf (W := 2) (rmInt l Z a0 hw [] (7 : Int32) ca cc j7 h1 n0 Z1 (S_high.ext O1.2) (S_cache.ext O1.2) (Ac.ext O1.2) (by decide) (by decide) hia7 hta7) hZ hw_6 hw_5 (by decide) (by decide)) (g := (mkF m 26 #[.val (.int p1), .val (.int p2), .val (.int p3), .val (.int ((p1 &&& (2147483647 : Int32)) % (3 : Int32))), .val (.int ((p2 &&& (2147483647 : Int32)) % (3 : Int32))), .val (.ref b1), .unset, .unset, .unset, .unset, .unset, .unset, .unset] [(.int (7 : Int32)), (.int (0 : Int32)), (.ref b1)])) rfl (by rw [hml]; rfl) (argsL := [(.int (7 : Int32))]) (rest := [(.int (0 : Int32)), (.ref b1)]) (lenOf pd_2 rfl) rfl (by show 2 * 0 + _ ≤ _; exact Nat.le_of_eq rfl) (hb hby at_26) (fun _ _ => ⟨rfl, e1, (by decide : 1 + 0 ≤ _), (by decide : 3 + 0 ≤ _)⟩)
  dsimp only [Pt.U, Pt.locs, Pt.cells, Pt.slots] at X2 l2 y2 z2 st2 hQ2
  subst l2 y2 z2
  obtain ⟨rfl, N2q, e2⟩ := hQ2
  have N2 := Fr.app N0 N2q
  obtain ⟨cl3, Ar3, q3, S3, M3, H3, G3⟩ := V1
  have hin3 : ¬ ((0 : Int32) < 0 ∨ cl3.slots.size ≤ ((0 : Int32)).toNatClampNeg) := inb_of S3 ⟨by decide, by decide⟩
  obtain ⟨T4, h4, X4, e4, W4, st4⟩ := stR X2 hx hZ e2 Ar3 (j := (0 : Int32)) hin3 rfl (Sto.ofV Ar3 q3 Ov1 (Ins.self (Ej7.ext O1.2))) (g := (mkF m 29 #[.val (.int p1), .val (.int p2), .val (.int p3), .val (.int ((p1 &&& (2147483647 : Int32)) % (3 : Int32))), .val (.int ((p2 &&& (2147483647 : Int32)) % (3 : Int32))), .val (.ref b1), .unset, .unset, .unset, .unset, .unset, .unset, .unset] [(.ref j7), (.int (0 : Int32)), (.ref b1)])) rfl rfl (hb hby at_29)
  have V4 : Arv Z h4 b1 k1 (.object "java/lang/Integer") (3 : Int32) [(.ref j7), .null, .null] .null := Arv.set Ar3 q3 S3 M3 H3 G3 rfl W4 0 rfl (Nat.le_of_ble_eq_true rfl)
  have N4 := Fr.snoc X4 N2 (show n0 ≤ b1 by omega)
  have sz4 : h1.size ≤ h4.size := Nat.le_of_eq W4.size.symm
  have Z4 : n0 ≤ h4.size := Nat.le_trans Z1 sz4
  have O4 : Old Z n0 h4 := O1.wr W4 (by omega)
  obtain ⟨_, _, ⟨T5, L5, k5, n5⟩, -, X5, ⟨Lc5, hQ5, l5, y5, z5⟩, st5⟩ := Jvm.LawKit.callS X4 hx (y := (⟨"java/lang/Integer", "valueOf", "(I)Ljava/lang/Integer;"⟩ : MethodName)) hown (mvT hZ hw_3) (mvT hZ hw_4) (mvT hZ hw_5) (mvT hZ hw_6) (by decide) (backOf (W := 2) (rmInt l Z a0 hw [] (8 : Int32) ca cc j8 h4 n0 Z4 (S_high.ext O4.2) (S_cache.ext O4.2) (Ac.ext O4.2) (by decide) (by decide) hia8 hta8) hZ hw_6 hw_5 (by decide) (by decide)) (g := (mkF m 35 #[.val (.int p1), .val (.int p2), .val (.int p3), .val (.int ((p1 &&& (2147483647 : Int32)) % (3 : Int32))), .val (.int ((p2 &&& (2147483647 : Int32)) % (3 : Int32))), .val (.ref b1), .unset, .unset, .unset, .unset, .unset, .unset, .unset] [(.int (8 : Int32)), (.int (1 : Int32)), (.ref b1)])) rfl (by rw [hml]; rfl) (argsL := [(.int (8 : Int32))]) (rest := [(.int (1 : Int32)), (.ref b1)]) (lenOf pd_2 rfl) rfl (by show 2 * 0 + _ ≤ _; exact Nat.le_of_eq rfl) (hb hby at_35) (fun _ _ => ⟨rfl, e4, (by decide : 1 + 0 ≤ _), (by decide : 3 + 0 ≤ _)⟩)
  dsimp only [Pt.U, Pt.locs, Pt.cells, Pt.slots] at X5 l5 y5 z5 st5 hQ5
  subst l5 y5 z5
  obtain ⟨rfl, N5q, e5⟩ := hQ5
  have N5 := Fr.app N4 N5q
  obtain ⟨cl6, Ar6, q6, S6, M6, H6, G6⟩ := V4
  have hin6 : ¬ ((1 : Int32) < 0 ∨ cl6.slots.size ≤ ((1 : Int32)).toNatClampNeg) := inb_of S6 ⟨by decide, by decide⟩
  obtain ⟨T7, h7, X7, e7, W7, st7⟩ := stR X5 hx hZ e5 Ar6 (j := (1 : Int32)) hin6 rfl (Sto.ofV Ar6 q6 Ov1 (Ins.self (Ej8.ext O4.2))) (g := (mkF m 38 #[.val (.int p1), .val (.int p2), .val (.int p3), .val (.int ((p1 &&& (2147483647 : Int32)) % (3 : Int32))), .val (.int ((p2 &&& (2147483647 : Int32)) % (3 : Int32))), .val (.ref b1), .unset, .unset, .unset, .unset, .unset, .unset, .unset] [(.ref j8), (.int (1 : Int32)), (.ref b1)])) rfl rfl (hb hby at_38)
  have V7 : Arv Z h7 b1 k1 (.object "java/lang/Integer") (3 : Int32) [(.ref j7), (.ref j8), .null] .null := Arv.set Ar6 q6 S6 M6 H6 G6 rfl W7 1 rfl (Nat.le_of_ble_eq_true rfl)
  have N7 := Fr.snoc X7 N5 (show n0 ≤ b1 by omega)
  have sz7 : h4.size ≤ h7.size := Nat.le_of_eq W7.size.symm
  have Z7 : n0 ≤ h7.size := Nat.le_trans Z4 sz7
  have O7 : Old Z n0 h7 := O4.wr W7 (by omega)
  obtain ⟨_, _, ⟨T8, L8, k8, n8⟩, -, X8, ⟨Lc8, hQ8, l8, y8, z8⟩, st8⟩ := Jvm.LawKit.callS X7 hx (y := (⟨"java/lang/Integer", "valueOf", "(I)Ljava/lang/Integer;"⟩ : MethodName)) hown (mvT hZ hw_3) (mvT hZ hw_4) (mvT hZ hw_5) (mvT hZ hw_6) (by decide) (backOf (W := 2) (rmInt l Z a0 hw [] (9 : Int32) ca cc j9 h7 n0 Z7 (S_high.ext O7.2) (S_cache.ext O7.2) (Ac.ext O7.2) (by decide) (by decide) hia9 hta9) hZ hw_6 hw_5 (by decide) (by decide)) (g := (mkF m 44 #[.val (.int p1), .val (.int p2), .val (.int p3), .val (.int ((p1 &&& (2147483647 : Int32)) % (3 : Int32))), .val (.int ((p2 &&& (2147483647 : Int32)) % (3 : Int32))), .val (.ref b1), .unset, .unset, .unset, .unset, .unset, .unset, .unset] [(.int (9 : Int32)), (.int (2 : Int32)), (.ref b1)])) rfl (by rw [hml]; rfl) (argsL := [(.int (9 : Int32))]) (rest := [(.int (2 : Int32)), (.ref b1)]) (lenOf pd_2 rfl) rfl (by show 2 * 0 + _ ≤ _; exact Nat.le_of_eq rfl) (hb hby at_44) (fun _ _ => ⟨rfl, e7, (by decide : 1 + 0 ≤ _), (by decide : 3 + 0 ≤ _)⟩)
  dsimp only [Pt.U, Pt.locs, Pt.cells, Pt.slots] at X8 l8 y8 z8 st8 hQ8
  subst l8 y8 z8
  obtain ⟨rfl, N8q, e8⟩ := hQ8
  have N8 := Fr.app N7 N8q
  obtain ⟨cl9, Ar9, q9, S9, M9, H9, G9⟩ := V7
  have hin9 : ¬ ((2 : Int32) < 0 ∨ cl9.slots.size ≤ ((2 : Int32)).toNatClampNeg) := inb_of S9 ⟨by decide, by decide⟩
  obtain ⟨T10, h10, X10, e10, W10, st10⟩ := stR X8 hx hZ e8 Ar9 (j := (2 : Int32)) hin9 rfl (Sto.ofV Ar9 q9 Ov1 (Ins.self (Ej9.ext O7.2))) (g := (mkF m 47 #[.val (.int p1), .val (.int p2), .val (.int p3), .val (.int ((p1 &&& (2147483647 : Int32)) % (3 : Int32))), .val (.int ((p2 &&& (2147483647 : Int32)) % (3 : Int32))), .val (.ref b1), .unset, .unset, .unset, .unset, .unset, .unset, .unset] [(.ref j9), (.int (2 : Int32)), (.ref b1)])) rfl rfl (hb hby at_47)
  have V10 : Arv Z h10 b1 k1 (.object "java/lang/Integer") (3 : Int32) [(.ref j7), (.ref j8), (.ref j9)] .null := Arv.set Ar9 q9 S9 M9 H9 G9 rfl W10 2 rfl (Nat.le_of_ble_eq_true rfl)
  have N10 := Fr.snoc X10 N8 (show n0 ≤ b1 by omega)
  have sz10 : h7.size ≤ h10.size := Nat.le_of_eq W10.size.symm
  have Z10 : n0 ≤ h10.size := Nat.le_trans Z7 sz10
  have O10 : Old Z n0 h10 := O7.wr W10 (by omega)
  obtain ⟨T11, h11, k11, X11, e11, E11, A11, st11⟩ := newP (aty := .int) X10 hx hZ hw_11 e10 (g := (mkF m 49 #[.val (.int p1), .val (.int p2), .val (.int p3), .val (.int ((p1 &&& (2147483647 : Int32)) % (3 : Int32))), .val (.int ((p2 &&& (2147483647 : Int32)) % (3 : Int32))), .val (.ref b1), .unset, .unset, .unset, .unset, .unset, .unset, .unset] [(.int (3 : Int32))])) rfl (hb hby at_49) rfl (by decide) (cap := 3) (by decide) (by decide) (by decide) (by decide)
  obtain ⟨b11, g11⟩ : ∃ z, z = h10.size := ⟨_, rfl⟩
  rw [← g11] at A11 st11
  have lt11 : b11 < h11.size := A11.lt
  have V11 : Arv Z h11 b11 k11 .int (3 : Int32) [(.int (0 : Int32)), (.int (0 : Int32)), (.int (0 : Int32))] (.int (0 : Int32)) := (Arv.new A11 (by decide)).pad (pad_rep [] (.int (0 : Int32)) 3)
  have sz11 : h10.size ≤ h11.size := E11.1
  have Z11 : n0 ≤ h11.size := Nat.le_trans Z10 sz11
  have O11 : Old Z n0 h11 := O10.ext E11
  obtain ⟨T12, h12, k12, X12, e12, E12, A12, st12⟩ := newP (aty := .int) X11 hx hZ hw_11 e11 (g := (mkF m 54 #[.val (.int p1), .val (.int p2), .val (.int p3), .val (.int ((p1 &&& (2147483647 : Int32)) % (3 : Int32))), .val (.int ((p2 &&& (2147483647 : Int32)) % (3 : Int32))), .val (.ref b1), .val (.ref b11), .unset, .unset, .unset, .unset, .unset, .unset] [(.int (3 : Int32))])) rfl (hb hby at_54) rfl (by decide) (cap := 3) (by decide) (by decide) (by decide) (by decide)
  obtain ⟨b12, g12⟩ : ∃ z, z = h11.size := ⟨_, rfl⟩
  rw [← g12] at A12 st12
  have lt12 : b12 < h12.size := A12.lt
  have V12 : Arv Z h12 b12 k12 .int (3 : Int32) [(.int (0 : Int32)), (.int (0 : Int32)), (.int (0 : Int32))] (.int (0 : Int32)) := (Arv.new A12 (by decide)).pad (pad_rep [] (.int (0 : Int32)) 3)
  have sz12 : h11.size ≤ h12.size := E12.1
  have Z12 : n0 ≤ h12.size := Nat.le_trans Z11 sz12
  have O12 : Old Z n0 h12 := O11.ext E12
  obtain ⟨cl13, Ar13, q13, S13, M13, H13, G13⟩ := V12
  have hin13 : ¬ ((0 : Int32) < 0 ∨ cl13.slots.size ≤ ((0 : Int32)).toNatClampNeg) := inb_of S13 ⟨by decide, by decide⟩
  obtain ⟨T14, h14, X14, e14, W14, st14⟩ := stI X12 hx hZ e12 Ar13 (j := (0 : Int32)) hin13 (g := (mkF m 62 #[.val (.int p1), .val (.int p2), .val (.int p3), .val (.int ((p1 &&& (2147483647 : Int32)) % (3 : Int32))), .val (.int ((p2 &&& (2147483647 : Int32)) % (3 : Int32))), .val (.ref b1), .val (.ref b11), .val (.ref b12), .unset, .unset, .unset, .unset, .unset] [(.int (0 : Int32)), (.int (0 : Int32)), (.ref b12)])) rfl rfl (hb hby at_62)
  have V14 : Arv Z h14 b12 k12 .int (3 : Int32) [(.int (0 : Int32)), (.int (0 : Int32)), (.int (0 : Int32))] (.int (0 : Int32)) := Arv.set Ar13 q13 S13 M13 H13 G13 rfl W14 0 rfl (Nat.le_of_ble_eq_true rfl)
  have N14 := Fr.snoc X14 N10 (show n0 ≤ b12 by omega)
  have sz14 : h12.size ≤ h14.size := Nat.le_of_eq W14.size.symm
  have Z14 : n0 ≤ h14.size := Nat.le_trans Z12 sz14
  have O14 : Old Z n0 h14 := O12.wr W14 (by omega)
  obtain ⟨cl15, Ar15, q15, S15, M15, H15, G15⟩ := V14
  have hin15 : ¬ ((1 : Int32) < 0 ∨ cl15.slots.size ≤ ((1 : Int32)).toNatClampNeg) := inb_of S15 ⟨by decide, by decide⟩
  obtain ⟨T16, h16, X16, e16, W16, st16⟩ := stI X14 hx hZ e14 Ar15 (j := (1 : Int32)) hin15 (g := (mkF m 67 #[.val (.int p1), .val (.int p2), .val (.int p3), .val (.int ((p1 &&& (2147483647 : Int32)) % (3 : Int32))), .val (.int ((p2 &&& (2147483647 : Int32)) % (3 : Int32))), .val (.ref b1), .val (.ref b11), .val (.ref b12), .unset, .unset, .unset, .unset, .unset] [(.int (1 : Int32)), (.int (1 : Int32)), (.ref b12)])) rfl rfl (hb hby at_67)
  have V16 : Arv Z h16 b12 k12 .int (3 : Int32) [(.int (0 : Int32)), (.int (1 : Int32)), (.int (0 : Int32))] (.int (0 : Int32)) := Arv.set Ar15 q15 S15 M15 H15 G15 rfl W16 1 rfl (Nat.le_of_ble_eq_true rfl)
  have N16 := Fr.snoc X16 N14 (show n0 ≤ b12 by omega)
  have sz16 : h14.size ≤ h16.size := Nat.le_of_eq W16.size.symm
  have Z16 : n0 ≤ h16.size := Nat.le_trans Z14 sz16
  have O16 : Old Z n0 h16 := O14.wr W16 (by omega)
  obtain ⟨cl17, Ar17, q17, S17, M17, H17, G17⟩ := V16
  have hin17 : ¬ ((2 : Int32) < 0 ∨ cl17.slots.size ≤ ((2 : Int32)).toNatClampNeg) := inb_of S17 ⟨by decide, by decide⟩
  obtain ⟨T18, h18, X18, e18, W18, st18⟩ := stI X16 hx hZ e16 Ar17 (j := (2 : Int32)) hin17 (g := (mkF m 72 #[.val (.int p1), .val (.int p2), .val (.int p3), .val (.int ((p1 &&& (2147483647 : Int32)) % (3 : Int32))), .val (.int ((p2 &&& (2147483647 : Int32)) % (3 : Int32))), .val (.ref b1), .val (.ref b11), .val (.ref b12), .unset, .unset, .unset, .unset, .unset] [(.int (2 : Int32)), (.int (2 : Int32)), (.ref b12)])) rfl rfl (hb hby at_72)
  have V18 : Arv Z h18 b12 k12 .int (3 : Int32) [(.int (0 : Int32)), (.int (1 : Int32)), (.int (2 : Int32))] (.int (0 : Int32)) := Arv.set Ar17 q17 S17 M17 H17 G17 rfl W18 2 rfl (Nat.le_of_ble_eq_true rfl)
  have N18 := Fr.snoc X18 N16 (show n0 ≤ b12 by omega)
  have sz18 : h16.size ≤ h18.size := Nat.le_of_eq W18.size.symm
  have Z18 : n0 ≤ h18.size := Nat.le_trans Z16 sz18
  have O18 : Old Z n0 h18 := O16.wr W18 (by omega)
  obtain ⟨T19, h19, X19, e19, E19, A19, D19, -, st19⟩ := newO X18 hx hZ hown hw_12 hw_13 hw_14 e18 (g := (mkF m 73 #[.val (.int p1), .val (.int p2), .val (.int p3), .val (.int ((p1 &&& (2147483647 : Int32)) % (3 : Int32))), .val (.int ((p2 &&& (2147483647 : Int32)) % (3 : Int32))), .val (.ref b1), .val (.ref b11), .val (.ref b12), .unset, .unset, .unset, .unset, .unset] [])) rfl (hb hby at_73) (by decide) (by decide)
  obtain ⟨b19, g19⟩ : ∃ z, z = h18.size := ⟨_, rfl⟩
  rw [← g19] at A19 D19 st19
  have lt19 : b19 < h19.size := A19.lt
  have sz19 : h18.size ≤ h19.size := E19.1
  have Z19 : n0 ≤ h19.size := Nat.le_trans Z18 sz19
  have O19 : Old Z n0 h19 := O18.ext E19
  have F20 : Fld Z h19 b19 "com/example/terrace/terrace/core/UseOrder" "entries" "[Ljava/lang/Object;" .null := D19 (Or.inl hw_24) (ty := (.array (.object "java/lang/Object"))) (by decide)
  have F21 : Fld Z h19 b19 "com/example/terrace/terrace/core/UseOrder" "links" "[I" .null := D19 (Or.inl hw_26) (ty := (.array .int)) (by decide)
  have F22 : Fld Z h19 b19 "com/example/terrace/terrace/core/UseOrder" "free" "I" (.int (0 : Int32)) := D19 (Or.inl hw_28) (ty := .int) (by decide)
  have F23 : Fld Z h19 b19 "com/example/terrace/terrace/core/UseOrder" "highest" "I" (.int (0 : Int32)) := D19 (Or.inl hw_30) (ty := .int) (by decide)
  obtain ⟨_, _, ⟨T24, L24, k24, n24⟩, -, X24, ⟨Lc24, hQ24, l24, y24, z24⟩, st24⟩ := X19.specialBack hx (y := (⟨"com/example/terrace/terrace/core/UseOrder", "<init>", "()V"⟩ : MethodName)) rfl hown (mvT hZ hw_15) (mvT hZ hw_16) (mvT hZ hw_17) (by decide) (backOf (W := 1) (rmInit l Z a0 hw [] b19 h19 n0 Z19 A19 F20 F21 F22 F23 (by omega) (by omega)) hZ hw_17 hw_14 (by decide) (by decide)) (g := (mkF m 77 #[.val (.int p1), .val (.int p2), .val (.int p3), .val (.int ((p1 &&& (2147483647 : Int32)) % (3 : Int32))), .val (.int ((p2 &&& (2147483647 : Int32)) % (3 : Int32))), .val (.ref b1), .val (.ref b11), .val (.ref b12), .unset, .unset, .unset, .unset, .unset] [(.ref b19), (.ref b19)])) rfl (by rw [hml]; rfl) (Steps.refl _) (a := b19) (argsL := []) (rest := [(.ref b19)]) (lenOf pd_3 rfl) rfl (by show 2 * 0 + _ ≤ _; exact Nat.le_of_eq rfl) (hb hby at_77) (fun _ _ => ⟨rfl, e19, (by decide : 4 + 2 ≤ _), (by decide : 13 + 80 ≤ _)⟩)
  dsimp only [Pt.U, Pt.locs, Pt.cells, Pt.slots] at X24 l24 y24 z24 st24 hQ24
  subst l24 y24 z24
  obtain ⟨en, li, ke, kl, rfl, N24q, Kc24, b124, b224, b324, c0_24, c1_24, c2_24, c3_24, c4_24, Ov24, Ve24, Vl24⟩ := hQ24
  have N24 := Fr.app N18 N24q
  have sz24 : h19.size ≤ T24.heap.size := Kc24.1
  have Z24 : n0 ≤ T24.heap.size := Nat.le_trans Z19 sz24
  have O24 : Old Z n0 T24.heap := O19.keep Kc24 (allS (show n0 ≤ b19 by omega) all0)
  have f25 := (V10.ext E11)
  have f26 := (f25.ext E12)
  have ne27 : b1 ≠ b12 := by omega
  have f28 := (f26.other W14 ne27)
  have f29 := (f28.other W16 ne27)
  have f30 := (f29.other W18 ne27)
  have f31 := (f30.ext E19)
  have ne32 : b1 ≠ b19 := by omega
  have f33 := (f31.keep Kc24 (ninS ne32 nin0))
  obtain ⟨cl34, Ar34, q34, S34, M34, H34, G34⟩ := f33
  have f35 : Arv Z T24.heap b1 k1 (.object "java/lang/Integer") (3 : Int32) [(.ref j7), (.ref j8), (.ref j9)] .null := ⟨cl34, Ar34, q34, S34, M34, H34, G34⟩
  have hin34 : ¬ ((0 : Int32) < 0 ∨ cl34.slots.size ≤ ((0 : Int32)).toNatClampNeg) := inb_of S34 ⟨by decide, by decide⟩
  have hat34 : cl34.slots[((0 : Int32)).toNatClampNeg]? = some (.ref j7) := Has.at H34 hin34 rfl
  have ne37 : b19 ≠ li := by omega
  have ne38 : en ≠ li := by omega
  have ne39 : b19 ≠ en := by omega
  obtain ⟨cq36, kq36, q36a, q36b, q36c⟩ := isOf hZ rfl c0_24
  obtain ⟨_, _, ⟨T36, L36, k36, n36⟩, -, X36, ⟨Lc36, hQ36, l36, y36, z36⟩, st36⟩ := X24.virtualBack hx (y := (⟨"com/example/terrace/terrace/core/UseOrder", "add", "(Ljava/lang/Object;I)I"⟩ : MethodName)) (z := (⟨"com/example/terrace/terrace/core/UseOrder", "add", "(Ljava/lang/Object;I)I"⟩ : MethodName)) hown (mvT hZ hw_31) (mvT hZ hw_32) (notFace_of_selects (args := #[]) (mvT hZ hw_34)) (mvT hZ hw_34) (mvT hZ hw_33) (by decide) (backOf (W := 2) (rmAdd l Z a0 hw [] b19 li kl (own_L 0 0 0 0 0 0 0 0 0 0 0 0 0 0 0 0) en ke (own_E .null .null .null) j7 p3 (0 : Int32) 4 1 1 T24.heap n0 Z24 c2_24 Vl24 own_Ln rfl (by omega) ne37 c0_24 c1_24 Ve24 own_En (by omega) (by omega) c3_24 c4_24 Ov24 (Ej7.ext O24.2) ne38 ne39 ⟨by decide, by decide⟩ rfl ⟨by decide, by decide⟩ rfl ⟨by decide, by decide⟩ rfl ⟨by decide, by decide⟩ rfl ⟨by decide, by decide⟩ rfl (by decide) (by decide) (by decide) (by decide)) hZ hw_35 hw_14 (by decide) (by decide)) q36a q36c (g := (mkF m 92 #[.val (.int p1), .val (.int p2), .val (.int p3), .val (.int ((p1 &&& (2147483647 : Int32)) % (3 : Int32))), .val (.int ((p2 &&& (2147483647 : Int32)) % (3 : Int32))), .val (.ref b1), .val (.ref b11), .val (.ref b12), .val (.ref b19), .unset, .unset, .unset, .unset] [(.int p3), (.ref j7), (.ref b19), (.int (0 : Int32)), (.ref b11)])) rfl (by rw [hml]; rfl) (Steps.refl _) (argsL := [(.ref j7), (.int p3)]) (rest := [(.int (0 : Int32)), (.ref b11)]) (lenOf pd_4 rfl) rfl (by show 2 * 0 + _ ≤ _; exact Nat.le_of_eq rfl) (hb hby at_92) (fun _ _ => ⟨rfl, rfl, (by decide : 6 + 0 ≤ _), (by decide : 93 + 0 ≤ _)⟩)
  dsimp only [Pt.U, Pt.locs, Pt.cells, Pt.slots] at X36 l36 y36 z36 st36 hQ36
  subst l36 y36 z36
  obtain ⟨rfl, N36q, Kc36, c0_36, c1_36, c2_36, c3_36, c4_36, c5_36, c6_36⟩ := hQ36
  have N36 := Fr.app N24 N36q
  have sz36 : T24.heap.size ≤ T36.heap.size := Kc36.1
  have Z36 : n0 ≤ T36.heap.size := Nat.le_trans Z24 sz36
  have O36 : Old Z n0 T36.heap := O24.keep Kc36 (allS (show n0 ≤ b19 by omega) (allS (show n0 ≤ li by omega) (allS (show n0 ≤ en by omega) all0)))
  have Vl36_ : Arv Z T36.heap li kl .int (64 : Int32) (own_L 1 1 0 0 0 0 p3 0 0 0 0 0 0 0 0 0) (.int (0 : Int32)) := c5_36
  have Ve36_ : Arv Z T36.heap en ke (.object "java/lang/Object") (16 : Int32) (own_E (.ref j7) .null .null) .null := c6_36
  have f40 := (V11.ext E12)
  have ne41 : b11 ≠ b12 := by omega
  have f42 := (f40.other W14 ne41)
  have f43 := (f42.other W16 ne41)
  have f44 := (f43.other W18 ne41)
  have f45 := (f44.ext E19)
  have ne46 : b11 ≠ b19 := by omega
  have f47 := (f45.keep Kc24 (ninS ne46 nin0))
  have ne48 : b11 ≠ en := by omega
  have ne49 : b11 ≠ li := by omega
  have f50 := (f47.keep Kc36 (ninS ne46 (ninS ne49 (ninS ne48 nin0))))
  obtain ⟨cl51, Ar51, q51, S51, M51, H51, G51⟩ := f50
  have hin51 : ¬ ((0 : Int32) < 0 ∨ cl51.slots.size ≤ ((0 : Int32)).toNatClampNeg) := inb_of S51 ⟨by decide, by decide⟩
  obtain ⟨T52, h52, X52, e52, W52, st52⟩ := stI X36 hx hZ rfl Ar51 (j := (0 : Int32)) hin51 (g := (mkF m 95 #[.val (.int p1), .val (.int p2), .val (.int p3), .val (.int ((p1 &&& (2147483647 : Int32)) % (3 : Int32))), .val (.int ((p2 &&& (2147483647 : Int32)) % (3 : Int32))), .val (.ref b1), .val (.ref b11), .val (.ref b12), .val (.ref b19), .unset, .unset, .unset, .unset] [(.int (1 : Int32)), (.int (0 : Int32)), (.ref b11)])) rfl rfl (hb hby at_95)
  have V52 : Arv Z h52 b11 k11 .int (3 : Int32) [(.int (1 : Int32)), (.int (0 : Int32)), (.int (0 : Int32))] (.int (0 : Int32)) := Arv.set Ar51 q51 S51 M51 H51 G51 rfl W52 0 rfl (Nat.le_of_ble_eq_true rfl)
  have N52 := Fr.snoc X52 N36 (show n0 ≤ b11 by omega)
  have sz52 : T36.heap.size ≤ h52.size := Nat.le_of_eq W52.size.symm
  have Z52 : n0 ≤ h52.size := Nat.le_trans Z36 sz52
  have O52 : Old Z n0 h52 := O36.wr W52 (by omega)
  have ne53 : b1 ≠ en := by omega
  have ne54 : b1 ≠ li := by omega
  have f55 := (f35.keep Kc36 (ninS ne32 (ninS ne54 (ninS ne53 nin0))))
  have ne56 : b1 ≠ b11 := by omega
  have f57 := (f55.other W52 ne56)
  obtain ⟨cl58, Ar58, q58, S58, M58, H58, G58⟩ := f57
  have f59 : Arv Z h52 b1 k1 (.object "java/lang/Integer") (3 : Int32) [(.ref j7), (.ref j8), (.ref j9)] .null := ⟨cl58, Ar58, q58, S58, M58, H58, G58⟩
  have hin58 : ¬ ((1 : Int32) < 0 ∨ cl58.slots.size ≤ ((1 : Int32)).toNatClampNeg) := inb_of S58 ⟨by decide, by decide⟩
  have hat58 : cl58.slots[((1 : Int32)).toNatClampNeg]? = some (.ref j8) := Has.at H58 hin58 rfl
  have f61 := (c1_36.other W52 (Or.inl (Ne.symm ne46)))
  have f62 := (Vl36_.other W52 (Ne.symm ne49))
  have f63 := (c0_36.wr W52)
  have f64 := (c2_36.other W52 (Or.inl (Ne.symm ne46)))
  have f65 := (Ve36_.other W52 (Ne.symm ne48))
  have f66 := (c3_36.other W52 (Or.inl (Ne.symm ne46)))
  have f67 := (c4_36.other W52 (Or.inl (Ne.symm ne46)))
  obtain ⟨cq60, kq60, q60a, q60b, q60c⟩ := isOf hZ e52 f63
  obtain ⟨_, _, ⟨T60, L60, k60, n60⟩, -, X60, ⟨Lc60, hQ60, l60, y60, z60⟩, st60⟩ := X52.virtualBack hx (y := (⟨"com/example/terrace/terrace/core/UseOrder", "add", "(Ljava/lang/Object;I)I"⟩ : MethodName)) (z := (⟨"com/example/terrace/terrace/core/UseOrder", "add", "(Ljava/lang/Object;I)I"⟩ : MethodName)) hown (mvT hZ hw_31) (mvT hZ hw_32) (notFace_of_selects (args := #[]) (mvT hZ hw_34)) (mvT hZ hw_34) (mvT hZ hw_33) (by decide) (backOf (W := 2) (rmAdd l Z a0 hw [] b19 li kl (own_L 1 1 0 0 0 0 p3 0 0 0 0 0 0 0 0 0) en ke (own_E (.ref j7) .null .null) j8 p3 (1 : Int32) 8 5 2 h52 n0 Z52 f61 f62 own_Ln rfl (by omega) ne37 f63 f64 f65 own_En (by omega) (by omega) f66 f67 Ov24 (Ej8.ext O52.2) ne38 ne39 ⟨by decide, by decide⟩ rfl ⟨by decide, by decide⟩ rfl ⟨by decide, by decide⟩ rfl ⟨by decide, by decide⟩ rfl ⟨by decide, by decide⟩ rfl (by decide) (by decide) (by decide) (by decide)) hZ hw_35 hw_14 (by decide) (by decide)) q60a q60c (g := (mkF m 106 #[.val (.int p1), .val (.int p2), .val (.int p3), .val (.int ((p1 &&& (2147483647 : Int32)) % (3 : Int32))), .val (.int ((p2 &&& (2147483647 : Int32)) % (3 : Int32))), .val (.ref b1), .val (.ref b11), .val (.ref b12), .val (.ref b19), .unset, .unset, .unset, .unset] [(.int p3), (.ref j8), (.ref b19), (.int (1 : Int32)), (.ref b11)])) rfl (by rw [hml]; rfl) (Steps.refl _) (argsL := [(.ref j8), (.int p3)]) (rest := [(.int (1 : Int32)), (.ref b11)]) (lenOf pd_4 rfl) rfl (by show 2 * 0 + _ ≤ _; exact Nat.le_of_eq rfl) (hb hby at_106) (fun _ _ => ⟨rfl, e52, (by decide : 6 + 0 ≤ _), (by decide : 93 + 0 ≤ _)⟩)
  dsimp only [Pt.U, Pt.locs, Pt.cells, Pt.slots] at X60 l60 y60 z60 st60 hQ60
  subst l60 y60 z60
  obtain ⟨rfl, N60q, Kc60, c0_60, c1_60, c2_60, c3_60, c4_60, c5_60, c6_60⟩ := hQ60
  have N60 := Fr.app N52 N60q
  have sz60 : h52.size ≤ T60.heap.size := Kc60.1
  have Z60 : n0 ≤ T60.heap.size := Nat.le_trans Z52 sz60
  have O60 : Old Z n0 T60.heap := O52.keep Kc60 (allS (show n0 ≤ b19 by omega) (allS (show n0 ≤ li by omega) (allS (show n0 ≤ en by omega) all0)))
  have Vl60_ : Arv Z T60.heap li kl .int (64 : Int32) (own_L 2 1 0 0 0 2 p3 0 1 0 p3 0 0 0 0 0) (.int (0 : Int32)) := c5_60
  have Ve60_ : Arv Z T60.heap en ke (.object "java/lang/Object") (16 : Int32) (own_E (.ref j7) (.ref j8) .null) .null := c6_60
  have f68 := (V52.keep Kc60 (ninS ne46 (ninS ne49 (ninS ne48 nin0))))
  obtain ⟨cl69, Ar69, q69, S69, M69, H69, G69⟩ := f68
  have hin69 : ¬ ((1 : Int32) < 0 ∨ cl69.slots.size ≤ ((1 : Int32)).toNatClampNeg) := inb_of S69 ⟨by decide, by decide⟩
  obtain ⟨T70, h70, X70, e70, W70, st70⟩ := stI X60 hx hZ rfl Ar69 (j := (1 : Int32)) hin69 (g := (mkF m 109 #[.val (.int p1), .val (.int p2), .val (.int p3), .val (.int ((p1 &&& (2147483647 : Int32)) % (3 : Int32))), .val (.int ((p2 &&& (2147483647 : Int32)) % (3 : Int32))), .val (.ref b1), .val (.ref b11), .val (.ref b12), .val (.ref b19), .unset, .unset, .unset, .unset] [(.int (2 : Int32)), (.int (1 : Int32)), (.ref b11)])) rfl rfl (hb hby at_109)
  have V70 : Arv Z h70 b11 k11 .int (3 : Int32) [(.int (1 : Int32)), (.int (2 : Int32)), (.int (0 : Int32))] (.int (0 : Int32)) := Arv.set Ar69 q69 S69 M69 H69 G69 rfl W70 1 rfl (Nat.le_of_ble_eq_true rfl)
  have N70 := Fr.snoc X70 N60 (show n0 ≤ b11 by omega)
  have sz70 : T60.heap.size ≤ h70.size := Nat.le_of_eq W70.size.symm
  have Z70 : n0 ≤ h70.size := Nat.le_trans Z60 sz70
  have O70 : Old Z n0 h70 := O60.wr W70 (by omega)
  have f71 := (f59.keep Kc60 (ninS ne32 (ninS ne54 (ninS ne53 nin0))))
  have f72 := (f71.other W70 ne56)
  obtain ⟨cl73, Ar73, q73, S73, M73, H73, G73⟩ := f72
  have f74 : Arv Z h70 b1 k1 (.object "java/lang/Integer") (3 : Int32) [(.ref j7), (.ref j8), (.ref j9)] .null := ⟨cl73, Ar73, q73, S73, M73, H73, G73⟩
  have hin73 : ¬ ((2 : Int32) < 0 ∨ cl73.slots.size ≤ ((2 : Int32)).toNatClampNeg) := inb_of S73 ⟨by decide, by decide⟩
  have hat73 : cl73.slots[((2 : Int32)).toNatClampNeg]? = some (.ref j9) := Has.at H73 hin73 rfl
  have f76 := (c1_60.other W70 (Or.inl (Ne.symm ne46)))
  have f77 := (Vl60_.other W70 (Ne.symm ne49))
  have f78 := (c0_60.wr W70)
  have f79 := (c2_60.other W70 (Or.inl (Ne.symm ne46)))
  have f80 := (Ve60_.other W70 (Ne.symm ne48))
  have f81 := (c3_60.other W70 (Or.inl (Ne.symm ne46)))
  have f82 := (c4_60.other W70 (Or.inl (Ne.symm ne46)))
  obtain ⟨cq75, kq75, q75a, q75b, q75c⟩ := isOf hZ e70 f78
  obtain ⟨_, _, ⟨T75, L75, k75, n75⟩, -, X75, ⟨Lc75, hQ75, l75, y75, z75⟩, st75⟩ := X70.virtualBack hx (y := (⟨"com/example/terrace/terrace/core/UseOrder", "add", "(Ljava/lang/Object;I)I"⟩ : MethodName)) (z := (⟨"com/example/terrace/terrace/core/UseOrder", "add", "(Ljava/lang/Object;I)I"⟩ : MethodName)) hown (mvT hZ hw_31) (mvT hZ hw_32) (notFace_of_selects (args := #[]) (mvT hZ hw_34)) (mvT hZ hw_34) (mvT hZ hw_33) (by decide) (backOf (W := 2) (rmAdd l Z a0 hw [] b19 li kl (own_L 2 1 0 0 0 2 p3 0 1 0 p3 0 0 0 0 0) en ke (own_E (.ref j7) (.ref j8) .null) j9 p3 (2 : Int32) 12 9 3 h70 n0 Z70 f76 f77 own_Ln rfl (by omega) ne37 f78 f79 f80 own_En (by omega) (by omega) f81 f82 Ov24 (Ej9.ext O70.2) ne38 ne39 ⟨by decide, by decide⟩ rfl ⟨by decide, by decide⟩ rfl ⟨by decide, by decide⟩ rfl ⟨by decide, by decide⟩ rfl ⟨by decide, by decide⟩ rfl (by decide) (by decide) (by decide) (by decide)) hZ hw_35 hw_14 (by decide) (by decide)) q75a q75c (g := (mkF m 120 #[.val (.int p1), .val (.int p2), .val (.int p3), .val (.int ((p1 &&& (2147483647 : Int32)) % (3 : Int32))), .val (.int ((p2 &&& (2147483647 : Int32)) % (3 : Int32))), .val (.ref b1), .val (.ref b11), .val (.ref b12), .val (.ref b19), .unset, .unset, .unset, .unset] [(.int p3), (.ref j9), (.ref b19), (.int (2 : Int32)), (.ref b11)])) rfl (by rw [hml]; rfl) (Steps.refl _) (argsL := [(.ref j9), (.int p3)]) (rest := [(.int (2 : Int32)), (.ref b11)]) (lenOf pd_4 rfl) rfl (by show 2 * 0 + _ ≤ _; exact Nat.le_of_eq rfl) (hb hby at_120) (fun _ _ => ⟨rfl, e70, (by decide : 6 + 0 ≤ _), (by decide : 93 + 0 ≤ _)⟩)
  dsimp only [Pt.U, Pt.locs, Pt.cells, Pt.slots] at X75 l75 y75 z75 st75 hQ75
  subst l75 y75 z75
  obtain ⟨rfl, N75q, Kc75, c0_75, c1_75, c2_75, c3_75, c4_75, c5_75, c6_75⟩ := hQ75
  have N75 := Fr.app N70 N75q
  have sz75 : h70.size ≤ T75.heap.size := Kc75.1
  have Z75 : n0 ≤ T75.heap.size := Nat.le_trans Z70 sz75
  have O75 : Old Z n0 T75.heap := O70.keep Kc75 (allS (show n0 ≤ b19 by omega) (allS (show n0 ≤ li by omega) (allS (show n0 ≤ en by omega) all0)))
  have Vl75_ : Arv Z T75.heap li kl .int (64 : Int32) (own_L 3 1 0 0 0 2 p3 0 1 3 p3 0 2 0 p3 0) (.int (0 : Int32)) := c5_75
  have Ve75_ : Arv Z T75.heap en ke (.object "java/lang/Object") (16 : Int32) (own_E (.ref j7) (.ref j8) (.ref j9)) .null := c6_75
  have f83 := (V70.keep Kc75 (ninS ne46 (ninS ne49 (ninS ne48 nin0))))
  obtain ⟨cl84, Ar84, q84, S84, M84, H84, G84⟩ := f83
  have hin84 : ¬ ((2 : Int32) < 0 ∨ cl84.slots.size ≤ ((2 : Int32)).toNatClampNeg) := inb_of S84 ⟨by decide, by decide⟩
  obtain ⟨T85, h85, X85, e85, W85, st85⟩ := stI X75 hx hZ rfl Ar84 (j := (2 : Int32)) hin84 (g := (mkF m 123 #[.val (.int p1), .val (.int p2), .val (.int p3), .val (.int ((p1 &&& (2147483647 : Int32)) % (3 : Int32))), .val (.int ((p2 &&& (2147483647 : Int32)) % (3 : Int32))), .val (.ref b1), .val (.ref b11), .val (.ref b12), .val (.ref b19), .unset, .unset, .unset, .unset] [(.int (3 : Int32)), (.int (2 : Int32)), (.ref b11)])) rfl rfl (hb hby at_123)
  have V85 : Arv Z h85 b11 k11 .int (3 : Int32) [(.int (1 : Int32)), (.int (2 : Int32)), (.int (3 : Int32))] (.int (0 : Int32)) := Arv.set Ar84 q84 S84 M84 H84 G84 rfl W85 2 rfl (Nat.le_of_ble_eq_true rfl)
  have N85 := Fr.snoc X85 N75 (show n0 ≤ b11 by omega)
  have sz85 : T75.heap.size ≤ h85.size := Nat.le_of_eq W85.size.symm
  have Z85 : n0 ≤ h85.size := Nat.le_trans Z75 sz85
  have O85 : Old Z n0 h85 := O75.wr W85 (by omega)
  have go86 : ∀ t_, Steps p.tables e below (T85.setTop (mkF m 124 #[.val (.int p1), .val (.int p2), .val (.int p3), .val (.int ((p1 &&& (2147483647 : Int32)) % (3 : Int32))), .val (.int ((p2 &&& (2147483647 : Int32)) % (3 : Int32))), .val (.ref b1), .val (.ref b11), .val (.ref b12), .val (.ref b19), .unset, .unset, .unset, .unset] [])) t_ → Steps p.tables e below (s₁.setTop (entryFrame m #[(.int p1), (.int p2), (.int p3)] maxLocals)) t_ := by
    intro t_ k_
    refine pre0 t_ ?_
    show Steps p.tables e below (s₁.setTop (mkF m 0 #[.val (.int p1), .val (.int p2), .val (.int p3), .unset, .unset, .unset, .unset, .unset, .unset, .unset, .unset, .unset, .unset] [])) _
    refine XS.iloadN X0.here hx rfl (hb hby at_0) rfl ?_
    show Steps p.tables e below (s₁.setTop (mkF m 1 #[.val (.int p1), .val (.int p2), .val (.int p3), .unset, .unset, .unset, .unset, .unset, .unset, .unset, .unset, .unset, .unset] [(.int p1)])) _
    refine X0.ldcInt hx hown (mvT hZ hw_0) (g := (mkF m 1 #[.val (.int p1), .val (.int p2), .val (.int p3), .unset, .unset, .unset, .unset, .unset, .unset, .unset, .unset, .unset, .unset] [(.int p1)])) rfl (hb hby at_1) _ ?_
    show Steps p.tables e below (s₁.setTop (mkF m 3 #[.val (.int p1), .val (.int p2), .val (.int p3), .unset, .unset, .unset, .unset, .unset, .unset, .unset, .unset, .unset, .unset] [(.int (2147483647 : Int32)), (.int p1)])) _
    refine XS.iand X0.here hx rfl (hb hby at_3) rfl ?_
    show Steps p.tables e below (s₁.setTop (mkF m 4 #[.val (.int p1), .val (.int p2), .val (.int p3), .unset, .unset, .unset, .unset, .unset, .unset, .unset, .unset, .unset, .unset] [(.int (p1 &&& (2147483647 : Int32)))])) _
    refine XS.iconst X0.here hx rfl (hb hby at_4) ?_
    show Steps p.tables e below (s₁.setTop (mkF m 5 #[.val (.int p1), .val (.int p2), .val (.int p3), .unset, .unset, .unset, .unset, .unset, .unset, .unset, .unset, .unset, .unset] [(.int (3 : Int32)), (.int (p1 &&& (2147483647 : Int32)))])) _
    refine Jvm.RoadKit.iremM X0 hx rfl (hb hby at_5) rfl (by decide) ?_
    show Steps p.tables e below (s₁.setTop (mkF m 6 #[.val (.int p1), .val (.int p2), .val (.int p3), .unset, .unset, .unset, .unset, .unset, .unset, .unset, .unset, .unset, .unset] [(.int ((p1 &&& (2147483647 : Int32)) % (3 : Int32)))])) _
    refine XS.istoreN X0.here hx rfl (hb hby at_6) rfl (l' := #[.val (.int p1), .val (.int p2), .val (.int p3), .val (.int ((p1 &&& (2147483647 : Int32)) % (3 : Int32))), .unset, .unset, .unset, .unset, .unset, .unset, .unset, .unset, .unset]) rfl ?_
    show Steps p.tables e below (s₁.setTop (mkF m 7 #[.val (.int p1), .val (.int p2), .val (.int p3), .val (.int ((p1 &&& (2147483647 : Int32)) % (3 : Int32))), .unset, .unset, .unset, .unset, .unset, .unset, .unset, .unset, .unset] [])) _
    refine XS.iloadN X0.here hx rfl (hb hby at_7) rfl ?_
    show Steps p.tables e below (s₁.setTop (mkF m 8 #[.val (.int p1), .val (.int p2), .val (.int p3), .val (.int ((p1 &&& (2147483647 : Int32)) % (3 : Int32))), .unset, .unset, .unset, .unset, .unset, .unset, .unset, .unset, .unset] [(.int p2)])) _
    refine X0.ldcInt hx hown (mvT hZ hw_0) (g := (mkF m 8 #[.val (.int p1), .val (.int p2), .val (.int p3), .val (.int ((p1 &&& (2147483647 : Int32)) % (3 : Int32))), .unset, .unset, .unset, .unset, .unset, .unset, .unset, .unset, .unset] [(.int p2)])) rfl (hb hby at_8) _ ?_
    show Steps p.tables e below (s₁.setTop (mkF m 10 #[.val (.int p1), .val (.int p2), .val (.int p3), .val (.int ((p1 &&& (2147483647 : Int32)) % (3 : Int32))), .unset, .unset, .unset, .unset, .unset, .unset, .unset, .unset, .unset] [(.int (2147483647 : Int32)), (.int p2)])) _
    refine XS.iand X0.here hx rfl (hb hby at_10) rfl ?_
    show Steps p.tables e below (s₁.setTop (mkF m 11 #[.val (.int p1), .val (.int p2), .val (.int p3), .val (.int ((p1 &&& (2147483647 : Int32)) % (3 : Int32))), .unset, .unset, .unset, .unset, .unset, .unset, .unset, .unset, .unset] [(.int (p2 &&& (2147483647 : Int32)))])) _
    refine XS.iconst X0.here hx rfl (hb hby at_11) ?_
    show Steps p.tables e below (s₁.setTop (mkF m 12 #[.val (.int p1), .val (.int p2), .val (.int p3), .val (.int ((p1 &&& (2147483647 : Int32)) % (3 : Int32))), .unset, .unset, .unset, .unset, .unset, .unset, .unset, .unset, .unset] [(.int (3 : Int32)), (.int (p2 &&& (2147483647 : Int32)))])) _
    refine Jvm.RoadKit.iremM X0 hx rfl (hb hby at_12) rfl (by decide) ?_
    show Steps p.tables e below (s₁.setTop (mkF m 13 #[.val (.int p1), .val (.int p2), .val (.int p3), .val (.int ((p1 &&& (2147483647 : Int32)) % (3 : Int32))), .unset, .unset, .unset, .unset, .unset, .unset, .unset, .unset, .unset] [(.int ((p2 &&& (2147483647 : Int32)) % (3 : Int32)))])) _
    refine XS.istore X0.here hx rfl (hb hby at_13) rfl (l' := #[.val (.int p1), .val (.int p2), .val (.int p3), .val (.int ((p1 &&& (2147483647 : Int32)) % (3 : Int32))), .val (.int ((p2 &&& (2147483647 : Int32)) % (3 : Int32))), .unset, .unset, .unset, .unset, .unset, .unset, .unset, .unset]) rfl ?_
    show Steps p.tables e below (s₁.setTop (mkF m 15 #[.val (.int p1), .val (.int p2), .val (.int p3), .val (.int ((p1 &&& (2147483647 : Int32)) % (3 : Int32))), .val (.int ((p2 &&& (2147483647 : Int32)) % (3 : Int32))), .unset, .unset, .unset, .unset, .unset, .unset, .unset, .unset] [])) _
    refine XS.iconst X0.here hx rfl (hb hby at_15) ?_
    show Steps p.tables e below (s₁.setTop (mkF m 16 #[.val (.int p1), .val (.int p2), .val (.int p3), .val (.int ((p1 &&& (2147483647 : Int32)) % (3 : Int32))), .val (.int ((p2 &&& (2147483647 : Int32)) % (3 : Int32))), .unset, .unset, .unset, .unset, .unset, .unset, .unset, .unset] [(.int (3 : Int32))])) _
    refine st1 _ ?_
    show Steps p.tables e below (T1.setTop (mkF m 19 #[.val (.int p1), .val (.int p2), .val (.int p3), .val (.int ((p1 &&& (2147483647 : Int32)) % (3 : Int32))), .val (.int ((p2 &&& (2147483647 : Int32)) % (3 : Int32))), .unset, .unset, .unset, .unset, .unset, .unset, .unset, .unset] [(.ref b1)])) _
    refine XS.astore X1.here hx rfl (hb hby at_19) rfl rfl (l' := #[.val (.int p1), .val (.int p2), .val (.int p3), .val (.int ((p1 &&& (2147483647 : Int32)) % (3 : Int32))), .val (.int ((p2 &&& (2147483647 : Int32)) % (3 : Int32))), .val (.ref b1), .unset, .unset, .unset, .unset, .unset, .unset, .unset]) rfl ?_
    show Steps p.tables e below (T1.setTop (mkF m 21 #[.val (.int p1), .val (.int p2), .val (.int p3), .val (.int ((p1 &&& (2147483647 : Int32)) % (3 : Int32))), .val (.int ((p2 &&& (2147483647 : Int32)) % (3 : Int32))), .val (.ref b1), .unset, .unset, .unset, .unset, .unset, .unset, .unset] [])) _
    refine XS.aload X1.here hx rfl (hb hby at_21) rfl rfl ?_
    show Steps p.tables e below (T1.setTop (mkF m 23 #[.val (.int p1), .val (.int p2), .val (.int p3), .val (.int ((p1 &&& (2147483647 : Int32)) % (3 : Int32))), .val (.int ((p2 &&& (2147483647 : Int32)) % (3 : Int32))), .val (.ref b1), .unset, .unset, .unset, .unset, .unset, .unset, .unset] [(.ref b1)])) _
    refine XS.iconst X1.here hx rfl (hb hby at_23) ?_
    show Steps p.tables e below (T1.setTop (mkF m 24 #[.val (.int p1), .val (.int p2), .val (.int p3), .val (.int ((p1 &&& (2147483647 : Int32)) % (3 : Int32))), .val (.int ((p2 &&& (2147483647 : Int32)) % (3 : Int32))), .val (.ref b1), .unset, .unset, .unset, .unset, .unset, .unset, .unset] [(.int (0 : Int32)), (.ref b1)])) _
    refine XS.bipush X1.here hx rfl (hb hby at_24) ?_
    show Steps p.tables e below (T1.setTop (mkF m 26 #[.val (.int p1), .val (.int p2), .val (.int p3), .val (.int ((p1 &&& (2147483647 : Int32)) % (3 : Int32))), .val (.int ((p2 &&& (2147483647 : Int32)) % (3 : Int32))), .val (.ref b1), .unset, .unset, .unset, .unset, .unset, .unset, .unset] [(.int (7 : Int32)), (.int (0 : Int32)), (.ref b1)])) _
    refine st2 _ ?_
    show Steps p.tables e below (T2.setTop (mkF m 29 #[.val (.int p1), .val (.int p2), .val (.int p3), .val (.int ((p1 &&& (2147483647 : Int32)) % (3 : Int32))), .val (.int ((p2 &&& (2147483647 : Int32)) % (3 : Int32))), .val (.ref b1), .unset, .unset, .unset, .unset, .unset, .unset, .unset] [(.ref j7), (.int (0 : Int32)), (.ref b1)])) _
    refine st4 _ ?_
    show Steps p.tables e below (T4.setTop (mkF m 30 #[.val (.int p1), .val (.int p2), .val (.int p3), .val (.int ((p1 &&& (2147483647 : Int32)) % (3 : Int32))), .val (.int ((p2 &&& (2147483647 : Int32)) % (3 : Int32))), .val (.ref b1), .unset, .unset, .unset, .unset, .unset, .unset, .unset] [])) _
    refine XS.aload X4.here hx rfl (hb hby at_30) rfl rfl ?_
    show Steps p.tables e below (T4.setTop (mkF m 32 #[.val (.int p1), .val (.int p2), .val (.int p3), .val (.int ((p1 &&& (2147483647 : Int32)) % (3 : Int32))), .val (.int ((p2 &&& (2147483647 : Int32)) % (3 : Int32))), .val (.ref b1), .unset, .unset, .unset, .unset, .unset, .unset, .unset] [(.ref b1)])) _
    refine XS.iconst X4.here hx rfl (hb hby at_32) ?_
    show Steps p.tables e below (T4.setTop (mkF m 33 #[.val (.int p1), .val (.int p2), .val (.int p3), .val (.int ((p1 &&& (2147483647 : Int32)) % (3 : Int32))), .val (.int ((p2 &&& (2147483647 : Int32)) % (3 : Int32))), .val (.ref b1), .unset, .unset, .unset, .unset, .unset, .unset, .unset] [(.int (1 : Int32)), (.ref b1)])) _
    refine XS.bipush X4.here hx rfl (hb hby at_33) ?_
    show Steps p.tables e below (T4.setTop (mkF m 35 #[.val (.int p1), .val (.int p2), .val (.int p3), .val (.int ((p1 &&& (2147483647 : Int32)) % (3 : Int32))), .val (.int ((p2 &&& (2147483647 : Int32)) % (3 : Int32))), .val (.ref b1), .unset, .unset, .unset, .unset, .unset, .unset, .unset] [(.int (8 : Int32)), (.int (1 : Int32)), (.ref b1)])) _
    refine st5 _ ?_
    show Steps p.tables e below (T5.setTop (mkF m 38 #[.val (.int p1), .val (.int p2), .val (.int p3), .val (.int ((p1 &&& (2147483647 : Int32)) % (3 : Int32))), .val (.int ((p2 &&& (2147483647 : Int32)) % (3 : Int32))), .val (.ref b1), .unset, .unset, .unset, .unset, .unset, .unset, .unset] [(.ref j8), (.int (1 : Int32)), (.ref b1)])) _
    refine st7 _ ?_
    show Steps p.tables e below (T7.setTop (mkF m 39 #[.val (.int p1), .val (.int p2), .val (.int p3), .val (.int ((p1 &&& (2147483647 : Int32)) % (3 : Int32))), .val (.int ((p2 &&& (2147483647 : Int32)) % (3 : Int32))), .val (.ref b1), .unset, .unset, .unset, .unset, .unset, .unset, .unset] [])) _
    refine XS.aload X7.here hx rfl (hb hby at_39) rfl rfl ?_
    show Steps p.tables e below (T7.setTop (mkF m 41 #[.val (.int p1), .val (.int p2), .val (.int p3), .val (.int ((p1 &&& (2147483647 : Int32)) % (3 : Int32))), .val (.int ((p2 &&& (2147483647 : Int32)) % (3 : Int32))), .val (.ref b1), .unset, .unset, .unset, .unset, .unset, .unset, .unset] [(.ref b1)])) _
    refine XS.iconst X7.here hx rfl (hb hby at_41) ?_
    show Steps p.tables e below (T7.setTop (mkF m 42 #[.val (.int p1), .val (.int p2), .val (.int p3), .val (.int ((p1 &&& (2147483647 : Int32)) % (3 : Int32))), .val (.int ((p2 &&& (2147483647 : Int32)) % (3 : Int32))), .val (.ref b1), .unset, .unset, .unset, .unset, .unset, .unset, .unset] [(.int (2 : Int32)), (.ref b1)])) _
    refine XS.bipush X7.here hx rfl (hb hby at_42) ?_
    show Steps p.tables e below (T7.setTop (mkF m 44 #[.val (.int p1), .val (.int p2), .val (.int p3), .val (.int ((p1 &&& (2147483647 : Int32)) % (3 : Int32))), .val (.int ((p2 &&& (2147483647 : Int32)) % (3 : Int32))), .val (.ref b1), .unset, .unset, .unset, .unset, .unset, .unset, .unset] [(.int (9 : Int32)), (.int (2 : Int32)), (.ref b1)])) _
    refine st8 _ ?_
    show Steps p.tables e below (T8.setTop (mkF m 47 #[.val (.int p1), .val (.int p2), .val (.int p3), .val (.int ((p1 &&& (2147483647 : Int32)) % (3 : Int32))), .val (.int ((p2 &&& (2147483647 : Int32)) % (3 : Int32))), .val (.ref b1), .unset, .unset, .unset, .unset, .unset, .unset, .unset] [(.ref j9), (.int (2 : Int32)), (.ref b1)])) _
    refine st10 _ ?_
    show Steps p.tables e below (T10.setTop (mkF m 48 #[.val (.int p1), .val (.int p2), .val (.int p3), .val (.int ((p1 &&& (2147483647 : Int32)) % (3 : Int32))), .val (.int ((p2 &&& (2147483647 : Int32)) % (3 : Int32))), .val (.ref b1), .unset, .unset, .unset, .unset, .unset, .unset, .unset] [])) _
    refine XS.iconst X10.here hx rfl (hb hby at_48) ?_
    show Steps p.tables e below (T10.setTop (mkF m 49 #[.val (.int p1), .val (.int p2), .val (.int p3), .val (.int ((p1 &&& (2147483647 : Int32)) % (3 : Int32))), .val (.int ((p2 &&& (2147483647 : Int32)) % (3 : Int32))), .val (.ref b1), .unset, .unset, .unset, .unset, .unset, .unset, .unset] [(.int (3 : Int32))])) _
    refine st11 _ ?_
    show Steps p.tables e below (T11.setTop (mkF m 51 #[.val (.int p1), .val (.int p2), .val (.int p3), .val (.int ((p1 &&& (2147483647 : Int32)) % (3 : Int32))), .val (.int ((p2 &&& (2147483647 : Int32)) % (3 : Int32))), .val (.ref b1), .unset, .unset, .unset, .unset, .unset, .unset, .unset] [(.ref b11)])) _
    refine XS.astore X11.here hx rfl (hb hby at_51) rfl rfl (l' := #[.val (.int p1), .val (.int p2), .val (.int p3), .val (.int ((p1 &&& (2147483647 : Int32)) % (3 : Int32))), .val (.int ((p2 &&& (2147483647 : Int32)) % (3 : Int32))), .val (.ref b1), .val (.ref b11), .unset, .unset, .unset, .unset, .unset, .unset]) rfl ?_
    show Steps p.tables e below (T11.setTop (mkF m 53 #[.val (.int p1), .val (.int p2), .val (.int p3), .val (.int ((p1 &&& (2147483647 : Int32)) % (3 : Int32))), .val (.int ((p2 &&& (2147483647 : Int32)) % (3 : Int32))), .val (.ref b1), .val (.ref b11), .unset, .unset, .unset, .unset, .unset, .unset] [])) _
    refine XS.iconst X11.here hx rfl (hb hby at_53) ?_
    show Steps p.tables e below (T11.setTop (mkF m 54 #[.val (.int p1), .val (.int p2), .val (.int p3), .val (.int ((p1 &&& (2147483647 : Int32)) % (3 : Int32))), .val (.int ((p2 &&& (2147483647 : Int32)) % (3 : Int32))), .val (.ref b1), .val (.ref b11), .unset, .unset, .unset, .unset, .unset, .unset] [(.int (3 : Int32))])) _
    refine st12 _ ?_
    show Steps p.tables e below (T12.setTop (mkF m 56 #[.val (.int p1), .val (.int p2), .val (.int p3), .val (.int ((p1 &&& (2147483647 : Int32)) % (3 : Int32))), .val (.int ((p2 &&& (2147483647 : Int32)) % (3 : Int32))), .val (.ref b1), .val (.ref b11), .unset, .unset, .unset, .unset, .unset, .unset] [(.ref b12)])) _
    refine XS.astore X12.here hx rfl (hb hby at_56) rfl rfl (l' := #[.val (.int p1), .val (.int p2), .val (.int p3), .val (.int ((p1 &&& (2147483647 : Int32)) % (3 : Int32))), .val (.int ((p2 &&& (2147483647 : Int32)) % (3 : Int32))), .val (.ref b1), .val (.ref b11), .val (.ref b12), .unset, .unset, .unset, .unset, .unset]) rfl ?_
    show Steps p.tables e below (T12.setTop (mkF m 58 #[.val (.int p1), .val (.int p2), .val (.int p3), .val (.int ((p1 &&& (2147483647 : Int32)) % (3 : Int32))), .val (.int ((p2 &&& (2147483647 : Int32)) % (3 : Int32))), .val (.ref b1), .val (.ref b11), .val (.ref b12), .unset, .unset, .unset, .unset, .unset] [])) _
    refine XS.aload X12.here hx rfl (hb hby at_58) rfl rfl ?_
    show Steps p.tables e below (T12.setTop (mkF m 60 #[.val (.int p1), .val (.int p2), .val (.int p3), .val (.int ((p1 &&& (2147483647 : Int32)) % (3 : Int32))), .val (.int ((p2 &&& (2147483647 : Int32)) % (3 : Int32))), .val (.ref b1), .val (.ref b11), .val (.ref b12), .unset, .unset, .unset, .unset, .unset] [(.ref b12)])) _
    refine XS.iconst X12.here hx rfl (hb hby at_60) ?_
    show Steps p.tables e below (T12.setTop (mkF m 61 #[.val (.int p1), .val (.int p2), .val (.int p3), .val (.int ((p1 &&& (2147483647 : Int32)) % (3 : Int32))), .val (.int ((p2 &&& (2147483647 : Int32)) % (3 : Int32))), .val (.ref b1), .val (.ref b11), .val (.ref b12), .unset, .unset, .unset, .unset, .unset] [(.int (0 : Int32)), (.ref b12)])) _
    refine XS.iconst X12.here hx rfl (hb hby at_61) ?_
    show Steps p.tables e below (T12.setTop (mkF m 62 #[.val (.int p1), .val (.int p2), .val (.int p3), .val (.int ((p1 &&& (2147483647 : Int32)) % (3 : Int32))), .val (.int ((p2 &&& (2147483647 : Int32)) % (3 : Int32))), .val (.ref b1), .val (.ref b11), .val (.ref b12), .unset, .unset, .unset, .unset, .unset] [(.int (0 : Int32)), (.int (0 : Int32)), (.ref b12)])) _
    refine st14 _ ?_
    show Steps p.tables e below (T14.setTop (mkF m 63 #[.val (.int p1), .val (.int p2), .val (.int p3), .val (.int ((p1 &&& (2147483647 : Int32)) % (3 : Int32))), .val (.int ((p2 &&& (2147483647 : Int32)) % (3 : Int32))), .val (.ref b1), .val (.ref b11), .val (.ref b12), .unset, .unset, .unset, .unset, .unset] [])) _
    refine XS.aload X14.here hx rfl (hb hby at_63) rfl rfl ?_
    show Steps p.tables e below (T14.setTop (mkF m 65 #[.val (.int p1), .val (.int p2), .val (.int p3), .val (.int ((p1 &&& (2147483647 : Int32)) % (3 : Int32))), .val (.int ((p2 &&& (2147483647 : Int32)) % (3 : Int32))), .val (.ref b1), .val (.ref b11), .val (.ref b12), .unset, .unset, .unset, .unset, .unset] [(.ref b12)])) _
    refine XS.iconst X14.here hx rfl (hb hby at_65) ?_
    show Steps p.tables e below (T14.setTop (mkF m 66 #[.val (.int p1), .val (.int p2), .val (.int p3), .val (.int ((p1 &&& (2147483647 : Int32)) % (3 : Int32))), .val (.int ((p2 &&& (2147483647 : Int32)) % (3 : Int32))), .val (.ref b1), .val (.ref b11), .val (.ref b12), .unset, .unset, .unset, .unset, .unset] [(.int (1 : Int32)), (.ref b12)])) _
    refine XS.iconst X14.here hx rfl (hb hby at_66) ?_
    show Steps p.tables e below (T14.setTop (mkF m 67 #[.val (.int p1), .val (.int p2), .val (.int p3), .val (.int ((p1 &&& (2147483647 : Int32)) % (3 : Int32))), .val (.int ((p2 &&& (2147483647 : Int32)) % (3 : Int32))), .val (.ref b1), .val (.ref b11), .val (.ref b12), .unset, .unset, .unset, .unset, .unset] [(.int (1 : Int32)), (.int (1 : Int32)), (.ref b12)])) _
    refine st16 _ ?_
    show Steps p.tables e below (T16.setTop (mkF m 68 #[.val (.int p1), .val (.int p2), .val (.int p3), .val (.int ((p1 &&& (2147483647 : Int32)) % (3 : Int32))), .val (.int ((p2 &&& (2147483647 : Int32)) % (3 : Int32))), .val (.ref b1), .val (.ref b11), .val (.ref b12), .unset, .unset, .unset, .unset, .unset] [])) _
    refine XS.aload X16.here hx rfl (hb hby at_68) rfl rfl ?_
    show Steps p.tables e below (T16.setTop (mkF m 70 #[.val (.int p1), .val (.int p2), .val (.int p3), .val (.int ((p1 &&& (2147483647 : Int32)) % (3 : Int32))), .val (.int ((p2 &&& (2147483647 : Int32)) % (3 : Int32))), .val (.ref b1), .val (.ref b11), .val (.ref b12), .unset, .unset, .unset, .unset, .unset] [(.ref b12)])) _
    refine XS.iconst X16.here hx rfl (hb hby at_70) ?_
    show Steps p.tables e below (T16.setTop (mkF m 71 #[.val (.int p1), .val (.int p2), .val (.int p3), .val (.int ((p1 &&& (2147483647 : Int32)) % (3 : Int32))), .val (.int ((p2 &&& (2147483647 : Int32)) % (3 : Int32))), .val (.ref b1), .val (.ref b11), .val (.ref b12), .unset, .unset, .unset, .unset, .unset] [(.int (2 : Int32)), (.ref b12)])) _
    refine XS.iconst X16.here hx rfl (hb hby at_71) ?_
    show Steps p.tables e below (T16.setTop (mkF m 72 #[.val (.int p1), .val (.int p2), .val (.int p3), .val (.int ((p1 &&& (2147483647 : Int32)) % (3 : Int32))), .val (.int ((p2 &&& (2147483647 : Int32)) % (3 : Int32))), .val (.ref b1), .val (.ref b11), .val (.ref b12), .unset, .unset, .unset, .unset, .unset] [(.int (2 : Int32)), (.int (2 : Int32)), (.ref b12)])) _
    refine st18 _ ?_
    show Steps p.tables e below (T18.setTop (mkF m 73 #[.val (.int p1), .val (.int p2), .val (.int p3), .val (.int ((p1 &&& (2147483647 : Int32)) % (3 : Int32))), .val (.int ((p2 &&& (2147483647 : Int32)) % (3 : Int32))), .val (.ref b1), .val (.ref b11), .val (.ref b12), .unset, .unset, .unset, .unset, .unset] [])) _
    refine st19 _ ?_
    show Steps p.tables e below (T19.setTop (mkF m 76 #[.val (.int p1), .val (.int p2), .val (.int p3), .val (.int ((p1 &&& (2147483647 : Int32)) % (3 : Int32))), .val (.int ((p2 &&& (2147483647 : Int32)) % (3 : Int32))), .val (.ref b1), .val (.ref b11), .val (.ref b12), .unset, .unset, .unset, .unset, .unset] [(.ref b19)])) _
    refine XS.dup X19.here hx rfl (hb hby at_76) rfl rfl ?_
    show Steps p.tables e below (T19.setTop (mkF m 77 #[.val (.int p1), .val (.int p2), .val (.int p3), .val (.int ((p1 &&& (2147483647 : Int32)) % (3 : Int32))), .val (.int ((p2 &&& (2147483647 : Int32)) % (3 : Int32))), .val (.ref b1), .val (.ref b11), .val (.ref b12), .unset, .unset, .unset, .unset, .unset] [(.ref b19), (.ref b19)])) _
    refine st24.trans ?_
    show Steps p.tables e below (T24.setTop (mkF m 80 #[.val (.int p1), .val (.int p2), .val (.int p3), .val (.int ((p1 &&& (2147483647 : Int32)) % (3 : Int32))), .val (.int ((p2 &&& (2147483647 : Int32)) % (3 : Int32))), .val (.ref b1), .val (.ref b11), .val (.ref b12), .unset, .unset, .unset, .unset, .unset] [(.ref b19)])) _
    refine XS.astore X24.here hx rfl (hb hby at_80) rfl rfl (l' := #[.val (.int p1), .val (.int p2), .val (.int p3), .val (.int ((p1 &&& (2147483647 : Int32)) % (3 : Int32))), .val (.int ((p2 &&& (2147483647 : Int32)) % (3 : Int32))), .val (.ref b1), .val (.ref b11), .val (.ref b12), .val (.ref b19), .unset, .unset, .unset, .unset]) rfl ?_
    show Steps p.tables e below (T24.setTop (mkF m 82 #[.val (.int p1), .val (.int p2), .val (.int p3), .val (.int ((p1 &&& (2147483647 : Int32)) % (3 : Int32))), .val (.int ((p2 &&& (2147483647 : Int32)) % (3 : Int32))), .val (.ref b1), .val (.ref b11), .val (.ref b12), .val (.ref b19), .unset, .unset, .unset, .unset] [])) _
    refine XS.aload X24.here hx rfl (hb hby at_82) rfl rfl ?_
    show Steps p.tables e below (T24.setTop (mkF m 84 #[.val (.int p1), .val (.int p2), .val (.int p3), .val (.int ((p1 &&& (2147483647 : Int32)) % (3 : Int32))), .val (.int ((p2 &&& (2147483647 : Int32)) % (3 : Int32))), .val (.ref b1), .val (.ref b11), .val (.ref b12), .val (.ref b19), .unset, .unset, .unset, .unset] [(.ref b11)])) _
    refine XS.iconst X24.here hx rfl (hb hby at_84) ?_
    show Steps p.tables e below (T24.setTop (mkF m 85 #[.val (.int p1), .val (.int p2), .val (.int p3), .val (.int ((p1 &&& (2147483647 : Int32)) % (3 : Int32))), .val (.int ((p2 &&& (2147483647 : Int32)) % (3 : Int32))), .val (.ref b1), .val (.ref b11), .val (.ref b12), .val (.ref b19), .unset, .unset, .unset, .unset] [(.int (0 : Int32)), (.ref b11)])) _
    refine XS.aload X24.here hx rfl (hb hby at_85) rfl rfl ?_
    show Steps p.tables e below (T24.setTop (mkF m 87 #[.val (.int p1), .val (.int p2), .val (.int p3), .val (.int ((p1 &&& (2147483647 : Int32)) % (3 : Int32))), .val (.int ((p2 &&& (2147483647 : Int32)) % (3 : Int32))), .val (.ref b1), .val (.ref b11), .val (.ref b12), .val (.ref b19), .unset, .unset, .unset, .unset] [(.ref b19), (.int (0 : Int32)), (.ref b11)])) _
    refine XS.aload X24.here hx rfl (hb hby at_87) rfl rfl ?_
    show Steps p.tables e below (T24.setTop (mkF m 89 #[.val (.int p1), .val (.int p2), .val (.int p3), .val (.int ((p1 &&& (2147483647 : Int32)) % (3 : Int32))), .val (.int ((p2 &&& (2147483647 : Int32)) % (3 : Int32))), .val (.ref b1), .val (.ref b11), .val (.ref b12), .val (.ref b19), .unset, .unset, .unset, .unset] [(.ref b1), (.ref b19), (.int (0 : Int32)), (.ref b11)])) _
    refine XS.iconst X24.here hx rfl (hb hby at_89) ?_
    show Steps p.tables e below (T24.setTop (mkF m 90 #[.val (.int p1), .val (.int p2), .val (.int p3), .val (.int ((p1 &&& (2147483647 : Int32)) % (3 : Int32))), .val (.int ((p2 &&& (2147483647 : Int32)) % (3 : Int32))), .val (.ref b1), .val (.ref b11), .val (.ref b12), .val (.ref b19), .unset, .unset, .unset, .unset] [(.int (0 : Int32)), (.ref b1), (.ref b19), (.int (0 : Int32)), (.ref b11)])) _
    refine X24.aaload hx (j := (0 : Int32)) (v := (.ref j7)) Ar34.1 (State.isArrayOf_alike hZ.alike Ar34.2.1) rfl Ar34.2.2 hin34 hat34 (g := (mkF m 90 #[.val (.int p1), .val (.int p2), .val (.int p3), .val (.int ((p1 &&& (2147483647 : Int32)) % (3 : Int32))), .val (.int ((p2 &&& (2147483647 : Int32)) % (3 : Int32))), .val (.ref b1), .val (.ref b11), .val (.ref b12), .val (.ref b19), .unset, .unset, .unset, .unset] [(.int (0 : Int32)), (.ref b1), (.ref b19), (.int (0 : Int32)), (.ref b11)])) rfl rfl (hb hby at_90) _ ?_
    show Steps p.tables e below (T24.setTop (mkF m 91 #[.val (.int p1), .val (.int p2), .val (.int p3), .val (.int ((p1 &&& (2147483647 : Int32)) % (3 : Int32))), .val (.int ((p2 &&& (2147483647 : Int32)) % (3 : Int32))), .val (.ref b1), .val (.ref b11), .val (.ref b12), .val (.ref b19), .unset, .unset, .unset, .unset] [(.ref j7), (.ref b19), (.int (0 : Int32)), (.ref b11)])) _
    refine XS.iloadN X24.here hx rfl (hb hby at_91) rfl ?_
    show Steps p.tables e below (T24.setTop (mkF m 92 #[.val (.int p1), .val (.int p2), .val (.int p3), .val (.int ((p1 &&& (2147483647 : Int32)) % (3 : Int32))), .val (.int ((p2 &&& (2147483647 : Int32)) % (3 : Int32))), .val (.ref b1), .val (.ref b11), .val (.ref b12), .val (.ref b19), .unset, .unset, .unset, .unset] [(.int p3), (.ref j7), (.ref b19), (.int (0 : Int32)), (.ref b11)])) _
    refine st36.trans ?_
    show Steps p.tables e below (T36.setTop (mkF m 95 #[.val (.int p1), .val (.int p2), .val (.int p3), .val (.int ((p1 &&& (2147483647 : Int32)) % (3 : Int32))), .val (.int ((p2 &&& (2147483647 : Int32)) % (3 : Int32))), .val (.ref b1), .val (.ref b11), .val (.ref b12), .val (.ref b19), .unset, .unset, .unset, .unset] [(.int (1 : Int32)), (.int (0 : Int32)), (.ref b11)])) _
    refine st52 _ ?_
    show Steps p.tables e below (T52.setTop (mkF m 96 #[.val (.int p1), .val (.int p2), .val (.int p3), .val (.int ((p1 &&& (2147483647 : Int32)) % (3 : Int32))), .val (.int ((p2 &&& (2147483647 : Int32)) % (3 : Int32))), .val (.ref b1), .val (.ref b11), .val (.ref b12), .val (.ref b19), .unset, .unset, .unset, .unset] [])) _
    refine XS.aload X52.here hx rfl (hb hby at_96) rfl rfl ?_
    show Steps p.tables e below (T52.setTop (mkF m 98 #[.val (.int p1), .val (.int p2), .val (.int p3), .val (.int ((p1 &&& (2147483647 : Int32)) % (3 : Int32))), .val (.int ((p2 &&& (2147483647 : Int32)) % (3 : Int32))), .val (.ref b1), .val (.ref b11), .val (.ref b12), .val (.ref b19), .unset, .unset, .unset, .unset] [(.ref b11)])) _
    refine XS.iconst X52.here hx rfl (hb hby at_98) ?_
    show Steps p.tables e below (T52.setTop (mkF m 99 #[.val (.int p1), .val (.int p2), .val (.int p3), .val (.int ((p1 &&& (2147483647 : Int32)) % (3 : Int32))), .val (.int ((p2 &&& (2147483647 : Int32)) % (3 : Int32))), .val (.ref b1), .val (.ref b11), .val (.ref b12), .val (.ref b19), .unset, .unset, .unset, .unset] [(.int (1 : Int32)), (.ref b11)])) _
    refine XS.aload X52.here hx rfl (hb hby at_99) rfl rfl ?_
    show Steps p.tables e below (T52.setTop (mkF m 101 #[.val (.int p1), .val (.int p2), .val (.int p3), .val (.int ((p1 &&& (2147483647 : Int32)) % (3 : Int32))), .val (.int ((p2 &&& (2147483647 : Int32)) % (3 : Int32))), .val (.ref b1), .val (.ref b11), .val (.ref b12), .val (.ref b19), .unset, .unset, .unset, .unset] [(.ref b19), (.int (1 : Int32)), (.ref b11)])) _
    refine XS.aload X52.here hx rfl (hb hby at_101) rfl rfl ?_
    show Steps p.tables e below (T52.setTop (mkF m 103 #[.val (.int p1), .val (.int p2), .val (.int p3), .val (.int ((p1 &&& (2147483647 : Int32)) % (3 : Int32))), .val (.int ((p2 &&& (2147483647 : Int32)) % (3 : Int32))), .val (.ref b1), .val (.ref b11), .val (.ref b12), .val (.ref b19), .unset, .unset, .unset, .unset] [(.ref b1), (.ref b19), (.int (1 : Int32)), (.ref b11)])) _
    refine XS.iconst X52.here hx rfl (hb hby at_103) ?_
    show Steps p.tables e below (T52.setTop (mkF m 104 #[.val (.int p1), .val (.int p2), .val (.int p3), .val (.int ((p1 &&& (2147483647 : Int32)) % (3 : Int32))), .val (.int ((p2 &&& (2147483647 : Int32)) % (3 : Int32))), .val (.ref b1), .val (.ref b11), .val (.ref b12), .val (.ref b19), .unset, .unset, .unset, .unset] [(.int (1 : Int32)), (.ref b1), (.ref b19), (.int (1 : Int32)), (.ref b11)])) _
    refine X52.aaload hx (j := (1 : Int32)) (v := (.ref j8)) (by rw [e52]; exact Ar58.1) (State.isArrayOf_alike hZ.alike Ar58.2.1) rfl Ar58.2.2 hin58 hat58 (g := (mkF m 104 #[.val (.int p1), .val (.int p2), .val (.int p3), .val (.int ((p1 &&& (2147483647 : Int32)) % (3 : Int32))), .val (.int ((p2 &&& (2147483647 : Int32)) % (3 : Int32))), .val (.ref b1), .val (.ref b11), .val (.ref b12), .val (.ref b19), .unset, .unset, .unset, .unset] [(.int (1 : Int32)), (.ref b1), (.ref b19), (.int (1 : Int32)), (.ref b11)])) rfl rfl (hb hby at_104) _ ?_
    show Steps p.tables e below (T52.setTop (mkF m 105 #[.val (.int p1), .val (.int p2), .val (.int p3), .val (.int ((p1 &&& (2147483647 : Int32)) % (3 : Int32))), .val (.int ((p2 &&& (2147483647 : Int32)) % (3 : Int32))), .val (.ref b1), .val (.ref b11), .val (.ref b12), .val (.ref b19), .unset, .unset, .unset, .unset] [(.ref j8), (.ref b19), (.int (1 : Int32)), (.ref b11)])) _
    refine XS.iloadN X52.here hx rfl (hb hby at_105) rfl ?_
    show Steps p.tables e below (T52.setTop (mkF m 106 #[.val (.int p1), .val (.int p2), .val (.int p3), .val (.int ((p1 &&& (2147483647 : Int32)) % (3 : Int32))), .val (.int ((p2 &&& (2147483647 : Int32)) % (3 : Int32))), .val (.ref b1), .val (.ref b11), .val (.ref b12), .val (.ref b19), .unset, .unset, .unset, .unset] [(.int p3), (.ref j8), (.ref b19), (.int (1 : Int32)), (.ref b11)])) _
    refine st60.trans ?_
    show Steps p.tables e below (T60.setTop (mkF m 109 #[.val (.int p1), .val (.int p2), .val (.int p3), .val (.int ((p1 &&& (2147483647 : Int32)) % (3 : Int32))), .val (.int ((p2 &&& (2147483647 : Int32)) % (3 : Int32))), .val (.ref b1), .val (.ref b11), .val (.ref b12), .val (.ref b19), .unset, .unset, .unset, .unset] [(.int (2 : Int32)), (.int (1 : Int32)), (.ref b11)])) _
    refine st70 _ ?_
    show Steps p.tables e below (T70.setTop (mkF m 110 #[.val (.int p1), .val (.int p2), .val (.int p3), .val (.int ((p1 &&& (2147483647 : Int32)) % (3 : Int32))), .val (.int ((p2 &&& (2147483647 : Int32)) % (3 : Int32))), .val (.ref b1), .val (.ref b11), .val (.ref b12), .val (.ref b19), .unset, .unset, .unset, .unset] [])) _
    refine XS.aload X70.here hx rfl (hb hby at_110) rfl rfl ?_
    show Steps p.tables e below (T70.setTop (mkF m 112 #[.val (.int p1), .val (.int p2), .val (.int p3), .val (.int ((p1 &&& (2147483647 : Int32)) % (3 : Int32))), .val (.int ((p2 &&& (2147483647 : Int32)) % (3 : Int32))), .val (.ref b1), .val (.ref b11), .val (.ref b12), .val (.ref b19), .unset, .unset, .unset, .unset] [(.ref b11)])) _
    refine XS.iconst X70.here hx rfl (hb hby at_112) ?_
    show Steps p.tables e below (T70.setTop (mkF m 113 #[.val (.int p1), .val (.int p2), .val (.int p3), .val (.int ((p1 &&& (2147483647 : Int32)) % (3 : Int32))), .val (.int ((p2 &&& (2147483647 : Int32)) % (3 : Int32))), .val (.ref b1), .val (.ref b11), .val (.ref b12), .val (.ref b19), .unset, .unset, .unset, .unset] [(.int (2 : Int32)), (.ref b11)])) _
    refine XS.aload X70.here hx rfl (hb hby at_113) rfl rfl ?_
    show Steps p.tables e below (T70.setTop (mkF m 115 #[.val (.int p1), .val (.int p2), .val (.int p3), .val (.int ((p1 &&& (2147483647 : Int32)) % (3 : Int32))), .val (.int ((p2 &&& (2147483647 : Int32)) % (3 : Int32))), .val (.ref b1), .val (.ref b11), .val (.ref b12), .val (.ref b19), .unset, .unset, .unset, .unset] [(.ref b19), (.int (2 : Int32)), (.ref b11)])) _
    refine XS.aload X70.here hx rfl (hb hby at_115) rfl rfl ?_
    show Steps p.tables e below (T70.setTop (mkF m 117 #[.val (.int p1), .val (.int p2), .val (.int p3), .val (.int ((p1 &&& (2147483647 : Int32)) % (3 : Int32))), .val (.int ((p2 &&& (2147483647 : Int32)) % (3 : Int32))), .val (.ref b1), .val (.ref b11), .val (.ref b12), .val (.ref b19), .unset, .unset, .unset, .unset] [(.ref b1), (.ref b19), (.int (2 : Int32)), (.ref b11)])) _
    refine XS.iconst X70.here hx rfl (hb hby at_117) ?_
    show Steps p.tables e below (T70.setTop (mkF m 118 #[.val (.int p1), .val (.int p2), .val (.int p3), .val (.int ((p1 &&& (2147483647 : Int32)) % (3 : Int32))), .val (.int ((p2 &&& (2147483647 : Int32)) % (3 : Int32))), .val (.ref b1), .val (.ref b11), .val (.ref b12), .val (.ref b19), .unset, .unset, .unset, .unset] [(.int (2 : Int32)), (.ref b1), (.ref b19), (.int (2 : Int32)), (.ref b11)])) _
    refine X70.aaload hx (j := (2 : Int32)) (v := (.ref j9)) (by rw [e70]; exact Ar73.1) (State.isArrayOf_alike hZ.alike Ar73.2.1) rfl Ar73.2.2 hin73 hat73 (g := (mkF m 118 #[.val (.int p1), .val (.int p2), .val (.int p3), .val (.int ((p1 &&& (2147483647 : Int32)) % (3 : Int32))), .val (.int ((p2 &&& (2147483647 : Int32)) % (3 : Int32))), .val (.ref b1), .val (.ref b11), .val (.ref b12), .val (.ref b19), .unset, .unset, .unset, .unset] [(.int (2 : Int32)), (.ref b1), (.ref b19), (.int (2 : Int32)), (.ref b11)])) rfl rfl (hb hby at_118) _ ?_
    show Steps p.tables e below (T70.setTop (mkF m 119 #[.val (.int p1), .val (.int p2), .val (.int p3), .val (.int ((p1 &&& (2147483647 : Int32)) % (3 : Int32))), .val (.int ((p2 &&& (2147483647 : Int32)) % (3 : Int32))), .val (.ref b1), .val (.ref b11), .val (.ref b12), .val (.ref b19), .unset, .unset, .unset, .unset] [(.ref j9), (.ref b19), (.int (2 : Int32)), (.ref b11)])) _
    refine XS.iloadN X70.here hx rfl (hb hby at_119) rfl ?_
    show Steps p.tables e below (T70.setTop (mkF m 120 #[.val (.int p1), .val (.int p2), .val (.int p3), .val (.int ((p1 &&& (2147483647 : Int32)) % (3 : Int32))), .val (.int ((p2 &&& (2147483647 : Int32)) % (3 : Int32))), .val (.ref b1), .val (.ref b11), .val (.ref b12), .val (.ref b19), .unset, .unset, .unset, .unset] [(.int p3), (.ref j9), (.ref b19), (.int (2 : Int32)), (.ref b11)])) _
    refine st75.trans ?_
    show Steps p.tables e below (T75.setTop (mkF m 123 #[.val (.int p1), .val (.int p2), .val (.int p3), .val (.int ((p1 &&& (2147483647 : Int32)) % (3 : Int32))), .val (.int ((p2 &&& (2147483647 : Int32)) % (3 : Int32))), .val (.ref b1), .val (.ref b11), .val (.ref b12), .val (.ref b19), .unset, .unset, .unset, .unset] [(.int (3 : Int32)), (.int (2 : Int32)), (.ref b11)])) _
    refine st85 _ ?_
    exact k_
  rcases (own_mod3 p1) with hk87 | hk87 | hk87
  · skip
    have go88 : ∀ t_, Steps p.tables e below (T85.setTop (mkF m 124 #[.val (.int p1), .val (.int p2), .val (.int p3), .val (.int (0 : Int32)), .val (.int ((p2 &&& (2147483647 : Int32)) % (3 : Int32))), .val (.ref b1), .val (.ref b11), .val (.ref b12), .val (.ref b19), .unset, .unset, .unset, .unset] [])) t_ → Steps p.tables e below (s₁.setTop (entryFrame m #[(.int p1), (.int p2), (.int p3)] maxLocals)) t_ := by
      intro t_ k_
      refine go86 t_ ?_
      rw [hk87]
      exact k_
    have f89 := (f74.keep Kc75 (ninS ne32 (ninS ne54 (ninS ne53 nin0))))
    have f90 := (f89.other W85 ne56)
    have f91 := (V18.ext E19)
    have ne92 : b12 ≠ b19 := by omega
    have f93 := (f91.keep Kc24 (ninS ne92 nin0))
    have ne94 : b12 ≠ en := by omega
    have ne95 : b12 ≠ li := by omega
    have f96 := (f93.keep Kc36 (ninS ne92 (ninS ne95 (ninS ne94 nin0))))
    have f97 := (f96.other W52 (Ne.symm ne41))
    have f98 := (f97.keep Kc60 (ninS ne92 (ninS ne95 (ninS ne94 nin0))))
    have f99 := (f98.other W70 (Ne.symm ne41))
    have f100 := (f99.keep Kc75 (ninS ne92 (ninS ne95 (ninS ne94 nin0))))
    have f101 := (f100.other W85 (Ne.symm ne41))
    have f102 := (c0_75.wr W85)
    have f103 := (c2_75.other W85 (Or.inl (Ne.symm ne46)))
    have f104 := (c1_75.other W85 (Or.inl (Ne.symm ne46)))
    have f105 := (c3_75.other W85 (Or.inl (Ne.symm ne46)))
    have f106 := (c4_75.other W85 (Or.inl (Ne.symm ne46)))
    have f107 := (Ve75_.other W85 (Ne.symm ne48))
    have f108 := (Vl75_.other W85 (Ne.symm ne49))
    have ge109 : n0 ≤ b1 := by omega
    have ge110 : n0 ≤ b11 := by omega
    have ge111 : n0 ≤ b12 := by omega
    have ge112 : n0 ≤ b19 := by omega
    have ge113 : n0 ≤ en := by omega
    have ge114 : n0 ≤ li := by omega
    obtain ⟨s2_, o_, hs_, h1_, h2_, v_, L_, h3_, hq_, h4_⟩ := pc124_0 l Z a0 hw ws p1 p2 p3 j7 j8 j9 b1 b11 b12 b19 en li k1 k11 k12 ke kl h85 n0 Bd hml hZ X85 e85 N85 Z85 O85 f90 V85 f101 f102 f103 f104 f105 f106 f107 f108 ge109 ge110 ge111 ge112 ge113 ge114 ne56 ne27 ne32 ne53 ne54 ne41 ne46 ne48 ne49 ne92 ne94 ne95 ne39 ne37 ne38 Ov24 Ej7 Ej8 Ej9
    exact ⟨s2_, o_, go88 _ hs_, h1_, h2_, v_, L_, h3_, hq_, h4_⟩
  · skip
    have go115 : ∀ t_, Steps p.tables e below (T85.setTop (mkF m 124 #[.val (.int p1), .val (.int p2), .val (.int p3), .val (.int (1 : Int32)), .val (.int ((p2 &&& (2147483647 : Int32)) % (3 : Int32))), .val (.ref b1), .val (.ref b11), .val (.ref b12), .val (.ref b19), .unset, .unset, .unset, .unset] [])) t_ → Steps p.tables e below (s₁.setTop (entryFrame m #[(.int p1), (.int p2), (.int p3)] maxLocals)) t_ := by
      intro t_ k_
      refine go86 t_ ?_
      rw [hk87]
      exact k_
    have f116 := (f74.keep Kc75 (ninS ne32 (ninS ne54 (ninS ne53 nin0))))
    have f117 := (f116.other W85 ne56)
    have f118 := (V18.ext E19)
    have ne119 : b12 ≠ b19 := by omega
    have f120 := (f118.keep Kc24 (ninS ne119 nin0))
    have ne121 : b12 ≠ en := by omega
    have ne122 : b12 ≠ li := by omega
    have f123 := (f120.keep Kc36 (ninS ne119 (ninS ne122 (ninS ne121 nin0))))
    have f124 := (f123.other W52 (Ne.symm ne41))
    have f125 := (f124.keep Kc60 (ninS ne119 (ninS ne122 (ninS ne121 nin0))))
    have f126 := (f125.other W70 (Ne.symm ne41))
    have f127 := (f126.keep Kc75 (ninS ne119 (ninS ne122 (ninS ne121 nin0))))
    have f128 := (f127.other W85 (Ne.symm ne41))
    have f129 := (c0_75.wr W85)
    have f130 := (c2_75.other W85 (Or.inl (Ne.symm ne46)))
    have f131 := (c1_75.other W85 (Or.inl (Ne.symm ne46)))
    have f132 := (c3_75.other W85 (Or.inl (Ne.symm ne46)))
    have f133 := (c4_75.other W85 (Or.inl (Ne.symm ne46)))
    have f134 := (Ve75_.other W85 (Ne.symm ne48))
    have f135 := (Vl75_.other W85 (Ne.symm ne49))
    have ge136 : n0 ≤ b1 := by omega
    have ge137 : n0 ≤ b11 := by omega
    have ge138 : n0 ≤ b12 := by omega
    have ge139 : n0 ≤ b19 := by omega
    have ge140 : n0 ≤ en := by omega
    have ge141 : n0 ≤ li := by omega
    obtain ⟨s2_, o_, hs_, h1_, h2_, v_, L_, h3_, hq_, h4_⟩ := pc124_7 l Z a0 hw ws p1 p2 p3 j7 j8 j9 b1 b11 b12 b19 en li k1 k11 k12 ke kl h85 n0 Bd hml hZ X85 e85 N85 Z85 O85 f117 V85 f128 f129 f130 f131 f132 f133 f134 f135 ge136 ge137 ge138 ge139 ge140 ge141 ne56 ne27 ne32 ne53 ne54 ne41 ne46 ne48 ne49 ne119 ne121 ne122 ne39 ne37 ne38 Ov24 Ej7 Ej8 Ej9
    exact ⟨s2_, o_, go115 _ hs_, h1_, h2_, v_, L_, h3_, hq_, h4_⟩
  · skip
    have go142 : ∀ t_, Steps p.tables e below (T85.setTop (mkF m 124 #[.val (.int p1), .val (.int p2), .val (.int p3), .val (.int (2 : Int32)), .val (.int ((p2 &&& (2147483647 : Int32)) % (3 : Int32))), .val (.ref b1), .val (.ref b11), .val (.ref b12), .val (.ref b19), .unset, .unset, .unset, .unset] [])) t_ → Steps p.tables e below (s₁.setTop (entryFrame m #[(.int p1), (.int p2), (.int p3)] maxLocals)) t_ := by
      intro t_ k_
      refine go86 t_ ?_
      rw [hk87]
      exact k_
    have f143 := (f74.keep Kc75 (ninS ne32 (ninS ne54 (ninS ne53 nin0))))
    have f144 := (f143.other W85 ne56)
    have f145 := (V18.ext E19)
    have ne146 : b12 ≠ b19 := by omega
    have f147 := (f145.keep Kc24 (ninS ne146 nin0))
    have ne148 : b12 ≠ en := by omega
    have ne149 : b12 ≠ li := by omega
    have f150 := (f147.keep Kc36 (ninS ne146 (ninS ne149 (ninS ne148 nin0))))
    have f151 := (f150.other W52 (Ne.symm ne41))
    have f152 := (f151.keep Kc60 (ninS ne146 (ninS ne149 (ninS ne148 nin0))))
    have f153 := (f152.other W70 (Ne.symm ne41))
    have f154 := (f153.keep Kc75 (ninS ne146 (ninS ne149 (ninS ne148 nin0))))
    have f155 := (f154.other W85 (Ne.symm ne41))
    have f156 := (c0_75.wr W85)
    have f157 := (c2_75.other W85 (Or.inl (Ne.symm ne46)))
    have f158 := (c1_75.other W85 (Or.inl (Ne.symm ne46)))
    have f159 := (c3_75.other W85 (Or.inl (Ne.symm ne46)))
    have f160 := (c4_75.other W85 (Or.inl (Ne.symm ne46)))
    have f161 := (Ve75_.other W85 (Ne.symm ne48))
    have f162 := (Vl75_.other W85 (Ne.symm ne49))
    have ge163 : n0 ≤ b1 := by omega
    have ge164 : n0 ≤ b11 := by omega
    have ge165 : n0 ≤ b12 := by omega
    have ge166 : n0 ≤ b19 := by omega
    have ge167 : n0 ≤ en := by omega
    have ge168 : n0 ≤ li := by omega
    obtain ⟨s2_, o_, hs_, h1_, h2_, v_, L_, h3_, hq_, h4_⟩ := pc124_14 l Z a0 hw ws p1 p2 p3 j7 j8 j9 b1 b11 b12 b19 en li k1 k11 k12 ke kl h85 n0 Bd hml hZ X85 e85 N85 Z85 O85 f144 V85 f155 f156 f157 f158 f159 f160 f161 f162 ge163 ge164 ge165 ge166 ge167 ge168 ne56 ne27 ne32 ne53 ne54 ne41 ne46 ne48 ne49 ne146 ne148 ne149 ne39 ne37 ne38 Ov24 Ej7 Ej8 Ej9
    exact ⟨s2_, o_, go142 _ hs_, h1_, h2_, v_, L_, h3_, hq_, h4_⟩
theorem own_len {args : Array Value} {s : State} {t : Term} {x : Addr} {cl : Cell} {v : Value} (ht : t.eval args s none [] s = some (.ref x)) (ha : s.arrayAt? x = some cl) (h : (Term.length t).eval args s none [] s = some v) : cl.slots.size < 2 ^ 31 := by
  by_cases q : cl.slots.size < 2 ^ 31
  · exact q
  · simp [Term.eval, ht, ha, q] at h
set_option maxRecDepth 65536 in
set_option maxHeartbeats 40000000 in
theorem comes_1 {Post : Tables → Env → Array Value → State → Outcome → State → Prop} (hpost : ∀ tb e args s v u, (limb_1_1.after args s (.returned v) u = true ∧ limb_1_2.after args s (.returned v) u = true ∧ True) → FrameEnd s (.returned v) u (Jvm.fieldLocs frame_1_writes args s ++ Jvm.arrayLocs frame_1_arrays args s ++ Jvm.staticLocs frame_1_statics s) 24 256 → Post tb e args s (.returned v) u) :
    ArmFor flags0 classFile x code maxLocals ret World_1 tables_1 room_1 Calls_1 rest_1 Pre_1 Post := by
  intro l hfl _ _ p e ha hc hk s m args below hf hA hF happ hP
  obtain ⟨hcalls, hrest, hpre⟩ := hP
  obtain ⟨-, -, -, hnamed, -, -, -, hat⟩ := (Spec.applies_iff hf).mp happ
  obtain ⟨hg, hn⟩ := and_e (Cond.before_iff.mp (show (Jvm.Cond.and given_1 narrow_1).before args s = true from hpre))
  obtain ⟨gc, hg⟩ := and_e hg
  obtain ⟨gk0, hg⟩ := and_e hg
  obtain ⟨gk1, hg⟩ := and_e hg
  have gk2 := hg
  obtain ⟨w0, w1, w2, rfl⟩ : ∃ w0 w1 w2 : Value, args = #[w0, w1, w2] := by
    have hs : args.size = 3 := by simpa [Cond.value, given_1] using gc
    obtain ⟨L⟩ := args
    match L, hs with
    | [w0, w1, w2], _ => exact ⟨w0, w1, w2, rfl⟩
  have hw := fun d (hd : d ∈ tables_1) => atoms_spec (ws := Jvm.Cond.code x code maxLocals ret :: tables_1) hat d (List.mem_cons_of_mem _ hd)
  have hfit : Fit s := fun {y c} hc i hi => by
    obtain ⟨ha, rfl⟩ := Array.getElem?_eq_some_iff.mp hc
    have q := List.all_eq_true.mp ((Array.all_eq_true_iff_forall_mem.mp hF) _ (Array.getElem_mem ha)) i (List.mem_range.mpr hi)
    simpa [Array.getElem?_eq_getElem hi] using q
  obtain ⟨hsets, hown0⟩ := atoms_of _ (rest_1_c_eq ▸ (show rest_1_c.before _ s = true from hrest))
  have hr0 := Cond.before_iff.mp hown0
  obtain ⟨i0, ei0⟩ := is_v gk0
  obtain rfl : w0 = (.int i0) := Option.some.inj ei0
  obtain ⟨i1, ei1⟩ := is_v gk1
  obtain rfl : w1 = (.int i1) := Option.some.inj ei1
  obtain ⟨i2, ei2⟩ := is_v gk2
  obtain rfl : w2 = (.int i2) := Option.some.inj ei2
  have evH := eqv_i (Term.int_eval 127) (Cond.before_iff.mp (hsets _ (List.mem_of_getElem? (i := 3) rfl)))
  have S_high := Sta.start evH (Or.inl (hsets _ (List.mem_of_getElem? (i := 1) rfl)))
  obtain ⟨ca, evC⟩ := arr_v (Cond.before_iff.mp (hsets _ (List.mem_of_getElem? (i := 4) rfl)))
  have S_cache := Sta.start evC (Or.inr ⟨hw _ (List.mem_of_getElem? (i := 8) rfl), hsets _ (List.mem_of_getElem? (i := 2) rfl)⟩)
  obtain ⟨cc, Ac⟩ := Arr.start evC (Cond.before_iff.mp (hsets _ (List.mem_of_getElem? (i := 4) rfl)))
  have evN := eqv_i (Term.int_eval 256) (Cond.before_iff.mp (hsets _ (List.mem_of_getElem? (i := 6) rfl)))
  have hlen : cc.slots.size < 2 ^ 31 ∧ cc.slots.size.toInt32 = 256 := by
    have ha := Ac.fin (Vm.Alike.refl _)
    have q := own_len evC ha evN
    exact ⟨q, Value.int.inj (Option.some.inj ((len_f evC ha q).symm.trans evN))⟩
  have BX : Bxs s ca cc "java/lang/Integer" "I" (256 : Int32) (fun j => .int (j - 128)) := Bxs.start (fun _ => evC) Ac hlen.1 hlen.2 (by decide) (Cond.before_iff.mp (hsets _ (List.mem_of_getElem? (i := 7) rfl))) (fun X j hj hX => eqv_i (Term.sub_int (Jvm.RoadKit.idx_at hj) (Term.int_eval 128)) hX)
  have hia7 : ¬ (((7 : Int32) + (128 : Int32)) < 0 ∨ cc.slots.size ≤ ((7 : Int32) + (128 : Int32)).toNatClampNeg) := inb_of BX.2.1 ⟨by decide, by decide⟩
  obtain ⟨j7, hta7, Ej7, -⟩ := BX.2.2.2 _ hia7
  have hia8 : ¬ (((8 : Int32) + (128 : Int32)) < 0 ∨ cc.slots.size ≤ ((8 : Int32) + (128 : Int32)).toNatClampNeg) := inb_of BX.2.1 ⟨by decide, by decide⟩
  obtain ⟨j8, hta8, Ej8, -⟩ := BX.2.2.2 _ hia8
  have hia9 : ¬ (((9 : Int32) + (128 : Int32)) < 0 ∨ cc.slots.size ≤ ((9 : Int32) + (128 : Int32)).toNatClampNeg) := inb_of BX.2.1 ⟨by decide, by decide⟩
  obtain ⟨j9, hta9, Ej9, -⟩ := BX.2.2.2 _ hia9
  obtain ⟨n, o, h1, h2, h3, _, L, rfl, ⟨rfl, N⟩, hq⟩ := rm0 l s _ hw tables_1 i0 i1 i2 ca cc j7 j8 j9 s.heap s.heap.size (Nat.le_refl _) S_high S_cache Ac hia7 hta7 Ej7 hia8 hta8 Ej8 hia9 hta9 Ej9 (Old.start s) p e ha hc hk s m _ below hf ((Spec.applies_iff_loose hf).mp happ).1 ⟨rfl, State.Warmed39.refl s, rfl⟩ trivial
  refine ⟨n, _, h1, h2, h3, hpost _ _ _ _ _ _ ⟨Cond.after_iff.mpr rfl, Cond.after_iff.mpr (eq_i res_at (Term.int_eval (1)) rfl), trivial⟩ ⟨hq.1, hq.2.1, (hq.2.2.sift fun y hy => Or.inr (N y hy)).mono (by decide) (by decide)⟩⟩
theorem main_1_1 : Claimed_1_1 := comes_1 fun _ _ _ _ _ _ h hF => ⟨h.1, hF⟩
theorem main_1_2 : Claimed_1_2 := comes_1 fun _ _ _ _ _ _ h hF => ⟨h.2.1, hF⟩
end Jvm.Pilot.@@N@@
namespace Jvm.Pilot.@@N@@
open Jvm Jvm.ClassFile Sem Op Lib Jvm.Free Jvm.Stand Jvm.Pilot.@@N@@.Jvm.D
/-! MADE BY PROGRAM (witnessworld.py) out of the Statement's table words and the real class files: 17 classes; the members and pool entries that the words name. The judged class is class 1, her method 2. -/
namespace start1
open Jvm.ClassFile
def u (s : String) : CpInfo := .utf8 (stringToUtf16 s)
/-- a pool by its gaps: so many unusable entries, then the entry; so many at the end -/
def gap : Nat → List CpInfo → List CpInfo
  | 0, r => r
  | n + 1, r => .unusable :: gap n r
def poolList (es : List (Nat × CpInfo)) (last : Nat) : List CpInfo := es.foldr (fun e r => gap e.1 (e.2 :: r)) (gap last [])
def pool (es : List (Nat × CpInfo)) (last : Nat) : Array CpInfo := ⟨poolList es last⟩
def fileOf (pool : Array CpInfo) (this : Nat) (attrs : Array Attribute := #[]) (ms : Array MethodInfo := #[]) (fl : Nat := 33) (sup : Nat := 0) (ifs : Array Nat := #[]) (fds : Array FieldInfo := #[]) : ClassFile where
  minorVersion := 0
  majorVersion := 65
  constantPool := pool
  accessFlags := fl
  thisClass := this
  superClass := sup
  interfaces := ifs
  fields := fds
  methods := ms
  attributes := attrs
def plain (name : String) (sup : Option ClassId) : Class where
  name := name
  kind := .ordinary
  loader := none
  accessFlags := 33
  super := sup
  interfaces := #[]
  cf := none
  fields := #[]
  methods := #[]
  instanceTypes := #[]
  staticTypes := #[]
  resolved := #[]
  callSites := []
  init := .initialized
  statics := none
  mirror := none

def pool0 : Array CpInfo := pool [(5, u "<init>"), (0, u "()V"), (1, .class_ 10), (1, u "java/lang/Object")] 113

def k0c0 : Code := { maxStack := 0, maxLocals := 1, code := object_method_1_code, exceptionTable := #[], attributes := #[] }
def k0m0 : Method := { name := "<init>", desc := "()V", sig := { parameters := [], returnType := none }, accessFlags := 1, code := some k0c0 }
/-- java/lang/Object -/
def k0 : Class := { plain "java/lang/Object" none with
  accessFlags := 33
  interfaces := #[]
  cf := some (fileOf pool0 8 #[] #[{ accessFlags := 1, nameIndex := 5, descriptorIndex := 6, attributes := #[] }] 33 0 #[] #[])
  fields := #[]
  methods := #[k0m0]
  instanceTypes := #[]
  staticTypes := #[]
  resolved := Array.replicate 124 none
  statics := none }

def pool1 : Array CpInfo := pool [(2, .class_ 4), (0, .nameAndType 5 6), (0, u "java/lang/Object"), (0, u "<init>"), (0, u "()V"), (0, .integer 2147483647), (0, .class_ 9), (0, u "java/lang/Integer"), (0, .methodref 8 11), (0, .nameAndType 12 13), (0, u "valueOf"), (0, u "(I)Ljava/lang/Integer;"), (0, .class_ 15), (0, u "com/example/terrace/terrace/core/UseOrder"), (0, .methodref 14 3), (0, .methodref 14 18), (0, .nameAndType 19 20), (0, u "add"), (0, u "(Ljava/lang/Object;I)I"), (0, .methodref 14 22), (0, .nameAndType 23 24), (0, u "use"), (0, u "(I)V"), (0, .methodref 26 27), (0, .class_ 28), (0, .nameAndType 29 30), (0, u "com/example/terrace/terrace/core/UseOrderUsePinLaw"), (0, u "moveToEnd"), (0, u "([II)V"), (0, .methodref 14 32), (0, .nameAndType 33 34), (0, u "leastRecent"), (0, u "()Ljava/lang/Object;"), (0, .methodref 14 36), (0, .nameAndType 37 24), (0, u "remove"), (3, u "law"), (0, u "(III)Z")] 6

def k1m0 : Method := { name := "<init>", desc := "()V", sig := { parameters := [], returnType := none }, accessFlags := 2, code := none }
def k1c1 : Code := { maxStack := 4, maxLocals := 3, code := method_2_code, exceptionTable := #[], attributes := #[] }
def k1m1 : Method := { name := "moveToEnd", desc := "([II)V", sig := { parameters := [(.array .int), .int], returnType := none }, accessFlags := 10, code := some k1c1 }
def k1c2 : Code := { maxStack := 5, maxLocals := 13, code := code, exceptionTable := #[], attributes := #[] }
def k1m2 : Method := { name := "law", desc := "(III)Z", sig := { parameters := [.int, .int, .int], returnType := some .boolean }, accessFlags := 9, code := some k1c2 }
/-- com/example/terrace/terrace/core/UseOrderUsePinLaw -/
def k1 : Class := { plain "com/example/terrace/terrace/core/UseOrderUsePinLaw" (some 0) with
  accessFlags := 49
  interfaces := #[]
  cf := some (fileOf pool1 26 #[] #[{ accessFlags := 2, nameIndex := 5, descriptorIndex := 6, attributes := #[] }, { accessFlags := 10, nameIndex := 29, descriptorIndex := 30, attributes := #[] }, { accessFlags := 9, nameIndex := 41, descriptorIndex := 42, attributes := #[] }] 49 2 #[] #[])
  fields := #[]
  methods := #[k1m0, k1m1, k1m2]
  instanceTypes := #[]
  staticTypes := #[]
  resolved := Array.replicate 49 none
  statics := none }

def pool2 : Array CpInfo := pool [(1, .class_ 2), (0, u "java/io/Serializable"), (0, .class_ 4), (0, u "java/lang/Object")] 2

/-- java/io/Serializable -/
def k2 : Class := { plain "java/io/Serializable" (some 0) with
  accessFlags := 1537
  interfaces := #[]
  cf := some (fileOf pool2 1 #[] #[] 1537 3 #[] #[])
  fields := #[]
  methods := #[]
  instanceTypes := #[]
  staticTypes := #[]
  resolved := Array.replicate 7 none
  statics := none }

def pool3 : Array CpInfo := pool [(2, .class_ 4), (1, u "java/lang/Object"), (0, u "<init>"), (0, u "()V"), (1, .class_ 10), (1, u "java/lang/Number"), (2, .class_ 14), (0, u "java/io/Serializable"), (0, u "serialVersionUID"), (0, u "J")] 20

def k3m0 : Method := { name := "<init>", desc := "()V", sig := { parameters := [], returnType := none }, accessFlags := 1, code := none }
/-- java/lang/Number -/
def k3 : Class := { plain "java/lang/Number" (some 0) with
  accessFlags := 1057
  interfaces := #[2]
  cf := some (fileOf pool3 8 #[] #[{ accessFlags := 1, nameIndex := 5, descriptorIndex := 6, attributes := #[] }] 1057 2 #[13] #[{ accessFlags := 26, nameIndex := 15, descriptorIndex := 16, attributes := #[] }])
  fields := #[{ name := "serialVersionUID", type := .long, accessFlags := 26, slot := 0, constantValue := 0 }]
  methods := #[k3m0]
  instanceTypes := #[]
  staticTypes := #[.long]
  resolved := Array.replicate 37 none
  statics := none }

def pool4 : Array CpInfo := pool [(1, .class_ 2), (0, u "java/lang/Comparable"), (0, .class_ 4), (0, u "java/lang/Object")] 7

/-- java/lang/Comparable -/
def k4 : Class := { plain "java/lang/Comparable" (some 0) with
  accessFlags := 1537
  interfaces := #[]
  cf := some (fileOf pool4 1 #[] #[] 1537 3 #[] #[])
  fields := #[]
  methods := #[]
  instanceTypes := #[]
  staticTypes := #[]
  resolved := Array.replicate 12 none
  statics := none }

def pool5 : Array CpInfo := pool [(1, .class_ 2), (0, u "java/lang/constant/Constable"), (0, .class_ 4), (0, u "java/lang/Object")] 6

/-- java/lang/constant/Constable -/
def k5 : Class := { plain "java/lang/constant/Constable" (some 0) with
  accessFlags := 1537
  interfaces := #[]
  cf := some (fileOf pool5 1 #[] #[] 1537 3 #[] #[])
  fields := #[]
  methods := #[]
  instanceTypes := #[]
  staticTypes := #[]
  resolved := Array.replicate 11 none
  statics := none }

def pool6 : Array CpInfo := pool [(1, .class_ 2), (0, u "java/lang/constant/ConstantDesc"), (0, .class_ 4), (0, u "java/lang/Object")] 32

/-- java/lang/constant/ConstantDesc -/
def k6 : Class := { plain "java/lang/constant/ConstantDesc" (some 0) with
  accessFlags := 1537
  interfaces := #[]
  cf := some (fileOf pool6 1 #[] #[] 1537 3 #[] #[])
  fields := #[]
  methods := #[]
  instanceTypes := #[]
  staticTypes := #[]
  resolved := Array.replicate 37 none
  statics := none }

def pool7 : Array CpInfo := pool [(1, .class_ 2), (0, u "java/lang/Integer"), (16, u "digits"), (0, u "[C"), (64, u "DigitOnes"), (0, u "[B"), (2, u "DigitTens"), (97, u "valueOf"), (0, u "(I)Ljava/lang/Integer;"), (0, .class_ 190), (0, u "java/lang/Integer$IntegerCache"), (0, .fieldref 189 192), (0, .nameAndType 193 194), (0, u "high"), (0, u "I"), (0, .fieldref 189 196), (0, .nameAndType 197 198), (0, u "cache"), (0, u "[Ljava/lang/Integer;"), (4, .class_ 204), (0, u "java/lang/Number"), (2, u "value"), (94, u "TYPE"), (0, u "Ljava/lang/Class;"), (0, .class_ 305), (0, u "java/lang/Comparable"), (0, .class_ 307), (0, u "java/lang/constant/Constable"), (0, .class_ 309), (0, u "java/lang/constant/ConstantDesc"), (0, u "MIN_VALUE"), (1, u "MAX_VALUE"), (3, u "SIZE"), (1, u "BYTES"), (1, u "serialVersionUID"), (0, u "J")] 131

def k7c0 : Code := { maxStack := 3, maxLocals := 1, code := jdk_33_method_22_code, exceptionTable := #[], attributes := #[] }
def k7m0 : Method := { name := "valueOf", desc := "(I)Ljava/lang/Integer;", sig := { parameters := [.int], returnType := some (.object "java/lang/Integer") }, accessFlags := 9, code := some k7c0 }
/-- java/lang/Integer -/
def k7 : Class := { plain "java/lang/Integer" (some 3) with
  accessFlags := 49
  interfaces := #[4, 5, 6]
  cf := some (fileOf pool7 1 #[.nestMembers #[189]] #[{ accessFlags := 9, nameIndex := 187, descriptorIndex := 188, attributes := #[] }] 49 203 #[304, 306, 308] #[{ accessFlags := 25, nameIndex := 310, descriptorIndex := 194, attributes := #[] }, { accessFlags := 25, nameIndex := 312, descriptorIndex := 194, attributes := #[] }, { accessFlags := 25, nameIndex := 302, descriptorIndex := 303, attributes := #[] }, { accessFlags := 24, nameIndex := 19, descriptorIndex := 20, attributes := #[] }, { accessFlags := 24, nameIndex := 89, descriptorIndex := 86, attributes := #[] }, { accessFlags := 24, nameIndex := 85, descriptorIndex := 86, attributes := #[] }, { accessFlags := 18, nameIndex := 207, descriptorIndex := 194, attributes := #[] }, { accessFlags := 25, nameIndex := 316, descriptorIndex := 194, attributes := #[] }, { accessFlags := 25, nameIndex := 318, descriptorIndex := 194, attributes := #[] }, { accessFlags := 26, nameIndex := 320, descriptorIndex := 321, attributes := #[] }])
  fields := #[{ name := "MIN_VALUE", type := .int, accessFlags := 25, slot := 0, constantValue := 0 }, { name := "MAX_VALUE", type := .int, accessFlags := 25, slot := 1, constantValue := 0 }, { name := "TYPE", type := (.object "java/lang/Class"), accessFlags := 25, slot := 2, constantValue := 0 }, { name := "digits", type := (.array .char), accessFlags := 24, slot := 3, constantValue := 0 }, { name := "DigitTens", type := (.array .byte), accessFlags := 24, slot := 4, constantValue := 0 }, { name := "DigitOnes", type := (.array .byte), accessFlags := 24, slot := 5, constantValue := 0 }, { name := "value", type := .int, accessFlags := 18, slot := 0, constantValue := 0 }, { name := "SIZE", type := .int, accessFlags := 25, slot := 6, constantValue := 0 }, { name := "BYTES", type := .int, accessFlags := 25, slot := 7, constantValue := 0 }, { name := "serialVersionUID", type := .long, accessFlags := 26, slot := 8, constantValue := 0 }]
  methods := #[k7m0]
  instanceTypes := #[.int]
  staticTypes := #[.int, .int, (.object "java/lang/Class"), (.array .char), (.array .byte), (.array .byte), .int, .int, .long]
  resolved := Array.replicate 453 none
  statics := none }

def pool8 : Array CpInfo := pool [(2, .class_ 4), (1, u "java/lang/Object"), (0, u "<init>"), (0, u "()V"), (0, .class_ 8), (0, u "java/lang/Integer"), (7, .class_ 18), (1, u "java/lang/Integer$IntegerCache"), (0, u "$assertionsDisabled"), (0, u "Z"), (26, u "high"), (0, u "I"), (8, u "archivedCache"), (0, u "[Ljava/lang/Integer;"), (12, u "cache"), (0, u "low")] 27

def k8m0 : Method := { name := "<init>", desc := "()V", sig := { parameters := [], returnType := none }, accessFlags := 2, code := none }
/-- java/lang/Integer$IntegerCache -/
def k8 : Class := { plain "java/lang/Integer$IntegerCache" (some 0) with
  accessFlags := 48
  interfaces := #[]
  cf := some (fileOf pool8 16 #[.nestHost 7] #[{ accessFlags := 2, nameIndex := 5, descriptorIndex := 6, attributes := #[] }] 48 2 #[] #[{ accessFlags := 24, nameIndex := 72, descriptorIndex := 48, attributes := #[] }, { accessFlags := 24, nameIndex := 47, descriptorIndex := 48, attributes := #[] }, { accessFlags := 24, nameIndex := 71, descriptorIndex := 58, attributes := #[] }, { accessFlags := 8, nameIndex := 57, descriptorIndex := 58, attributes := #[] }, { accessFlags := 4120, nameIndex := 19, descriptorIndex := 20, attributes := #[] }])
  fields := #[{ name := "low", type := .int, accessFlags := 24, slot := 0, constantValue := 0 }, { name := "high", type := .int, accessFlags := 24, slot := 1, constantValue := 0 }, { name := "cache", type := (.array (.object "java/lang/Integer")), accessFlags := 24, slot := 2, constantValue := 0 }, { name := "archivedCache", type := (.array (.object "java/lang/Integer")), accessFlags := 8, slot := 3, constantValue := 0 }, { name := "$assertionsDisabled", type := .boolean, accessFlags := 4120, slot := 4, constantValue := 0 }]
  methods := #[k8m0]
  instanceTypes := #[]
  staticTypes := #[.int, .int, (.array (.object "java/lang/Integer")), (.array (.object "java/lang/Integer")), .boolean]
  resolved := Array.replicate 100 none
  statics := some 0 }

def pool9 : Array CpInfo := pool [(1, .methodref 2 3), (0, .class_ 4), (0, .nameAndType 5 6), (0, u "java/lang/Object"), (0, u "<init>"), (0, u "()V"), (0, .class_ 8), (0, u "com/example/terrace/terrace/core/UseOrder"), (0, .fieldref 7 10), (0, .nameAndType 11 12), (0, u "entries"), (0, u "[Ljava/lang/Object;"), (0, .fieldref 7 14), (0, .nameAndType 15 16), (0, u "links"), (0, u "[I"), (0, .fieldref 7 18), (0, .nameAndType 19 20), (0, u "free"), (0, u "I"), (0, .fieldref 7 22), (0, .nameAndType 23 20), (0, u "highest"), (3, .methodref 7 28), (0, .nameAndType 29 30), (0, u "linkAsNewest"), (0, u "(I)V"), (0, .methodref 7 32), (0, .nameAndType 33 30), (0, u "unlink"), (6, u "use"), (0, .methodref 7 42), (0, .nameAndType 43 44), (0, u "entry"), (0, u "(I)Ljava/lang/Object;"), (40, .class_ 86), (0, u "com/example/terrace/terrace/core/UseOrder$1"), (3, u "ENDS"), (2, u "STRIDE"), (1, u "OLDER"), (0, u "NEWER"), (1, u "CHECK"), (1, u "FREE"), (1, u "INITIAL_PLACES"), (3, u "add"), (0, u "(Ljava/lang/Object;I)I"), (8, u "remove"), (0, u "leastRecent"), (0, u "()Ljava/lang/Object;")] 41

def k9c0 : Code := { maxStack := 2, maxLocals := 1, code := prog_46_method_1_code, exceptionTable := #[], attributes := #[] }
def k9m0 : Method := { name := "<init>", desc := "()V", sig := { parameters := [], returnType := none }, accessFlags := 0, code := some k9c0 }
def k9c1 : Code := { maxStack := 4, maxLocals := 4, code := prog_46_method_2_code, exceptionTable := #[], attributes := #[] }
def k9m1 : Method := { name := "add", desc := "(Ljava/lang/Object;I)I", sig := { parameters := [(.object "java/lang/Object"), .int], returnType := some .int }, accessFlags := 0, code := some k9c1 }
def k9c2 : Code := { maxStack := 2, maxLocals := 2, code := prog_46_method_3_code, exceptionTable := #[], attributes := #[] }
def k9m2 : Method := { name := "use", desc := "(I)V", sig := { parameters := [.int], returnType := none }, accessFlags := 0, code := some k9c2 }
def k9c3 : Code := { maxStack := 3, maxLocals := 2, code := prog_46_method_6_code, exceptionTable := #[], attributes := #[] }
def k9m3 : Method := { name := "remove", desc := "(I)V", sig := { parameters := [.int], returnType := none }, accessFlags := 0, code := some k9c3 }
def k9c4 : Code := { maxStack := 3, maxLocals := 1, code := prog_46_method_7_code, exceptionTable := #[], attributes := #[] }
def k9m4 : Method := { name := "leastRecent", desc := "()Ljava/lang/Object;", sig := { parameters := [], returnType := some (.object "java/lang/Object") }, accessFlags := 0, code := some k9c4 }
def k9c5 : Code := { maxStack := 2, maxLocals := 2, code := prog_46_method_11_code, exceptionTable := #[], attributes := #[] }
def k9m5 : Method := { name := "entry", desc := "(I)Ljava/lang/Object;", sig := { parameters := [.int], returnType := some (.object "java/lang/Object") }, accessFlags := 2, code := some k9c5 }
def k9c6 : Code := { maxStack := 3, maxLocals := 3, code := prog_46_method_12_code, exceptionTable := #[], attributes := #[] }
def k9m6 : Method := { name := "linkAsNewest", desc := "(I)V", sig := { parameters := [.int], returnType := none }, accessFlags := 2, code := some k9c6 }
def k9c7 : Code := { maxStack := 3, maxLocals := 4, code := prog_46_method_13_code, exceptionTable := #[], attributes := #[] }
def k9m7 : Method := { name := "unlink", desc := "(I)V", sig := { parameters := [.int], returnType := none }, accessFlags := 2, code := some k9c7 }
/-- com/example/terrace/terrace/core/UseOrder -/
def k9 : Class := { plain "com/example/terrace/terrace/core/UseOrder" (some 0) with
  accessFlags := 48
  interfaces := #[]
  cf := some (fileOf pool9 7 #[.nestMembers #[85]] #[{ accessFlags := 0, nameIndex := 5, descriptorIndex := 6, attributes := #[] }, { accessFlags := 0, nameIndex := 106, descriptorIndex := 107, attributes := #[] }, { accessFlags := 0, nameIndex := 40, descriptorIndex := 30, attributes := #[] }, { accessFlags := 0, nameIndex := 116, descriptorIndex := 30, attributes := #[] }, { accessFlags := 0, nameIndex := 117, descriptorIndex := 118, attributes := #[] }, { accessFlags := 2, nameIndex := 43, descriptorIndex := 44, attributes := #[] }, { accessFlags := 2, nameIndex := 29, descriptorIndex := 30, attributes := #[] }, { accessFlags := 2, nameIndex := 33, descriptorIndex := 30, attributes := #[] }] 48 2 #[] #[{ accessFlags := 26, nameIndex := 90, descriptorIndex := 20, attributes := #[] }, { accessFlags := 26, nameIndex := 93, descriptorIndex := 20, attributes := #[] }, { accessFlags := 26, nameIndex := 95, descriptorIndex := 20, attributes := #[] }, { accessFlags := 26, nameIndex := 96, descriptorIndex := 20, attributes := #[] }, { accessFlags := 26, nameIndex := 98, descriptorIndex := 20, attributes := #[] }, { accessFlags := 26, nameIndex := 100, descriptorIndex := 20, attributes := #[] }, { accessFlags := 26, nameIndex := 102, descriptorIndex := 20, attributes := #[] }, { accessFlags := 2, nameIndex := 11, descriptorIndex := 12, attributes := #[] }, { accessFlags := 2, nameIndex := 15, descriptorIndex := 16, attributes := #[] }, { accessFlags := 2, nameIndex := 19, descriptorIndex := 20, attributes := #[] }, { accessFlags := 2, nameIndex := 23, descriptorIndex := 20, attributes := #[] }])
  fields := #[{ name := "ENDS", type := .int, accessFlags := 26, slot := 0, constantValue := 0 }, { name := "STRIDE", type := .int, accessFlags := 26, slot := 1, constantValue := 0 }, { name := "OLDER", type := .int, accessFlags := 26, slot := 2, constantValue := 0 }, { name := "NEWER", type := .int, accessFlags := 26, slot := 3, constantValue := 0 }, { name := "CHECK", type := .int, accessFlags := 26, slot := 4, constantValue := 0 }, { name := "FREE", type := .int, accessFlags := 26, slot := 5, constantValue := 0 }, { name := "INITIAL_PLACES", type := .int, accessFlags := 26, slot := 6, constantValue := 0 }, { name := "entries", type := (.array (.object "java/lang/Object")), accessFlags := 2, slot := 0, constantValue := 0 }, { name := "links", type := (.array .int), accessFlags := 2, slot := 1, constantValue := 0 }, { name := "free", type := .int, accessFlags := 2, slot := 2, constantValue := 0 }, { name := "highest", type := .int, accessFlags := 2, slot := 3, constantValue := 0 }]
  methods := #[k9m0, k9m1, k9m2, k9m3, k9m4, k9m5, k9m6, k9m7]
  instanceTypes := #[(.array (.object "java/lang/Object")), (.array .int), .int, .int]
  staticTypes := #[.int, .int, .int, .int, .int, .int, .int]
  resolved := Array.replicate 160 none
  statics := none }

def pool10 : Array CpInfo := pool [(1, u "java/lang/Cloneable"), (0, .class_ 1), (0, u "java/lang/Object"), (0, .class_ 3)] 3

/-- java/lang/Cloneable -/
def k10 : Class := { plain "java/lang/Cloneable" (some 0) with
  accessFlags := 1537
  interfaces := #[]
  cf := some (fileOf pool10 2 #[] #[] 1537 4 #[] #[])
  fields := #[]
  methods := #[]
  instanceTypes := #[]
  staticTypes := #[]
  resolved := Array.replicate 8 none
  statics := none }

/-- the primitive byte -/
def k11 : Class := { plain "byte" none with kind := .primitive 'B', accessFlags := 0x411 }
/-- [B -/
def k12 : Class := { plain "[B" (some 0) with kind := .array 11 .byte, interfaces := #[10, 2], accessFlags := 1041 }

/-- the primitive int -/
def k13 : Class := { plain "int" none with kind := .primitive 'I', accessFlags := 0x411 }
/-- [I -/
def k14 : Class := { plain "[I" (some 0) with kind := .array 13 .int, interfaces := #[10, 2], accessFlags := 1041 }

/-- [Ljava/lang/Integer; -/
def k15 : Class := { plain "[Ljava/lang/Integer;" (some 0) with kind := .array 7 (.object "java/lang/Integer"), interfaces := #[10, 2], accessFlags := 1041 }

/-- [Ljava/lang/Object; -/
def k16 : Class := { plain "[Ljava/lang/Object;" (some 0) with kind := .array 0 (.object "java/lang/Object"), interfaces := #[10, 2], accessFlags := 1041 }

def heap : Heap := #[{ cls := 8, slots := #[.int 0, .int 127, .ref 1, .null, .int 0], vm := .statics 8 },
  { cls := 15, slots := #[.ref 2, .ref 3, .ref 4, .ref 5, .ref 6, .ref 7, .ref 8, .ref 9, .ref 10, .ref 11, .ref 12, .ref 13, .ref 14, .ref 15, .ref 16, .ref 17, .ref 18, .ref 19, .ref 20, .ref 21, .ref 22, .ref 23, .ref 24, .ref 25, .ref 26, .ref 27, .ref 28, .ref 29, .ref 30, .ref 31, .ref 32, .ref 33, .ref 34, .ref 35, .ref 36, .ref 37, .ref 38, .ref 39, .ref 40, .ref 41, .ref 42, .ref 43, .ref 44, .ref 45, .ref 46, .ref 47, .ref 48, .ref 49, .ref 50, .ref 51, .ref 52, .ref 53, .ref 54, .ref 55, .ref 56, .ref 57, .ref 58, .ref 59, .ref 60, .ref 61, .ref 62, .ref 63, .ref 64, .ref 65, .ref 66, .ref 67, .ref 68, .ref 69, .ref 70, .ref 71, .ref 72, .ref 73, .ref 74, .ref 75, .ref 76, .ref 77, .ref 78, .ref 79, .ref 80, .ref 81, .ref 82, .ref 83, .ref 84, .ref 85, .ref 86, .ref 87, .ref 88, .ref 89, .ref 90, .ref 91, .ref 92, .ref 93, .ref 94, .ref 95, .ref 96, .ref 97, .ref 98, .ref 99, .ref 100, .ref 101, .ref 102, .ref 103, .ref 104, .ref 105, .ref 106, .ref 107, .ref 108, .ref 109, .ref 110, .ref 111, .ref 112, .ref 113, .ref 114, .ref 115, .ref 116, .ref 117, .ref 118, .ref 119, .ref 120, .ref 121, .ref 122, .ref 123, .ref 124, .ref 125, .ref 126, .ref 127, .ref 128, .ref 129, .ref 130, .ref 131, .ref 132, .ref 133, .ref 134, .ref 135, .ref 136, .ref 137, .ref 138, .ref 139, .ref 140, .ref 141, .ref 142, .ref 143, .ref 144, .ref 145, .ref 146, .ref 147, .ref 148, .ref 149, .ref 150, .ref 151, .ref 152, .ref 153, .ref 154, .ref 155, .ref 156, .ref 157, .ref 158, .ref 159, .ref 160, .ref 161, .ref 162, .ref 163, .ref 164, .ref 165, .ref 166, .ref 167, .ref 168, .ref 169, .ref 170, .ref 171, .ref 172, .ref 173, .ref 174, .ref 175, .ref 176, .ref 177, .ref 178, .ref 179, .ref 180, .ref 181, .ref 182, .ref 183, .ref 184, .ref 185, .ref 186, .ref 187, .ref 188, .ref 189, .ref 190, .ref 191, .ref 192, .ref 193, .ref 194, .ref 195, .ref 196, .ref 197, .ref 198, .ref 199, .ref 200, .ref 201, .ref 202, .ref 203, .ref 204, .ref 205, .ref 206, .ref 207, .ref 208, .ref 209, .ref 210, .ref 211, .ref 212, .ref 213, .ref 214, .ref 215, .ref 216, .ref 217, .ref 218, .ref 219, .ref 220, .ref 221, .ref 222, .ref 223, .ref 224, .ref 225, .ref 226, .ref 227, .ref 228, .ref 229, .ref 230, .ref 231, .ref 232, .ref 233, .ref 234, .ref 235, .ref 236, .ref 237, .ref 238, .ref 239, .ref 240, .ref 241, .ref 242, .ref 243, .ref 244, .ref 245, .ref 246, .ref 247, .ref 248, .ref 249, .ref 250, .ref 251, .ref 252, .ref 253, .ref 254, .ref 255, .ref 256, .ref 257], vm := .none },
  { cls := 7, slots := #[.int (-128)], vm := .none },
  { cls := 7, slots := #[.int (-127)], vm := .none },
  { cls := 7, slots := #[.int (-126)], vm := .none },
  { cls := 7, slots := #[.int (-125)], vm := .none },
  { cls := 7, slots := #[.int (-124)], vm := .none },
  { cls := 7, slots := #[.int (-123)], vm := .none },
  { cls := 7, slots := #[.int (-122)], vm := .none },
  { cls := 7, slots := #[.int (-121)], vm := .none },
  { cls := 7, slots := #[.int (-120)], vm := .none },
  { cls := 7, slots := #[.int (-119)], vm := .none },
  { cls := 7, slots := #[.int (-118)], vm := .none },
  { cls := 7, slots := #[.int (-117)], vm := .none },
  { cls := 7, slots := #[.int (-116)], vm := .none },
  { cls := 7, slots := #[.int (-115)], vm := .none },
  { cls := 7, slots := #[.int (-114)], vm := .none },
  { cls := 7, slots := #[.int (-113)], vm := .none },
  { cls := 7, slots := #[.int (-112)], vm := .none },
  { cls := 7, slots := #[.int (-111)], vm := .none },
  { cls := 7, slots := #[.int (-110)], vm := .none },
  { cls := 7, slots := #[.int (-109)], vm := .none },
  { cls := 7, slots := #[.int (-108)], vm := .none },
  { cls := 7, slots := #[.int (-107)], vm := .none },
  { cls := 7, slots := #[.int (-106)], vm := .none },
  { cls := 7, slots := #[.int (-105)], vm := .none },
  { cls := 7, slots := #[.int (-104)], vm := .none },
  { cls := 7, slots := #[.int (-103)], vm := .none },
  { cls := 7, slots := #[.int (-102)], vm := .none },
  { cls := 7, slots := #[.int (-101)], vm := .none },
  { cls := 7, slots := #[.int (-100)], vm := .none },
  { cls := 7, slots := #[.int (-99)], vm := .none },
  { cls := 7, slots := #[.int (-98)], vm := .none },
  { cls := 7, slots := #[.int (-97)], vm := .none },
  { cls := 7, slots := #[.int (-96)], vm := .none },
  { cls := 7, slots := #[.int (-95)], vm := .none },
  { cls := 7, slots := #[.int (-94)], vm := .none },
  { cls := 7, slots := #[.int (-93)], vm := .none },
  { cls := 7, slots := #[.int (-92)], vm := .none },
  { cls := 7, slots := #[.int (-91)], vm := .none },
  { cls := 7, slots := #[.int (-90)], vm := .none },
  { cls := 7, slots := #[.int (-89)], vm := .none },
  { cls := 7, slots := #[.int (-88)], vm := .none },
  { cls := 7, slots := #[.int (-87)], vm := .none },
  { cls := 7, slots := #[.int (-86)], vm := .none },
  { cls := 7, slots := #[.int (-85)], vm := .none },
  { cls := 7, slots := #[.int (-84)], vm := .none },
  { cls := 7, slots := #[.int (-83)], vm := .none },
  { cls := 7, slots := #[.int (-82)], vm := .none },
  { cls := 7, slots := #[.int (-81)], vm := .none },
  { cls := 7, slots := #[.int (-80)], vm := .none },
  { cls := 7, slots := #[.int (-79)], vm := .none },
  { cls := 7, slots := #[.int (-78)], vm := .none },
  { cls := 7, slots := #[.int (-77)], vm := .none },
  { cls := 7, slots := #[.int (-76)], vm := .none },
  { cls := 7, slots := #[.int (-75)], vm := .none },
  { cls := 7, slots := #[.int (-74)], vm := .none },
  { cls := 7, slots := #[.int (-73)], vm := .none },
  { cls := 7, slots := #[.int (-72)], vm := .none },
  { cls := 7, slots := #[.int (-71)], vm := .none },
  { cls := 7, slots := #[.int (-70)], vm := .none },
  { cls := 7, slots := #[.int (-69)], vm := .none },
  { cls := 7, slots := #[.int (-68)], vm := .none },
  { cls := 7, slots := #[.int (-67)], vm := .none },
  { cls := 7, slots := #[.int (-66)], vm := .none },
  { cls := 7, slots := #[.int (-65)], vm := .none },
  { cls := 7, slots := #[.int (-64)], vm := .none },
  { cls := 7, slots := #[.int (-63)], vm := .none },
  { cls := 7, slots := #[.int (-62)], vm := .none },
  { cls := 7, slots := #[.int (-61)], vm := .none },
  { cls := 7, slots := #[.int (-60)], vm := .none },
  { cls := 7, slots := #[.int (-59)], vm := .none },
  { cls := 7, slots := #[.int (-58)], vm := .none },
  { cls := 7, slots := #[.int (-57)], vm := .none },
  { cls := 7, slots := #[.int (-56)], vm := .none },
  { cls := 7, slots := #[.int (-55)], vm := .none },
  { cls := 7, slots := #[.int (-54)], vm := .none },
  { cls := 7, slots := #[.int (-53)], vm := .none },
  { cls := 7, slots := #[.int (-52)], vm := .none },
  { cls := 7, slots := #[.int (-51)], vm := .none },
  { cls := 7, slots := #[.int (-50)], vm := .none },
  { cls := 7, slots := #[.int (-49)], vm := .none },
  { cls := 7, slots := #[.int (-48)], vm := .none },
  { cls := 7, slots := #[.int (-47)], vm := .none },
  { cls := 7, slots := #[.int (-46)], vm := .none },
  { cls := 7, slots := #[.int (-45)], vm := .none },
  { cls := 7, slots := #[.int (-44)], vm := .none },
  { cls := 7, slots := #[.int (-43)], vm := .none },
  { cls := 7, slots := #[.int (-42)], vm := .none },
  { cls := 7, slots := #[.int (-41)], vm := .none },
  { cls := 7, slots := #[.int (-40)], vm := .none },
  { cls := 7, slots := #[.int (-39)], vm := .none },
  { cls := 7, slots := #[.int (-38)], vm := .none },
  { cls := 7, slots := #[.int (-37)], vm := .none },
  { cls := 7, slots := #[.int (-36)], vm := .none },
  { cls := 7, slots := #[.int (-35)], vm := .none },
  { cls := 7, slots := #[.int (-34)], vm := .none },
  { cls := 7, slots := #[.int (-33)], vm := .none },
  { cls := 7, slots := #[.int (-32)], vm := .none },
  { cls := 7, slots := #[.int (-31)], vm := .none },
  { cls := 7, slots := #[.int (-30)], vm := .none },
  { cls := 7, slots := #[.int (-29)], vm := .none },
  { cls := 7, slots := #[.int (-28)], vm := .none },
  { cls := 7, slots := #[.int (-27)], vm := .none },
  { cls := 7, slots := #[.int (-26)], vm := .none },
  { cls := 7, slots := #[.int (-25)], vm := .none },
  { cls := 7, slots := #[.int (-24)], vm := .none },
  { cls := 7, slots := #[.int (-23)], vm := .none },
  { cls := 7, slots := #[.int (-22)], vm := .none },
  { cls := 7, slots := #[.int (-21)], vm := .none },
  { cls := 7, slots := #[.int (-20)], vm := .none },
  { cls := 7, slots := #[.int (-19)], vm := .none },
  { cls := 7, slots := #[.int (-18)], vm := .none },
  { cls := 7, slots := #[.int (-17)], vm := .none },
  { cls := 7, slots := #[.int (-16)], vm := .none },
  { cls := 7, slots := #[.int (-15)], vm := .none },
  { cls := 7, slots := #[.int (-14)], vm := .none },
  { cls := 7, slots := #[.int (-13)], vm := .none },
  { cls := 7, slots := #[.int (-12)], vm := .none },
  { cls := 7, slots := #[.int (-11)], vm := .none },
  { cls := 7, slots := #[.int (-10)], vm := .none },
  { cls := 7, slots := #[.int (-9)], vm := .none },
  { cls := 7, slots := #[.int (-8)], vm := .none },
  { cls := 7, slots := #[.int (-7)], vm := .none },
  { cls := 7, slots := #[.int (-6)], vm := .none },
  { cls := 7, slots := #[.int (-5)], vm := .none },
  { cls := 7, slots := #[.int (-4)], vm := .none },
  { cls := 7, slots := #[.int (-3)], vm := .none },
  { cls := 7, slots := #[.int (-2)], vm := .none },
  { cls := 7, slots := #[.int (-1)], vm := .none },
  { cls := 7, slots := #[.int 0], vm := .none },
  { cls := 7, slots := #[.int 1], vm := .none },
  { cls := 7, slots := #[.int 2], vm := .none },
  { cls := 7, slots := #[.int 3], vm := .none },
  { cls := 7, slots := #[.int 4], vm := .none },
  { cls := 7, slots := #[.int 5], vm := .none },
  { cls := 7, slots := #[.int 6], vm := .none },
  { cls := 7, slots := #[.int 7], vm := .none },
  { cls := 7, slots := #[.int 8], vm := .none },
  { cls := 7, slots := #[.int 9], vm := .none },
  { cls := 7, slots := #[.int 10], vm := .none },
  { cls := 7, slots := #[.int 11], vm := .none },
  { cls := 7, slots := #[.int 12], vm := .none },
  { cls := 7, slots := #[.int 13], vm := .none },
  { cls := 7, slots := #[.int 14], vm := .none },
  { cls := 7, slots := #[.int 15], vm := .none },
  { cls := 7, slots := #[.int 16], vm := .none },
  { cls := 7, slots := #[.int 17], vm := .none },
  { cls := 7, slots := #[.int 18], vm := .none },
  { cls := 7, slots := #[.int 19], vm := .none },
  { cls := 7, slots := #[.int 20], vm := .none },
  { cls := 7, slots := #[.int 21], vm := .none },
  { cls := 7, slots := #[.int 22], vm := .none },
  { cls := 7, slots := #[.int 23], vm := .none },
  { cls := 7, slots := #[.int 24], vm := .none },
  { cls := 7, slots := #[.int 25], vm := .none },
  { cls := 7, slots := #[.int 26], vm := .none },
  { cls := 7, slots := #[.int 27], vm := .none },
  { cls := 7, slots := #[.int 28], vm := .none },
  { cls := 7, slots := #[.int 29], vm := .none },
  { cls := 7, slots := #[.int 30], vm := .none },
  { cls := 7, slots := #[.int 31], vm := .none },
  { cls := 7, slots := #[.int 32], vm := .none },
  { cls := 7, slots := #[.int 33], vm := .none },
  { cls := 7, slots := #[.int 34], vm := .none },
  { cls := 7, slots := #[.int 35], vm := .none },
  { cls := 7, slots := #[.int 36], vm := .none },
  { cls := 7, slots := #[.int 37], vm := .none },
  { cls := 7, slots := #[.int 38], vm := .none },
  { cls := 7, slots := #[.int 39], vm := .none },
  { cls := 7, slots := #[.int 40], vm := .none },
  { cls := 7, slots := #[.int 41], vm := .none },
  { cls := 7, slots := #[.int 42], vm := .none },
  { cls := 7, slots := #[.int 43], vm := .none },
  { cls := 7, slots := #[.int 44], vm := .none },
  { cls := 7, slots := #[.int 45], vm := .none },
  { cls := 7, slots := #[.int 46], vm := .none },
  { cls := 7, slots := #[.int 47], vm := .none },
  { cls := 7, slots := #[.int 48], vm := .none },
  { cls := 7, slots := #[.int 49], vm := .none },
  { cls := 7, slots := #[.int 50], vm := .none },
  { cls := 7, slots := #[.int 51], vm := .none },
  { cls := 7, slots := #[.int 52], vm := .none },
  { cls := 7, slots := #[.int 53], vm := .none },
  { cls := 7, slots := #[.int 54], vm := .none },
  { cls := 7, slots := #[.int 55], vm := .none },
  { cls := 7, slots := #[.int 56], vm := .none },
  { cls := 7, slots := #[.int 57], vm := .none },
  { cls := 7, slots := #[.int 58], vm := .none },
  { cls := 7, slots := #[.int 59], vm := .none },
  { cls := 7, slots := #[.int 60], vm := .none },
  { cls := 7, slots := #[.int 61], vm := .none },
  { cls := 7, slots := #[.int 62], vm := .none },
  { cls := 7, slots := #[.int 63], vm := .none },
  { cls := 7, slots := #[.int 64], vm := .none },
  { cls := 7, slots := #[.int 65], vm := .none },
  { cls := 7, slots := #[.int 66], vm := .none },
  { cls := 7, slots := #[.int 67], vm := .none },
  { cls := 7, slots := #[.int 68], vm := .none },
  { cls := 7, slots := #[.int 69], vm := .none },
  { cls := 7, slots := #[.int 70], vm := .none },
  { cls := 7, slots := #[.int 71], vm := .none },
  { cls := 7, slots := #[.int 72], vm := .none },
  { cls := 7, slots := #[.int 73], vm := .none },
  { cls := 7, slots := #[.int 74], vm := .none },
  { cls := 7, slots := #[.int 75], vm := .none },
  { cls := 7, slots := #[.int 76], vm := .none },
  { cls := 7, slots := #[.int 77], vm := .none },
  { cls := 7, slots := #[.int 78], vm := .none },
  { cls := 7, slots := #[.int 79], vm := .none },
  { cls := 7, slots := #[.int 80], vm := .none },
  { cls := 7, slots := #[.int 81], vm := .none },
  { cls := 7, slots := #[.int 82], vm := .none },
  { cls := 7, slots := #[.int 83], vm := .none },
  { cls := 7, slots := #[.int 84], vm := .none },
  { cls := 7, slots := #[.int 85], vm := .none },
  { cls := 7, slots := #[.int 86], vm := .none },
  { cls := 7, slots := #[.int 87], vm := .none },
  { cls := 7, slots := #[.int 88], vm := .none },
  { cls := 7, slots := #[.int 89], vm := .none },
  { cls := 7, slots := #[.int 90], vm := .none },
  { cls := 7, slots := #[.int 91], vm := .none },
  { cls := 7, slots := #[.int 92], vm := .none },
  { cls := 7, slots := #[.int 93], vm := .none },
  { cls := 7, slots := #[.int 94], vm := .none },
  { cls := 7, slots := #[.int 95], vm := .none },
  { cls := 7, slots := #[.int 96], vm := .none },
  { cls := 7, slots := #[.int 97], vm := .none },
  { cls := 7, slots := #[.int 98], vm := .none },
  { cls := 7, slots := #[.int 99], vm := .none },
  { cls := 7, slots := #[.int 100], vm := .none },
  { cls := 7, slots := #[.int 101], vm := .none },
  { cls := 7, slots := #[.int 102], vm := .none },
  { cls := 7, slots := #[.int 103], vm := .none },
  { cls := 7, slots := #[.int 104], vm := .none },
  { cls := 7, slots := #[.int 105], vm := .none },
  { cls := 7, slots := #[.int 106], vm := .none },
  { cls := 7, slots := #[.int 107], vm := .none },
  { cls := 7, slots := #[.int 108], vm := .none },
  { cls := 7, slots := #[.int 109], vm := .none },
  { cls := 7, slots := #[.int 110], vm := .none },
  { cls := 7, slots := #[.int 111], vm := .none },
  { cls := 7, slots := #[.int 112], vm := .none },
  { cls := 7, slots := #[.int 113], vm := .none },
  { cls := 7, slots := #[.int 114], vm := .none },
  { cls := 7, slots := #[.int 115], vm := .none },
  { cls := 7, slots := #[.int 116], vm := .none },
  { cls := 7, slots := #[.int 117], vm := .none },
  { cls := 7, slots := #[.int 118], vm := .none },
  { cls := 7, slots := #[.int 119], vm := .none },
  { cls := 7, slots := #[.int 120], vm := .none },
  { cls := 7, slots := #[.int 121], vm := .none },
  { cls := 7, slots := #[.int 122], vm := .none },
  { cls := 7, slots := #[.int 123], vm := .none },
  { cls := 7, slots := #[.int 124], vm := .none },
  { cls := 7, slots := #[.int 125], vm := .none },
  { cls := 7, slots := #[.int 126], vm := .none },
  { cls := 7, slots := #[.int 127], vm := .none }]
def classes : Array Class := #[k0, k1, k2, k3, k4, k5, k6, k7, k8, k9, k10, k11, k12, k13, k14, k15, k16]
def interned : List (Array UInt16 × Addr) := []
def slotsUsed : Nat := 517
def theMethod : MethodId := ⟨1, 2⟩
def args0 : Array Value := #[.int 5, .int 6, .int 7]
def aboutOver (below : List Frame) : State where
  vm := { classes := classes, interned := interned.toArray }
  heap := heap
  slotsUsed := slotsUsed
  threads := #[{ frames := .invoking theMethod args0 :: below }]
def below0 : List Frame := [.native { method := ⟨0, 0⟩, args := #[] }]
def about1 : State := aboutOver below0
def p0 : Program := .bare "" "" ""
def e0 : Env := launch0.env 0 0 0
theorem w_frames : about1.frames = Frame.invoking theMethod args0 :: below0 := rfl
set_option maxRecDepth 65536 in
theorem w_args : argsFit about1.vm theMethod args0 = true := by decide +kernel
set_option maxRecDepth 65536 in
theorem w_heap : heapFits about1 = true := by decide +kernel
set_option maxRecDepth 65536 in
theorem w_runnable : about1.curStatus? = some .runnable := by decide +kernel
set_option maxRecDepth 65536 in
theorem w_alone : about1.alone = true := by decide +kernel
set_option maxRecDepth 65536 in
theorem w_named : about1.methodNamed? x = some theMethod := by decide +kernel
set_option maxRecDepth 65536 in
theorem w_hears : about1.hears theMethod below0 = true := by decide +kernel
set_option maxRecDepth 65536 in
theorem w_ripe : about1.ripe theMethod args0 below0 = true := by decide +kernel
theorem w_running : about1.status = .running := rfl
set_option maxRecDepth 65536 in
theorem w_room : about1.hasRoom e0.platform room_1 = true :=
  launch0.hasRoom_least _ room_1 (by decide +kernel) (by decide +kernel) (by decide +kernel) (by decide +kernel) (by decide +kernel) (by decide +kernel)
theorem allAtoms_all (ts : List Jvm.Cond) (a : Array Jvm.Value) (st : Jvm.State) : (allAtoms ts).before a st = ts.all (fun c => c.before a st) := by
  induction ts with
  | nil => rfl
  | cons c t ih =>
    show (Jvm.Cond.and c (allAtoms t)).before a st = _
    rw [Jvm.Cond.before_and, ih, List.all_cons]
def words1 : List Jvm.Cond := Jvm.Cond.code x code maxLocals ret :: tables_1
/-- a 'code' word, met by the world's own term for the bytes: nothing is compared byte by byte -/
theorem code_word {y : MethodName} {bytes : ByteArray} {mx : Nat} {rt : Option FieldType} {a : Array Value} {s : State} {m : MethodId} {meth : Method} {c : Code} (h1 : s.methodNamed? y = some m) (h2 : s.vm.method? m = some meth) (h3 : meth.code = some c) (h4 : c.code = bytes)
    (h5 : (c.maxLocals == mx && c.exceptionTable.isEmpty && decide (c.maxStack ≤ mostOperands) && decide (meth.sig.returnType = rt) && !meth.locks && decide (parseMethodDescriptor y.desc = some meth.sig)) = true) : (Jvm.Cond.code y bytes mx rt).before a s = true := by
  simp only [Bool.and_eq_true, beq_iff_eq, Bool.not_eq_true', decide_eq_true_eq] at h5
  obtain ⟨⟨⟨⟨⟨g1, g2⟩, g3⟩, g4⟩, g5⟩, g6⟩ := h5
  simp [Cond.before, Cond.holds, Cond.value, h1, h2, h3, h4, g1, g2, g3, g4, g5, g6]
def isCode : Jvm.Cond → Bool
  | .code _ _ _ _ => true
  | _ => false
theorem all_split {L : List Jvm.Cond} {P : Jvm.Cond → Bool} (h1 : L.all (fun c => isCode c || P c) = true) (h2 : ∀ c ∈ L.filter isCode, P c = true) : L.all P = true := by
  refine List.all_eq_true.mpr fun c hc => ?_
  have h := List.all_eq_true.mp h1 c hc
  rcases Bool.eq_false_or_eq_true (isCode c) with hi | hi
  · exact h2 c (List.mem_filter.mpr ⟨hc, hi⟩)
  · simpa [hi] using h
set_option maxRecDepth 65536 in
theorem w_c0 : (Jvm.Cond.code x code maxLocals ret).before args0 about1 = true := code_word (m := ⟨1, 2⟩) (meth := k1m2) (c := k1c2) (by decide +kernel) rfl rfl rfl (by decide +kernel)
set_option maxRecDepth 65536 in
theorem w_c1 : (Jvm.Cond.code ({ cls := "java/lang/Integer", name := "valueOf", desc := "(I)Ljava/lang/Integer;" } : Jvm.MethodName) jdk_33_method_22_code (1 : Nat) (Option.some (Jvm.ClassFile.FieldType.object "java/lang/Integer"))).before args0 about1 = true := code_word (m := ⟨7, 0⟩) (meth := k7m0) (c := k7c0) (by decide +kernel) rfl rfl rfl (by decide +kernel)
set_option maxRecDepth 65536 in
theorem w_c2 : (Jvm.Cond.code ({ cls := "com/example/terrace/terrace/core/UseOrder", name := "<init>", desc := "()V" } : Jvm.MethodName) prog_46_method_1_code (1 : Nat) (Option.none : Option Jvm.ClassFile.FieldType)).before args0 about1 = true := code_word (m := ⟨9, 0⟩) (meth := k9m0) (c := k9c0) (by decide +kernel) rfl rfl rfl (by decide +kernel)
set_option maxRecDepth 65536 in
theorem w_c3 : (Jvm.Cond.code ({ cls := "java/lang/Object", name := "<init>", desc := "()V" } : Jvm.MethodName) object_method_1_code (1 : Nat) (Option.none : Option Jvm.ClassFile.FieldType)).before args0 about1 = true := code_word (m := ⟨0, 0⟩) (meth := k0m0) (c := k0c0) (by decide +kernel) rfl rfl rfl (by decide +kernel)
set_option maxRecDepth 65536 in
theorem w_c4 : (Jvm.Cond.code ({ cls := "com/example/terrace/terrace/core/UseOrder", name := "add", desc := "(Ljava/lang/Object;I)I" } : Jvm.MethodName) prog_46_method_2_code (4 : Nat) (Option.some Jvm.ClassFile.FieldType.int)).before args0 about1 = true := code_word (m := ⟨9, 1⟩) (meth := k9m1) (c := k9c1) (by decide +kernel) rfl rfl rfl (by decide +kernel)
set_option maxRecDepth 65536 in
theorem w_c5 : (Jvm.Cond.code ({ cls := "com/example/terrace/terrace/core/UseOrder", name := "linkAsNewest", desc := "(I)V" } : Jvm.MethodName) prog_46_method_12_code (3 : Nat) (Option.none : Option Jvm.ClassFile.FieldType)).before args0 about1 = true := code_word (m := ⟨9, 6⟩) (meth := k9m6) (c := k9c6) (by decide +kernel) rfl rfl rfl (by decide +kernel)
set_option maxRecDepth 65536 in
theorem w_c6 : (Jvm.Cond.code ({ cls := "com/example/terrace/terrace/core/UseOrder", name := "use", desc := "(I)V" } : Jvm.MethodName) prog_46_method_3_code (2 : Nat) (Option.none : Option Jvm.ClassFile.FieldType)).before args0 about1 = true := code_word (m := ⟨9, 2⟩) (meth := k9m2) (c := k9c2) (by decide +kernel) rfl rfl rfl (by decide +kernel)
set_option maxRecDepth 65536 in
theorem w_c7 : (Jvm.Cond.code ({ cls := "com/example/terrace/terrace/core/UseOrder", name := "unlink", desc := "(I)V" } : Jvm.MethodName) prog_46_method_13_code (4 : Nat) (Option.none : Option Jvm.ClassFile.FieldType)).before args0 about1 = true := code_word (m := ⟨9, 7⟩) (meth := k9m7) (c := k9c7) (by decide +kernel) rfl rfl rfl (by decide +kernel)
set_option maxRecDepth 65536 in
theorem w_c8 : (Jvm.Cond.code ({ cls := "com/example/terrace/terrace/core/UseOrderUsePinLaw", name := "moveToEnd", desc := "([II)V" } : Jvm.MethodName) method_2_code (3 : Nat) (Option.none : Option Jvm.ClassFile.FieldType)).before args0 about1 = true := code_word (m := ⟨1, 1⟩) (meth := k1m1) (c := k1c1) (by decide +kernel) rfl rfl rfl (by decide +kernel)
set_option maxRecDepth 65536 in
theorem w_c9 : (Jvm.Cond.code ({ cls := "com/example/terrace/terrace/core/UseOrder", name := "leastRecent", desc := "()Ljava/lang/Object;" } : Jvm.MethodName) prog_46_method_7_code (1 : Nat) (Option.some (Jvm.ClassFile.FieldType.object "java/lang/Object"))).before args0 about1 = true := code_word (m := ⟨9, 4⟩) (meth := k9m4) (c := k9c4) (by decide +kernel) rfl rfl rfl (by decide +kernel)
set_option maxRecDepth 65536 in
theorem w_c10 : (Jvm.Cond.code ({ cls := "com/example/terrace/terrace/core/UseOrder", name := "entry", desc := "(I)Ljava/lang/Object;" } : Jvm.MethodName) prog_46_method_11_code (2 : Nat) (Option.some (Jvm.ClassFile.FieldType.object "java/lang/Object"))).before args0 about1 = true := code_word (m := ⟨9, 5⟩) (meth := k9m5) (c := k9c5) (by decide +kernel) rfl rfl rfl (by decide +kernel)
set_option maxRecDepth 65536 in
theorem w_c11 : (Jvm.Cond.code ({ cls := "com/example/terrace/terrace/core/UseOrder", name := "remove", desc := "(I)V" } : Jvm.MethodName) prog_46_method_6_code (2 : Nat) (Option.none : Option Jvm.ClassFile.FieldType)).before args0 about1 = true := code_word (m := ⟨9, 3⟩) (meth := k9m3) (c := k9c3) (by decide +kernel) rfl rfl rfl (by decide +kernel)
def codes1 : List Jvm.Cond := [Jvm.Cond.code x code maxLocals ret, Jvm.Cond.code ({ cls := "java/lang/Integer", name := "valueOf", desc := "(I)Ljava/lang/Integer;" } : Jvm.MethodName) jdk_33_method_22_code (1 : Nat) (Option.some (Jvm.ClassFile.FieldType.object "java/lang/Integer")), Jvm.Cond.code ({ cls := "com/example/terrace/terrace/core/UseOrder", name := "<init>", desc := "()V" } : Jvm.MethodName) prog_46_method_1_code (1 : Nat) (Option.none : Option Jvm.ClassFile.FieldType), Jvm.Cond.code ({ cls := "java/lang/Object", name := "<init>", desc := "()V" } : Jvm.MethodName) object_method_1_code (1 : Nat) (Option.none : Option Jvm.ClassFile.FieldType), Jvm.Cond.code ({ cls := "com/example/terrace/terrace/core/UseOrder", name := "add", desc := "(Ljava/lang/Object;I)I" } : Jvm.MethodName) prog_46_method_2_code (4 : Nat) (Option.some Jvm.ClassFile.FieldType.int), Jvm.Cond.code ({ cls := "com/example/terrace/terrace/core/UseOrder", name := "linkAsNewest", desc := "(I)V" } : Jvm.MethodName) prog_46_method_12_code (3 : Nat) (Option.none : Option Jvm.ClassFile.FieldType), Jvm.Cond.code ({ cls := "com/example/terrace/terrace/core/UseOrder", name := "use", desc := "(I)V" } : Jvm.MethodName) prog_46_method_3_code (2 : Nat) (Option.none : Option Jvm.ClassFile.FieldType), Jvm.Cond.code ({ cls := "com/example/terrace/terrace/core/UseOrder", name := "unlink", desc := "(I)V" } : Jvm.MethodName) prog_46_method_13_code (4 : Nat) (Option.none : Option Jvm.ClassFile.FieldType), Jvm.Cond.code ({ cls := "com/example/terrace/terrace/core/UseOrderUsePinLaw", name := "moveToEnd", desc := "([II)V" } : Jvm.MethodName) method_2_code (3 : Nat) (Option.none : Option Jvm.ClassFile.FieldType), Jvm.Cond.code ({ cls := "com/example/terrace/terrace/core/UseOrder", name := "leastRecent", desc := "()Ljava/lang/Object;" } : Jvm.MethodName) prog_46_method_7_code (1 : Nat) (Option.some (Jvm.ClassFile.FieldType.object "java/lang/Object")), Jvm.Cond.code ({ cls := "com/example/terrace/terrace/core/UseOrder", name := "entry", desc := "(I)Ljava/lang/Object;" } : Jvm.MethodName) prog_46_method_11_code (2 : Nat) (Option.some (Jvm.ClassFile.FieldType.object "java/lang/Object")), Jvm.Cond.code ({ cls := "com/example/terrace/terrace/core/UseOrder", name := "remove", desc := "(I)V" } : Jvm.MethodName) prog_46_method_6_code (2 : Nat) (Option.none : Option Jvm.ClassFile.FieldType)]
set_option maxRecDepth 65536 in
theorem codes_eq : words1.filter isCode = codes1 := rfl
theorem w_codes : ∀ c ∈ words1.filter isCode, c.before args0 about1 = true := by
  rw [codes_eq]
  intro c hc
  simp only [codes1, List.mem_cons, List.not_mem_nil, or_false] at hc
  rcases hc with rfl | rfl | rfl | rfl | rfl | rfl | rfl | rfl | rfl | rfl | rfl | rfl
  · exact w_c0
  · exact w_c1
  · exact w_c2
  · exact w_c3
  · exact w_c4
  · exact w_c5
  · exact w_c6
  · exact w_c7
  · exact w_c8
  · exact w_c9
  · exact w_c10
  · exact w_c11
set_option maxRecDepth 65536 in
theorem w_t1 : (words1.take 24).all (fun c => isCode c || c.before args0 about1) = true := by decide +kernel
set_option maxRecDepth 65536 in
theorem w_t2 : ((words1.drop 24).take 24).all (fun c => isCode c || c.before args0 about1) = true := by decide +kernel
set_option maxRecDepth 65536 in
theorem w_t3 : ((words1.drop 24).drop 24).all (fun c => isCode c || c.before args0 about1) = true := by decide +kernel
theorem w_tables : (allAtoms (Jvm.Cond.code x code maxLocals ret :: tables_1)).before args0 about1 = true := by
  rw [allAtoms_all]
  show words1.all (fun c => c.before args0 about1) = true
  refine all_split ?_ w_codes
  rw [← List.take_append_drop 24 words1, List.all_append, w_t1, ← List.take_append_drop 24 (words1.drop 24), List.all_append, w_t2, w_t3]
  rfl
set_option maxRecDepth 65536 in
theorem w_rest : rest_1_c.before args0 about1 = true := by decide +kernel
set_option maxRecDepth 65536 in
theorem w_case : (Jvm.Cond.and given_1 narrow_1).before args0 about1 = true := by decide +kernel
theorem w_applies : (headSpec (Jvm.Cond.code x code maxLocals ret :: tables_1) room_1).applies x e0.platform about1 = true :=
  (Spec.applies_iff w_frames).mpr ⟨w_running, w_runnable, w_alone, w_named, w_hears, w_ripe, w_room, w_tables⟩
theorem atStart : AtStart classFile x code maxLocals ret World_1 tables_1 room_1 Calls_1 rest_1 Pre_1 launch0 p0 e0 about1 theMethod args0 below0 :=
  ⟨lists_1, trivial, launch0.admits_env _ _ _, launch0.least_env, fairChoices_fair.cas, fairChoices_fair.clock, w_frames, w_args, w_heap, w_applies, trivial, w_rest, w_case⟩
end start1
theorem witness_1 : WitnessClaimed_1 := ⟨start1.p0, start1.e0, start1.about1, start1.theMethod, start1.args0, start1.below0, start1.atStart⟩
end Jvm.Pilot.@@N@@
