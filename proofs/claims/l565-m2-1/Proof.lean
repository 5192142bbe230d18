import JvmDerived
import JvmDerived.Pilot.@@N@@Statement
import JvmDerived.Pilot.@@N@@Code
set_option linter.unusedVariables false
set_option linter.unusedSimpArgs false
@@BLOCK:NumsL.lean.txt@@
namespace Jvm.Pilot.@@N@@
open Jvm Jvm.ClassFile Sem Op Lib Jvm.Free Jvm.Stand Jvm.LawKit Jvm.RoadKit Bundle Jvm.Pilot.@@N@@.Jvm.D
abbrev own_S (p : Program) (e : Env) (below : List Frame) (T : State) (g : JFrame) (t : State) : Prop := Steps p.tables e below (T.setTop g) t

theorem own_or (a b : Int32) : (a ||| b) = 0 ↔ a = 0 ∧ b = 0 := by
  simp only [← Int32.toBitVec_inj, Int32.toBitVec_or]
  exact BitVec.or_eq_zero_iff
theorem own_n5 (x n : Int32) (h : n = ((x &&& (2147483647 : Int32)) % (5 : Int32))) : n = (0 : Int32) ∨ n = (1 : Int32) ∨ n = (2 : Int32) ∨ n = (3 : Int32) ∨ n = (4 : Int32) := by
  have e1 : (x &&& (2147483647 : Int32)).toInt = x.toInt % 2 ^ 31 := Jvm.Kit.i32_mask x 2147483647 (k := 31) (by decide) (by decide)
  have e2 : ((x &&& (2147483647 : Int32)) % (5 : Int32)).toInt = (x &&& (2147483647 : Int32)).toInt % (5 : Int32).toInt := Jvm.Kit.i32_rem_nonneg (by omega)
  have c5 : (5 : Int32).toInt = 5 := by decide
  have e0 : (0 : Int32).toInt = 0 := by decide
  have e1' : (1 : Int32).toInt = 1 := by decide
  have e2' : (2 : Int32).toInt = 2 := by decide
  have e3 : (3 : Int32).toInt = 3 := by decide
  have e4 : (4 : Int32).toInt = 4 := by decide
  rw [c5, ← h] at e2
  simp only [← Int32.toInt_inj]
  omega
theorem d1_0 : decode prog_33_method_8_code 0 = .ok (.iconst 0, 1) := by decide +kernel
theorem d1_1 : decode prog_33_method_8_code 1 = .ok (.istore_n 1, 1) := by decide +kernel
theorem d1_2 : decode prog_33_method_8_code 2 = .ok (.aload_n 0, 1) := by decide +kernel
theorem d1_3 : decode prog_33_method_8_code 3 = .ok (.astore_n 2, 1) := by decide +kernel
theorem d1_4 : decode prog_33_method_8_code 4 = .ok (.aload_n 2, 1) := by decide +kernel
theorem d1_5 : decode prog_33_method_8_code 5 = .ok (.arraylength, 1) := by decide +kernel
theorem d1_6 : decode prog_33_method_8_code 6 = .ok (.istore_n 3, 1) := by decide +kernel
theorem d1_7 : decode prog_33_method_8_code 7 = .ok (.iconst 0, 1) := by decide +kernel
theorem d1_8 : decode prog_33_method_8_code 8 = .ok (.istore 4, 2) := by decide +kernel
theorem d1_10 : decode prog_33_method_8_code 10 = .ok (.iload 4, 2) := by decide +kernel
theorem d1_12 : decode prog_33_method_8_code 12 = .ok (.iload_n 3, 1) := by decide +kernel
theorem d1_13 : decode prog_33_method_8_code 13 = .ok (.if_icmp .ge 20, 3) := by decide +kernel
theorem d1_33 : decode prog_33_method_8_code 33 = .ok (.iload_n 1, 1) := by decide +kernel
theorem d1_34 : decode prog_33_method_8_code 34 = .ok (.ifCond .ne 7, 3) := by decide +kernel
theorem d1_37 : decode prog_33_method_8_code 37 = .ok (.iconst 1, 1) := by decide +kernel
theorem d1_38 : decode prog_33_method_8_code 38 = .ok (.goto 4, 3) := by decide +kernel
theorem d1_42 : decode prog_33_method_8_code 42 = .ok (.ireturn, 1) := by decide +kernel
theorem pn_1 : plainName "com/example/whorl/whorl/PrimeField" = true := by first | (simp [plainName, overriddenIn]; done) | decide +kernel
theorem ef_1_0 (m : MethodId) (r0 : Addr) : entryFrame m #[(.ref r0)] 6 = mkF m 0 #[.val (.ref r0), .unset, .unset, .unset, .unset, .unset] [] := by first | (simp [entryFrame, mkF, argsToLocals, Value.category]; done) | rfl
def Q1_0 (Z : State) (r0 : Addr) (kA : ClassId) (h0 : Heap) (n0 : Nat) (v : Option Value) (h : Heap) (L : List Loc) : Prop := v = some (.int (1 : Int32)) ∧ Fr n0 L ∧ h = h0
set_option maxRecDepth 65536 in
set_option maxHeartbeats 40000000 in
theorem rm1_0 (l : Launch) (Z : State) (a0 : Array Value) (hw : ∀ d ∈ tables_1, d.before a0 Z = true) (ws : List Jvm.Cond) (r0 : Addr) (kA : ClassId) (h0 : Heap) (n0 : Nat) (Z0 : n0 ≤ h0.size) (V_r0 : Arv Z h0 r0 kA .int (0 : Int32) [] (.int (0 : Int32))) :
    MetFree l (⟨"com/example/whorl/whorl/PrimeField", "isZero", "([I)Z"⟩ : MethodName) (head1 (Jvm.Cond.code (⟨"com/example/whorl/whorl/PrimeField", "isZero", "([I)Z"⟩ : MethodName) prog_33_method_8_code 6 (some .boolean) :: ws) ({ frames := 0, cells := 0, slots := 0, locals := 0 } : Room)) (fun a U => a = #[(.ref r0)] ∧ Z.Warmed39 U.vm ∧ U.heap = h0) (fun _ _ _ _ _ => True) (fun _ U o U' => ∃ v L, o = .returned v ∧ Q1_0 Z r0 kA h0 n0 v U'.heap L ∧ FrameEnd U o U' L ({ frames := 0, cells := 0, slots := 0, locals := 0 } : Room).cells ({ frames := 0, cells := 0, slots := 0, locals := 0 } : Room).slots) := by
  refine MetFree.of_bodySF (plainFor_of_name pn_1) hisR ?_
  intro p e s m args below meth c s₁ Bd hml0 hP hK
  obtain ⟨rfl, hZ, hh⟩ := hP
  have hx := Bd.exec
  have hby := Bd.bytes
  have hml : c.maxLocals = 6 := hml0
  have hown : s.vm.findClass "com/example/whorl/whorl/PrimeField" = some m.cls := findClass_of_methodNamed Bd.named
  have hnm := (name_of_methodNamed Bd.named Bd.method).1
  have X0 : Stand p l e ({ frames := 0, cells := 0, slots := 0, locals := 0 } : Room) s m #[(.ref r0)] below meth c s₁ [] 0 0 := Stand.of_body Bd
  have e0 : s₁.heap = h0 := by rw [← hh, Bd.state]; rfl
  have N0 := Fr.nil n0
  have K0 : ∀ t, Steps p.tables e below (s₁.setTop (mkF m 0 #[.val (.ref r0), .unset, .unset, .unset, .unset, .unset] [])) t → Steps p.tables e below (s₁.setTop (entryFrame m #[(.ref r0)] 6)) t := fun t k => castTop (ef_1_0 m r0) k
  generalize s₁.setTop (entryFrame m #[(.ref r0)] 6) = SE at K0 ⊢
  have K1 : ∀ t, own_S p e below s₁ (mkF m 5 #[.val (.ref r0), .val (.int (0 : Int32)), .val (.ref r0), .unset, .unset, .unset] [(.ref r0)]) t → Steps p.tables e below SE t := by
    intro t k
    refine K0 _ ?_
    refine XS.iconst X0.here hx rfl (hb hby d1_0) ?_
    show own_S p e below s₁ (mkF m 1 #[.val (.ref r0), .unset, .unset, .unset, .unset, .unset] [(.int (0 : Int32))]) _
    refine XS.istoreN X0.here hx rfl (hb hby d1_1) rfl (l' := #[.val (.ref r0), .val (.int (0 : Int32)), .unset, .unset, .unset, .unset]) rfl ?_
    show own_S p e below s₁ (mkF m 2 #[.val (.ref r0), .val (.int (0 : Int32)), .unset, .unset, .unset, .unset] []) _
    refine XS.aloadN X0.here hx rfl (hb hby d1_2) rfl rfl ?_
    show own_S p e below s₁ (mkF m 3 #[.val (.ref r0), .val (.int (0 : Int32)), .unset, .unset, .unset, .unset] [(.ref r0)]) _
    refine XS.astoreN X0.here hx rfl (hb hby d1_3) rfl rfl (l' := #[.val (.ref r0), .val (.int (0 : Int32)), .val (.ref r0), .unset, .unset, .unset]) rfl ?_
    show own_S p e below s₁ (mkF m 4 #[.val (.ref r0), .val (.int (0 : Int32)), .val (.ref r0), .unset, .unset, .unset] []) _
    refine XS.aloadN X0.here hx rfl (hb hby d1_4) rfl rfl ?_
    exact k
  obtain ⟨cl2, Ar2, -, S2, Ng2, -, -⟩ := id V_r0
  have K3 : ∀ t, own_S p e below s₁ (mkF m 42 #[.val (.ref r0), .val (.int (0 : Int32)), .val (.ref r0), .val (.int (0 : Int32)), .val (.int (0 : Int32)), .unset] [(.int (1 : Int32))]) t → Steps p.tables e below SE t := by
    intro t k
    refine K1 _ ?_
    refine X0.arraylength hx (by rw [e0]; exact Ar2.1) (State.isArrayOf_alike hZ.alike Ar2.2.1) (g := (mkF m 5 #[.val (.ref r0), .val (.int (0 : Int32)), .val (.ref r0), .unset, .unset, .unset] [(.ref r0)])) rfl rfl (hb hby d1_5) _ ?_
    rw [len_of S2 Ng2]
    show own_S p e below s₁ (mkF m 6 #[.val (.ref r0), .val (.int (0 : Int32)), .val (.ref r0), .unset, .unset, .unset] [(.int (0 : Int32))]) _
    refine XS.istoreN X0.here hx rfl (hb hby d1_6) rfl (l' := #[.val (.ref r0), .val (.int (0 : Int32)), .val (.ref r0), .val (.int (0 : Int32)), .unset, .unset]) rfl ?_
    show own_S p e below s₁ (mkF m 7 #[.val (.ref r0), .val (.int (0 : Int32)), .val (.ref r0), .val (.int (0 : Int32)), .unset, .unset] []) _
    refine XS.iconst X0.here hx rfl (hb hby d1_7) ?_
    show own_S p e below s₁ (mkF m 8 #[.val (.ref r0), .val (.int (0 : Int32)), .val (.ref r0), .val (.int (0 : Int32)), .unset, .unset] [(.int (0 : Int32))]) _
    refine XS.istore X0.here hx rfl (hb hby d1_8) rfl (l' := #[.val (.ref r0), .val (.int (0 : Int32)), .val (.ref r0), .val (.int (0 : Int32)), .val (.int (0 : Int32)), .unset]) rfl ?_
    show own_S p e below s₁ (mkF m 10 #[.val (.ref r0), .val (.int (0 : Int32)), .val (.ref r0), .val (.int (0 : Int32)), .val (.int (0 : Int32)), .unset] []) _
    refine XS.iload X0.here hx rfl (hb hby d1_10) rfl ?_
    show own_S p e below s₁ (mkF m 12 #[.val (.ref r0), .val (.int (0 : Int32)), .val (.ref r0), .val (.int (0 : Int32)), .val (.int (0 : Int32)), .unset] [(.int (0 : Int32))]) _
    refine XS.iloadN X0.here hx rfl (hb hby d1_12) rfl ?_
    show own_S p e below s₁ (mkF m 13 #[.val (.ref r0), .val (.int (0 : Int32)), .val (.ref r0), .val (.int (0 : Int32)), .val (.int (0 : Int32)), .unset] [(.int (0 : Int32)), (.int (0 : Int32))]) _
    refine XS.icmpYes X0.here hx rfl (pc0 := 13) (pc' := 33) rfl (hb hby d1_13) rfl (XT.ii_ge_t (by decide : ¬ ((0 : Int32) < (0 : Int32)))) (by decide) (by decide) ?_
    show own_S p e below s₁ (mkF m 33 #[.val (.ref r0), .val (.int (0 : Int32)), .val (.ref r0), .val (.int (0 : Int32)), .val (.int (0 : Int32)), .unset] []) _
    refine XS.iloadN X0.here hx rfl (hb hby d1_33) rfl ?_
    show own_S p e below s₁ (mkF m 34 #[.val (.ref r0), .val (.int (0 : Int32)), .val (.ref r0), .val (.int (0 : Int32)), .val (.int (0 : Int32)), .unset] [(.int (0 : Int32))]) _
    refine XS.ifNo X0.here hx rfl (hb hby d1_34) rfl (XT.i0_ne_f (by decide : (0 : Int32) = 0)) ?_
    show own_S p e below s₁ (mkF m 37 #[.val (.ref r0), .val (.int (0 : Int32)), .val (.ref r0), .val (.int (0 : Int32)), .val (.int (0 : Int32)), .unset] []) _
    refine XS.iconst X0.here hx rfl (hb hby d1_37) ?_
    show own_S p e below s₁ (mkF m 38 #[.val (.ref r0), .val (.int (0 : Int32)), .val (.ref r0), .val (.int (0 : Int32)), .val (.int (0 : Int32)), .unset] [(.int (1 : Int32))]) _
    refine XS.goto X0.here hx rfl (pc0 := 38) (pc' := 42) rfl (hb hby d1_38) (by decide) (by decide) ?_
    exact k
  obtain ⟨fs, hr, hrun, hended, hW, hsame⟩ := X0.leave (v := some (.int (1 : Int32))) (fun h => by rw [Bd.returns] at h; cases h)
  refine ⟨_, _, K3 _ ?_, hrun, hended, _, _, rfl, ?_, ⟨_, rfl⟩, hW, hsame.mono (by decide) (by decide)⟩
  · exact retN X0 hx (t := .boolean) Bd.returns (by simp) (hb hby d1_42) hr
  · show Q1_0 Z r0 kA h0 n0 _ s₁.heap _
    rw [e0]
    exact ⟨rfl, N0, rfl⟩
theorem d1_16 : decode prog_33_method_8_code 16 = .ok (.aload_n 2, 1) := by decide +kernel
theorem d1_17 : decode prog_33_method_8_code 17 = .ok (.iload 4, 2) := by decide +kernel
theorem d1_19 : decode prog_33_method_8_code 19 = .ok (.iaload, 1) := by decide +kernel
theorem d1_20 : decode prog_33_method_8_code 20 = .ok (.istore 5, 2) := by decide +kernel
theorem d1_22 : decode prog_33_method_8_code 22 = .ok (.iload_n 1, 1) := by decide +kernel
theorem d1_23 : decode prog_33_method_8_code 23 = .ok (.iload 5, 2) := by decide +kernel
theorem d1_25 : decode prog_33_method_8_code 25 = .ok (.ior, 1) := by decide +kernel
theorem d1_26 : decode prog_33_method_8_code 26 = .ok (.istore_n 1, 1) := by decide +kernel
theorem d1_27 : decode prog_33_method_8_code 27 = .ok (.iinc 4 1, 3) := by decide +kernel
theorem d1_30 : decode prog_33_method_8_code 30 = .ok (.goto (-20), 3) := by decide +kernel
theorem d1_41 : decode prog_33_method_8_code 41 = .ok (.iconst 0, 1) := by decide +kernel
theorem ef_1_1 (m : MethodId) (r0 : Addr) : entryFrame m #[(.ref r0)] 6 = mkF m 0 #[.val (.ref r0), .unset, .unset, .unset, .unset, .unset] [] := by first | (simp [entryFrame, mkF, argsToLocals, Value.category]; done) | rfl
def Q1_1 (Z : State) (r0 : Addr) (kA : ClassId) (x0 : Int32) (h0 : Heap) (n0 : Nat) (v : Option Value) (h : Heap) (L : List Loc) : Prop := v = some (.int (if ((0 : Int32) ||| x0) = 0 then (1 : Int32) else (0 : Int32))) ∧ Fr n0 L ∧ h = h0
set_option maxRecDepth 65536 in
set_option maxHeartbeats 40000000 in
theorem rm1_1 (l : Launch) (Z : State) (a0 : Array Value) (hw : ∀ d ∈ tables_1, d.before a0 Z = true) (ws : List Jvm.Cond) (r0 : Addr) (kA : ClassId) (x0 : Int32) (h0 : Heap) (n0 : Nat) (Z0 : n0 ≤ h0.size) (V_r0 : Arv Z h0 r0 kA .int (1 : Int32) [(.int x0)] (.int (0 : Int32))) :
    MetFree l (⟨"com/example/whorl/whorl/PrimeField", "isZero", "([I)Z"⟩ : MethodName) (head1 (Jvm.Cond.code (⟨"com/example/whorl/whorl/PrimeField", "isZero", "([I)Z"⟩ : MethodName) prog_33_method_8_code 6 (some .boolean) :: ws) ({ frames := 0, cells := 0, slots := 0, locals := 0 } : Room)) (fun a U => a = #[(.ref r0)] ∧ Z.Warmed39 U.vm ∧ U.heap = h0) (fun _ _ _ _ _ => True) (fun _ U o U' => ∃ v L, o = .returned v ∧ Q1_1 Z r0 kA x0 h0 n0 v U'.heap L ∧ FrameEnd U o U' L ({ frames := 0, cells := 0, slots := 0, locals := 0 } : Room).cells ({ frames := 0, cells := 0, slots := 0, locals := 0 } : Room).slots) := by
  refine MetFree.of_bodySF (plainFor_of_name pn_1) hisR ?_
  intro p e s m args below meth c s₁ Bd hml0 hP hK
  obtain ⟨rfl, hZ, hh⟩ := hP
  have hx := Bd.exec
  have hby := Bd.bytes
  have hml : c.maxLocals = 6 := hml0
  have hown : s.vm.findClass "com/example/whorl/whorl/PrimeField" = some m.cls := findClass_of_methodNamed Bd.named
  have hnm := (name_of_methodNamed Bd.named Bd.method).1
  have X0 : Stand p l e ({ frames := 0, cells := 0, slots := 0, locals := 0 } : Room) s m #[(.ref r0)] below meth c s₁ [] 0 0 := Stand.of_body Bd
  have e0 : s₁.heap = h0 := by rw [← hh, Bd.state]; rfl
  have N0 := Fr.nil n0
  have K0 : ∀ t, Steps p.tables e below (s₁.setTop (mkF m 0 #[.val (.ref r0), .unset, .unset, .unset, .unset, .unset] [])) t → Steps p.tables e below (s₁.setTop (entryFrame m #[(.ref r0)] 6)) t := fun t k => castTop (ef_1_1 m r0) k
  generalize s₁.setTop (entryFrame m #[(.ref r0)] 6) = SE at K0 ⊢
  have K1 : ∀ t, own_S p e below s₁ (mkF m 5 #[.val (.ref r0), .val (.int (0 : Int32)), .val (.ref r0), .unset, .unset, .unset] [(.ref r0)]) t → Steps p.tables e below SE t := by
    intro t k
    refine K0 _ ?_
    refine XS.iconst X0.here hx rfl (hb hby d1_0) ?_
    show own_S p e below s₁ (mkF m 1 #[.val (.ref r0), .unset, .unset, .unset, .unset, .unset] [(.int (0 : Int32))]) _
    refine XS.istoreN X0.here hx rfl (hb hby d1_1) rfl (l' := #[.val (.ref r0), .val (.int (0 : Int32)), .unset, .unset, .unset, .unset]) rfl ?_
    show own_S p e below s₁ (mkF m 2 #[.val (.ref r0), .val (.int (0 : Int32)), .unset, .unset, .unset, .unset] []) _
    refine XS.aloadN X0.here hx rfl (hb hby d1_2) rfl rfl ?_
    show own_S p e below s₁ (mkF m 3 #[.val (.ref r0), .val (.int (0 : Int32)), .unset, .unset, .unset, .unset] [(.ref r0)]) _
    refine XS.astoreN X0.here hx rfl (hb hby d1_3) rfl rfl (l' := #[.val (.ref r0), .val (.int (0 : Int32)), .val (.ref r0), .unset, .unset, .unset]) rfl ?_
    show own_S p e below s₁ (mkF m 4 #[.val (.ref r0), .val (.int (0 : Int32)), .val (.ref r0), .unset, .unset, .unset] []) _
    refine XS.aloadN X0.here hx rfl (hb hby d1_4) rfl rfl ?_
    exact k
  obtain ⟨cl2, Ar2, -, S2, Ng2, -, -⟩ := id V_r0
  have K3 : ∀ t, own_S p e below s₁ (mkF m 19 #[.val (.ref r0), .val (.int (0 : Int32)), .val (.ref r0), .val (.int (1 : Int32)), .val (.int (0 : Int32)), .unset] [(.int (0 : Int32)), (.ref r0)]) t → Steps p.tables e below SE t := by
    intro t k
    refine K1 _ ?_
    refine X0.arraylength hx (by rw [e0]; exact Ar2.1) (State.isArrayOf_alike hZ.alike Ar2.2.1) (g := (mkF m 5 #[.val (.ref r0), .val (.int (0 : Int32)), .val (.ref r0), .unset, .unset, .unset] [(.ref r0)])) rfl rfl (hb hby d1_5) _ ?_
    rw [len_of S2 Ng2]
    show own_S p e below s₁ (mkF m 6 #[.val (.ref r0), .val (.int (0 : Int32)), .val (.ref r0), .unset, .unset, .unset] [(.int (1 : Int32))]) _
    refine XS.istoreN X0.here hx rfl (hb hby d1_6) rfl (l' := #[.val (.ref r0), .val (.int (0 : Int32)), .val (.ref r0), .val (.int (1 : Int32)), .unset, .unset]) rfl ?_
    show own_S p e below s₁ (mkF m 7 #[.val (.ref r0), .val (.int (0 : Int32)), .val (.ref r0), .val (.int (1 : Int32)), .unset, .unset] []) _
    refine XS.iconst X0.here hx rfl (hb hby d1_7) ?_
    show own_S p e below s₁ (mkF m 8 #[.val (.ref r0), .val (.int (0 : Int32)), .val (.ref r0), .val (.int (1 : Int32)), .unset, .unset] [(.int (0 : Int32))]) _
    refine XS.istore X0.here hx rfl (hb hby d1_8) rfl (l' := #[.val (.ref r0), .val (.int (0 : Int32)), .val (.ref r0), .val (.int (1 : Int32)), .val (.int (0 : Int32)), .unset]) rfl ?_
    show own_S p e below s₁ (mkF m 10 #[.val (.ref r0), .val (.int (0 : Int32)), .val (.ref r0), .val (.int (1 : Int32)), .val (.int (0 : Int32)), .unset] []) _
    refine XS.iload X0.here hx rfl (hb hby d1_10) rfl ?_
    show own_S p e below s₁ (mkF m 12 #[.val (.ref r0), .val (.int (0 : Int32)), .val (.ref r0), .val (.int (1 : Int32)), .val (.int (0 : Int32)), .unset] [(.int (0 : Int32))]) _
    refine XS.iloadN X0.here hx rfl (hb hby d1_12) rfl ?_
    show own_S p e below s₁ (mkF m 13 #[.val (.ref r0), .val (.int (0 : Int32)), .val (.ref r0), .val (.int (1 : Int32)), .val (.int (0 : Int32)), .unset] [(.int (1 : Int32)), (.int (0 : Int32))]) _
    refine XS.icmpNo X0.here hx rfl (hb hby d1_13) rfl (XT.ii_ge_f (by decide : (0 : Int32) < (1 : Int32))) ?_
    show own_S p e below s₁ (mkF m 16 #[.val (.ref r0), .val (.int (0 : Int32)), .val (.ref r0), .val (.int (1 : Int32)), .val (.int (0 : Int32)), .unset] []) _
    refine XS.aloadN X0.here hx rfl (hb hby d1_16) rfl rfl ?_
    show own_S p e below s₁ (mkF m 17 #[.val (.ref r0), .val (.int (0 : Int32)), .val (.ref r0), .val (.int (1 : Int32)), .val (.int (0 : Int32)), .unset] [(.ref r0)]) _
    refine XS.iload X0.here hx rfl (hb hby d1_17) rfl ?_
    exact k
  obtain ⟨cl4, Ar4, qk4, S4, Ng4, Hh4, Gg4⟩ := id V_r0
  have hin4 : ¬ ((0 : Int32) < 0 ∨ cl4.slots.size ≤ ((0 : Int32)).toNatClampNeg) := inb_of S4 ⟨by decide, by decide⟩
  have hat4 : cl4.slots[((0 : Int32)).toNatClampNeg]? = some (.int x0) := Has.at Hh4 hin4 rfl
  have K6 : ∀ t, own_S p e below s₁ (mkF m 34 #[.val (.ref r0), .val (.int ((0 : Int32) ||| x0)), .val (.ref r0), .val (.int (1 : Int32)), .val (.int (1 : Int32)), .val (.int x0)] [(.int ((0 : Int32) ||| x0))]) t → Steps p.tables e below SE t := by
    intro t k
    refine K3 _ ?_
    refine X0.iaload hx (j := (0 : Int32)) (v := (.int x0)) (by rw [e0]; exact Ar4.1) (State.isArrayOf_alike hZ.alike Ar4.2.1) Ar4.2.2 hin4 hat4 (g := (mkF m 19 #[.val (.ref r0), .val (.int (0 : Int32)), .val (.ref r0), .val (.int (1 : Int32)), .val (.int (0 : Int32)), .unset] [(.int (0 : Int32)), (.ref r0)])) rfl rfl (hb hby d1_19) _ ?_
    show own_S p e below s₁ (mkF m 20 #[.val (.ref r0), .val (.int (0 : Int32)), .val (.ref r0), .val (.int (1 : Int32)), .val (.int (0 : Int32)), .unset] [(.int x0)]) _
    refine XS.istore X0.here hx rfl (hb hby d1_20) rfl (l' := #[.val (.ref r0), .val (.int (0 : Int32)), .val (.ref r0), .val (.int (1 : Int32)), .val (.int (0 : Int32)), .val (.int x0)]) rfl ?_
    show own_S p e below s₁ (mkF m 22 #[.val (.ref r0), .val (.int (0 : Int32)), .val (.ref r0), .val (.int (1 : Int32)), .val (.int (0 : Int32)), .val (.int x0)] []) _
    refine XS.iloadN X0.here hx rfl (hb hby d1_22) rfl ?_
    show own_S p e below s₁ (mkF m 23 #[.val (.ref r0), .val (.int (0 : Int32)), .val (.ref r0), .val (.int (1 : Int32)), .val (.int (0 : Int32)), .val (.int x0)] [(.int (0 : Int32))]) _
    refine XS.iload X0.here hx rfl (hb hby d1_23) rfl ?_
    show own_S p e below s₁ (mkF m 25 #[.val (.ref r0), .val (.int (0 : Int32)), .val (.ref r0), .val (.int (1 : Int32)), .val (.int (0 : Int32)), .val (.int x0)] [(.int x0), (.int (0 : Int32))]) _
    refine XS.ior X0.here hx rfl (hb hby d1_25) rfl ?_
    show own_S p e below s₁ (mkF m 26 #[.val (.ref r0), .val (.int (0 : Int32)), .val (.ref r0), .val (.int (1 : Int32)), .val (.int (0 : Int32)), .val (.int x0)] [(.int ((0 : Int32) ||| x0))]) _
    refine XS.istoreN X0.here hx rfl (hb hby d1_26) rfl (l' := #[.val (.ref r0), .val (.int ((0 : Int32) ||| x0)), .val (.ref r0), .val (.int (1 : Int32)), .val (.int (0 : Int32)), .val (.int x0)]) rfl ?_
    show own_S p e below s₁ (mkF m 27 #[.val (.ref r0), .val (.int ((0 : Int32) ||| x0)), .val (.ref r0), .val (.int (1 : Int32)), .val (.int (0 : Int32)), .val (.int x0)] []) _
    refine XS.iinc X0.here hx rfl (hb hby d1_27) rfl (l' := #[.val (.ref r0), .val (.int ((0 : Int32) ||| x0)), .val (.ref r0), .val (.int (1 : Int32)), .val (.int (1 : Int32)), .val (.int x0)]) rfl ?_
    show own_S p e below s₁ (mkF m 30 #[.val (.ref r0), .val (.int ((0 : Int32) ||| x0)), .val (.ref r0), .val (.int (1 : Int32)), .val (.int (1 : Int32)), .val (.int x0)] []) _
    refine XS.goto X0.here hx rfl (pc0 := 30) (pc' := 10) rfl (hb hby d1_30) (by decide) (by decide) ?_
    show own_S p e below s₁ (mkF m 10 #[.val (.ref r0), .val (.int ((0 : Int32) ||| x0)), .val (.ref r0), .val (.int (1 : Int32)), .val (.int (1 : Int32)), .val (.int x0)] []) _
    refine XS.iload X0.here hx rfl (hb hby d1_10) rfl ?_
    show own_S p e below s₁ (mkF m 12 #[.val (.ref r0), .val (.int ((0 : Int32) ||| x0)), .val (.ref r0), .val (.int (1 : Int32)), .val (.int (1 : Int32)), .val (.int x0)] [(.int (1 : Int32))]) _
    refine XS.iloadN X0.here hx rfl (hb hby d1_12) rfl ?_
    show own_S p e below s₁ (mkF m 13 #[.val (.ref r0), .val (.int ((0 : Int32) ||| x0)), .val (.ref r0), .val (.int (1 : Int32)), .val (.int (1 : Int32)), .val (.int x0)] [(.int (1 : Int32)), (.int (1 : Int32))]) _
    refine XS.icmpYes X0.here hx rfl (pc0 := 13) (pc' := 33) rfl (hb hby d1_13) rfl (XT.ii_ge_t (by decide : ¬ ((1 : Int32) < (1 : Int32)))) (by decide) (by decide) ?_
    show own_S p e below s₁ (mkF m 33 #[.val (.ref r0), .val (.int ((0 : Int32) ||| x0)), .val (.ref r0), .val (.int (1 : Int32)), .val (.int (1 : Int32)), .val (.int x0)] []) _
    refine XS.iloadN X0.here hx rfl (hb hby d1_33) rfl ?_
    exact k
  by_cases c34_5 : ((0 : Int32) ||| x0) = 0
  · skip
    have K7 : ∀ t, own_S p e below s₁ (mkF m 42 #[.val (.ref r0), .val (.int ((0 : Int32) ||| x0)), .val (.ref r0), .val (.int (1 : Int32)), .val (.int (1 : Int32)), .val (.int x0)] [(.int (1 : Int32))]) t → Steps p.tables e below SE t := by
      intro t k
      refine K6 _ ?_
      refine XS.ifNo X0.here hx rfl (hb hby d1_34) rfl (XT.i0_ne_f c34_5) ?_
      show own_S p e below s₁ (mkF m 37 #[.val (.ref r0), .val (.int ((0 : Int32) ||| x0)), .val (.ref r0), .val (.int (1 : Int32)), .val (.int (1 : Int32)), .val (.int x0)] []) _
      refine XS.iconst X0.here hx rfl (hb hby d1_37) ?_
      show own_S p e below s₁ (mkF m 38 #[.val (.ref r0), .val (.int ((0 : Int32) ||| x0)), .val (.ref r0), .val (.int (1 : Int32)), .val (.int (1 : Int32)), .val (.int x0)] [(.int (1 : Int32))]) _
      refine XS.goto X0.here hx rfl (pc0 := 38) (pc' := 42) rfl (hb hby d1_38) (by decide) (by decide) ?_
      exact k
    obtain ⟨fs, hr, hrun, hended, hW, hsame⟩ := X0.leave (v := some (.int (1 : Int32))) (fun h => by rw [Bd.returns] at h; cases h)
    refine ⟨_, _, K7 _ ?_, hrun, hended, _, _, rfl, ?_, ⟨_, rfl⟩, hW, hsame.mono (by decide) (by decide)⟩
    · exact retN X0 hx (t := .boolean) Bd.returns (by simp) (hb hby d1_42) hr
    · show Q1_1 Z r0 kA x0 h0 n0 _ s₁.heap _
      rw [e0]
      exact ⟨(by simp only [if_pos c34_5]), N0, rfl⟩
  · skip
    have K8 : ∀ t, own_S p e below s₁ (mkF m 42 #[.val (.ref r0), .val (.int ((0 : Int32) ||| x0)), .val (.ref r0), .val (.int (1 : Int32)), .val (.int (1 : Int32)), .val (.int x0)] [(.int (0 : Int32))]) t → Steps p.tables e below SE t := by
      intro t k
      refine K6 _ ?_
      refine XS.ifYes X0.here hx rfl (pc0 := 34) (pc' := 41) rfl (hb hby d1_34) rfl (XT.i0_ne_t c34_5) (by decide) (by decide) ?_
      show own_S p e below s₁ (mkF m 41 #[.val (.ref r0), .val (.int ((0 : Int32) ||| x0)), .val (.ref r0), .val (.int (1 : Int32)), .val (.int (1 : Int32)), .val (.int x0)] []) _
      refine XS.iconst X0.here hx rfl (hb hby d1_41) ?_
      exact k
    obtain ⟨fs, hr, hrun, hended, hW, hsame⟩ := X0.leave (v := some (.int (0 : Int32))) (fun h => by rw [Bd.returns] at h; cases h)
    refine ⟨_, _, K8 _ ?_, hrun, hended, _, _, rfl, ?_, ⟨_, rfl⟩, hW, hsame.mono (by decide) (by decide)⟩
    · exact retN X0 hx (t := .boolean) Bd.returns (by simp) (hb hby d1_42) hr
    · show Q1_1 Z r0 kA x0 h0 n0 _ s₁.heap _
      rw [e0]
      exact ⟨(by simp only [if_neg c34_5]), N0, rfl⟩
theorem own_eq1 (x0 : Int32) : (if ((0 : Int32) ||| x0) = 0 then (1 : Int32) else (0 : Int32)) = (if x0 = 0 then (1 : Int32) else (0 : Int32)) := by
  have z : (0 : Int32) = 0 ↔ True := by simp
  simp only [own_or, z, true_and]
  all_goals (by_cases q0 : x0 = 0 <;> simp [*])
theorem ef_1_2 (m : MethodId) (r0 : Addr) : entryFrame m #[(.ref r0)] 6 = mkF m 0 #[.val (.ref r0), .unset, .unset, .unset, .unset, .unset] [] := by first | (simp [entryFrame, mkF, argsToLocals, Value.category]; done) | rfl
def Q1_2 (Z : State) (r0 : Addr) (kA : ClassId) (x0 : Int32) (x1 : Int32) (h0 : Heap) (n0 : Nat) (v : Option Value) (h : Heap) (L : List Loc) : Prop := v = some (.int (if (((0 : Int32) ||| x0) ||| x1) = 0 then (1 : Int32) else (0 : Int32))) ∧ Fr n0 L ∧ h = h0
set_option maxRecDepth 65536 in
set_option maxHeartbeats 40000000 in
theorem rm1_2 (l : Launch) (Z : State) (a0 : Array Value) (hw : ∀ d ∈ tables_1, d.before a0 Z = true) (ws : List Jvm.Cond) (r0 : Addr) (kA : ClassId) (x0 : Int32) (x1 : Int32) (h0 : Heap) (n0 : Nat) (Z0 : n0 ≤ h0.size) (V_r0 : Arv Z h0 r0 kA .int (2 : Int32) [(.int x0), (.int x1)] (.int (0 : Int32))) :
    MetFree l (⟨"com/example/whorl/whorl/PrimeField", "isZero", "([I)Z"⟩ : MethodName) (head1 (Jvm.Cond.code (⟨"com/example/whorl/whorl/PrimeField", "isZero", "([I)Z"⟩ : MethodName) prog_33_method_8_code 6 (some .boolean) :: ws) ({ frames := 0, cells := 0, slots := 0, locals := 0 } : Room)) (fun a U => a = #[(.ref r0)] ∧ Z.Warmed39 U.vm ∧ U.heap = h0) (fun _ _ _ _ _ => True) (fun _ U o U' => ∃ v L, o = .returned v ∧ Q1_2 Z r0 kA x0 x1 h0 n0 v U'.heap L ∧ FrameEnd U o U' L ({ frames := 0, cells := 0, slots := 0, locals := 0 } : Room).cells ({ frames := 0, cells := 0, slots := 0, locals := 0 } : Room).slots) := by
  refine MetFree.of_bodySF (plainFor_of_name pn_1) hisR ?_
  intro p e s m args below meth c s₁ Bd hml0 hP hK
  obtain ⟨rfl, hZ, hh⟩ := hP
  have hx := Bd.exec
  have hby := Bd.bytes
  have hml : c.maxLocals = 6 := hml0
  have hown : s.vm.findClass "com/example/whorl/whorl/PrimeField" = some m.cls := findClass_of_methodNamed Bd.named
  have hnm := (name_of_methodNamed Bd.named Bd.method).1
  have X0 : Stand p l e ({ frames := 0, cells := 0, slots := 0, locals := 0 } : Room) s m #[(.ref r0)] below meth c s₁ [] 0 0 := Stand.of_body Bd
  have e0 : s₁.heap = h0 := by rw [← hh, Bd.state]; rfl
  have N0 := Fr.nil n0
  have K0 : ∀ t, Steps p.tables e below (s₁.setTop (mkF m 0 #[.val (.ref r0), .unset, .unset, .unset, .unset, .unset] [])) t → Steps p.tables e below (s₁.setTop (entryFrame m #[(.ref r0)] 6)) t := fun t k => castTop (ef_1_2 m r0) k
  generalize s₁.setTop (entryFrame m #[(.ref r0)] 6) = SE at K0 ⊢
  have K1 : ∀ t, own_S p e below s₁ (mkF m 5 #[.val (.ref r0), .val (.int (0 : Int32)), .val (.ref r0), .unset, .unset, .unset] [(.ref r0)]) t → Steps p.tables e below SE t := by
    intro t k
    refine K0 _ ?_
    refine XS.iconst X0.here hx rfl (hb hby d1_0) ?_
    show own_S p e below s₁ (mkF m 1 #[.val (.ref r0), .unset, .unset, .unset, .unset, .unset] [(.int (0 : Int32))]) _
    refine XS.istoreN X0.here hx rfl (hb hby d1_1) rfl (l' := #[.val (.ref r0), .val (.int (0 : Int32)), .unset, .unset, .unset, .unset]) rfl ?_
    show own_S p e below s₁ (mkF m 2 #[.val (.ref r0), .val (.int (0 : Int32)), .unset, .unset, .unset, .unset] []) _
    refine XS.aloadN X0.here hx rfl (hb hby d1_2) rfl rfl ?_
    show own_S p e below s₁ (mkF m 3 #[.val (.ref r0), .val (.int (0 : Int32)), .unset, .unset, .unset, .unset] [(.ref r0)]) _
    refine XS.astoreN X0.here hx rfl (hb hby d1_3) rfl rfl (l' := #[.val (.ref r0), .val (.int (0 : Int32)), .val (.ref r0), .unset, .unset, .unset]) rfl ?_
    show own_S p e below s₁ (mkF m 4 #[.val (.ref r0), .val (.int (0 : Int32)), .val (.ref r0), .unset, .unset, .unset] []) _
    refine XS.aloadN X0.here hx rfl (hb hby d1_4) rfl rfl ?_
    exact k
  obtain ⟨cl2, Ar2, -, S2, Ng2, -, -⟩ := id V_r0
  have K3 : ∀ t, own_S p e below s₁ (mkF m 19 #[.val (.ref r0), .val (.int (0 : Int32)), .val (.ref r0), .val (.int (2 : Int32)), .val (.int (0 : Int32)), .unset] [(.int (0 : Int32)), (.ref r0)]) t → Steps p.tables e below SE t := by
    intro t k
    refine K1 _ ?_
    refine X0.arraylength hx (by rw [e0]; exact Ar2.1) (State.isArrayOf_alike hZ.alike Ar2.2.1) (g := (mkF m 5 #[.val (.ref r0), .val (.int (0 : Int32)), .val (.ref r0), .unset, .unset, .unset] [(.ref r0)])) rfl rfl (hb hby d1_5) _ ?_
    rw [len_of S2 Ng2]
    show own_S p e below s₁ (mkF m 6 #[.val (.ref r0), .val (.int (0 : Int32)), .val (.ref r0), .unset, .unset, .unset] [(.int (2 : Int32))]) _
    refine XS.istoreN X0.here hx rfl (hb hby d1_6) rfl (l' := #[.val (.ref r0), .val (.int (0 : Int32)), .val (.ref r0), .val (.int (2 : Int32)), .unset, .unset]) rfl ?_
    show own_S p e below s₁ (mkF m 7 #[.val (.ref r0), .val (.int (0 : Int32)), .val (.ref r0), .val (.int (2 : Int32)), .unset, .unset] []) _
    refine XS.iconst X0.here hx rfl (hb hby d1_7) ?_
    show own_S p e below s₁ (mkF m 8 #[.val (.ref r0), .val (.int (0 : Int32)), .val (.ref r0), .val (.int (2 : Int32)), .unset, .unset] [(.int (0 : Int32))]) _
    refine XS.istore X0.here hx rfl (hb hby d1_8) rfl (l' := #[.val (.ref r0), .val (.int (0 : Int32)), .val (.ref r0), .val (.int (2 : Int32)), .val (.int (0 : Int32)), .unset]) rfl ?_
    show own_S p e below s₁ (mkF m 10 #[.val (.ref r0), .val (.int (0 : Int32)), .val (.ref r0), .val (.int (2 : Int32)), .val (.int (0 : Int32)), .unset] []) _
    refine XS.iload X0.here hx rfl (hb hby d1_10) rfl ?_
    show own_S p e below s₁ (mkF m 12 #[.val (.ref r0), .val (.int (0 : Int32)), .val (.ref r0), .val (.int (2 : Int32)), .val (.int (0 : Int32)), .unset] [(.int (0 : Int32))]) _
    refine XS.iloadN X0.here hx rfl (hb hby d1_12) rfl ?_
    show own_S p e below s₁ (mkF m 13 #[.val (.ref r0), .val (.int (0 : Int32)), .val (.ref r0), .val (.int (2 : Int32)), .val (.int (0 : Int32)), .unset] [(.int (2 : Int32)), (.int (0 : Int32))]) _
    refine XS.icmpNo X0.here hx rfl (hb hby d1_13) rfl (XT.ii_ge_f (by decide : (0 : Int32) < (2 : Int32))) ?_
    show own_S p e below s₁ (mkF m 16 #[.val (.ref r0), .val (.int (0 : Int32)), .val (.ref r0), .val (.int (2 : Int32)), .val (.int (0 : Int32)), .unset] []) _
    refine XS.aloadN X0.here hx rfl (hb hby d1_16) rfl rfl ?_
    show own_S p e below s₁ (mkF m 17 #[.val (.ref r0), .val (.int (0 : Int32)), .val (.ref r0), .val (.int (2 : Int32)), .val (.int (0 : Int32)), .unset] [(.ref r0)]) _
    refine XS.iload X0.here hx rfl (hb hby d1_17) rfl ?_
    exact k
  obtain ⟨cl4, Ar4, qk4, S4, Ng4, Hh4, Gg4⟩ := id V_r0
  have hin4 : ¬ ((0 : Int32) < 0 ∨ cl4.slots.size ≤ ((0 : Int32)).toNatClampNeg) := inb_of S4 ⟨by decide, by decide⟩
  have hat4 : cl4.slots[((0 : Int32)).toNatClampNeg]? = some (.int x0) := Has.at Hh4 hin4 rfl
  have K5 : ∀ t, own_S p e below s₁ (mkF m 19 #[.val (.ref r0), .val (.int ((0 : Int32) ||| x0)), .val (.ref r0), .val (.int (2 : Int32)), .val (.int (1 : Int32)), .val (.int x0)] [(.int (1 : Int32)), (.ref r0)]) t → Steps p.tables e below SE t := by
    intro t k
    refine K3 _ ?_
    refine X0.iaload hx (j := (0 : Int32)) (v := (.int x0)) (by rw [e0]; exact Ar4.1) (State.isArrayOf_alike hZ.alike Ar4.2.1) Ar4.2.2 hin4 hat4 (g := (mkF m 19 #[.val (.ref r0), .val (.int (0 : Int32)), .val (.ref r0), .val (.int (2 : Int32)), .val (.int (0 : Int32)), .unset] [(.int (0 : Int32)), (.ref r0)])) rfl rfl (hb hby d1_19) _ ?_
    show own_S p e below s₁ (mkF m 20 #[.val (.ref r0), .val (.int (0 : Int32)), .val (.ref r0), .val (.int (2 : Int32)), .val (.int (0 : Int32)), .unset] [(.int x0)]) _
    refine XS.istore X0.here hx rfl (hb hby d1_20) rfl (l' := #[.val (.ref r0), .val (.int (0 : Int32)), .val (.ref r0), .val (.int (2 : Int32)), .val (.int (0 : Int32)), .val (.int x0)]) rfl ?_
    show own_S p e below s₁ (mkF m 22 #[.val (.ref r0), .val (.int (0 : Int32)), .val (.ref r0), .val (.int (2 : Int32)), .val (.int (0 : Int32)), .val (.int x0)] []) _
    refine XS.iloadN X0.here hx rfl (hb hby d1_22) rfl ?_
    show own_S p e below s₁ (mkF m 23 #[.val (.ref r0), .val (.int (0 : Int32)), .val (.ref r0), .val (.int (2 : Int32)), .val (.int (0 : Int32)), .val (.int x0)] [(.int (0 : Int32))]) _
    refine XS.iload X0.here hx rfl (hb hby d1_23) rfl ?_
    show own_S p e below s₁ (mkF m 25 #[.val (.ref r0), .val (.int (0 : Int32)), .val (.ref r0), .val (.int (2 : Int32)), .val (.int (0 : Int32)), .val (.int x0)] [(.int x0), (.int (0 : Int32))]) _
    refine XS.ior X0.here hx rfl (hb hby d1_25) rfl ?_
    show own_S p e below s₁ (mkF m 26 #[.val (.ref r0), .val (.int (0 : Int32)), .val (.ref r0), .val (.int (2 : Int32)), .val (.int (0 : Int32)), .val (.int x0)] [(.int ((0 : Int32) ||| x0))]) _
    refine XS.istoreN X0.here hx rfl (hb hby d1_26) rfl (l' := #[.val (.ref r0), .val (.int ((0 : Int32) ||| x0)), .val (.ref r0), .val (.int (2 : Int32)), .val (.int (0 : Int32)), .val (.int x0)]) rfl ?_
    show own_S p e below s₁ (mkF m 27 #[.val (.ref r0), .val (.int ((0 : Int32) ||| x0)), .val (.ref r0), .val (.int (2 : Int32)), .val (.int (0 : Int32)), .val (.int x0)] []) _
    refine XS.iinc X0.here hx rfl (hb hby d1_27) rfl (l' := #[.val (.ref r0), .val (.int ((0 : Int32) ||| x0)), .val (.ref r0), .val (.int (2 : Int32)), .val (.int (1 : Int32)), .val (.int x0)]) rfl ?_
    show own_S p e below s₁ (mkF m 30 #[.val (.ref r0), .val (.int ((0 : Int32) ||| x0)), .val (.ref r0), .val (.int (2 : Int32)), .val (.int (1 : Int32)), .val (.int x0)] []) _
    refine XS.goto X0.here hx rfl (pc0 := 30) (pc' := 10) rfl (hb hby d1_30) (by decide) (by decide) ?_
    show own_S p e below s₁ (mkF m 10 #[.val (.ref r0), .val (.int ((0 : Int32) ||| x0)), .val (.ref r0), .val (.int (2 : Int32)), .val (.int (1 : Int32)), .val (.int x0)] []) _
    refine XS.iload X0.here hx rfl (hb hby d1_10) rfl ?_
    show own_S p e below s₁ (mkF m 12 #[.val (.ref r0), .val (.int ((0 : Int32) ||| x0)), .val (.ref r0), .val (.int (2 : Int32)), .val (.int (1 : Int32)), .val (.int x0)] [(.int (1 : Int32))]) _
    refine XS.iloadN X0.here hx rfl (hb hby d1_12) rfl ?_
    show own_S p e below s₁ (mkF m 13 #[.val (.ref r0), .val (.int ((0 : Int32) ||| x0)), .val (.ref r0), .val (.int (2 : Int32)), .val (.int (1 : Int32)), .val (.int x0)] [(.int (2 : Int32)), (.int (1 : Int32))]) _
    refine XS.icmpNo X0.here hx rfl (hb hby d1_13) rfl (XT.ii_ge_f (by decide : (1 : Int32) < (2 : Int32))) ?_
    show own_S p e below s₁ (mkF m 16 #[.val (.ref r0), .val (.int ((0 : Int32) ||| x0)), .val (.ref r0), .val (.int (2 : Int32)), .val (.int (1 : Int32)), .val (.int x0)] []) _
    refine XS.aloadN X0.here hx rfl (hb hby d1_16) rfl rfl ?_
    show own_S p e below s₁ (mkF m 17 #[.val (.ref r0), .val (.int ((0 : Int32) ||| x0)), .val (.ref r0), .val (.int (2 : Int32)), .val (.int (1 : Int32)), .val (.int x0)] [(.ref r0)]) _
    refine XS.iload X0.here hx rfl (hb hby d1_17) rfl ?_
    exact k
  obtain ⟨cl6, Ar6, qk6, S6, Ng6, Hh6, Gg6⟩ := id V_r0
  have hin6 : ¬ ((1 : Int32) < 0 ∨ cl6.slots.size ≤ ((1 : Int32)).toNatClampNeg) := inb_of S6 ⟨by decide, by decide⟩
  have hat6 : cl6.slots[((1 : Int32)).toNatClampNeg]? = some (.int x1) := Has.at Hh6 hin6 rfl
  have K8 : ∀ t, own_S p e below s₁ (mkF m 34 #[.val (.ref r0), .val (.int (((0 : Int32) ||| x0) ||| x1)), .val (.ref r0), .val (.int (2 : Int32)), .val (.int (2 : Int32)), .val (.int x1)] [(.int (((0 : Int32) ||| x0) ||| x1))]) t → Steps p.tables e below SE t := by
    intro t k
    refine K5 _ ?_
    refine X0.iaload hx (j := (1 : Int32)) (v := (.int x1)) (by rw [e0]; exact Ar6.1) (State.isArrayOf_alike hZ.alike Ar6.2.1) Ar6.2.2 hin6 hat6 (g := (mkF m 19 #[.val (.ref r0), .val (.int ((0 : Int32) ||| x0)), .val (.ref r0), .val (.int (2 : Int32)), .val (.int (1 : Int32)), .val (.int x0)] [(.int (1 : Int32)), (.ref r0)])) rfl rfl (hb hby d1_19) _ ?_
    show own_S p e below s₁ (mkF m 20 #[.val (.ref r0), .val (.int ((0 : Int32) ||| x0)), .val (.ref r0), .val (.int (2 : Int32)), .val (.int (1 : Int32)), .val (.int x0)] [(.int x1)]) _
    refine XS.istore X0.here hx rfl (hb hby d1_20) rfl (l' := #[.val (.ref r0), .val (.int ((0 : Int32) ||| x0)), .val (.ref r0), .val (.int (2 : Int32)), .val (.int (1 : Int32)), .val (.int x1)]) rfl ?_
    show own_S p e below s₁ (mkF m 22 #[.val (.ref r0), .val (.int ((0 : Int32) ||| x0)), .val (.ref r0), .val (.int (2 : Int32)), .val (.int (1 : Int32)), .val (.int x1)] []) _
    refine XS.iloadN X0.here hx rfl (hb hby d1_22) rfl ?_
    show own_S p e below s₁ (mkF m 23 #[.val (.ref r0), .val (.int ((0 : Int32) ||| x0)), .val (.ref r0), .val (.int (2 : Int32)), .val (.int (1 : Int32)), .val (.int x1)] [(.int ((0 : Int32) ||| x0))]) _
    refine XS.iload X0.here hx rfl (hb hby d1_23) rfl ?_
    show own_S p e below s₁ (mkF m 25 #[.val (.ref r0), .val (.int ((0 : Int32) ||| x0)), .val (.ref r0), .val (.int (2 : Int32)), .val (.int (1 : Int32)), .val (.int x1)] [(.int x1), (.int ((0 : Int32) ||| x0))]) _
    refine XS.ior X0.here hx rfl (hb hby d1_25) rfl ?_
    show own_S p e below s₁ (mkF m 26 #[.val (.ref r0), .val (.int ((0 : Int32) ||| x0)), .val (.ref r0), .val (.int (2 : Int32)), .val (.int (1 : Int32)), .val (.int x1)] [(.int (((0 : Int32) ||| x0) ||| x1))]) _
    refine XS.istoreN X0.here hx rfl (hb hby d1_26) rfl (l' := #[.val (.ref r0), .val (.int (((0 : Int32) ||| x0) ||| x1)), .val (.ref r0), .val (.int (2 : Int32)), .val (.int (1 : Int32)), .val (.int x1)]) rfl ?_
    show own_S p e below s₁ (mkF m 27 #[.val (.ref r0), .val (.int (((0 : Int32) ||| x0) ||| x1)), .val (.ref r0), .val (.int (2 : Int32)), .val (.int (1 : Int32)), .val (.int x1)] []) _
    refine XS.iinc X0.here hx rfl (hb hby d1_27) rfl (l' := #[.val (.ref r0), .val (.int (((0 : Int32) ||| x0) ||| x1)), .val (.ref r0), .val (.int (2 : Int32)), .val (.int (2 : Int32)), .val (.int x1)]) rfl ?_
    show own_S p e below s₁ (mkF m 30 #[.val (.ref r0), .val (.int (((0 : Int32) ||| x0) ||| x1)), .val (.ref r0), .val (.int (2 : Int32)), .val (.int (2 : Int32)), .val (.int x1)] []) _
    refine XS.goto X0.here hx rfl (pc0 := 30) (pc' := 10) rfl (hb hby d1_30) (by decide) (by decide) ?_
    show own_S p e below s₁ (mkF m 10 #[.val (.ref r0), .val (.int (((0 : Int32) ||| x0) ||| x1)), .val (.ref r0), .val (.int (2 : Int32)), .val (.int (2 : Int32)), .val (.int x1)] []) _
    refine XS.iload X0.here hx rfl (hb hby d1_10) rfl ?_
    show own_S p e below s₁ (mkF m 12 #[.val (.ref r0), .val (.int (((0 : Int32) ||| x0) ||| x1)), .val (.ref r0), .val (.int (2 : Int32)), .val (.int (2 : Int32)), .val (.int x1)] [(.int (2 : Int32))]) _
    refine XS.iloadN X0.here hx rfl (hb hby d1_12) rfl ?_
    show own_S p e below s₁ (mkF m 13 #[.val (.ref r0), .val (.int (((0 : Int32) ||| x0) ||| x1)), .val (.ref r0), .val (.int (2 : Int32)), .val (.int (2 : Int32)), .val (.int x1)] [(.int (2 : Int32)), (.int (2 : Int32))]) _
    refine XS.icmpYes X0.here hx rfl (pc0 := 13) (pc' := 33) rfl (hb hby d1_13) rfl (XT.ii_ge_t (by decide : ¬ ((2 : Int32) < (2 : Int32)))) (by decide) (by decide) ?_
    show own_S p e below s₁ (mkF m 33 #[.val (.ref r0), .val (.int (((0 : Int32) ||| x0) ||| x1)), .val (.ref r0), .val (.int (2 : Int32)), .val (.int (2 : Int32)), .val (.int x1)] []) _
    refine XS.iloadN X0.here hx rfl (hb hby d1_33) rfl ?_
    exact k
  by_cases c34_7 : (((0 : Int32) ||| x0) ||| x1) = 0
  · skip
    have K9 : ∀ t, own_S p e below s₁ (mkF m 42 #[.val (.ref r0), .val (.int (((0 : Int32) ||| x0) ||| x1)), .val (.ref r0), .val (.int (2 : Int32)), .val (.int (2 : Int32)), .val (.int x1)] [(.int (1 : Int32))]) t → Steps p.tables e below SE t := by
      intro t k
      refine K8 _ ?_
      refine XS.ifNo X0.here hx rfl (hb hby d1_34) rfl (XT.i0_ne_f c34_7) ?_
      show own_S p e below s₁ (mkF m 37 #[.val (.ref r0), .val (.int (((0 : Int32) ||| x0) ||| x1)), .val (.ref r0), .val (.int (2 : Int32)), .val (.int (2 : Int32)), .val (.int x1)] []) _
      refine XS.iconst X0.here hx rfl (hb hby d1_37) ?_
      show own_S p e below s₁ (mkF m 38 #[.val (.ref r0), .val (.int (((0 : Int32) ||| x0) ||| x1)), .val (.ref r0), .val (.int (2 : Int32)), .val (.int (2 : Int32)), .val (.int x1)] [(.int (1 : Int32))]) _
      refine XS.goto X0.here hx rfl (pc0 := 38) (pc' := 42) rfl (hb hby d1_38) (by decide) (by decide) ?_
      exact k
    obtain ⟨fs, hr, hrun, hended, hW, hsame⟩ := X0.leave (v := some (.int (1 : Int32))) (fun h => by rw [Bd.returns] at h; cases h)
    refine ⟨_, _, K9 _ ?_, hrun, hended, _, _, rfl, ?_, ⟨_, rfl⟩, hW, hsame.mono (by decide) (by decide)⟩
    · exact retN X0 hx (t := .boolean) Bd.returns (by simp) (hb hby d1_42) hr
    · show Q1_2 Z r0 kA x0 x1 h0 n0 _ s₁.heap _
      rw [e0]
      exact ⟨(by simp only [if_pos c34_7]), N0, rfl⟩
  · skip
    have K10 : ∀ t, own_S p e below s₁ (mkF m 42 #[.val (.ref r0), .val (.int (((0 : Int32) ||| x0) ||| x1)), .val (.ref r0), .val (.int (2 : Int32)), .val (.int (2 : Int32)), .val (.int x1)] [(.int (0 : Int32))]) t → Steps p.tables e below SE t := by
      intro t k
      refine K8 _ ?_
      refine XS.ifYes X0.here hx rfl (pc0 := 34) (pc' := 41) rfl (hb hby d1_34) rfl (XT.i0_ne_t c34_7) (by decide) (by decide) ?_
      show own_S p e below s₁ (mkF m 41 #[.val (.ref r0), .val (.int (((0 : Int32) ||| x0) ||| x1)), .val (.ref r0), .val (.int (2 : Int32)), .val (.int (2 : Int32)), .val (.int x1)] []) _
      refine XS.iconst X0.here hx rfl (hb hby d1_41) ?_
      exact k
    obtain ⟨fs, hr, hrun, hended, hW, hsame⟩ := X0.leave (v := some (.int (0 : Int32))) (fun h => by rw [Bd.returns] at h; cases h)
    refine ⟨_, _, K10 _ ?_, hrun, hended, _, _, rfl, ?_, ⟨_, rfl⟩, hW, hsame.mono (by decide) (by decide)⟩
    · exact retN X0 hx (t := .boolean) Bd.returns (by simp) (hb hby d1_42) hr
    · show Q1_2 Z r0 kA x0 x1 h0 n0 _ s₁.heap _
      rw [e0]
      exact ⟨(by simp only [if_neg c34_7]), N0, rfl⟩
theorem own_eq2 (x0 x1 : Int32) : (if (((0 : Int32) ||| x0) ||| x1) = 0 then (1 : Int32) else (0 : Int32)) = (if x0 = 0 then (if x1 = 0 then (1 : Int32) else (0 : Int32)) else (0 : Int32)) := by
  have z : (0 : Int32) = 0 ↔ True := by simp
  simp only [own_or, z, true_and]
  all_goals (by_cases q0 : x0 = 0 <;> by_cases q1 : x1 = 0 <;> simp [*])
theorem ef_1_3 (m : MethodId) (r0 : Addr) : entryFrame m #[(.ref r0)] 6 = mkF m 0 #[.val (.ref r0), .unset, .unset, .unset, .unset, .unset] [] := by first | (simp [entryFrame, mkF, argsToLocals, Value.category]; done) | rfl
def Q1_3 (Z : State) (r0 : Addr) (kA : ClassId) (x0 : Int32) (x1 : Int32) (x2 : Int32) (h0 : Heap) (n0 : Nat) (v : Option Value) (h : Heap) (L : List Loc) : Prop := v = some (.int (if ((((0 : Int32) ||| x0) ||| x1) ||| x2) = 0 then (1 : Int32) else (0 : Int32))) ∧ Fr n0 L ∧ h = h0
set_option maxRecDepth 65536 in
set_option maxHeartbeats 40000000 in
theorem rm1_3 (l : Launch) (Z : State) (a0 : Array Value) (hw : ∀ d ∈ tables_1, d.before a0 Z = true) (ws : List Jvm.Cond) (r0 : Addr) (kA : ClassId) (x0 : Int32) (x1 : Int32) (x2 : Int32) (h0 : Heap) (n0 : Nat) (Z0 : n0 ≤ h0.size) (V_r0 : Arv Z h0 r0 kA .int (3 : Int32) [(.int x0), (.int x1), (.int x2)] (.int (0 : Int32))) :
    MetFree l (⟨"com/example/whorl/whorl/PrimeField", "isZero", "([I)Z"⟩ : MethodName) (head1 (Jvm.Cond.code (⟨"com/example/whorl/whorl/PrimeField", "isZero", "([I)Z"⟩ : MethodName) prog_33_method_8_code 6 (some .boolean) :: ws) ({ frames := 0, cells := 0, slots := 0, locals := 0 } : Room)) (fun a U => a = #[(.ref r0)] ∧ Z.Warmed39 U.vm ∧ U.heap = h0) (fun _ _ _ _ _ => True) (fun _ U o U' => ∃ v L, o = .returned v ∧ Q1_3 Z r0 kA x0 x1 x2 h0 n0 v U'.heap L ∧ FrameEnd U o U' L ({ frames := 0, cells := 0, slots := 0, locals := 0 } : Room).cells ({ frames := 0, cells := 0, slots := 0, locals := 0 } : Room).slots) := by
  refine MetFree.of_bodySF (plainFor_of_name pn_1) hisR ?_
  intro p e s m args below meth c s₁ Bd hml0 hP hK
  obtain ⟨rfl, hZ, hh⟩ := hP
  have hx := Bd.exec
  have hby := Bd.bytes
  have hml : c.maxLocals = 6 := hml0
  have hown : s.vm.findClass "com/example/whorl/whorl/PrimeField" = some m.cls := findClass_of_methodNamed Bd.named
  have hnm := (name_of_methodNamed Bd.named Bd.method).1
  have X0 : Stand p l e ({ frames := 0, cells := 0, slots := 0, locals := 0 } : Room) s m #[(.ref r0)] below meth c s₁ [] 0 0 := Stand.of_body Bd
  have e0 : s₁.heap = h0 := by rw [← hh, Bd.state]; rfl
  have N0 := Fr.nil n0
  have K0 : ∀ t, Steps p.tables e below (s₁.setTop (mkF m 0 #[.val (.ref r0), .unset, .unset, .unset, .unset, .unset] [])) t → Steps p.tables e below (s₁.setTop (entryFrame m #[(.ref r0)] 6)) t := fun t k => castTop (ef_1_3 m r0) k
  generalize s₁.setTop (entryFrame m #[(.ref r0)] 6) = SE at K0 ⊢
  have K1 : ∀ t, own_S p e below s₁ (mkF m 5 #[.val (.ref r0), .val (.int (0 : Int32)), .val (.ref r0), .unset, .unset, .unset] [(.ref r0)]) t → Steps p.tables e below SE t := by
    intro t k
    refine K0 _ ?_
    refine XS.iconst X0.here hx rfl (hb hby d1_0) ?_
    show own_S p e below s₁ (mkF m 1 #[.val (.ref r0), .unset, .unset, .unset, .unset, .unset] [(.int (0 : Int32))]) _
    refine XS.istoreN X0.here hx rfl (hb hby d1_1) rfl (l' := #[.val (.ref r0), .val (.int (0 : Int32)), .unset, .unset, .unset, .unset]) rfl ?_
    show own_S p e below s₁ (mkF m 2 #[.val (.ref r0), .val (.int (0 : Int32)), .unset, .unset, .unset, .unset] []) _
    refine XS.aloadN X0.here hx rfl (hb hby d1_2) rfl rfl ?_
    show own_S p e below s₁ (mkF m 3 #[.val (.ref r0), .val (.int (0 : Int32)), .unset, .unset, .unset, .unset] [(.ref r0)]) _
    refine XS.astoreN X0.here hx rfl (hb hby d1_3) rfl rfl (l' := #[.val (.ref r0), .val (.int (0 : Int32)), .val (.ref r0), .unset, .unset, .unset]) rfl ?_
    show own_S p e below s₁ (mkF m 4 #[.val (.ref r0), .val (.int (0 : Int32)), .val (.ref r0), .unset, .unset, .unset] []) _
    refine XS.aloadN X0.here hx rfl (hb hby d1_4) rfl rfl ?_
    exact k
  obtain ⟨cl2, Ar2, -, S2, Ng2, -, -⟩ := id V_r0
  have K3 : ∀ t, own_S p e below s₁ (mkF m 19 #[.val (.ref r0), .val (.int (0 : Int32)), .val (.ref r0), .val (.int (3 : Int32)), .val (.int (0 : Int32)), .unset] [(.int (0 : Int32)), (.ref r0)]) t → Steps p.tables e below SE t := by
    intro t k
    refine K1 _ ?_
    refine X0.arraylength hx (by rw [e0]; exact Ar2.1) (State.isArrayOf_alike hZ.alike Ar2.2.1) (g := (mkF m 5 #[.val (.ref r0), .val (.int (0 : Int32)), .val (.ref r0), .unset, .unset, .unset] [(.ref r0)])) rfl rfl (hb hby d1_5) _ ?_
    rw [len_of S2 Ng2]
    show own_S p e below s₁ (mkF m 6 #[.val (.ref r0), .val (.int (0 : Int32)), .val (.ref r0), .unset, .unset, .unset] [(.int (3 : Int32))]) _
    refine XS.istoreN X0.here hx rfl (hb hby d1_6) rfl (l' := #[.val (.ref r0), .val (.int (0 : Int32)), .val (.ref r0), .val (.int (3 : Int32)), .unset, .unset]) rfl ?_
    show own_S p e below s₁ (mkF m 7 #[.val (.ref r0), .val (.int (0 : Int32)), .val (.ref r0), .val (.int (3 : Int32)), .unset, .unset] []) _
    refine XS.iconst X0.here hx rfl (hb hby d1_7) ?_
    show own_S p e below s₁ (mkF m 8 #[.val (.ref r0), .val (.int (0 : Int32)), .val (.ref r0), .val (.int (3 : Int32)), .unset, .unset] [(.int (0 : Int32))]) _
    refine XS.istore X0.here hx rfl (hb hby d1_8) rfl (l' := #[.val (.ref r0), .val (.int (0 : Int32)), .val (.ref r0), .val (.int (3 : Int32)), .val (.int (0 : Int32)), .unset]) rfl ?_
    show own_S p e below s₁ (mkF m 10 #[.val (.ref r0), .val (.int (0 : Int32)), .val (.ref r0), .val (.int (3 : Int32)), .val (.int (0 : Int32)), .unset] []) _
    refine XS.iload X0.here hx rfl (hb hby d1_10) rfl ?_
    show own_S p e below s₁ (mkF m 12 #[.val (.ref r0), .val (.int (0 : Int32)), .val (.ref r0), .val (.int (3 : Int32)), .val (.int (0 : Int32)), .unset] [(.int (0 : Int32))]) _
    refine XS.iloadN X0.here hx rfl (hb hby d1_12) rfl ?_
    show own_S p e below s₁ (mkF m 13 #[.val (.ref r0), .val (.int (0 : Int32)), .val (.ref r0), .val (.int (3 : Int32)), .val (.int (0 : Int32)), .unset] [(.int (3 : Int32)), (.int (0 : Int32))]) _
    refine XS.icmpNo X0.here hx rfl (hb hby d1_13) rfl (XT.ii_ge_f (by decide : (0 : Int32) < (3 : Int32))) ?_
    show own_S p e below s₁ (mkF m 16 #[.val (.ref r0), .val (.int (0 : Int32)), .val (.ref r0), .val (.int (3 : Int32)), .val (.int (0 : Int32)), .unset] []) _
    refine XS.aloadN X0.here hx rfl (hb hby d1_16) rfl rfl ?_
    show own_S p e below s₁ (mkF m 17 #[.val (.ref r0), .val (.int (0 : Int32)), .val (.ref r0), .val (.int (3 : Int32)), .val (.int (0 : Int32)), .unset] [(.ref r0)]) _
    refine XS.iload X0.here hx rfl (hb hby d1_17) rfl ?_
    exact k
  obtain ⟨cl4, Ar4, qk4, S4, Ng4, Hh4, Gg4⟩ := id V_r0
  have hin4 : ¬ ((0 : Int32) < 0 ∨ cl4.slots.size ≤ ((0 : Int32)).toNatClampNeg) := inb_of S4 ⟨by decide, by decide⟩
  have hat4 : cl4.slots[((0 : Int32)).toNatClampNeg]? = some (.int x0) := Has.at Hh4 hin4 rfl
  have K5 : ∀ t, own_S p e below s₁ (mkF m 19 #[.val (.ref r0), .val (.int ((0 : Int32) ||| x0)), .val (.ref r0), .val (.int (3 : Int32)), .val (.int (1 : Int32)), .val (.int x0)] [(.int (1 : Int32)), (.ref r0)]) t → Steps p.tables e below SE t := by
    intro t k
    refine K3 _ ?_
    refine X0.iaload hx (j := (0 : Int32)) (v := (.int x0)) (by rw [e0]; exact Ar4.1) (State.isArrayOf_alike hZ.alike Ar4.2.1) Ar4.2.2 hin4 hat4 (g := (mkF m 19 #[.val (.ref r0), .val (.int (0 : Int32)), .val (.ref r0), .val (.int (3 : Int32)), .val (.int (0 : Int32)), .unset] [(.int (0 : Int32)), (.ref r0)])) rfl rfl (hb hby d1_19) _ ?_
    show own_S p e below s₁ (mkF m 20 #[.val (.ref r0), .val (.int (0 : Int32)), .val (.ref r0), .val (.int (3 : Int32)), .val (.int (0 : Int32)), .unset] [(.int x0)]) _
    refine XS.istore X0.here hx rfl (hb hby d1_20) rfl (l' := #[.val (.ref r0), .val (.int (0 : Int32)), .val (.ref r0), .val (.int (3 : Int32)), .val (.int (0 : Int32)), .val (.int x0)]) rfl ?_
    show own_S p e below s₁ (mkF m 22 #[.val (.ref r0), .val (.int (0 : Int32)), .val (.ref r0), .val (.int (3 : Int32)), .val (.int (0 : Int32)), .val (.int x0)] []) _
    refine XS.iloadN X0.here hx rfl (hb hby d1_22) rfl ?_
    show own_S p e below s₁ (mkF m 23 #[.val (.ref r0), .val (.int (0 : Int32)), .val (.ref r0), .val (.int (3 : Int32)), .val (.int (0 : Int32)), .val (.int x0)] [(.int (0 : Int32))]) _
    refine XS.iload X0.here hx rfl (hb hby d1_23) rfl ?_
    show own_S p e below s₁ (mkF m 25 #[.val (.ref r0), .val (.int (0 : Int32)), .val (.ref r0), .val (.int (3 : Int32)), .val (.int (0 : Int32)), .val (.int x0)] [(.int x0), (.int (0 : Int32))]) _
    refine XS.ior X0.here hx rfl (hb hby d1_25) rfl ?_
    show own_S p e below s₁ (mkF m 26 #[.val (.ref r0), .val (.int (0 : Int32)), .val (.ref r0), .val (.int (3 : Int32)), .val (.int (0 : Int32)), .val (.int x0)] [(.int ((0 : Int32) ||| x0))]) _
    refine XS.istoreN X0.here hx rfl (hb hby d1_26) rfl (l' := #[.val (.ref r0), .val (.int ((0 : Int32) ||| x0)), .val (.ref r0), .val (.int (3 : Int32)), .val (.int (0 : Int32)), .val (.int x0)]) rfl ?_
    show own_S p e below s₁ (mkF m 27 #[.val (.ref r0), .val (.int ((0 : Int32) ||| x0)), .val (.ref r0), .val (.int (3 : Int32)), .val (.int (0 : Int32)), .val (.int x0)] []) _
    refine XS.iinc X0.here hx rfl (hb hby d1_27) rfl (l' := #[.val (.ref r0), .val (.int ((0 : Int32) ||| x0)), .val (.ref r0), .val (.int (3 : Int32)), .val (.int (1 : Int32)), .val (.int x0)]) rfl ?_
    show own_S p e below s₁ (mkF m 30 #[.val (.ref r0), .val (.int ((0 : Int32) ||| x0)), .val (.ref r0), .val (.int (3 : Int32)), .val (.int (1 : Int32)), .val (.int x0)] []) _
    refine XS.goto X0.here hx rfl (pc0 := 30) (pc' := 10) rfl (hb hby d1_30) (by decide) (by decide) ?_
    show own_S p e below s₁ (mkF m 10 #[.val (.ref r0), .val (.int ((0 : Int32) ||| x0)), .val (.ref r0), .val (.int (3 : Int32)), .val (.int (1 : Int32)), .val (.int x0)] []) _
    refine XS.iload X0.here hx rfl (hb hby d1_10) rfl ?_
    show own_S p e below s₁ (mkF m 12 #[.val (.ref r0), .val (.int ((0 : Int32) ||| x0)), .val (.ref r0), .val (.int (3 : Int32)), .val (.int (1 : Int32)), .val (.int x0)] [(.int (1 : Int32))]) _
    refine XS.iloadN X0.here hx rfl (hb hby d1_12) rfl ?_
    show own_S p e below s₁ (mkF m 13 #[.val (.ref r0), .val (.int ((0 : Int32) ||| x0)), .val (.ref r0), .val (.int (3 : Int32)), .val (.int (1 : Int32)), .val (.int x0)] [(.int (3 : Int32)), (.int (1 : Int32))]) _
    refine XS.icmpNo X0.here hx rfl (hb hby d1_13) rfl (XT.ii_ge_f (by decide : (1 : Int32) < (3 : Int32))) ?_
    show own_S p e below s₁ (mkF m 16 #[.val (.ref r0), .val (.int ((0 : Int32) ||| x0)), .val (.ref r0), .val (.int (3 : Int32)), .val (.int (1 : Int32)), .val (.int x0)] []) _
    refine XS.aloadN X0.here hx rfl (hb hby d1_16) rfl rfl ?_
    show own_S p e below s₁ (mkF m 17 #[.val (.ref r0), .val (.int ((0 : Int32) ||| x0)), .val (.ref r0), .val (.int (3 : Int32)), .val (.int (1 : Int32)), .val (.int x0)] [(.ref r0)]) _
    refine XS.iload X0.here hx rfl (hb hby d1_17) rfl ?_
    exact k
  obtain ⟨cl6, Ar6, qk6, S6, Ng6, Hh6, Gg6⟩ := id V_r0
  have hin6 : ¬ ((1 : Int32) < 0 ∨ cl6.slots.size ≤ ((1 : Int32)).toNatClampNeg) := inb_of S6 ⟨by decide, by decide⟩
  have hat6 : cl6.slots[((1 : Int32)).toNatClampNeg]? = some (.int x1) := Has.at Hh6 hin6 rfl
  have K7 : ∀ t, own_S p e below s₁ (mkF m 19 #[.val (.ref r0), .val (.int (((0 : Int32) ||| x0) ||| x1)), .val (.ref r0), .val (.int (3 : Int32)), .val (.int (2 : Int32)), .val (.int x1)] [(.int (2 : Int32)), (.ref r0)]) t → Steps p.tables e below SE t := by
    intro t k
    refine K5 _ ?_
    refine X0.iaload hx (j := (1 : Int32)) (v := (.int x1)) (by rw [e0]; exact Ar6.1) (State.isArrayOf_alike hZ.alike Ar6.2.1) Ar6.2.2 hin6 hat6 (g := (mkF m 19 #[.val (.ref r0), .val (.int ((0 : Int32) ||| x0)), .val (.ref r0), .val (.int (3 : Int32)), .val (.int (1 : Int32)), .val (.int x0)] [(.int (1 : Int32)), (.ref r0)])) rfl rfl (hb hby d1_19) _ ?_
    show own_S p e below s₁ (mkF m 20 #[.val (.ref r0), .val (.int ((0 : Int32) ||| x0)), .val (.ref r0), .val (.int (3 : Int32)), .val (.int (1 : Int32)), .val (.int x0)] [(.int x1)]) _
    refine XS.istore X0.here hx rfl (hb hby d1_20) rfl (l' := #[.val (.ref r0), .val (.int ((0 : Int32) ||| x0)), .val (.ref r0), .val (.int (3 : Int32)), .val (.int (1 : Int32)), .val (.int x1)]) rfl ?_
    show own_S p e below s₁ (mkF m 22 #[.val (.ref r0), .val (.int ((0 : Int32) ||| x0)), .val (.ref r0), .val (.int (3 : Int32)), .val (.int (1 : Int32)), .val (.int x1)] []) _
    refine XS.iloadN X0.here hx rfl (hb hby d1_22) rfl ?_
    show own_S p e below s₁ (mkF m 23 #[.val (.ref r0), .val (.int ((0 : Int32) ||| x0)), .val (.ref r0), .val (.int (3 : Int32)), .val (.int (1 : Int32)), .val (.int x1)] [(.int ((0 : Int32) ||| x0))]) _
    refine XS.iload X0.here hx rfl (hb hby d1_23) rfl ?_
    show own_S p e below s₁ (mkF m 25 #[.val (.ref r0), .val (.int ((0 : Int32) ||| x0)), .val (.ref r0), .val (.int (3 : Int32)), .val (.int (1 : Int32)), .val (.int x1)] [(.int x1), (.int ((0 : Int32) ||| x0))]) _
    refine XS.ior X0.here hx rfl (hb hby d1_25) rfl ?_
    show own_S p e below s₁ (mkF m 26 #[.val (.ref r0), .val (.int ((0 : Int32) ||| x0)), .val (.ref r0), .val (.int (3 : Int32)), .val (.int (1 : Int32)), .val (.int x1)] [(.int (((0 : Int32) ||| x0) ||| x1))]) _
    refine XS.istoreN X0.here hx rfl (hb hby d1_26) rfl (l' := #[.val (.ref r0), .val (.int (((0 : Int32) ||| x0) ||| x1)), .val (.ref r0), .val (.int (3 : Int32)), .val (.int (1 : Int32)), .val (.int x1)]) rfl ?_
    show own_S p e below s₁ (mkF m 27 #[.val (.ref r0), .val (.int (((0 : Int32) ||| x0) ||| x1)), .val (.ref r0), .val (.int (3 : Int32)), .val (.int (1 : Int32)), .val (.int x1)] []) _
    refine XS.iinc X0.here hx rfl (hb hby d1_27) rfl (l' := #[.val (.ref r0), .val (.int (((0 : Int32) ||| x0) ||| x1)), .val (.ref r0), .val (.int (3 : Int32)), .val (.int (2 : Int32)), .val (.int x1)]) rfl ?_
    show own_S p e below s₁ (mkF m 30 #[.val (.ref r0), .val (.int (((0 : Int32) ||| x0) ||| x1)), .val (.ref r0), .val (.int (3 : Int32)), .val (.int (2 : Int32)), .val (.int x1)] []) _
    refine XS.goto X0.here hx rfl (pc0 := 30) (pc' := 10) rfl (hb hby d1_30) (by decide) (by decide) ?_
    show own_S p e below s₁ (mkF m 10 #[.val (.ref r0), .val (.int (((0 : Int32) ||| x0) ||| x1)), .val (.ref r0), .val (.int (3 : Int32)), .val (.int (2 : Int32)), .val (.int x1)] []) _
    refine XS.iload X0.here hx rfl (hb hby d1_10) rfl ?_
    show own_S p e below s₁ (mkF m 12 #[.val (.ref r0), .val (.int (((0 : Int32) ||| x0) ||| x1)), .val (.ref r0), .val (.int (3 : Int32)), .val (.int (2 : Int32)), .val (.int x1)] [(.int (2 : Int32))]) _
    refine XS.iloadN X0.here hx rfl (hb hby d1_12) rfl ?_
    show own_S p e below s₁ (mkF m 13 #[.val (.ref r0), .val (.int (((0 : Int32) ||| x0) ||| x1)), .val (.ref r0), .val (.int (3 : Int32)), .val (.int (2 : Int32)), .val (.int x1)] [(.int (3 : Int32)), (.int (2 : Int32))]) _
    refine XS.icmpNo X0.here hx rfl (hb hby d1_13) rfl (XT.ii_ge_f (by decide : (2 : Int32) < (3 : Int32))) ?_
    show own_S p e below s₁ (mkF m 16 #[.val (.ref r0), .val (.int (((0 : Int32) ||| x0) ||| x1)), .val (.ref r0), .val (.int (3 : Int32)), .val (.int (2 : Int32)), .val (.int x1)] []) _
    refine XS.aloadN X0.here hx rfl (hb hby d1_16) rfl rfl ?_
    show own_S p e below s₁ (mkF m 17 #[.val (.ref r0), .val (.int (((0 : Int32) ||| x0) ||| x1)), .val (.ref r0), .val (.int (3 : Int32)), .val (.int (2 : Int32)), .val (.int x1)] [(.ref r0)]) _
    refine XS.iload X0.here hx rfl (hb hby d1_17) rfl ?_
    exact k
  obtain ⟨cl8, Ar8, qk8, S8, Ng8, Hh8, Gg8⟩ := id V_r0
  have hin8 : ¬ ((2 : Int32) < 0 ∨ cl8.slots.size ≤ ((2 : Int32)).toNatClampNeg) := inb_of S8 ⟨by decide, by decide⟩
  have hat8 : cl8.slots[((2 : Int32)).toNatClampNeg]? = some (.int x2) := Has.at Hh8 hin8 rfl
  have K10 : ∀ t, own_S p e below s₁ (mkF m 34 #[.val (.ref r0), .val (.int ((((0 : Int32) ||| x0) ||| x1) ||| x2)), .val (.ref r0), .val (.int (3 : Int32)), .val (.int (3 : Int32)), .val (.int x2)] [(.int ((((0 : Int32) ||| x0) ||| x1) ||| x2))]) t → Steps p.tables e below SE t := by
    intro t k
    refine K7 _ ?_
    refine X0.iaload hx (j := (2 : Int32)) (v := (.int x2)) (by rw [e0]; exact Ar8.1) (State.isArrayOf_alike hZ.alike Ar8.2.1) Ar8.2.2 hin8 hat8 (g := (mkF m 19 #[.val (.ref r0), .val (.int (((0 : Int32) ||| x0) ||| x1)), .val (.ref r0), .val (.int (3 : Int32)), .val (.int (2 : Int32)), .val (.int x1)] [(.int (2 : Int32)), (.ref r0)])) rfl rfl (hb hby d1_19) _ ?_
    show own_S p e below s₁ (mkF m 20 #[.val (.ref r0), .val (.int (((0 : Int32) ||| x0) ||| x1)), .val (.ref r0), .val (.int (3 : Int32)), .val (.int (2 : Int32)), .val (.int x1)] [(.int x2)]) _
    refine XS.istore X0.here hx rfl (hb hby d1_20) rfl (l' := #[.val (.ref r0), .val (.int (((0 : Int32) ||| x0) ||| x1)), .val (.ref r0), .val (.int (3 : Int32)), .val (.int (2 : Int32)), .val (.int x2)]) rfl ?_
    show own_S p e below s₁ (mkF m 22 #[.val (.ref r0), .val (.int (((0 : Int32) ||| x0) ||| x1)), .val (.ref r0), .val (.int (3 : Int32)), .val (.int (2 : Int32)), .val (.int x2)] []) _
    refine XS.iloadN X0.here hx rfl (hb hby d1_22) rfl ?_
    show own_S p e below s₁ (mkF m 23 #[.val (.ref r0), .val (.int (((0 : Int32) ||| x0) ||| x1)), .val (.ref r0), .val (.int (3 : Int32)), .val (.int (2 : Int32)), .val (.int x2)] [(.int (((0 : Int32) ||| x0) ||| x1))]) _
    refine XS.iload X0.here hx rfl (hb hby d1_23) rfl ?_
    show own_S p e below s₁ (mkF m 25 #[.val (.ref r0), .val (.int (((0 : Int32) ||| x0) ||| x1)), .val (.ref r0), .val (.int (3 : Int32)), .val (.int (2 : Int32)), .val (.int x2)] [(.int x2), (.int (((0 : Int32) ||| x0) ||| x1))]) _
    refine XS.ior X0.here hx rfl (hb hby d1_25) rfl ?_
    show own_S p e below s₁ (mkF m 26 #[.val (.ref r0), .val (.int (((0 : Int32) ||| x0) ||| x1)), .val (.ref r0), .val (.int (3 : Int32)), .val (.int (2 : Int32)), .val (.int x2)] [(.int ((((0 : Int32) ||| x0) ||| x1) ||| x2))]) _
    refine XS.istoreN X0.here hx rfl (hb hby d1_26) rfl (l' := #[.val (.ref r0), .val (.int ((((0 : Int32) ||| x0) ||| x1) ||| x2)), .val (.ref r0), .val (.int (3 : Int32)), .val (.int (2 : Int32)), .val (.int x2)]) rfl ?_
    show own_S p e below s₁ (mkF m 27 #[.val (.ref r0), .val (.int ((((0 : Int32) ||| x0) ||| x1) ||| x2)), .val (.ref r0), .val (.int (3 : Int32)), .val (.int (2 : Int32)), .val (.int x2)] []) _
    refine XS.iinc X0.here hx rfl (hb hby d1_27) rfl (l' := #[.val (.ref r0), .val (.int ((((0 : Int32) ||| x0) ||| x1) ||| x2)), .val (.ref r0), .val (.int (3 : Int32)), .val (.int (3 : Int32)), .val (.int x2)]) rfl ?_
    show own_S p e below s₁ (mkF m 30 #[.val (.ref r0), .val (.int ((((0 : Int32) ||| x0) ||| x1) ||| x2)), .val (.ref r0), .val (.int (3 : Int32)), .val (.int (3 : Int32)), .val (.int x2)] []) _
    refine XS.goto X0.here hx rfl (pc0 := 30) (pc' := 10) rfl (hb hby d1_30) (by decide) (by decide) ?_
    show own_S p e below s₁ (mkF m 10 #[.val (.ref r0), .val (.int ((((0 : Int32) ||| x0) ||| x1) ||| x2)), .val (.ref r0), .val (.int (3 : Int32)), .val (.int (3 : Int32)), .val (.int x2)] []) _
    refine XS.iload X0.here hx rfl (hb hby d1_10) rfl ?_
    show own_S p e below s₁ (mkF m 12 #[.val (.ref r0), .val (.int ((((0 : Int32) ||| x0) ||| x1) ||| x2)), .val (.ref r0), .val (.int (3 : Int32)), .val (.int (3 : Int32)), .val (.int x2)] [(.int (3 : Int32))]) _
    refine XS.iloadN X0.here hx rfl (hb hby d1_12) rfl ?_
    show own_S p e below s₁ (mkF m 13 #[.val (.ref r0), .val (.int ((((0 : Int32) ||| x0) ||| x1) ||| x2)), .val (.ref r0), .val (.int (3 : Int32)), .val (.int (3 : Int32)), .val (.int x2)] [(.int (3 : Int32)), (.int (3 : Int32))]) _
    refine XS.icmpYes X0.here hx rfl (pc0 := 13) (pc' := 33) rfl (hb hby d1_13) rfl (XT.ii_ge_t (by decide : ¬ ((3 : Int32) < (3 : Int32)))) (by decide) (by decide) ?_
    show own_S p e below s₁ (mkF m 33 #[.val (.ref r0), .val (.int ((((0 : Int32) ||| x0) ||| x1) ||| x2)), .val (.ref r0), .val (.int (3 : Int32)), .val (.int (3 : Int32)), .val (.int x2)] []) _
    refine XS.iloadN X0.here hx rfl (hb hby d1_33) rfl ?_
    exact k
  by_cases c34_9 : ((((0 : Int32) ||| x0) ||| x1) ||| x2) = 0
  · skip
    have K11 : ∀ t, own_S p e below s₁ (mkF m 42 #[.val (.ref r0), .val (.int ((((0 : Int32) ||| x0) ||| x1) ||| x2)), .val (.ref r0), .val (.int (3 : Int32)), .val (.int (3 : Int32)), .val (.int x2)] [(.int (1 : Int32))]) t → Steps p.tables e below SE t := by
      intro t k
      refine K10 _ ?_
      refine XS.ifNo X0.here hx rfl (hb hby d1_34) rfl (XT.i0_ne_f c34_9) ?_
      show own_S p e below s₁ (mkF m 37 #[.val (.ref r0), .val (.int ((((0 : Int32) ||| x0) ||| x1) ||| x2)), .val (.ref r0), .val (.int (3 : Int32)), .val (.int (3 : Int32)), .val (.int x2)] []) _
      refine XS.iconst X0.here hx rfl (hb hby d1_37) ?_
      show own_S p e below s₁ (mkF m 38 #[.val (.ref r0), .val (.int ((((0 : Int32) ||| x0) ||| x1) ||| x2)), .val (.ref r0), .val (.int (3 : Int32)), .val (.int (3 : Int32)), .val (.int x2)] [(.int (1 : Int32))]) _
      refine XS.goto X0.here hx rfl (pc0 := 38) (pc' := 42) rfl (hb hby d1_38) (by decide) (by decide) ?_
      exact k
    obtain ⟨fs, hr, hrun, hended, hW, hsame⟩ := X0.leave (v := some (.int (1 : Int32))) (fun h => by rw [Bd.returns] at h; cases h)
    refine ⟨_, _, K11 _ ?_, hrun, hended, _, _, rfl, ?_, ⟨_, rfl⟩, hW, hsame.mono (by decide) (by decide)⟩
    · exact retN X0 hx (t := .boolean) Bd.returns (by simp) (hb hby d1_42) hr
    · show Q1_3 Z r0 kA x0 x1 x2 h0 n0 _ s₁.heap _
      rw [e0]
      exact ⟨(by simp only [if_pos c34_9]), N0, rfl⟩
  · skip
    have K12 : ∀ t, own_S p e below s₁ (mkF m 42 #[.val (.ref r0), .val (.int ((((0 : Int32) ||| x0) ||| x1) ||| x2)), .val (.ref r0), .val (.int (3 : Int32)), .val (.int (3 : Int32)), .val (.int x2)] [(.int (0 : Int32))]) t → Steps p.tables e below SE t := by
      intro t k
      refine K10 _ ?_
      refine XS.ifYes X0.here hx rfl (pc0 := 34) (pc' := 41) rfl (hb hby d1_34) rfl (XT.i0_ne_t c34_9) (by decide) (by decide) ?_
      show own_S p e below s₁ (mkF m 41 #[.val (.ref r0), .val (.int ((((0 : Int32) ||| x0) ||| x1) ||| x2)), .val (.ref r0), .val (.int (3 : Int32)), .val (.int (3 : Int32)), .val (.int x2)] []) _
      refine XS.iconst X0.here hx rfl (hb hby d1_41) ?_
      exact k
    obtain ⟨fs, hr, hrun, hended, hW, hsame⟩ := X0.leave (v := some (.int (0 : Int32))) (fun h => by rw [Bd.returns] at h; cases h)
    refine ⟨_, _, K12 _ ?_, hrun, hended, _, _, rfl, ?_, ⟨_, rfl⟩, hW, hsame.mono (by decide) (by decide)⟩
    · exact retN X0 hx (t := .boolean) Bd.returns (by simp) (hb hby d1_42) hr
    · show Q1_3 Z r0 kA x0 x1 x2 h0 n0 _ s₁.heap _
      rw [e0]
      exact ⟨(by simp only [if_neg c34_9]), N0, rfl⟩
theorem own_eq3 (x0 x1 x2 : Int32) : (if ((((0 : Int32) ||| x0) ||| x1) ||| x2) = 0 then (1 : Int32) else (0 : Int32)) = (if x0 = 0 then (if x1 = 0 then (if x2 = 0 then (1 : Int32) else (0 : Int32)) else (0 : Int32)) else (0 : Int32)) := by
  have z : (0 : Int32) = 0 ↔ True := by simp
  simp only [own_or, z, true_and]
  all_goals (by_cases q0 : x0 = 0 <;> by_cases q1 : x1 = 0 <;> by_cases q2 : x2 = 0 <;> simp [*])
theorem ef_1_4 (m : MethodId) (r0 : Addr) : entryFrame m #[(.ref r0)] 6 = mkF m 0 #[.val (.ref r0), .unset, .unset, .unset, .unset, .unset] [] := by first | (simp [entryFrame, mkF, argsToLocals, Value.category]; done) | rfl
def Q1_4 (Z : State) (r0 : Addr) (kA : ClassId) (x0 : Int32) (x1 : Int32) (x2 : Int32) (x3 : Int32) (h0 : Heap) (n0 : Nat) (v : Option Value) (h : Heap) (L : List Loc) : Prop := v = some (.int (if (((((0 : Int32) ||| x0) ||| x1) ||| x2) ||| x3) = 0 then (1 : Int32) else (0 : Int32))) ∧ Fr n0 L ∧ h = h0
set_option maxRecDepth 65536 in
set_option maxHeartbeats 40000000 in
theorem rm1_4 (l : Launch) (Z : State) (a0 : Array Value) (hw : ∀ d ∈ tables_1, d.before a0 Z = true) (ws : List Jvm.Cond) (r0 : Addr) (kA : ClassId) (x0 : Int32) (x1 : Int32) (x2 : Int32) (x3 : Int32) (h0 : Heap) (n0 : Nat) (Z0 : n0 ≤ h0.size) (V_r0 : Arv Z h0 r0 kA .int (4 : Int32) [(.int x0), (.int x1), (.int x2), (.int x3)] (.int (0 : Int32))) :
    MetFree l (⟨"com/example/whorl/whorl/PrimeField", "isZero", "([I)Z"⟩ : MethodName) (head1 (Jvm.Cond.code (⟨"com/example/whorl/whorl/PrimeField", "isZero", "([I)Z"⟩ : MethodName) prog_33_method_8_code 6 (some .boolean) :: ws) ({ frames := 0, cells := 0, slots := 0, locals := 0 } : Room)) (fun a U => a = #[(.ref r0)] ∧ Z.Warmed39 U.vm ∧ U.heap = h0) (fun _ _ _ _ _ => True) (fun _ U o U' => ∃ v L, o = .returned v ∧ Q1_4 Z r0 kA x0 x1 x2 x3 h0 n0 v U'.heap L ∧ FrameEnd U o U' L ({ frames := 0, cells := 0, slots := 0, locals := 0 } : Room).cells ({ frames := 0, cells := 0, slots := 0, locals := 0 } : Room).slots) := by
  refine MetFree.of_bodySF (plainFor_of_name pn_1) hisR ?_
  intro p e s m args below meth c s₁ Bd hml0 hP hK
  obtain ⟨rfl, hZ, hh⟩ := hP
  have hx := Bd.exec
  have hby := Bd.bytes
  have hml : c.maxLocals = 6 := hml0
  have hown : s.vm.findClass "com/example/whorl/whorl/PrimeField" = some m.cls := findClass_of_methodNamed Bd.named
  have hnm := (name_of_methodNamed Bd.named Bd.method).1
  have X0 : Stand p l e ({ frames := 0, cells := 0, slots := 0, locals := 0 } : Room) s m #[(.ref r0)] below meth c s₁ [] 0 0 := Stand.of_body Bd
  have e0 : s₁.heap = h0 := by rw [← hh, Bd.state]; rfl
  have N0 := Fr.nil n0
  have K0 : ∀ t, Steps p.tables e below (s₁.setTop (mkF m 0 #[.val (.ref r0), .unset, .unset, .unset, .unset, .unset] [])) t → Steps p.tables e below (s₁.setTop (entryFrame m #[(.ref r0)] 6)) t := fun t k => castTop (ef_1_4 m r0) k
  generalize s₁.setTop (entryFrame m #[(.ref r0)] 6) = SE at K0 ⊢
  have K1 : ∀ t, own_S p e below s₁ (mkF m 5 #[.val (.ref r0), .val (.int (0 : Int32)), .val (.ref r0), .unset, .unset, .unset] [(.ref r0)]) t → Steps p.tables e below SE t := by
    intro t k
    refine K0 _ ?_
    refine XS.iconst X0.here hx rfl (hb hby d1_0) ?_
    show own_S p e below s₁ (mkF m 1 #[.val (.ref r0), .unset, .unset, .unset, .unset, .unset] [(.int (0 : Int32))]) _
    refine XS.istoreN X0.here hx rfl (hb hby d1_1) rfl (l' := #[.val (.ref r0), .val (.int (0 : Int32)), .unset, .unset, .unset, .unset]) rfl ?_
    show own_S p e below s₁ (mkF m 2 #[.val (.ref r0), .val (.int (0 : Int32)), .unset, .unset, .unset, .unset] []) _
    refine XS.aloadN X0.here hx rfl (hb hby d1_2) rfl rfl ?_
    show own_S p e below s₁ (mkF m 3 #[.val (.ref r0), .val (.int (0 : Int32)), .unset, .unset, .unset, .unset] [(.ref r0)]) _
    refine XS.astoreN X0.here hx rfl (hb hby d1_3) rfl rfl (l' := #[.val (.ref r0), .val (.int (0 : Int32)), .val (.ref r0), .unset, .unset, .unset]) rfl ?_
    show own_S p e below s₁ (mkF m 4 #[.val (.ref r0), .val (.int (0 : Int32)), .val (.ref r0), .unset, .unset, .unset] []) _
    refine XS.aloadN X0.here hx rfl (hb hby d1_4) rfl rfl ?_
    exact k
  obtain ⟨cl2, Ar2, -, S2, Ng2, -, -⟩ := id V_r0
  have K3 : ∀ t, own_S p e below s₁ (mkF m 19 #[.val (.ref r0), .val (.int (0 : Int32)), .val (.ref r0), .val (.int (4 : Int32)), .val (.int (0 : Int32)), .unset] [(.int (0 : Int32)), (.ref r0)]) t → Steps p.tables e below SE t := by
    intro t k
    refine K1 _ ?_
    refine X0.arraylength hx (by rw [e0]; exact Ar2.1) (State.isArrayOf_alike hZ.alike Ar2.2.1) (g := (mkF m 5 #[.val (.ref r0), .val (.int (0 : Int32)), .val (.ref r0), .unset, .unset, .unset] [(.ref r0)])) rfl rfl (hb hby d1_5) _ ?_
    rw [len_of S2 Ng2]
    show own_S p e below s₁ (mkF m 6 #[.val (.ref r0), .val (.int (0 : Int32)), .val (.ref r0), .unset, .unset, .unset] [(.int (4 : Int32))]) _
    refine XS.istoreN X0.here hx rfl (hb hby d1_6) rfl (l' := #[.val (.ref r0), .val (.int (0 : Int32)), .val (.ref r0), .val (.int (4 : Int32)), .unset, .unset]) rfl ?_
    show own_S p e below s₁ (mkF m 7 #[.val (.ref r0), .val (.int (0 : Int32)), .val (.ref r0), .val (.int (4 : Int32)), .unset, .unset] []) _
    refine XS.iconst X0.here hx rfl (hb hby d1_7) ?_
    show own_S p e below s₁ (mkF m 8 #[.val (.ref r0), .val (.int (0 : Int32)), .val (.ref r0), .val (.int (4 : Int32)), .unset, .unset] [(.int (0 : Int32))]) _
    refine XS.istore X0.here hx rfl (hb hby d1_8) rfl (l' := #[.val (.ref r0), .val (.int (0 : Int32)), .val (.ref r0), .val (.int (4 : Int32)), .val (.int (0 : Int32)), .unset]) rfl ?_
    show own_S p e below s₁ (mkF m 10 #[.val (.ref r0), .val (.int (0 : Int32)), .val (.ref r0), .val (.int (4 : Int32)), .val (.int (0 : Int32)), .unset] []) _
    refine XS.iload X0.here hx rfl (hb hby d1_10) rfl ?_
    show own_S p e below s₁ (mkF m 12 #[.val (.ref r0), .val (.int (0 : Int32)), .val (.ref r0), .val (.int (4 : Int32)), .val (.int (0 : Int32)), .unset] [(.int (0 : Int32))]) _
    refine XS.iloadN X0.here hx rfl (hb hby d1_12) rfl ?_
    show own_S p e below s₁ (mkF m 13 #[.val (.ref r0), .val (.int (0 : Int32)), .val (.ref r0), .val (.int (4 : Int32)), .val (.int (0 : Int32)), .unset] [(.int (4 : Int32)), (.int (0 : Int32))]) _
    refine XS.icmpNo X0.here hx rfl (hb hby d1_13) rfl (XT.ii_ge_f (by decide : (0 : Int32) < (4 : Int32))) ?_
    show own_S p e below s₁ (mkF m 16 #[.val (.ref r0), .val (.int (0 : Int32)), .val (.ref r0), .val (.int (4 : Int32)), .val (.int (0 : Int32)), .unset] []) _
    refine XS.aloadN X0.here hx rfl (hb hby d1_16) rfl rfl ?_
    show own_S p e below s₁ (mkF m 17 #[.val (.ref r0), .val (.int (0 : Int32)), .val (.ref r0), .val (.int (4 : Int32)), .val (.int (0 : Int32)), .unset] [(.ref r0)]) _
    refine XS.iload X0.here hx rfl (hb hby d1_17) rfl ?_
    exact k
  obtain ⟨cl4, Ar4, qk4, S4, Ng4, Hh4, Gg4⟩ := id V_r0
  have hin4 : ¬ ((0 : Int32) < 0 ∨ cl4.slots.size ≤ ((0 : Int32)).toNatClampNeg) := inb_of S4 ⟨by decide, by decide⟩
  have hat4 : cl4.slots[((0 : Int32)).toNatClampNeg]? = some (.int x0) := Has.at Hh4 hin4 rfl
  have K5 : ∀ t, own_S p e below s₁ (mkF m 19 #[.val (.ref r0), .val (.int ((0 : Int32) ||| x0)), .val (.ref r0), .val (.int (4 : Int32)), .val (.int (1 : Int32)), .val (.int x0)] [(.int (1 : Int32)), (.ref r0)]) t → Steps p.tables e below SE t := by
    intro t k
    refine K3 _ ?_
    refine X0.iaload hx (j := (0 : Int32)) (v := (.int x0)) (by rw [e0]; exact Ar4.1) (State.isArrayOf_alike hZ.alike Ar4.2.1) Ar4.2.2 hin4 hat4 (g := (mkF m 19 #[.val (.ref r0), .val (.int (0 : Int32)), .val (.ref r0), .val (.int (4 : Int32)), .val (.int (0 : Int32)), .unset] [(.int (0 : Int32)), (.ref r0)])) rfl rfl (hb hby d1_19) _ ?_
    show own_S p e below s₁ (mkF m 20 #[.val (.ref r0), .val (.int (0 : Int32)), .val (.ref r0), .val (.int (4 : Int32)), .val (.int (0 : Int32)), .unset] [(.int x0)]) _
    refine XS.istore X0.here hx rfl (hb hby d1_20) rfl (l' := #[.val (.ref r0), .val (.int (0 : Int32)), .val (.ref r0), .val (.int (4 : Int32)), .val (.int (0 : Int32)), .val (.int x0)]) rfl ?_
    show own_S p e below s₁ (mkF m 22 #[.val (.ref r0), .val (.int (0 : Int32)), .val (.ref r0), .val (.int (4 : Int32)), .val (.int (0 : Int32)), .val (.int x0)] []) _
    refine XS.iloadN X0.here hx rfl (hb hby d1_22) rfl ?_
    show own_S p e below s₁ (mkF m 23 #[.val (.ref r0), .val (.int (0 : Int32)), .val (.ref r0), .val (.int (4 : Int32)), .val (.int (0 : Int32)), .val (.int x0)] [(.int (0 : Int32))]) _
    refine XS.iload X0.here hx rfl (hb hby d1_23) rfl ?_
    show own_S p e below s₁ (mkF m 25 #[.val (.ref r0), .val (.int (0 : Int32)), .val (.ref r0), .val (.int (4 : Int32)), .val (.int (0 : Int32)), .val (.int x0)] [(.int x0), (.int (0 : Int32))]) _
    refine XS.ior X0.here hx rfl (hb hby d1_25) rfl ?_
    show own_S p e below s₁ (mkF m 26 #[.val (.ref r0), .val (.int (0 : Int32)), .val (.ref r0), .val (.int (4 : Int32)), .val (.int (0 : Int32)), .val (.int x0)] [(.int ((0 : Int32) ||| x0))]) _
    refine XS.istoreN X0.here hx rfl (hb hby d1_26) rfl (l' := #[.val (.ref r0), .val (.int ((0 : Int32) ||| x0)), .val (.ref r0), .val (.int (4 : Int32)), .val (.int (0 : Int32)), .val (.int x0)]) rfl ?_
    show own_S p e below s₁ (mkF m 27 #[.val (.ref r0), .val (.int ((0 : Int32) ||| x0)), .val (.ref r0), .val (.int (4 : Int32)), .val (.int (0 : Int32)), .val (.int x0)] []) _
    refine XS.iinc X0.here hx rfl (hb hby d1_27) rfl (l' := #[.val (.ref r0), .val (.int ((0 : Int32) ||| x0)), .val (.ref r0), .val (.int (4 : Int32)), .val (.int (1 : Int32)), .val (.int x0)]) rfl ?_
    show own_S p e below s₁ (mkF m 30 #[.val (.ref r0), .val (.int ((0 : Int32) ||| x0)), .val (.ref r0), .val (.int (4 : Int32)), .val (.int (1 : Int32)), .val (.int x0)] []) _
    refine XS.goto X0.here hx rfl (pc0 := 30) (pc' := 10) rfl (hb hby d1_30) (by decide) (by decide) ?_
    show own_S p e below s₁ (mkF m 10 #[.val (.ref r0), .val (.int ((0 : Int32) ||| x0)), .val (.ref r0), .val (.int (4 : Int32)), .val (.int (1 : Int32)), .val (.int x0)] []) _
    refine XS.iload X0.here hx rfl (hb hby d1_10) rfl ?_
    show own_S p e below s₁ (mkF m 12 #[.val (.ref r0), .val (.int ((0 : Int32) ||| x0)), .val (.ref r0), .val (.int (4 : Int32)), .val (.int (1 : Int32)), .val (.int x0)] [(.int (1 : Int32))]) _
    refine XS.iloadN X0.here hx rfl (hb hby d1_12) rfl ?_
    show own_S p e below s₁ (mkF m 13 #[.val (.ref r0), .val (.int ((0 : Int32) ||| x0)), .val (.ref r0), .val (.int (4 : Int32)), .val (.int (1 : Int32)), .val (.int x0)] [(.int (4 : Int32)), (.int (1 : Int32))]) _
    refine XS.icmpNo X0.here hx rfl (hb hby d1_13) rfl (XT.ii_ge_f (by decide : (1 : Int32) < (4 : Int32))) ?_
    show own_S p e below s₁ (mkF m 16 #[.val (.ref r0), .val (.int ((0 : Int32) ||| x0)), .val (.ref r0), .val (.int (4 : Int32)), .val (.int (1 : Int32)), .val (.int x0)] []) _
    refine XS.aloadN X0.here hx rfl (hb hby d1_16) rfl rfl ?_
    show own_S p e below s₁ (mkF m 17 #[.val (.ref r0), .val (.int ((0 : Int32) ||| x0)), .val (.ref r0), .val (.int (4 : Int32)), .val (.int (1 : Int32)), .val (.int x0)] [(.ref r0)]) _
    refine XS.iload X0.here hx rfl (hb hby d1_17) rfl ?_
    exact k
  obtain ⟨cl6, Ar6, qk6, S6, Ng6, Hh6, Gg6⟩ := id V_r0
  have hin6 : ¬ ((1 : Int32) < 0 ∨ cl6.slots.size ≤ ((1 : Int32)).toNatClampNeg) := inb_of S6 ⟨by decide, by decide⟩
  have hat6 : cl6.slots[((1 : Int32)).toNatClampNeg]? = some (.int x1) := Has.at Hh6 hin6 rfl
  have K7 : ∀ t, own_S p e below s₁ (mkF m 19 #[.val (.ref r0), .val (.int (((0 : Int32) ||| x0) ||| x1)), .val (.ref r0), .val (.int (4 : Int32)), .val (.int (2 : Int32)), .val (.int x1)] [(.int (2 : Int32)), (.ref r0)]) t → Steps p.tables e below SE t := by
    intro t k
    refine K5 _ ?_
    refine X0.iaload hx (j := (1 : Int32)) (v := (.int x1)) (by rw [e0]; exact Ar6.1) (State.isArrayOf_alike hZ.alike Ar6.2.1) Ar6.2.2 hin6 hat6 (g := (mkF m 19 #[.val (.ref r0), .val (.int ((0 : Int32) ||| x0)), .val (.ref r0), .val (.int (4 : Int32)), .val (.int (1 : Int32)), .val (.int x0)] [(.int (1 : Int32)), (.ref r0)])) rfl rfl (hb hby d1_19) _ ?_
    show own_S p e below s₁ (mkF m 20 #[.val (.ref r0), .val (.int ((0 : Int32) ||| x0)), .val (.ref r0), .val (.int (4 : Int32)), .val (.int (1 : Int32)), .val (.int x0)] [(.int x1)]) _
    refine XS.istore X0.here hx rfl (hb hby d1_20) rfl (l' := #[.val (.ref r0), .val (.int ((0 : Int32) ||| x0)), .val (.ref r0), .val (.int (4 : Int32)), .val (.int (1 : Int32)), .val (.int x1)]) rfl ?_
    show own_S p e below s₁ (mkF m 22 #[.val (.ref r0), .val (.int ((0 : Int32) ||| x0)), .val (.ref r0), .val (.int (4 : Int32)), .val (.int (1 : Int32)), .val (.int x1)] []) _
    refine XS.iloadN X0.here hx rfl (hb hby d1_22) rfl ?_
    show own_S p e below s₁ (mkF m 23 #[.val (.ref r0), .val (.int ((0 : Int32) ||| x0)), .val (.ref r0), .val (.int (4 : Int32)), .val (.int (1 : Int32)), .val (.int x1)] [(.int ((0 : Int32) ||| x0))]) _
    refine XS.iload X0.here hx rfl (hb hby d1_23) rfl ?_
    show own_S p e below s₁ (mkF m 25 #[.val (.ref r0), .val (.int ((0 : Int32) ||| x0)), .val (.ref r0), .val (.int (4 : Int32)), .val (.int (1 : Int32)), .val (.int x1)] [(.int x1), (.int ((0 : Int32) ||| x0))]) _
    refine XS.ior X0.here hx rfl (hb hby d1_25) rfl ?_
    show own_S p e below s₁ (mkF m 26 #[.val (.ref r0), .val (.int ((0 : Int32) ||| x0)), .val (.ref r0), .val (.int (4 : Int32)), .val (.int (1 : Int32)), .val (.int x1)] [(.int (((0 : Int32) ||| x0) ||| x1))]) _
    refine XS.istoreN X0.here hx rfl (hb hby d1_26) rfl (l' := #[.val (.ref r0), .val (.int (((0 : Int32) ||| x0) ||| x1)), .val (.ref r0), .val (.int (4 : Int32)), .val (.int (1 : Int32)), .val (.int x1)]) rfl ?_
    show own_S p e below s₁ (mkF m 27 #[.val (.ref r0), .val (.int (((0 : Int32) ||| x0) ||| x1)), .val (.ref r0), .val (.int (4 : Int32)), .val (.int (1 : Int32)), .val (.int x1)] []) _
    refine XS.iinc X0.here hx rfl (hb hby d1_27) rfl (l' := #[.val (.ref r0), .val (.int (((0 : Int32) ||| x0) ||| x1)), .val (.ref r0), .val (.int (4 : Int32)), .val (.int (2 : Int32)), .val (.int x1)]) rfl ?_
    show own_S p e below s₁ (mkF m 30 #[.val (.ref r0), .val (.int (((0 : Int32) ||| x0) ||| x1)), .val (.ref r0), .val (.int (4 : Int32)), .val (.int (2 : Int32)), .val (.int x1)] []) _
    refine XS.goto X0.here hx rfl (pc0 := 30) (pc' := 10) rfl (hb hby d1_30) (by decide) (by decide) ?_
    show own_S p e below s₁ (mkF m 10 #[.val (.ref r0), .val (.int (((0 : Int32) ||| x0) ||| x1)), .val (.ref r0), .val (.int (4 : Int32)), .val (.int (2 : Int32)), .val (.int x1)] []) _
    refine XS.iload X0.here hx rfl (hb hby d1_10) rfl ?_
    show own_S p e below s₁ (mkF m 12 #[.val (.ref r0), .val (.int (((0 : Int32) ||| x0) ||| x1)), .val (.ref r0), .val (.int (4 : Int32)), .val (.int (2 : Int32)), .val (.int x1)] [(.int (2 : Int32))]) _
    refine XS.iloadN X0.here hx rfl (hb hby d1_12) rfl ?_
    show own_S p e below s₁ (mkF m 13 #[.val (.ref r0), .val (.int (((0 : Int32) ||| x0) ||| x1)), .val (.ref r0), .val (.int (4 : Int32)), .val (.int (2 : Int32)), .val (.int x1)] [(.int (4 : Int32)), (.int (2 : Int32))]) _
    refine XS.icmpNo X0.here hx rfl (hb hby d1_13) rfl (XT.ii_ge_f (by decide : (2 : Int32) < (4 : Int32))) ?_
    show own_S p e below s₁ (mkF m 16 #[.val (.ref r0), .val (.int (((0 : Int32) ||| x0) ||| x1)), .val (.ref r0), .val (.int (4 : Int32)), .val (.int (2 : Int32)), .val (.int x1)] []) _
    refine XS.aloadN X0.here hx rfl (hb hby d1_16) rfl rfl ?_
    show own_S p e below s₁ (mkF m 17 #[.val (.ref r0), .val (.int (((0 : Int32) ||| x0) ||| x1)), .val (.ref r0), .val (.int (4 : Int32)), .val (.int (2 : Int32)), .val (.int x1)] [(.ref r0)]) _
    refine XS.iload X0.here hx rfl (hb hby d1_17) rfl ?_
    exact k
  obtain ⟨cl8, Ar8, qk8, S8, Ng8, Hh8, Gg8⟩ := id V_r0
  have hin8 : ¬ ((2 : Int32) < 0 ∨ cl8.slots.size ≤ ((2 : Int32)).toNatClampNeg) := inb_of S8 ⟨by decide, by decide⟩
  have hat8 : cl8.slots[((2 : Int32)).toNatClampNeg]? = some (.int x2) := Has.at Hh8 hin8 rfl
  have K9 : ∀ t, own_S p e below s₁ (mkF m 19 #[.val (.ref r0), .val (.int ((((0 : Int32) ||| x0) ||| x1) ||| x2)), .val (.ref r0), .val (.int (4 : Int32)), .val (.int (3 : Int32)), .val (.int x2)] [(.int (3 : Int32)), (.ref r0)]) t → Steps p.tables e below SE t := by
    intro t k
    refine K7 _ ?_
    refine X0.iaload hx (j := (2 : Int32)) (v := (.int x2)) (by rw [e0]; exact Ar8.1) (State.isArrayOf_alike hZ.alike Ar8.2.1) Ar8.2.2 hin8 hat8 (g := (mkF m 19 #[.val (.ref r0), .val (.int (((0 : Int32) ||| x0) ||| x1)), .val (.ref r0), .val (.int (4 : Int32)), .val (.int (2 : Int32)), .val (.int x1)] [(.int (2 : Int32)), (.ref r0)])) rfl rfl (hb hby d1_19) _ ?_
    show own_S p e below s₁ (mkF m 20 #[.val (.ref r0), .val (.int (((0 : Int32) ||| x0) ||| x1)), .val (.ref r0), .val (.int (4 : Int32)), .val (.int (2 : Int32)), .val (.int x1)] [(.int x2)]) _
    refine XS.istore X0.here hx rfl (hb hby d1_20) rfl (l' := #[.val (.ref r0), .val (.int (((0 : Int32) ||| x0) ||| x1)), .val (.ref r0), .val (.int (4 : Int32)), .val (.int (2 : Int32)), .val (.int x2)]) rfl ?_
    show own_S p e below s₁ (mkF m 22 #[.val (.ref r0), .val (.int (((0 : Int32) ||| x0) ||| x1)), .val (.ref r0), .val (.int (4 : Int32)), .val (.int (2 : Int32)), .val (.int x2)] []) _
    refine XS.iloadN X0.here hx rfl (hb hby d1_22) rfl ?_
    show own_S p e below s₁ (mkF m 23 #[.val (.ref r0), .val (.int (((0 : Int32) ||| x0) ||| x1)), .val (.ref r0), .val (.int (4 : Int32)), .val (.int (2 : Int32)), .val (.int x2)] [(.int (((0 : Int32) ||| x0) ||| x1))]) _
    refine XS.iload X0.here hx rfl (hb hby d1_23) rfl ?_
    show own_S p e below s₁ (mkF m 25 #[.val (.ref r0), .val (.int (((0 : Int32) ||| x0) ||| x1)), .val (.ref r0), .val (.int (4 : Int32)), .val (.int (2 : Int32)), .val (.int x2)] [(.int x2), (.int (((0 : Int32) ||| x0) ||| x1))]) _
    refine XS.ior X0.here hx rfl (hb hby d1_25) rfl ?_
    show own_S p e below s₁ (mkF m 26 #[.val (.ref r0), .val (.int (((0 : Int32) ||| x0) ||| x1)), .val (.ref r0), .val (.int (4 : Int32)), .val (.int (2 : Int32)), .val (.int x2)] [(.int ((((0 : Int32) ||| x0) ||| x1) ||| x2))]) _
    refine XS.istoreN X0.here hx rfl (hb hby d1_26) rfl (l' := #[.val (.ref r0), .val (.int ((((0 : Int32) ||| x0) ||| x1) ||| x2)), .val (.ref r0), .val (.int (4 : Int32)), .val (.int (2 : Int32)), .val (.int x2)]) rfl ?_
    show own_S p e below s₁ (mkF m 27 #[.val (.ref r0), .val (.int ((((0 : Int32) ||| x0) ||| x1) ||| x2)), .val (.ref r0), .val (.int (4 : Int32)), .val (.int (2 : Int32)), .val (.int x2)] []) _
    refine XS.iinc X0.here hx rfl (hb hby d1_27) rfl (l' := #[.val (.ref r0), .val (.int ((((0 : Int32) ||| x0) ||| x1) ||| x2)), .val (.ref r0), .val (.int (4 : Int32)), .val (.int (3 : Int32)), .val (.int x2)]) rfl ?_
    show own_S p e below s₁ (mkF m 30 #[.val (.ref r0), .val (.int ((((0 : Int32) ||| x0) ||| x1) ||| x2)), .val (.ref r0), .val (.int (4 : Int32)), .val (.int (3 : Int32)), .val (.int x2)] []) _
    refine XS.goto X0.here hx rfl (pc0 := 30) (pc' := 10) rfl (hb hby d1_30) (by decide) (by decide) ?_
    show own_S p e below s₁ (mkF m 10 #[.val (.ref r0), .val (.int ((((0 : Int32) ||| x0) ||| x1) ||| x2)), .val (.ref r0), .val (.int (4 : Int32)), .val (.int (3 : Int32)), .val (.int x2)] []) _
    refine XS.iload X0.here hx rfl (hb hby d1_10) rfl ?_
    show own_S p e below s₁ (mkF m 12 #[.val (.ref r0), .val (.int ((((0 : Int32) ||| x0) ||| x1) ||| x2)), .val (.ref r0), .val (.int (4 : Int32)), .val (.int (3 : Int32)), .val (.int x2)] [(.int (3 : Int32))]) _
    refine XS.iloadN X0.here hx rfl (hb hby d1_12) rfl ?_
    show own_S p e below s₁ (mkF m 13 #[.val (.ref r0), .val (.int ((((0 : Int32) ||| x0) ||| x1) ||| x2)), .val (.ref r0), .val (.int (4 : Int32)), .val (.int (3 : Int32)), .val (.int x2)] [(.int (4 : Int32)), (.int (3 : Int32))]) _
    refine XS.icmpNo X0.here hx rfl (hb hby d1_13) rfl (XT.ii_ge_f (by decide : (3 : Int32) < (4 : Int32))) ?_
    show own_S p e below s₁ (mkF m 16 #[.val (.ref r0), .val (.int ((((0 : Int32) ||| x0) ||| x1) ||| x2)), .val (.ref r0), .val (.int (4 : Int32)), .val (.int (3 : Int32)), .val (.int x2)] []) _
    refine XS.aloadN X0.here hx rfl (hb hby d1_16) rfl rfl ?_
    show own_S p e below s₁ (mkF m 17 #[.val (.ref r0), .val (.int ((((0 : Int32) ||| x0) ||| x1) ||| x2)), .val (.ref r0), .val (.int (4 : Int32)), .val (.int (3 : Int32)), .val (.int x2)] [(.ref r0)]) _
    refine XS.iload X0.here hx rfl (hb hby d1_17) rfl ?_
    exact k
  obtain ⟨cl10, Ar10, qk10, S10, Ng10, Hh10, Gg10⟩ := id V_r0
  have hin10 : ¬ ((3 : Int32) < 0 ∨ cl10.slots.size ≤ ((3 : Int32)).toNatClampNeg) := inb_of S10 ⟨by decide, by decide⟩
  have hat10 : cl10.slots[((3 : Int32)).toNatClampNeg]? = some (.int x3) := Has.at Hh10 hin10 rfl
  have K12 : ∀ t, own_S p e below s₁ (mkF m 34 #[.val (.ref r0), .val (.int (((((0 : Int32) ||| x0) ||| x1) ||| x2) ||| x3)), .val (.ref r0), .val (.int (4 : Int32)), .val (.int (4 : Int32)), .val (.int x3)] [(.int (((((0 : Int32) ||| x0) ||| x1) ||| x2) ||| x3))]) t → Steps p.tables e below SE t := by
    intro t k
    refine K9 _ ?_
    refine X0.iaload hx (j := (3 : Int32)) (v := (.int x3)) (by rw [e0]; exact Ar10.1) (State.isArrayOf_alike hZ.alike Ar10.2.1) Ar10.2.2 hin10 hat10 (g := (mkF m 19 #[.val (.ref r0), .val (.int ((((0 : Int32) ||| x0) ||| x1) ||| x2)), .val (.ref r0), .val (.int (4 : Int32)), .val (.int (3 : Int32)), .val (.int x2)] [(.int (3 : Int32)), (.ref r0)])) rfl rfl (hb hby d1_19) _ ?_
    show own_S p e below s₁ (mkF m 20 #[.val (.ref r0), .val (.int ((((0 : Int32) ||| x0) ||| x1) ||| x2)), .val (.ref r0), .val (.int (4 : Int32)), .val (.int (3 : Int32)), .val (.int x2)] [(.int x3)]) _
    refine XS.istore X0.here hx rfl (hb hby d1_20) rfl (l' := #[.val (.ref r0), .val (.int ((((0 : Int32) ||| x0) ||| x1) ||| x2)), .val (.ref r0), .val (.int (4 : Int32)), .val (.int (3 : Int32)), .val (.int x3)]) rfl ?_
    show own_S p e below s₁ (mkF m 22 #[.val (.ref r0), .val (.int ((((0 : Int32) ||| x0) ||| x1) ||| x2)), .val (.ref r0), .val (.int (4 : Int32)), .val (.int (3 : Int32)), .val (.int x3)] []) _
    refine XS.iloadN X0.here hx rfl (hb hby d1_22) rfl ?_
    show own_S p e below s₁ (mkF m 23 #[.val (.ref r0), .val (.int ((((0 : Int32) ||| x0) ||| x1) ||| x2)), .val (.ref r0), .val (.int (4 : Int32)), .val (.int (3 : Int32)), .val (.int x3)] [(.int ((((0 : Int32) ||| x0) ||| x1) ||| x2))]) _
    refine XS.iload X0.here hx rfl (hb hby d1_23) rfl ?_
    show own_S p e below s₁ (mkF m 25 #[.val (.ref r0), .val (.int ((((0 : Int32) ||| x0) ||| x1) ||| x2)), .val (.ref r0), .val (.int (4 : Int32)), .val (.int (3 : Int32)), .val (.int x3)] [(.int x3), (.int ((((0 : Int32) ||| x0) ||| x1) ||| x2))]) _
    refine XS.ior X0.here hx rfl (hb hby d1_25) rfl ?_
    show own_S p e below s₁ (mkF m 26 #[.val (.ref r0), .val (.int ((((0 : Int32) ||| x0) ||| x1) ||| x2)), .val (.ref r0), .val (.int (4 : Int32)), .val (.int (3 : Int32)), .val (.int x3)] [(.int (((((0 : Int32) ||| x0) ||| x1) ||| x2) ||| x3))]) _
    refine XS.istoreN X0.here hx rfl (hb hby d1_26) rfl (l' := #[.val (.ref r0), .val (.int (((((0 : Int32) ||| x0) ||| x1) ||| x2) ||| x3)), .val (.ref r0), .val (.int (4 : Int32)), .val (.int (3 : Int32)), .val (.int x3)]) rfl ?_
    show own_S p e below s₁ (mkF m 27 #[.val (.ref r0), .val (.int (((((0 : Int32) ||| x0) ||| x1) ||| x2) ||| x3)), .val (.ref r0), .val (.int (4 : Int32)), .val (.int (3 : Int32)), .val (.int x3)] []) _
    refine XS.iinc X0.here hx rfl (hb hby d1_27) rfl (l' := #[.val (.ref r0), .val (.int (((((0 : Int32) ||| x0) ||| x1) ||| x2) ||| x3)), .val (.ref r0), .val (.int (4 : Int32)), .val (.int (4 : Int32)), .val (.int x3)]) rfl ?_
    show own_S p e below s₁ (mkF m 30 #[.val (.ref r0), .val (.int (((((0 : Int32) ||| x0) ||| x1) ||| x2) ||| x3)), .val (.ref r0), .val (.int (4 : Int32)), .val (.int (4 : Int32)), .val (.int x3)] []) _
    refine XS.goto X0.here hx rfl (pc0 := 30) (pc' := 10) rfl (hb hby d1_30) (by decide) (by decide) ?_
    show own_S p e below s₁ (mkF m 10 #[.val (.ref r0), .val (.int (((((0 : Int32) ||| x0) ||| x1) ||| x2) ||| x3)), .val (.ref r0), .val (.int (4 : Int32)), .val (.int (4 : Int32)), .val (.int x3)] []) _
    refine XS.iload X0.here hx rfl (hb hby d1_10) rfl ?_
    show own_S p e below s₁ (mkF m 12 #[.val (.ref r0), .val (.int (((((0 : Int32) ||| x0) ||| x1) ||| x2) ||| x3)), .val (.ref r0), .val (.int (4 : Int32)), .val (.int (4 : Int32)), .val (.int x3)] [(.int (4 : Int32))]) _
    refine XS.iloadN X0.here hx rfl (hb hby d1_12) rfl ?_
    show own_S p e below s₁ (mkF m 13 #[.val (.ref r0), .val (.int (((((0 : Int32) ||| x0) ||| x1) ||| x2) ||| x3)), .val (.ref r0), .val (.int (4 : Int32)), .val (.int (4 : Int32)), .val (.int x3)] [(.int (4 : Int32)), (.int (4 : Int32))]) _
    refine XS.icmpYes X0.here hx rfl (pc0 := 13) (pc' := 33) rfl (hb hby d1_13) rfl (XT.ii_ge_t (by decide : ¬ ((4 : Int32) < (4 : Int32)))) (by decide) (by decide) ?_
    show own_S p e below s₁ (mkF m 33 #[.val (.ref r0), .val (.int (((((0 : Int32) ||| x0) ||| x1) ||| x2) ||| x3)), .val (.ref r0), .val (.int (4 : Int32)), .val (.int (4 : Int32)), .val (.int x3)] []) _
    refine XS.iloadN X0.here hx rfl (hb hby d1_33) rfl ?_
    exact k
  by_cases c34_11 : (((((0 : Int32) ||| x0) ||| x1) ||| x2) ||| x3) = 0
  · skip
    have K13 : ∀ t, own_S p e below s₁ (mkF m 42 #[.val (.ref r0), .val (.int (((((0 : Int32) ||| x0) ||| x1) ||| x2) ||| x3)), .val (.ref r0), .val (.int (4 : Int32)), .val (.int (4 : Int32)), .val (.int x3)] [(.int (1 : Int32))]) t → Steps p.tables e below SE t := by
      intro t k
      refine K12 _ ?_
      refine XS.ifNo X0.here hx rfl (hb hby d1_34) rfl (XT.i0_ne_f c34_11) ?_
      show own_S p e below s₁ (mkF m 37 #[.val (.ref r0), .val (.int (((((0 : Int32) ||| x0) ||| x1) ||| x2) ||| x3)), .val (.ref r0), .val (.int (4 : Int32)), .val (.int (4 : Int32)), .val (.int x3)] []) _
      refine XS.iconst X0.here hx rfl (hb hby d1_37) ?_
      show own_S p e below s₁ (mkF m 38 #[.val (.ref r0), .val (.int (((((0 : Int32) ||| x0) ||| x1) ||| x2) ||| x3)), .val (.ref r0), .val (.int (4 : Int32)), .val (.int (4 : Int32)), .val (.int x3)] [(.int (1 : Int32))]) _
      refine XS.goto X0.here hx rfl (pc0 := 38) (pc' := 42) rfl (hb hby d1_38) (by decide) (by decide) ?_
      exact k
    obtain ⟨fs, hr, hrun, hended, hW, hsame⟩ := X0.leave (v := some (.int (1 : Int32))) (fun h => by rw [Bd.returns] at h; cases h)
    refine ⟨_, _, K13 _ ?_, hrun, hended, _, _, rfl, ?_, ⟨_, rfl⟩, hW, hsame.mono (by decide) (by decide)⟩
    · exact retN X0 hx (t := .boolean) Bd.returns (by simp) (hb hby d1_42) hr
    · show Q1_4 Z r0 kA x0 x1 x2 x3 h0 n0 _ s₁.heap _
      rw [e0]
      exact ⟨(by simp only [if_pos c34_11]), N0, rfl⟩
  · skip
    have K14 : ∀ t, own_S p e below s₁ (mkF m 42 #[.val (.ref r0), .val (.int (((((0 : Int32) ||| x0) ||| x1) ||| x2) ||| x3)), .val (.ref r0), .val (.int (4 : Int32)), .val (.int (4 : Int32)), .val (.int x3)] [(.int (0 : Int32))]) t → Steps p.tables e below SE t := by
      intro t k
      refine K12 _ ?_
      refine XS.ifYes X0.here hx rfl (pc0 := 34) (pc' := 41) rfl (hb hby d1_34) rfl (XT.i0_ne_t c34_11) (by decide) (by decide) ?_
      show own_S p e below s₁ (mkF m 41 #[.val (.ref r0), .val (.int (((((0 : Int32) ||| x0) ||| x1) ||| x2) ||| x3)), .val (.ref r0), .val (.int (4 : Int32)), .val (.int (4 : Int32)), .val (.int x3)] []) _
      refine XS.iconst X0.here hx rfl (hb hby d1_41) ?_
      exact k
    obtain ⟨fs, hr, hrun, hended, hW, hsame⟩ := X0.leave (v := some (.int (0 : Int32))) (fun h => by rw [Bd.returns] at h; cases h)
    refine ⟨_, _, K14 _ ?_, hrun, hended, _, _, rfl, ?_, ⟨_, rfl⟩, hW, hsame.mono (by decide) (by decide)⟩
    · exact retN X0 hx (t := .boolean) Bd.returns (by simp) (hb hby d1_42) hr
    · show Q1_4 Z r0 kA x0 x1 x2 x3 h0 n0 _ s₁.heap _
      rw [e0]
      exact ⟨(by simp only [if_neg c34_11]), N0, rfl⟩
theorem own_eq4 (x0 x1 x2 x3 : Int32) : (if (((((0 : Int32) ||| x0) ||| x1) ||| x2) ||| x3) = 0 then (1 : Int32) else (0 : Int32)) = (if x0 = 0 then (if x1 = 0 then (if x2 = 0 then (if x3 = 0 then (1 : Int32) else (0 : Int32)) else (0 : Int32)) else (0 : Int32)) else (0 : Int32)) := by
  have z : (0 : Int32) = 0 ↔ True := by simp
  simp only [own_or, z, true_and]
  all_goals (by_cases q0 : x0 = 0 <;> by_cases q1 : x1 = 0 <;> by_cases q2 : x2 = 0 <;> by_cases q3 : x3 = 0 <;> simp [*])
theorem pn_0 : plainName "com/example/whorl/whorl/PrimeFieldIsZeroPinLaw" = true := by first | (simp [plainName, overriddenIn]; done) | decide +kernel
theorem pd_0_0 : parseMethodDescriptor "([I)Z" = some ⟨[(.array .int)], some .boolean⟩ := by decide +kernel
theorem ef_0 (m : MethodId) (p0 : Int32) (p1 : Int32) (p2 : Int32) (p3 : Int32) (p4 : Int32) (p5 : Int32) : entryFrame m #[(.int p0), (.int p1), (.int p2), (.int p3), (.int p4), (.int p5)] maxLocals = mkF m 0 #[.val (.int p0), .val (.int p1), .val (.int p2), .val (.int p3), .val (.int p4), .val (.int p5), .unset, .unset, .unset, .unset, .unset, .unset, .unset] [] := by first | (simp [entryFrame, mkF, argsToLocals, Value.category, maxLocals]; done) | rfl
def Q0 (Z : State) (p0 : Int32) (p1 : Int32) (p2 : Int32) (p3 : Int32) (p4 : Int32) (p5 : Int32) (h0 : Heap) (n0 : Nat) (v : Option Value) (h : Heap) (L : List Loc) : Prop := v = some (.int 1) ∧ Fr n0 L
set_option maxRecDepth 65536 in
set_option maxHeartbeats 40000000 in
theorem rm0 (l : Launch) (Z : State) (a0 : Array Value) (hw : ∀ d ∈ tables_1, d.before a0 Z = true) (ws : List Jvm.Cond) (p0 : Int32) (p1 : Int32) (p2 : Int32) (p3 : Int32) (p4 : Int32) (p5 : Int32) (h0 : Heap) (n0 : Nat) (Z0 : n0 ≤ h0.size) :
    MetFree l x (head1 (Jvm.Cond.code x code maxLocals ret :: ws) room_1) (fun a U => a = #[(.int p0), (.int p1), (.int p2), (.int p3), (.int p4), (.int p5)] ∧ Z.Warmed39 U.vm ∧ U.heap = h0) (fun _ _ _ _ _ => True) (fun _ U o U' => ∃ v L, o = .returned v ∧ Q0 Z p0 p1 p2 p3 p4 p5 h0 n0 v U'.heap L ∧ FrameEnd U o U' L room_1.cells room_1.slots) := by
  refine MetFree.of_bodySF (plainFor_of_name pn_0) hisR ?_
  intro p e s m args below meth c s₁ Bd hml0 hP hK
  obtain ⟨rfl, hZ, hh⟩ := hP
  have hx := Bd.exec
  have hby := Bd.bytes
  have hml : c.maxLocals = 13 := hml0
  have hown : s.vm.findClass "com/example/whorl/whorl/PrimeFieldIsZeroPinLaw" = some m.cls := findClass_of_methodNamed Bd.named
  have hnm := (name_of_methodNamed Bd.named Bd.method).1
  have X0 : Stand p l e room_1 s m #[(.int p0), (.int p1), (.int p2), (.int p3), (.int p4), (.int p5)] below meth c s₁ [] 0 0 := Stand.of_body Bd
  have e0 : s₁.heap = h0 := by rw [← hh, Bd.state]; rfl
  have N0 := Fr.nil n0
  have K0 : ∀ t, Steps p.tables e below (s₁.setTop (mkF m 0 #[.val (.int p0), .val (.int p1), .val (.int p2), .val (.int p3), .val (.int p4), .val (.int p5), .unset, .unset, .unset, .unset, .unset, .unset, .unset] [])) t → Steps p.tables e below (s₁.setTop (entryFrame m #[(.int p0), (.int p1), (.int p2), (.int p3), (.int p4), (.int p5)] maxLocals)) t := fun t k => castTop (ef_0 m p0 p1 p2 p3 p4 p5) k
  generalize s₁.setTop (entryFrame m #[(.int p0), (.int p1), (.int p2), (.int p3), (.int p4), (.int p5)] maxLocals) = SE at K0 ⊢
  have K1 : ∀ t, own_S p e below s₁ (mkF m 8 #[.val (.int p0), .val (.int p1), .val (.int p2), .val (.int p3), .val (.int p4), .val (.int p5), .val (.int ((p0 &&& (2147483647 : Int32)) % (5 : Int32))), .unset, .unset, .unset, .unset, .unset, .unset] []) t → Steps p.tables e below SE t := by
    intro t k
    refine K0 _ ?_
    refine XS.iloadN X0.here hx rfl (hb hby at_0) rfl ?_
    show own_S p e below s₁ (mkF m 1 #[.val (.int p0), .val (.int p1), .val (.int p2), .val (.int p3), .val (.int p4), .val (.int p5), .unset, .unset, .unset, .unset, .unset, .unset, .unset] [(.int p0)]) _
    refine Stand.ldcI X0 hx hown (mvT hZ (hw _ (List.mem_of_getElem? (i := 0) rfl))) (v := (2147483647 : Int32)) (g := (mkF m 1 #[.val (.int p0), .val (.int p1), .val (.int p2), .val (.int p3), .val (.int p4), .val (.int p5), .unset, .unset, .unset, .unset, .unset, .unset, .unset] [(.int p0)])) rfl (hb hby at_1) ?_
    show own_S p e below s₁ (mkF m 3 #[.val (.int p0), .val (.int p1), .val (.int p2), .val (.int p3), .val (.int p4), .val (.int p5), .unset, .unset, .unset, .unset, .unset, .unset, .unset] [(.int (2147483647 : Int32)), (.int p0)]) _
    refine XS.iand X0.here hx rfl (hb hby at_3) rfl ?_
    show own_S p e below s₁ (mkF m 4 #[.val (.int p0), .val (.int p1), .val (.int p2), .val (.int p3), .val (.int p4), .val (.int p5), .unset, .unset, .unset, .unset, .unset, .unset, .unset] [(.int (p0 &&& (2147483647 : Int32)))]) _
    refine XS.iconst X0.here hx rfl (hb hby at_4) ?_
    show own_S p e below s₁ (mkF m 5 #[.val (.int p0), .val (.int p1), .val (.int p2), .val (.int p3), .val (.int p4), .val (.int p5), .unset, .unset, .unset, .unset, .unset, .unset, .unset] [(.int (5 : Int32)), (.int (p0 &&& (2147483647 : Int32)))]) _
    refine iremM X0 hx rfl (hb hby at_5) rfl (by decide) ?_
    show own_S p e below s₁ (mkF m 6 #[.val (.int p0), .val (.int p1), .val (.int p2), .val (.int p3), .val (.int p4), .val (.int p5), .unset, .unset, .unset, .unset, .unset, .unset, .unset] [(.int ((p0 &&& (2147483647 : Int32)) % (5 : Int32)))]) _
    refine XS.istore X0.here hx rfl (hb hby at_6) rfl (l' := #[.val (.int p0), .val (.int p1), .val (.int p2), .val (.int p3), .val (.int p4), .val (.int p5), .val (.int ((p0 &&& (2147483647 : Int32)) % (5 : Int32))), .unset, .unset, .unset, .unset, .unset, .unset]) rfl ?_
    exact k
  obtain ⟨nLen, hnLen⟩ : ∃ z : Int32, z = ((p0 &&& (2147483647 : Int32)) % (5 : Int32)) := ⟨_, rfl⟩
  rw [← hnLen] at K1
  obtain ⟨y0, hy0, K3⟩ : ∃ y0 : Int32, y0 = (if (p1 &&& (1 : Int32)) = 0 then p2 else (0 : Int32)) ∧ ∀ t, own_S p e below s₁ (mkF m 19 #[.val (.int p0), .val (.int p1), .val (.int p2), .val (.int p3), .val (.int p4), .val (.int p5), .val (.int nLen), .unset, .unset, .unset, .unset, .unset, .unset] [(.int y0)]) t → Steps p.tables e below SE t := by
    have K5 : ∀ t, own_S p e below s₁ (mkF m 11 #[.val (.int p0), .val (.int p1), .val (.int p2), .val (.int p3), .val (.int p4), .val (.int p5), .val (.int nLen), .unset, .unset, .unset, .unset, .unset, .unset] [(.int (p1 &&& (1 : Int32)))]) t → Steps p.tables e below SE t := by
      intro t k
      refine K1 _ ?_
      refine XS.iloadN X0.here hx rfl (hb hby at_8) rfl ?_
      show own_S p e below s₁ (mkF m 9 #[.val (.int p0), .val (.int p1), .val (.int p2), .val (.int p3), .val (.int p4), .val (.int p5), .val (.int nLen), .unset, .unset, .unset, .unset, .unset, .unset] [(.int p1)]) _
      refine XS.iconst X0.here hx rfl (hb hby at_9) ?_
      show own_S p e below s₁ (mkF m 10 #[.val (.int p0), .val (.int p1), .val (.int p2), .val (.int p3), .val (.int p4), .val (.int p5), .val (.int nLen), .unset, .unset, .unset, .unset, .unset, .unset] [(.int (1 : Int32)), (.int p1)]) _
      refine XS.iand X0.here hx rfl (hb hby at_10) rfl ?_
      exact k
    by_cases c11_4 : (p1 &&& (1 : Int32)) = 0
    · skip
      have K6 : ∀ t, own_S p e below s₁ (mkF m 19 #[.val (.int p0), .val (.int p1), .val (.int p2), .val (.int p3), .val (.int p4), .val (.int p5), .val (.int nLen), .unset, .unset, .unset, .unset, .unset, .unset] [(.int p2)]) t → Steps p.tables e below SE t := by
        intro t k
        refine K5 _ ?_
        refine XS.ifYes X0.here hx rfl (pc0 := 11) (pc' := 18) rfl (hb hby at_11) rfl (XT.i0_eq_t c11_4) (by decide) (by decide) ?_
        show own_S p e below s₁ (mkF m 18 #[.val (.int p0), .val (.int p1), .val (.int p2), .val (.int p3), .val (.int p4), .val (.int p5), .val (.int nLen), .unset, .unset, .unset, .unset, .unset, .unset] []) _
        refine XS.iloadN X0.here hx rfl (hb hby at_18) rfl ?_
        exact k
      exact ⟨p2, (by simp only [if_pos c11_4]), K6⟩
    · skip
      have K7 : ∀ t, own_S p e below s₁ (mkF m 19 #[.val (.int p0), .val (.int p1), .val (.int p2), .val (.int p3), .val (.int p4), .val (.int p5), .val (.int nLen), .unset, .unset, .unset, .unset, .unset, .unset] [(.int (0 : Int32))]) t → Steps p.tables e below SE t := by
        intro t k
        refine K5 _ ?_
        refine XS.ifNo X0.here hx rfl (hb hby at_11) rfl (XT.i0_eq_f c11_4) ?_
        show own_S p e below s₁ (mkF m 14 #[.val (.int p0), .val (.int p1), .val (.int p2), .val (.int p3), .val (.int p4), .val (.int p5), .val (.int nLen), .unset, .unset, .unset, .unset, .unset, .unset] []) _
        refine XS.iconst X0.here hx rfl (hb hby at_14) ?_
        show own_S p e below s₁ (mkF m 15 #[.val (.int p0), .val (.int p1), .val (.int p2), .val (.int p3), .val (.int p4), .val (.int p5), .val (.int nLen), .unset, .unset, .unset, .unset, .unset, .unset] [(.int (0 : Int32))]) _
        refine XS.goto X0.here hx rfl (pc0 := 15) (pc' := 19) rfl (hb hby at_15) (by decide) (by decide) ?_
        exact k
      exact ⟨(0 : Int32), (by simp only [if_neg c11_4]), K7⟩
  obtain ⟨y1, hy1, K9⟩ : ∃ y1 : Int32, y1 = (if (p1 &&& (2 : Int32)) = 0 then p3 else (0 : Int32)) ∧ ∀ t, own_S p e below s₁ (mkF m 32 #[.val (.int p0), .val (.int p1), .val (.int p2), .val (.int p3), .val (.int p4), .val (.int p5), .val (.int nLen), .val (.int y0), .unset, .unset, .unset, .unset, .unset] [(.int y1)]) t → Steps p.tables e below SE t := by
    have K11 : ∀ t, own_S p e below s₁ (mkF m 24 #[.val (.int p0), .val (.int p1), .val (.int p2), .val (.int p3), .val (.int p4), .val (.int p5), .val (.int nLen), .val (.int y0), .unset, .unset, .unset, .unset, .unset] [(.int (p1 &&& (2 : Int32)))]) t → Steps p.tables e below SE t := by
      intro t k
      refine K3 _ ?_
      refine XS.istore X0.here hx rfl (hb hby at_19) rfl (l' := #[.val (.int p0), .val (.int p1), .val (.int p2), .val (.int p3), .val (.int p4), .val (.int p5), .val (.int nLen), .val (.int y0), .unset, .unset, .unset, .unset, .unset]) rfl ?_
      show own_S p e below s₁ (mkF m 21 #[.val (.int p0), .val (.int p1), .val (.int p2), .val (.int p3), .val (.int p4), .val (.int p5), .val (.int nLen), .val (.int y0), .unset, .unset, .unset, .unset, .unset] []) _
      refine XS.iloadN X0.here hx rfl (hb hby at_21) rfl ?_
      show own_S p e below s₁ (mkF m 22 #[.val (.int p0), .val (.int p1), .val (.int p2), .val (.int p3), .val (.int p4), .val (.int p5), .val (.int nLen), .val (.int y0), .unset, .unset, .unset, .unset, .unset] [(.int p1)]) _
      refine XS.iconst X0.here hx rfl (hb hby at_22) ?_
      show own_S p e below s₁ (mkF m 23 #[.val (.int p0), .val (.int p1), .val (.int p2), .val (.int p3), .val (.int p4), .val (.int p5), .val (.int nLen), .val (.int y0), .unset, .unset, .unset, .unset, .unset] [(.int (2 : Int32)), (.int p1)]) _
      refine XS.iand X0.here hx rfl (hb hby at_23) rfl ?_
      exact k
    by_cases c24_10 : (p1 &&& (2 : Int32)) = 0
    · skip
      have K12 : ∀ t, own_S p e below s₁ (mkF m 32 #[.val (.int p0), .val (.int p1), .val (.int p2), .val (.int p3), .val (.int p4), .val (.int p5), .val (.int nLen), .val (.int y0), .unset, .unset, .unset, .unset, .unset] [(.int p3)]) t → Steps p.tables e below SE t := by
        intro t k
        refine K11 _ ?_
        refine XS.ifYes X0.here hx rfl (pc0 := 24) (pc' := 31) rfl (hb hby at_24) rfl (XT.i0_eq_t c24_10) (by decide) (by decide) ?_
        show own_S p e below s₁ (mkF m 31 #[.val (.int p0), .val (.int p1), .val (.int p2), .val (.int p3), .val (.int p4), .val (.int p5), .val (.int nLen), .val (.int y0), .unset, .unset, .unset, .unset, .unset] []) _
        refine XS.iloadN X0.here hx rfl (hb hby at_31) rfl ?_
        exact k
      exact ⟨p3, (by simp only [if_pos c24_10]), K12⟩
    · skip
      have K13 : ∀ t, own_S p e below s₁ (mkF m 32 #[.val (.int p0), .val (.int p1), .val (.int p2), .val (.int p3), .val (.int p4), .val (.int p5), .val (.int nLen), .val (.int y0), .unset, .unset, .unset, .unset, .unset] [(.int (0 : Int32))]) t → Steps p.tables e below SE t := by
        intro t k
        refine K11 _ ?_
        refine XS.ifNo X0.here hx rfl (hb hby at_24) rfl (XT.i0_eq_f c24_10) ?_
        show own_S p e below s₁ (mkF m 27 #[.val (.int p0), .val (.int p1), .val (.int p2), .val (.int p3), .val (.int p4), .val (.int p5), .val (.int nLen), .val (.int y0), .unset, .unset, .unset, .unset, .unset] []) _
        refine XS.iconst X0.here hx rfl (hb hby at_27) ?_
        show own_S p e below s₁ (mkF m 28 #[.val (.int p0), .val (.int p1), .val (.int p2), .val (.int p3), .val (.int p4), .val (.int p5), .val (.int nLen), .val (.int y0), .unset, .unset, .unset, .unset, .unset] [(.int (0 : Int32))]) _
        refine XS.goto X0.here hx rfl (pc0 := 28) (pc' := 32) rfl (hb hby at_28) (by decide) (by decide) ?_
        exact k
      exact ⟨(0 : Int32), (by simp only [if_neg c24_10]), K13⟩
  obtain ⟨y2, hy2, K15⟩ : ∃ y2 : Int32, y2 = (if (p1 &&& (4 : Int32)) = 0 then p4 else (0 : Int32)) ∧ ∀ t, own_S p e below s₁ (mkF m 46 #[.val (.int p0), .val (.int p1), .val (.int p2), .val (.int p3), .val (.int p4), .val (.int p5), .val (.int nLen), .val (.int y0), .val (.int y1), .unset, .unset, .unset, .unset] [(.int y2)]) t → Steps p.tables e below SE t := by
    have K17 : ∀ t, own_S p e below s₁ (mkF m 37 #[.val (.int p0), .val (.int p1), .val (.int p2), .val (.int p3), .val (.int p4), .val (.int p5), .val (.int nLen), .val (.int y0), .val (.int y1), .unset, .unset, .unset, .unset] [(.int (p1 &&& (4 : Int32)))]) t → Steps p.tables e below SE t := by
      intro t k
      refine K9 _ ?_
      refine XS.istore X0.here hx rfl (hb hby at_32) rfl (l' := #[.val (.int p0), .val (.int p1), .val (.int p2), .val (.int p3), .val (.int p4), .val (.int p5), .val (.int nLen), .val (.int y0), .val (.int y1), .unset, .unset, .unset, .unset]) rfl ?_
      show own_S p e below s₁ (mkF m 34 #[.val (.int p0), .val (.int p1), .val (.int p2), .val (.int p3), .val (.int p4), .val (.int p5), .val (.int nLen), .val (.int y0), .val (.int y1), .unset, .unset, .unset, .unset] []) _
      refine XS.iloadN X0.here hx rfl (hb hby at_34) rfl ?_
      show own_S p e below s₁ (mkF m 35 #[.val (.int p0), .val (.int p1), .val (.int p2), .val (.int p3), .val (.int p4), .val (.int p5), .val (.int nLen), .val (.int y0), .val (.int y1), .unset, .unset, .unset, .unset] [(.int p1)]) _
      refine XS.iconst X0.here hx rfl (hb hby at_35) ?_
      show own_S p e below s₁ (mkF m 36 #[.val (.int p0), .val (.int p1), .val (.int p2), .val (.int p3), .val (.int p4), .val (.int p5), .val (.int nLen), .val (.int y0), .val (.int y1), .unset, .unset, .unset, .unset] [(.int (4 : Int32)), (.int p1)]) _
      refine XS.iand X0.here hx rfl (hb hby at_36) rfl ?_
      exact k
    by_cases c37_16 : (p1 &&& (4 : Int32)) = 0
    · skip
      have K18 : ∀ t, own_S p e below s₁ (mkF m 46 #[.val (.int p0), .val (.int p1), .val (.int p2), .val (.int p3), .val (.int p4), .val (.int p5), .val (.int nLen), .val (.int y0), .val (.int y1), .unset, .unset, .unset, .unset] [(.int p4)]) t → Steps p.tables e below SE t := by
        intro t k
        refine K17 _ ?_
        refine XS.ifYes X0.here hx rfl (pc0 := 37) (pc' := 44) rfl (hb hby at_37) rfl (XT.i0_eq_t c37_16) (by decide) (by decide) ?_
        show own_S p e below s₁ (mkF m 44 #[.val (.int p0), .val (.int p1), .val (.int p2), .val (.int p3), .val (.int p4), .val (.int p5), .val (.int nLen), .val (.int y0), .val (.int y1), .unset, .unset, .unset, .unset] []) _
        refine XS.iload X0.here hx rfl (hb hby at_44) rfl ?_
        exact k
      exact ⟨p4, (by simp only [if_pos c37_16]), K18⟩
    · skip
      have K19 : ∀ t, own_S p e below s₁ (mkF m 46 #[.val (.int p0), .val (.int p1), .val (.int p2), .val (.int p3), .val (.int p4), .val (.int p5), .val (.int nLen), .val (.int y0), .val (.int y1), .unset, .unset, .unset, .unset] [(.int (0 : Int32))]) t → Steps p.tables e below SE t := by
        intro t k
        refine K17 _ ?_
        refine XS.ifNo X0.here hx rfl (hb hby at_37) rfl (XT.i0_eq_f c37_16) ?_
        show own_S p e below s₁ (mkF m 40 #[.val (.int p0), .val (.int p1), .val (.int p2), .val (.int p3), .val (.int p4), .val (.int p5), .val (.int nLen), .val (.int y0), .val (.int y1), .unset, .unset, .unset, .unset] []) _
        refine XS.iconst X0.here hx rfl (hb hby at_40) ?_
        show own_S p e below s₁ (mkF m 41 #[.val (.int p0), .val (.int p1), .val (.int p2), .val (.int p3), .val (.int p4), .val (.int p5), .val (.int nLen), .val (.int y0), .val (.int y1), .unset, .unset, .unset, .unset] [(.int (0 : Int32))]) _
        refine XS.goto X0.here hx rfl (pc0 := 41) (pc' := 46) rfl (hb hby at_41) (by decide) (by decide) ?_
        exact k
      exact ⟨(0 : Int32), (by simp only [if_neg c37_16]), K19⟩
  obtain ⟨y3, hy3, K21⟩ : ∃ y3 : Int32, y3 = (if (p1 &&& (8 : Int32)) = 0 then p5 else (0 : Int32)) ∧ ∀ t, own_S p e below s₁ (mkF m 61 #[.val (.int p0), .val (.int p1), .val (.int p2), .val (.int p3), .val (.int p4), .val (.int p5), .val (.int nLen), .val (.int y0), .val (.int y1), .val (.int y2), .unset, .unset, .unset] [(.int y3)]) t → Steps p.tables e below SE t := by
    have K23 : ∀ t, own_S p e below s₁ (mkF m 52 #[.val (.int p0), .val (.int p1), .val (.int p2), .val (.int p3), .val (.int p4), .val (.int p5), .val (.int nLen), .val (.int y0), .val (.int y1), .val (.int y2), .unset, .unset, .unset] [(.int (p1 &&& (8 : Int32)))]) t → Steps p.tables e below SE t := by
      intro t k
      refine K15 _ ?_
      refine XS.istore X0.here hx rfl (hb hby at_46) rfl (l' := #[.val (.int p0), .val (.int p1), .val (.int p2), .val (.int p3), .val (.int p4), .val (.int p5), .val (.int nLen), .val (.int y0), .val (.int y1), .val (.int y2), .unset, .unset, .unset]) rfl ?_
      show own_S p e below s₁ (mkF m 48 #[.val (.int p0), .val (.int p1), .val (.int p2), .val (.int p3), .val (.int p4), .val (.int p5), .val (.int nLen), .val (.int y0), .val (.int y1), .val (.int y2), .unset, .unset, .unset] []) _
      refine XS.iloadN X0.here hx rfl (hb hby at_48) rfl ?_
      show own_S p e below s₁ (mkF m 49 #[.val (.int p0), .val (.int p1), .val (.int p2), .val (.int p3), .val (.int p4), .val (.int p5), .val (.int nLen), .val (.int y0), .val (.int y1), .val (.int y2), .unset, .unset, .unset] [(.int p1)]) _
      refine XS.bipush X0.here hx rfl (hb hby at_49) ?_
      show own_S p e below s₁ (mkF m 51 #[.val (.int p0), .val (.int p1), .val (.int p2), .val (.int p3), .val (.int p4), .val (.int p5), .val (.int nLen), .val (.int y0), .val (.int y1), .val (.int y2), .unset, .unset, .unset] [(.int (8 : Int32)), (.int p1)]) _
      refine XS.iand X0.here hx rfl (hb hby at_51) rfl ?_
      exact k
    by_cases c52_22 : (p1 &&& (8 : Int32)) = 0
    · skip
      have K24 : ∀ t, own_S p e below s₁ (mkF m 61 #[.val (.int p0), .val (.int p1), .val (.int p2), .val (.int p3), .val (.int p4), .val (.int p5), .val (.int nLen), .val (.int y0), .val (.int y1), .val (.int y2), .unset, .unset, .unset] [(.int p5)]) t → Steps p.tables e below SE t := by
        intro t k
        refine K23 _ ?_
        refine XS.ifYes X0.here hx rfl (pc0 := 52) (pc' := 59) rfl (hb hby at_52) rfl (XT.i0_eq_t c52_22) (by decide) (by decide) ?_
        show own_S p e below s₁ (mkF m 59 #[.val (.int p0), .val (.int p1), .val (.int p2), .val (.int p3), .val (.int p4), .val (.int p5), .val (.int nLen), .val (.int y0), .val (.int y1), .val (.int y2), .unset, .unset, .unset] []) _
        refine XS.iload X0.here hx rfl (hb hby at_59) rfl ?_
        exact k
      exact ⟨p5, (by simp only [if_pos c52_22]), K24⟩
    · skip
      have K25 : ∀ t, own_S p e below s₁ (mkF m 61 #[.val (.int p0), .val (.int p1), .val (.int p2), .val (.int p3), .val (.int p4), .val (.int p5), .val (.int nLen), .val (.int y0), .val (.int y1), .val (.int y2), .unset, .unset, .unset] [(.int (0 : Int32))]) t → Steps p.tables e below SE t := by
        intro t k
        refine K23 _ ?_
        refine XS.ifNo X0.here hx rfl (hb hby at_52) rfl (XT.i0_eq_f c52_22) ?_
        show own_S p e below s₁ (mkF m 55 #[.val (.int p0), .val (.int p1), .val (.int p2), .val (.int p3), .val (.int p4), .val (.int p5), .val (.int nLen), .val (.int y0), .val (.int y1), .val (.int y2), .unset, .unset, .unset] []) _
        refine XS.iconst X0.here hx rfl (hb hby at_55) ?_
        show own_S p e below s₁ (mkF m 56 #[.val (.int p0), .val (.int p1), .val (.int p2), .val (.int p3), .val (.int p4), .val (.int p5), .val (.int nLen), .val (.int y0), .val (.int y1), .val (.int y2), .unset, .unset, .unset] [(.int (0 : Int32))]) _
        refine XS.goto X0.here hx rfl (pc0 := 56) (pc' := 61) rfl (hb hby at_56) (by decide) (by decide) ?_
        exact k
      exact ⟨(0 : Int32), (by simp only [if_neg c52_22]), K25⟩
  have K26 : ∀ t, own_S p e below s₁ (mkF m 63 #[.val (.int p0), .val (.int p1), .val (.int p2), .val (.int p3), .val (.int p4), .val (.int p5), .val (.int nLen), .val (.int y0), .val (.int y1), .val (.int y2), .val (.int y3), .unset, .unset] []) t → Steps p.tables e below SE t := by
    intro t k
    refine K21 _ ?_
    refine XS.istore X0.here hx rfl (hb hby at_61) rfl (l' := #[.val (.int p0), .val (.int p1), .val (.int p2), .val (.int p3), .val (.int p4), .val (.int p5), .val (.int nLen), .val (.int y0), .val (.int y1), .val (.int y2), .val (.int y3), .unset, .unset]) rfl ?_
    exact k
  rcases own_n5 p0 nLen hnLen with q | q | q | q | q
  · skip
    rw [q] at K26
    have K27 : ∀ t, own_S p e below s₁ (mkF m 69 #[.val (.int p0), .val (.int p1), .val (.int p2), .val (.int p3), .val (.int p4), .val (.int p5), .val (.int (0 : Int32)), .val (.int y0), .val (.int y1), .val (.int y2), .val (.int y3), .unset, .unset] [(.int (0 : Int32))]) t → Steps p.tables e below SE t := by
      intro t k
      refine K26 _ ?_
      refine XS.iload X0.here hx rfl (hb hby at_63) rfl ?_
      show own_S p e below s₁ (mkF m 65 #[.val (.int p0), .val (.int p1), .val (.int p2), .val (.int p3), .val (.int p4), .val (.int p5), .val (.int (0 : Int32)), .val (.int y0), .val (.int y1), .val (.int y2), .val (.int y3), .unset, .unset] [(.int (0 : Int32))]) _
      refine XS.ifNo X0.here hx rfl (hb hby at_65) rfl (XT.i0_ne_f (by decide : (0 : Int32) = 0)) ?_
      show own_S p e below s₁ (mkF m 68 #[.val (.int p0), .val (.int p1), .val (.int p2), .val (.int p3), .val (.int p4), .val (.int p5), .val (.int (0 : Int32)), .val (.int y0), .val (.int y1), .val (.int y2), .val (.int y3), .unset, .unset] []) _
      refine XS.iconst X0.here hx rfl (hb hby at_68) ?_
      exact k
    obtain ⟨T28, h28, k28, X28, e28, E28, A28, st28⟩ := newP X0 hx hZ (hw _ (List.mem_of_getElem? (i := 1) rfl)) e0 (g := (mkF m 69 #[.val (.int p0), .val (.int p1), .val (.int p2), .val (.int p3), .val (.int p4), .val (.int p5), .val (.int (0 : Int32)), .val (.int y0), .val (.int y1), .val (.int y2), .val (.int y3), .unset, .unset] [(.int (0 : Int32))])) rfl (hb hby at_69) rfl (by decide) (cap := 0) (by decide) (by decide) (by decide) (by decide)
    obtain ⟨b28, g28⟩ : ∃ z, z = h0.size := ⟨_, rfl⟩
    rw [← g28] at A28 st28
    have g_b28 : n0 ≤ b28 := Nat.le_trans Z0 (Nat.le_of_eq g28.symm)
    have sz_b28 : h0.size ≤ b28 := Nat.le_trans (Nat.le_refl _) (Nat.le_of_eq g28.symm)
    have Kp28 : Keep h0 h28 [] := Keep.ext (Keep.refl h0 []) E28
    have V28 : Arv Z h28 b28 k28 .int (0 : Int32) [] (.int (0 : Int32)) := (Arv.new A28 (by decide)).pad (pad_rep [] (.int (0 : Int32)) 0)
    have K28 : ∀ t, own_S p e below T28 (mkF m 71 #[.val (.int p0), .val (.int p1), .val (.int p2), .val (.int p3), .val (.int p4), .val (.int p5), .val (.int (0 : Int32)), .val (.int y0), .val (.int y1), .val (.int y2), .val (.int y3), .unset, .unset] [(.ref b28)]) t → Steps p.tables e below SE t := fun t k => K27 _ (st28 _ k)
    have K29 : ∀ t, own_S p e below T28 (mkF m 226 #[.val (.int p0), .val (.int p1), .val (.int p2), .val (.int p3), .val (.int p4), .val (.int p5), .val (.int (0 : Int32)), .val (.int y0), .val (.int y1), .val (.int y2), .val (.int y3), .val (.ref b28), .val (.int (1 : Int32))] [(.ref b28)]) t → Steps p.tables e below SE t := by
      intro t k
      refine K28 _ ?_
      refine XS.astore X28.here hx rfl (hb hby at_71) rfl rfl (l' := #[.val (.int p0), .val (.int p1), .val (.int p2), .val (.int p3), .val (.int p4), .val (.int p5), .val (.int (0 : Int32)), .val (.int y0), .val (.int y1), .val (.int y2), .val (.int y3), .val (.ref b28), .unset]) rfl ?_
      show own_S p e below T28 (mkF m 73 #[.val (.int p0), .val (.int p1), .val (.int p2), .val (.int p3), .val (.int p4), .val (.int p5), .val (.int (0 : Int32)), .val (.int y0), .val (.int y1), .val (.int y2), .val (.int y3), .val (.ref b28), .unset] []) _
      refine XS.goto X28.here hx rfl (pc0 := 73) (pc' := 173) rfl (hb hby at_73) (by decide) (by decide) ?_
      show own_S p e below T28 (mkF m 173 #[.val (.int p0), .val (.int p1), .val (.int p2), .val (.int p3), .val (.int p4), .val (.int p5), .val (.int (0 : Int32)), .val (.int y0), .val (.int y1), .val (.int y2), .val (.int y3), .val (.ref b28), .unset] []) _
      refine XS.iload X28.here hx rfl (hb hby at_173) rfl ?_
      show own_S p e below T28 (mkF m 175 #[.val (.int p0), .val (.int p1), .val (.int p2), .val (.int p3), .val (.int p4), .val (.int p5), .val (.int (0 : Int32)), .val (.int y0), .val (.int y1), .val (.int y2), .val (.int y3), .val (.ref b28), .unset] [(.int (0 : Int32))]) _
      refine XS.iconst X28.here hx rfl (hb hby at_175) ?_
      show own_S p e below T28 (mkF m 176 #[.val (.int p0), .val (.int p1), .val (.int p2), .val (.int p3), .val (.int p4), .val (.int p5), .val (.int (0 : Int32)), .val (.int y0), .val (.int y1), .val (.int y2), .val (.int y3), .val (.ref b28), .unset] [(.int (1 : Int32)), (.int (0 : Int32))]) _
      refine XS.icmpYes X28.here hx rfl (pc0 := 176) (pc' := 184) rfl (hb hby at_176) rfl (XT.ii_lt_t (by decide : (0 : Int32) < (1 : Int32))) (by decide) (by decide) ?_
      show own_S p e below T28 (mkF m 184 #[.val (.int p0), .val (.int p1), .val (.int p2), .val (.int p3), .val (.int p4), .val (.int p5), .val (.int (0 : Int32)), .val (.int y0), .val (.int y1), .val (.int y2), .val (.int y3), .val (.ref b28), .unset] []) _
      refine XS.iload X28.here hx rfl (hb hby at_184) rfl ?_
      show own_S p e below T28 (mkF m 186 #[.val (.int p0), .val (.int p1), .val (.int p2), .val (.int p3), .val (.int p4), .val (.int p5), .val (.int (0 : Int32)), .val (.int y0), .val (.int y1), .val (.int y2), .val (.int y3), .val (.ref b28), .unset] [(.int (0 : Int32))]) _
      refine XS.iconst X28.here hx rfl (hb hby at_186) ?_
      show own_S p e below T28 (mkF m 187 #[.val (.int p0), .val (.int p1), .val (.int p2), .val (.int p3), .val (.int p4), .val (.int p5), .val (.int (0 : Int32)), .val (.int y0), .val (.int y1), .val (.int y2), .val (.int y3), .val (.ref b28), .unset] [(.int (2 : Int32)), (.int (0 : Int32))]) _
      refine XS.icmpYes X28.here hx rfl (pc0 := 187) (pc' := 195) rfl (hb hby at_187) rfl (XT.ii_lt_t (by decide : (0 : Int32) < (2 : Int32))) (by decide) (by decide) ?_
      show own_S p e below T28 (mkF m 195 #[.val (.int p0), .val (.int p1), .val (.int p2), .val (.int p3), .val (.int p4), .val (.int p5), .val (.int (0 : Int32)), .val (.int y0), .val (.int y1), .val (.int y2), .val (.int y3), .val (.ref b28), .unset] []) _
      refine XS.iload X28.here hx rfl (hb hby at_195) rfl ?_
      show own_S p e below T28 (mkF m 197 #[.val (.int p0), .val (.int p1), .val (.int p2), .val (.int p3), .val (.int p4), .val (.int p5), .val (.int (0 : Int32)), .val (.int y0), .val (.int y1), .val (.int y2), .val (.int y3), .val (.ref b28), .unset] [(.int (0 : Int32))]) _
      refine XS.iconst X28.here hx rfl (hb hby at_197) ?_
      show own_S p e below T28 (mkF m 198 #[.val (.int p0), .val (.int p1), .val (.int p2), .val (.int p3), .val (.int p4), .val (.int p5), .val (.int (0 : Int32)), .val (.int y0), .val (.int y1), .val (.int y2), .val (.int y3), .val (.ref b28), .unset] [(.int (3 : Int32)), (.int (0 : Int32))]) _
      refine XS.icmpYes X28.here hx rfl (pc0 := 198) (pc' := 206) rfl (hb hby at_198) rfl (XT.ii_lt_t (by decide : (0 : Int32) < (3 : Int32))) (by decide) (by decide) ?_
      show own_S p e below T28 (mkF m 206 #[.val (.int p0), .val (.int p1), .val (.int p2), .val (.int p3), .val (.int p4), .val (.int p5), .val (.int (0 : Int32)), .val (.int y0), .val (.int y1), .val (.int y2), .val (.int y3), .val (.ref b28), .unset] []) _
      refine XS.iload X28.here hx rfl (hb hby at_206) rfl ?_
      show own_S p e below T28 (mkF m 208 #[.val (.int p0), .val (.int p1), .val (.int p2), .val (.int p3), .val (.int p4), .val (.int p5), .val (.int (0 : Int32)), .val (.int y0), .val (.int y1), .val (.int y2), .val (.int y3), .val (.ref b28), .unset] [(.int (0 : Int32))]) _
      refine XS.iconst X28.here hx rfl (hb hby at_208) ?_
      show own_S p e below T28 (mkF m 209 #[.val (.int p0), .val (.int p1), .val (.int p2), .val (.int p3), .val (.int p4), .val (.int p5), .val (.int (0 : Int32)), .val (.int y0), .val (.int y1), .val (.int y2), .val (.int y3), .val (.ref b28), .unset] [(.int (4 : Int32)), (.int (0 : Int32))]) _
      refine XS.icmpYes X28.here hx rfl (pc0 := 209) (pc' := 217) rfl (hb hby at_209) rfl (XT.ii_lt_t (by decide : (0 : Int32) < (4 : Int32))) (by decide) (by decide) ?_
      show own_S p e below T28 (mkF m 217 #[.val (.int p0), .val (.int p1), .val (.int p2), .val (.int p3), .val (.int p4), .val (.int p5), .val (.int (0 : Int32)), .val (.int y0), .val (.int y1), .val (.int y2), .val (.int y3), .val (.ref b28), .unset] []) _
      refine XS.iconst X28.here hx rfl (hb hby at_217) ?_
      show own_S p e below T28 (mkF m 218 #[.val (.int p0), .val (.int p1), .val (.int p2), .val (.int p3), .val (.int p4), .val (.int p5), .val (.int (0 : Int32)), .val (.int y0), .val (.int y1), .val (.int y2), .val (.int y3), .val (.ref b28), .unset] [(.int (1 : Int32))]) _
      refine XS.goto X28.here hx rfl (pc0 := 218) (pc' := 222) rfl (hb hby at_218) (by decide) (by decide) ?_
      show own_S p e below T28 (mkF m 222 #[.val (.int p0), .val (.int p1), .val (.int p2), .val (.int p3), .val (.int p4), .val (.int p5), .val (.int (0 : Int32)), .val (.int y0), .val (.int y1), .val (.int y2), .val (.int y3), .val (.ref b28), .unset] [(.int (1 : Int32))]) _
      refine XS.istore X28.here hx rfl (hb hby at_222) rfl (l' := #[.val (.int p0), .val (.int p1), .val (.int p2), .val (.int p3), .val (.int p4), .val (.int p5), .val (.int (0 : Int32)), .val (.int y0), .val (.int y1), .val (.int y2), .val (.int y3), .val (.ref b28), .val (.int (1 : Int32))]) rfl ?_
      show own_S p e below T28 (mkF m 224 #[.val (.int p0), .val (.int p1), .val (.int p2), .val (.int p3), .val (.int p4), .val (.int p5), .val (.int (0 : Int32)), .val (.int y0), .val (.int y1), .val (.int y2), .val (.int y3), .val (.ref b28), .val (.int (1 : Int32))] []) _
      refine XS.aload X28.here hx rfl (hb hby at_224) rfl rfl ?_
      exact k
    obtain ⟨_, _, ⟨T30, L30, k30, n30⟩, -, X30, ⟨Lc30, hQ30, l30, y30, z30⟩, st30⟩ := Jvm.LawKit.callS X28 hx (y := (⟨"com/example/whorl/whorl/PrimeField", "isZero", "([I)Z"⟩ : MethodName)) hown (mvT hZ (hw _ (List.mem_of_getElem? (i := 2) rfl))) (mvT hZ (hw _ (List.mem_of_getElem? (i := 3) rfl))) (mvT hZ (hw _ (List.mem_of_getElem? (i := 4) rfl))) (mvT hZ (hw _ (List.mem_of_getElem? (i := 5) rfl))) (by decide) (backOf (W := 0) (rm1_0 l Z a0 hw [] b28 k28  h28 n0 (Nat.le_trans Z0 Kp28.1) V28) hZ (hw _ (List.mem_of_getElem? (i := 5) rfl)) (hw _ (List.mem_of_getElem? (i := 4) rfl)) (by decide) (by decide)) (g := (mkF m 226 #[.val (.int p0), .val (.int p1), .val (.int p2), .val (.int p3), .val (.int p4), .val (.int p5), .val (.int (0 : Int32)), .val (.int y0), .val (.int y1), .val (.int y2), .val (.int y3), .val (.ref b28), .val (.int (1 : Int32))] [(.ref b28)])) rfl (by rw [hml]; rfl) (argsL := [(.ref b28)]) (rest := []) (lenOf pd_0_0 rfl) rfl (by show 2 * 0 + _ ≤ _; exact Nat.le_of_eq rfl) (hb hby at_226) (fun _ _ => ⟨rfl, e28, (by decide : 1 + 0 ≤ _), (by decide : 0 + 0 ≤ _)⟩)
    dsimp only [Pt.U, Pt.locs, Pt.cells, Pt.slots] at X30 l30 y30 z30 st30 hQ30
    subst l30 y30 z30
    obtain ⟨rfl, Nq30, e30⟩ := hQ30
    have N30 := Fr.app N0 Nq30
    have K30 : ∀ t, own_S p e below T30 (mkF m 229 #[.val (.int p0), .val (.int p1), .val (.int p2), .val (.int p3), .val (.int p4), .val (.int p5), .val (.int (0 : Int32)), .val (.int y0), .val (.int y1), .val (.int y2), .val (.int y3), .val (.ref b28), .val (.int (1 : Int32))] [(.int (1 : Int32))]) t → Steps p.tables e below SE t := fun t k => K29 _ (st30 _ k)
    have K31 : ∀ t, own_S p e below T30 (mkF m 239 #[.val (.int p0), .val (.int p1), .val (.int p2), .val (.int p3), .val (.int p4), .val (.int p5), .val (.int (0 : Int32)), .val (.int y0), .val (.int y1), .val (.int y2), .val (.int y3), .val (.ref b28), .val (.int (1 : Int32))] [(.int (1 : Int32))]) t → Steps p.tables e below SE t := by
      intro t k
      refine K30 _ ?_
      refine XS.iload X30.here hx rfl (hb hby at_229) rfl ?_
      show own_S p e below T30 (mkF m 231 #[.val (.int p0), .val (.int p1), .val (.int p2), .val (.int p3), .val (.int p4), .val (.int p5), .val (.int (0 : Int32)), .val (.int y0), .val (.int y1), .val (.int y2), .val (.int y3), .val (.ref b28), .val (.int (1 : Int32))] [(.int (1 : Int32)), (.int (1 : Int32))]) _
      refine XS.icmpNo X30.here hx rfl (hb hby at_231) rfl (XT.ii_ne_f (by decide : (1 : Int32) = (1 : Int32))) ?_
      show own_S p e below T30 (mkF m 234 #[.val (.int p0), .val (.int p1), .val (.int p2), .val (.int p3), .val (.int p4), .val (.int p5), .val (.int (0 : Int32)), .val (.int y0), .val (.int y1), .val (.int y2), .val (.int y3), .val (.ref b28), .val (.int (1 : Int32))] []) _
      refine XS.iconst X30.here hx rfl (hb hby at_234) ?_
      show own_S p e below T30 (mkF m 235 #[.val (.int p0), .val (.int p1), .val (.int p2), .val (.int p3), .val (.int p4), .val (.int p5), .val (.int (0 : Int32)), .val (.int y0), .val (.int y1), .val (.int y2), .val (.int y3), .val (.ref b28), .val (.int (1 : Int32))] [(.int (1 : Int32))]) _
      refine XS.goto X30.here hx rfl (pc0 := 235) (pc' := 239) rfl (hb hby at_235) (by decide) (by decide) ?_
      exact k
    obtain ⟨fs, hr, hrun, hended, hW, hsame⟩ := X30.leave (v := some (.int (1 : Int32))) (fun h => by rw [Bd.returns] at h; cases h)
    refine ⟨_, _, K31 _ ?_, hrun, hended, _, _, rfl, ?_, ⟨_, rfl⟩, hW, hsame.mono (by decide) (by decide)⟩
    · exact retN X30 hx (t := .boolean) Bd.returns (by simp) (hb hby at_239) hr
    · show Q0 Z p0 p1 p2 p3 p4 p5 h0 n0 _ T30.heap _
      rw [e30]
      exact ⟨rfl, N30⟩
  · skip
    rw [q] at K26
    have K32 : ∀ t, own_S p e below s₁ (mkF m 83 #[.val (.int p0), .val (.int p1), .val (.int p2), .val (.int p3), .val (.int p4), .val (.int p5), .val (.int (1 : Int32)), .val (.int y0), .val (.int y1), .val (.int y2), .val (.int y3), .unset, .unset] [(.int (1 : Int32))]) t → Steps p.tables e below SE t := by
      intro t k
      refine K26 _ ?_
      refine XS.iload X0.here hx rfl (hb hby at_63) rfl ?_
      show own_S p e below s₁ (mkF m 65 #[.val (.int p0), .val (.int p1), .val (.int p2), .val (.int p3), .val (.int p4), .val (.int p5), .val (.int (1 : Int32)), .val (.int y0), .val (.int y1), .val (.int y2), .val (.int y3), .unset, .unset] [(.int (1 : Int32))]) _
      refine XS.ifYes X0.here hx rfl (pc0 := 65) (pc' := 76) rfl (hb hby at_65) rfl (XT.i0_ne_t (by decide : ¬ ((1 : Int32) = 0))) (by decide) (by decide) ?_
      show own_S p e below s₁ (mkF m 76 #[.val (.int p0), .val (.int p1), .val (.int p2), .val (.int p3), .val (.int p4), .val (.int p5), .val (.int (1 : Int32)), .val (.int y0), .val (.int y1), .val (.int y2), .val (.int y3), .unset, .unset] []) _
      refine XS.iload X0.here hx rfl (hb hby at_76) rfl ?_
      show own_S p e below s₁ (mkF m 78 #[.val (.int p0), .val (.int p1), .val (.int p2), .val (.int p3), .val (.int p4), .val (.int p5), .val (.int (1 : Int32)), .val (.int y0), .val (.int y1), .val (.int y2), .val (.int y3), .unset, .unset] [(.int (1 : Int32))]) _
      refine XS.iconst X0.here hx rfl (hb hby at_78) ?_
      show own_S p e below s₁ (mkF m 79 #[.val (.int p0), .val (.int p1), .val (.int p2), .val (.int p3), .val (.int p4), .val (.int p5), .val (.int (1 : Int32)), .val (.int y0), .val (.int y1), .val (.int y2), .val (.int y3), .unset, .unset] [(.int (1 : Int32)), (.int (1 : Int32))]) _
      refine XS.icmpNo X0.here hx rfl (hb hby at_79) rfl (XT.ii_ne_f (by decide : (1 : Int32) = (1 : Int32))) ?_
      show own_S p e below s₁ (mkF m 82 #[.val (.int p0), .val (.int p1), .val (.int p2), .val (.int p3), .val (.int p4), .val (.int p5), .val (.int (1 : Int32)), .val (.int y0), .val (.int y1), .val (.int y2), .val (.int y3), .unset, .unset] []) _
      refine XS.iconst X0.here hx rfl (hb hby at_82) ?_
      exact k
    obtain ⟨T33, h33, k33, X33, e33, E33, A33, st33⟩ := newP X0 hx hZ (hw _ (List.mem_of_getElem? (i := 1) rfl)) e0 (g := (mkF m 83 #[.val (.int p0), .val (.int p1), .val (.int p2), .val (.int p3), .val (.int p4), .val (.int p5), .val (.int (1 : Int32)), .val (.int y0), .val (.int y1), .val (.int y2), .val (.int y3), .unset, .unset] [(.int (1 : Int32))])) rfl (hb hby at_83) rfl (by decide) (cap := 1) (by decide) (by decide) (by decide) (by decide)
    obtain ⟨b33, g33⟩ : ∃ z, z = h0.size := ⟨_, rfl⟩
    rw [← g33] at A33 st33
    have g_b33 : n0 ≤ b33 := Nat.le_trans Z0 (Nat.le_of_eq g33.symm)
    have sz_b33 : h0.size ≤ b33 := Nat.le_trans (Nat.le_refl _) (Nat.le_of_eq g33.symm)
    have Kp33 : Keep h0 h33 [] := Keep.ext (Keep.refl h0 []) E33
    have V33 : Arv Z h33 b33 k33 .int (1 : Int32) [(.int (0 : Int32))] (.int (0 : Int32)) := (Arv.new A33 (by decide)).pad (pad_rep [] (.int (0 : Int32)) 1)
    have K33 : ∀ t, own_S p e below T33 (mkF m 85 #[.val (.int p0), .val (.int p1), .val (.int p2), .val (.int p3), .val (.int p4), .val (.int p5), .val (.int (1 : Int32)), .val (.int y0), .val (.int y1), .val (.int y2), .val (.int y3), .unset, .unset] [(.ref b33)]) t → Steps p.tables e below SE t := fun t k => K32 _ (st33 _ k)
    have K34 : ∀ t, own_S p e below T33 (mkF m 89 #[.val (.int p0), .val (.int p1), .val (.int p2), .val (.int p3), .val (.int p4), .val (.int p5), .val (.int (1 : Int32)), .val (.int y0), .val (.int y1), .val (.int y2), .val (.int y3), .unset, .unset] [(.int y0), (.int (0 : Int32)), (.ref b33), (.ref b33)]) t → Steps p.tables e below SE t := by
      intro t k
      refine K33 _ ?_
      refine XS.dup X33.here hx rfl (hb hby at_85) rfl rfl ?_
      show own_S p e below T33 (mkF m 86 #[.val (.int p0), .val (.int p1), .val (.int p2), .val (.int p3), .val (.int p4), .val (.int p5), .val (.int (1 : Int32)), .val (.int y0), .val (.int y1), .val (.int y2), .val (.int y3), .unset, .unset] [(.ref b33), (.ref b33)]) _
      refine XS.iconst X33.here hx rfl (hb hby at_86) ?_
      show own_S p e below T33 (mkF m 87 #[.val (.int p0), .val (.int p1), .val (.int p2), .val (.int p3), .val (.int p4), .val (.int p5), .val (.int (1 : Int32)), .val (.int y0), .val (.int y1), .val (.int y2), .val (.int y3), .unset, .unset] [(.int (0 : Int32)), (.ref b33), (.ref b33)]) _
      refine XS.iload X33.here hx rfl (hb hby at_87) rfl ?_
      exact k
    obtain ⟨cl35, Ar35, qk35, S35, Ng35, Hh35, Gg35⟩ := id V33
    have hin35 : ¬ ((0 : Int32) < 0 ∨ cl35.slots.size ≤ ((0 : Int32)).toNatClampNeg) := inb_of S35 ⟨by decide, by decide⟩
    obtain ⟨T36, h36, X36, e36, W36, st36⟩ := stI X33 hx hZ e33 Ar35 (j := (0 : Int32)) hin35 (g := (mkF m 89 #[.val (.int p0), .val (.int p1), .val (.int p2), .val (.int p3), .val (.int p4), .val (.int p5), .val (.int (1 : Int32)), .val (.int y0), .val (.int y1), .val (.int y2), .val (.int y3), .unset, .unset] [(.int y0), (.int (0 : Int32)), (.ref b33), (.ref b33)])) rfl rfl (hb hby at_89)
    have V36 : Arv Z h36 b33 k33 .int (1 : Int32) [(.int y0)] (.int (0 : Int32)) := Arv.set Ar35 qk35 S35 Ng35 Hh35 Gg35 rfl W36 0 rfl (Nat.le_of_ble_eq_true rfl)
    have N36 := Fr.snoc X36 N0 g_b33
    have Kp36 : Keep h0 h36 [] := Keep.wr Kp33 W36 (Or.inr sz_b33)
    have K36 : ∀ t, own_S p e below T36 (mkF m 90 #[.val (.int p0), .val (.int p1), .val (.int p2), .val (.int p3), .val (.int p4), .val (.int p5), .val (.int (1 : Int32)), .val (.int y0), .val (.int y1), .val (.int y2), .val (.int y3), .unset, .unset] [(.ref b33)]) t → Steps p.tables e below SE t := fun t k => K34 _ (st36 _ k)
    have K38 : ∀ t, own_S p e below T36 (mkF m 173 #[.val (.int p0), .val (.int p1), .val (.int p2), .val (.int p3), .val (.int p4), .val (.int p5), .val (.int (1 : Int32)), .val (.int y0), .val (.int y1), .val (.int y2), .val (.int y3), .val (.ref b33), .unset] []) t → Steps p.tables e below SE t := by
      intro t k
      refine K36 _ ?_
      refine XS.astore X36.here hx rfl (hb hby at_90) rfl rfl (l' := #[.val (.int p0), .val (.int p1), .val (.int p2), .val (.int p3), .val (.int p4), .val (.int p5), .val (.int (1 : Int32)), .val (.int y0), .val (.int y1), .val (.int y2), .val (.int y3), .val (.ref b33), .unset]) rfl ?_
      show own_S p e below T36 (mkF m 92 #[.val (.int p0), .val (.int p1), .val (.int p2), .val (.int p3), .val (.int p4), .val (.int p5), .val (.int (1 : Int32)), .val (.int y0), .val (.int y1), .val (.int y2), .val (.int y3), .val (.ref b33), .unset] []) _
      refine XS.goto X36.here hx rfl (pc0 := 92) (pc' := 173) rfl (hb hby at_92) (by decide) (by decide) ?_
      exact k
    obtain ⟨ex, hex, K39⟩ : ∃ ex : Int32, ex = (if y0 = 0 then (1 : Int32) else (0 : Int32)) ∧ ∀ t, own_S p e below T36 (mkF m 222 #[.val (.int p0), .val (.int p1), .val (.int p2), .val (.int p3), .val (.int p4), .val (.int p5), .val (.int (1 : Int32)), .val (.int y0), .val (.int y1), .val (.int y2), .val (.int y3), .val (.ref b33), .unset] [(.int ex)]) t → Steps p.tables e below SE t := by
      have K41 : ∀ t, own_S p e below T36 (mkF m 181 #[.val (.int p0), .val (.int p1), .val (.int p2), .val (.int p3), .val (.int p4), .val (.int p5), .val (.int (1 : Int32)), .val (.int y0), .val (.int y1), .val (.int y2), .val (.int y3), .val (.ref b33), .unset] [(.int y0)]) t → Steps p.tables e below SE t := by
        intro t k
        refine K38 _ ?_
        refine XS.iload X36.here hx rfl (hb hby at_173) rfl ?_
        show own_S p e below T36 (mkF m 175 #[.val (.int p0), .val (.int p1), .val (.int p2), .val (.int p3), .val (.int p4), .val (.int p5), .val (.int (1 : Int32)), .val (.int y0), .val (.int y1), .val (.int y2), .val (.int y3), .val (.ref b33), .unset] [(.int (1 : Int32))]) _
        refine XS.iconst X36.here hx rfl (hb hby at_175) ?_
        show own_S p e below T36 (mkF m 176 #[.val (.int p0), .val (.int p1), .val (.int p2), .val (.int p3), .val (.int p4), .val (.int p5), .val (.int (1 : Int32)), .val (.int y0), .val (.int y1), .val (.int y2), .val (.int y3), .val (.ref b33), .unset] [(.int (1 : Int32)), (.int (1 : Int32))]) _
        refine XS.icmpNo X36.here hx rfl (hb hby at_176) rfl (XT.ii_lt_f (by decide : ¬ ((1 : Int32) < (1 : Int32)))) ?_
        show own_S p e below T36 (mkF m 179 #[.val (.int p0), .val (.int p1), .val (.int p2), .val (.int p3), .val (.int p4), .val (.int p5), .val (.int (1 : Int32)), .val (.int y0), .val (.int y1), .val (.int y2), .val (.int y3), .val (.ref b33), .unset] []) _
        refine XS.iload X36.here hx rfl (hb hby at_179) rfl ?_
        exact k
      by_cases c181_40 : y0 = 0
      · skip
        have K42 : ∀ t, own_S p e below T36 (mkF m 222 #[.val (.int p0), .val (.int p1), .val (.int p2), .val (.int p3), .val (.int p4), .val (.int p5), .val (.int (1 : Int32)), .val (.int y0), .val (.int y1), .val (.int y2), .val (.int y3), .val (.ref b33), .unset] [(.int (1 : Int32))]) t → Steps p.tables e below SE t := by
          intro t k
          refine K41 _ ?_
          refine XS.ifNo X36.here hx rfl (hb hby at_181) rfl (XT.i0_ne_f c181_40) ?_
          show own_S p e below T36 (mkF m 184 #[.val (.int p0), .val (.int p1), .val (.int p2), .val (.int p3), .val (.int p4), .val (.int p5), .val (.int (1 : Int32)), .val (.int y0), .val (.int y1), .val (.int y2), .val (.int y3), .val (.ref b33), .unset] []) _
          refine XS.iload X36.here hx rfl (hb hby at_184) rfl ?_
          show own_S p e below T36 (mkF m 186 #[.val (.int p0), .val (.int p1), .val (.int p2), .val (.int p3), .val (.int p4), .val (.int p5), .val (.int (1 : Int32)), .val (.int y0), .val (.int y1), .val (.int y2), .val (.int y3), .val (.ref b33), .unset] [(.int (1 : Int32))]) _
          refine XS.iconst X36.here hx rfl (hb hby at_186) ?_
          show own_S p e below T36 (mkF m 187 #[.val (.int p0), .val (.int p1), .val (.int p2), .val (.int p3), .val (.int p4), .val (.int p5), .val (.int (1 : Int32)), .val (.int y0), .val (.int y1), .val (.int y2), .val (.int y3), .val (.ref b33), .unset] [(.int (2 : Int32)), (.int (1 : Int32))]) _
          refine XS.icmpYes X36.here hx rfl (pc0 := 187) (pc' := 195) rfl (hb hby at_187) rfl (XT.ii_lt_t (by decide : (1 : Int32) < (2 : Int32))) (by decide) (by decide) ?_
          show own_S p e below T36 (mkF m 195 #[.val (.int p0), .val (.int p1), .val (.int p2), .val (.int p3), .val (.int p4), .val (.int p5), .val (.int (1 : Int32)), .val (.int y0), .val (.int y1), .val (.int y2), .val (.int y3), .val (.ref b33), .unset] []) _
          refine XS.iload X36.here hx rfl (hb hby at_195) rfl ?_
          show own_S p e below T36 (mkF m 197 #[.val (.int p0), .val (.int p1), .val (.int p2), .val (.int p3), .val (.int p4), .val (.int p5), .val (.int (1 : Int32)), .val (.int y0), .val (.int y1), .val (.int y2), .val (.int y3), .val (.ref b33), .unset] [(.int (1 : Int32))]) _
          refine XS.iconst X36.here hx rfl (hb hby at_197) ?_
          show own_S p e below T36 (mkF m 198 #[.val (.int p0), .val (.int p1), .val (.int p2), .val (.int p3), .val (.int p4), .val (.int p5), .val (.int (1 : Int32)), .val (.int y0), .val (.int y1), .val (.int y2), .val (.int y3), .val (.ref b33), .unset] [(.int (3 : Int32)), (.int (1 : Int32))]) _
          refine XS.icmpYes X36.here hx rfl (pc0 := 198) (pc' := 206) rfl (hb hby at_198) rfl (XT.ii_lt_t (by decide : (1 : Int32) < (3 : Int32))) (by decide) (by decide) ?_
          show own_S p e below T36 (mkF m 206 #[.val (.int p0), .val (.int p1), .val (.int p2), .val (.int p3), .val (.int p4), .val (.int p5), .val (.int (1 : Int32)), .val (.int y0), .val (.int y1), .val (.int y2), .val (.int y3), .val (.ref b33), .unset] []) _
          refine XS.iload X36.here hx rfl (hb hby at_206) rfl ?_
          show own_S p e below T36 (mkF m 208 #[.val (.int p0), .val (.int p1), .val (.int p2), .val (.int p3), .val (.int p4), .val (.int p5), .val (.int (1 : Int32)), .val (.int y0), .val (.int y1), .val (.int y2), .val (.int y3), .val (.ref b33), .unset] [(.int (1 : Int32))]) _
          refine XS.iconst X36.here hx rfl (hb hby at_208) ?_
          show own_S p e below T36 (mkF m 209 #[.val (.int p0), .val (.int p1), .val (.int p2), .val (.int p3), .val (.int p4), .val (.int p5), .val (.int (1 : Int32)), .val (.int y0), .val (.int y1), .val (.int y2), .val (.int y3), .val (.ref b33), .unset] [(.int (4 : Int32)), (.int (1 : Int32))]) _
          refine XS.icmpYes X36.here hx rfl (pc0 := 209) (pc' := 217) rfl (hb hby at_209) rfl (XT.ii_lt_t (by decide : (1 : Int32) < (4 : Int32))) (by decide) (by decide) ?_
          show own_S p e below T36 (mkF m 217 #[.val (.int p0), .val (.int p1), .val (.int p2), .val (.int p3), .val (.int p4), .val (.int p5), .val (.int (1 : Int32)), .val (.int y0), .val (.int y1), .val (.int y2), .val (.int y3), .val (.ref b33), .unset] []) _
          refine XS.iconst X36.here hx rfl (hb hby at_217) ?_
          show own_S p e below T36 (mkF m 218 #[.val (.int p0), .val (.int p1), .val (.int p2), .val (.int p3), .val (.int p4), .val (.int p5), .val (.int (1 : Int32)), .val (.int y0), .val (.int y1), .val (.int y2), .val (.int y3), .val (.ref b33), .unset] [(.int (1 : Int32))]) _
          refine XS.goto X36.here hx rfl (pc0 := 218) (pc' := 222) rfl (hb hby at_218) (by decide) (by decide) ?_
          exact k
        exact ⟨(1 : Int32), (by simp only [if_pos c181_40]), K42⟩
      · skip
        have K43 : ∀ t, own_S p e below T36 (mkF m 222 #[.val (.int p0), .val (.int p1), .val (.int p2), .val (.int p3), .val (.int p4), .val (.int p5), .val (.int (1 : Int32)), .val (.int y0), .val (.int y1), .val (.int y2), .val (.int y3), .val (.ref b33), .unset] [(.int (0 : Int32))]) t → Steps p.tables e below SE t := by
          intro t k
          refine K41 _ ?_
          refine XS.ifYes X36.here hx rfl (pc0 := 181) (pc' := 221) rfl (hb hby at_181) rfl (XT.i0_ne_t c181_40) (by decide) (by decide) ?_
          show own_S p e below T36 (mkF m 221 #[.val (.int p0), .val (.int p1), .val (.int p2), .val (.int p3), .val (.int p4), .val (.int p5), .val (.int (1 : Int32)), .val (.int y0), .val (.int y1), .val (.int y2), .val (.int y3), .val (.ref b33), .unset] []) _
          refine XS.iconst X36.here hx rfl (hb hby at_221) ?_
          exact k
        exact ⟨(0 : Int32), (by simp only [if_neg c181_40]), K43⟩
    have hfin : (if ((0 : Int32) ||| y0) = 0 then (1 : Int32) else (0 : Int32)) = ex := (own_eq1 y0).trans hex.symm
    have K44 : ∀ t, own_S p e below T36 (mkF m 226 #[.val (.int p0), .val (.int p1), .val (.int p2), .val (.int p3), .val (.int p4), .val (.int p5), .val (.int (1 : Int32)), .val (.int y0), .val (.int y1), .val (.int y2), .val (.int y3), .val (.ref b33), .val (.int ex)] [(.ref b33)]) t → Steps p.tables e below SE t := by
      intro t k
      refine K39 _ ?_
      refine XS.istore X36.here hx rfl (hb hby at_222) rfl (l' := #[.val (.int p0), .val (.int p1), .val (.int p2), .val (.int p3), .val (.int p4), .val (.int p5), .val (.int (1 : Int32)), .val (.int y0), .val (.int y1), .val (.int y2), .val (.int y3), .val (.ref b33), .val (.int ex)]) rfl ?_
      show own_S p e below T36 (mkF m 224 #[.val (.int p0), .val (.int p1), .val (.int p2), .val (.int p3), .val (.int p4), .val (.int p5), .val (.int (1 : Int32)), .val (.int y0), .val (.int y1), .val (.int y2), .val (.int y3), .val (.ref b33), .val (.int ex)] []) _
      refine XS.aload X36.here hx rfl (hb hby at_224) rfl rfl ?_
      exact k
    obtain ⟨_, _, ⟨T45, L45, k45, n45⟩, -, X45, ⟨Lc45, hQ45, l45, y45, z45⟩, st45⟩ := Jvm.LawKit.callS X36 hx (y := (⟨"com/example/whorl/whorl/PrimeField", "isZero", "([I)Z"⟩ : MethodName)) hown (mvT hZ (hw _ (List.mem_of_getElem? (i := 2) rfl))) (mvT hZ (hw _ (List.mem_of_getElem? (i := 3) rfl))) (mvT hZ (hw _ (List.mem_of_getElem? (i := 4) rfl))) (mvT hZ (hw _ (List.mem_of_getElem? (i := 5) rfl))) (by decide) (backOf (W := 0) (rm1_1 l Z a0 hw [] b33 k33 y0 h36 n0 (Nat.le_trans Z0 Kp36.1) V36) hZ (hw _ (List.mem_of_getElem? (i := 5) rfl)) (hw _ (List.mem_of_getElem? (i := 4) rfl)) (by decide) (by decide)) (g := (mkF m 226 #[.val (.int p0), .val (.int p1), .val (.int p2), .val (.int p3), .val (.int p4), .val (.int p5), .val (.int (1 : Int32)), .val (.int y0), .val (.int y1), .val (.int y2), .val (.int y3), .val (.ref b33), .val (.int ex)] [(.ref b33)])) rfl (by rw [hml]; rfl) (argsL := [(.ref b33)]) (rest := []) (lenOf pd_0_0 rfl) rfl (by show 2 * 0 + _ ≤ _; exact Nat.le_of_eq rfl) (hb hby at_226) (fun _ _ => ⟨rfl, e36, (by decide : 1 + 0 ≤ _), (by decide : 1 + 0 ≤ _)⟩)
    dsimp only [Pt.U, Pt.locs, Pt.cells, Pt.slots] at X45 l45 y45 z45 st45 hQ45
    subst l45 y45 z45
    obtain ⟨rfl, Nq45, e45⟩ := hQ45
    have N45 := Fr.app N36 Nq45
    have K45 : ∀ t, own_S p e below T45 (mkF m 229 #[.val (.int p0), .val (.int p1), .val (.int p2), .val (.int p3), .val (.int p4), .val (.int p5), .val (.int (1 : Int32)), .val (.int y0), .val (.int y1), .val (.int y2), .val (.int y3), .val (.ref b33), .val (.int ex)] [(.int (if ((0 : Int32) ||| y0) = 0 then (1 : Int32) else (0 : Int32)))]) t → Steps p.tables e below SE t := fun t k => K44 _ (st45 _ k)
    have K46 : ∀ t, own_S p e below T45 (mkF m 239 #[.val (.int p0), .val (.int p1), .val (.int p2), .val (.int p3), .val (.int p4), .val (.int p5), .val (.int (1 : Int32)), .val (.int y0), .val (.int y1), .val (.int y2), .val (.int y3), .val (.ref b33), .val (.int ex)] [(.int (1 : Int32))]) t → Steps p.tables e below SE t := by
      intro t k
      refine K45 _ ?_
      refine XS.iload X45.here hx rfl (hb hby at_229) rfl ?_
      show own_S p e below T45 (mkF m 231 #[.val (.int p0), .val (.int p1), .val (.int p2), .val (.int p3), .val (.int p4), .val (.int p5), .val (.int (1 : Int32)), .val (.int y0), .val (.int y1), .val (.int y2), .val (.int y3), .val (.ref b33), .val (.int ex)] [(.int ex), (.int (if ((0 : Int32) ||| y0) = 0 then (1 : Int32) else (0 : Int32)))]) _
      refine XS.icmpNo X45.here hx rfl (hb hby at_231) rfl (XT.ii_ne_f hfin) ?_
      show own_S p e below T45 (mkF m 234 #[.val (.int p0), .val (.int p1), .val (.int p2), .val (.int p3), .val (.int p4), .val (.int p5), .val (.int (1 : Int32)), .val (.int y0), .val (.int y1), .val (.int y2), .val (.int y3), .val (.ref b33), .val (.int ex)] []) _
      refine XS.iconst X45.here hx rfl (hb hby at_234) ?_
      show own_S p e below T45 (mkF m 235 #[.val (.int p0), .val (.int p1), .val (.int p2), .val (.int p3), .val (.int p4), .val (.int p5), .val (.int (1 : Int32)), .val (.int y0), .val (.int y1), .val (.int y2), .val (.int y3), .val (.ref b33), .val (.int ex)] [(.int (1 : Int32))]) _
      refine XS.goto X45.here hx rfl (pc0 := 235) (pc' := 239) rfl (hb hby at_235) (by decide) (by decide) ?_
      exact k
    obtain ⟨fs, hr, hrun, hended, hW, hsame⟩ := X45.leave (v := some (.int (1 : Int32))) (fun h => by rw [Bd.returns] at h; cases h)
    refine ⟨_, _, K46 _ ?_, hrun, hended, _, _, rfl, ?_, ⟨_, rfl⟩, hW, hsame.mono (by decide) (by decide)⟩
    · exact retN X45 hx (t := .boolean) Bd.returns (by simp) (hb hby at_239) hr
    · show Q0 Z p0 p1 p2 p3 p4 p5 h0 n0 _ T45.heap _
      rw [e45]
      exact ⟨rfl, N45⟩
  · skip
    rw [q] at K26
    have K47 : ∀ t, own_S p e below s₁ (mkF m 102 #[.val (.int p0), .val (.int p1), .val (.int p2), .val (.int p3), .val (.int p4), .val (.int p5), .val (.int (2 : Int32)), .val (.int y0), .val (.int y1), .val (.int y2), .val (.int y3), .unset, .unset] [(.int (2 : Int32))]) t → Steps p.tables e below SE t := by
      intro t k
      refine K26 _ ?_
      refine XS.iload X0.here hx rfl (hb hby at_63) rfl ?_
      show own_S p e below s₁ (mkF m 65 #[.val (.int p0), .val (.int p1), .val (.int p2), .val (.int p3), .val (.int p4), .val (.int p5), .val (.int (2 : Int32)), .val (.int y0), .val (.int y1), .val (.int y2), .val (.int y3), .unset, .unset] [(.int (2 : Int32))]) _
      refine XS.ifYes X0.here hx rfl (pc0 := 65) (pc' := 76) rfl (hb hby at_65) rfl (XT.i0_ne_t (by decide : ¬ ((2 : Int32) = 0))) (by decide) (by decide) ?_
      show own_S p e below s₁ (mkF m 76 #[.val (.int p0), .val (.int p1), .val (.int p2), .val (.int p3), .val (.int p4), .val (.int p5), .val (.int (2 : Int32)), .val (.int y0), .val (.int y1), .val (.int y2), .val (.int y3), .unset, .unset] []) _
      refine XS.iload X0.here hx rfl (hb hby at_76) rfl ?_
      show own_S p e below s₁ (mkF m 78 #[.val (.int p0), .val (.int p1), .val (.int p2), .val (.int p3), .val (.int p4), .val (.int p5), .val (.int (2 : Int32)), .val (.int y0), .val (.int y1), .val (.int y2), .val (.int y3), .unset, .unset] [(.int (2 : Int32))]) _
      refine XS.iconst X0.here hx rfl (hb hby at_78) ?_
      show own_S p e below s₁ (mkF m 79 #[.val (.int p0), .val (.int p1), .val (.int p2), .val (.int p3), .val (.int p4), .val (.int p5), .val (.int (2 : Int32)), .val (.int y0), .val (.int y1), .val (.int y2), .val (.int y3), .unset, .unset] [(.int (1 : Int32)), (.int (2 : Int32))]) _
      refine XS.icmpYes X0.here hx rfl (pc0 := 79) (pc' := 95) rfl (hb hby at_79) rfl (XT.ii_ne_t (by decide : ¬ ((2 : Int32) = (1 : Int32)))) (by decide) (by decide) ?_
      show own_S p e below s₁ (mkF m 95 #[.val (.int p0), .val (.int p1), .val (.int p2), .val (.int p3), .val (.int p4), .val (.int p5), .val (.int (2 : Int32)), .val (.int y0), .val (.int y1), .val (.int y2), .val (.int y3), .unset, .unset] []) _
      refine XS.iload X0.here hx rfl (hb hby at_95) rfl ?_
      show own_S p e below s₁ (mkF m 97 #[.val (.int p0), .val (.int p1), .val (.int p2), .val (.int p3), .val (.int p4), .val (.int p5), .val (.int (2 : Int32)), .val (.int y0), .val (.int y1), .val (.int y2), .val (.int y3), .unset, .unset] [(.int (2 : Int32))]) _
      refine XS.iconst X0.here hx rfl (hb hby at_97) ?_
      show own_S p e below s₁ (mkF m 98 #[.val (.int p0), .val (.int p1), .val (.int p2), .val (.int p3), .val (.int p4), .val (.int p5), .val (.int (2 : Int32)), .val (.int y0), .val (.int y1), .val (.int y2), .val (.int y3), .unset, .unset] [(.int (2 : Int32)), (.int (2 : Int32))]) _
      refine XS.icmpNo X0.here hx rfl (hb hby at_98) rfl (XT.ii_ne_f (by decide : (2 : Int32) = (2 : Int32))) ?_
      show own_S p e below s₁ (mkF m 101 #[.val (.int p0), .val (.int p1), .val (.int p2), .val (.int p3), .val (.int p4), .val (.int p5), .val (.int (2 : Int32)), .val (.int y0), .val (.int y1), .val (.int y2), .val (.int y3), .unset, .unset] []) _
      refine XS.iconst X0.here hx rfl (hb hby at_101) ?_
      exact k
    obtain ⟨T48, h48, k48, X48, e48, E48, A48, st48⟩ := newP X0 hx hZ (hw _ (List.mem_of_getElem? (i := 1) rfl)) e0 (g := (mkF m 102 #[.val (.int p0), .val (.int p1), .val (.int p2), .val (.int p3), .val (.int p4), .val (.int p5), .val (.int (2 : Int32)), .val (.int y0), .val (.int y1), .val (.int y2), .val (.int y3), .unset, .unset] [(.int (2 : Int32))])) rfl (hb hby at_102) rfl (by decide) (cap := 2) (by decide) (by decide) (by decide) (by decide)
    obtain ⟨b48, g48⟩ : ∃ z, z = h0.size := ⟨_, rfl⟩
    rw [← g48] at A48 st48
    have g_b48 : n0 ≤ b48 := Nat.le_trans Z0 (Nat.le_of_eq g48.symm)
    have sz_b48 : h0.size ≤ b48 := Nat.le_trans (Nat.le_refl _) (Nat.le_of_eq g48.symm)
    have Kp48 : Keep h0 h48 [] := Keep.ext (Keep.refl h0 []) E48
    have V48 : Arv Z h48 b48 k48 .int (2 : Int32) [(.int (0 : Int32)), (.int (0 : Int32))] (.int (0 : Int32)) := (Arv.new A48 (by decide)).pad (pad_rep [] (.int (0 : Int32)) 2)
    have K48 : ∀ t, own_S p e below T48 (mkF m 104 #[.val (.int p0), .val (.int p1), .val (.int p2), .val (.int p3), .val (.int p4), .val (.int p5), .val (.int (2 : Int32)), .val (.int y0), .val (.int y1), .val (.int y2), .val (.int y3), .unset, .unset] [(.ref b48)]) t → Steps p.tables e below SE t := fun t k => K47 _ (st48 _ k)
    have K49 : ∀ t, own_S p e below T48 (mkF m 108 #[.val (.int p0), .val (.int p1), .val (.int p2), .val (.int p3), .val (.int p4), .val (.int p5), .val (.int (2 : Int32)), .val (.int y0), .val (.int y1), .val (.int y2), .val (.int y3), .unset, .unset] [(.int y0), (.int (0 : Int32)), (.ref b48), (.ref b48)]) t → Steps p.tables e below SE t := by
      intro t k
      refine K48 _ ?_
      refine XS.dup X48.here hx rfl (hb hby at_104) rfl rfl ?_
      show own_S p e below T48 (mkF m 105 #[.val (.int p0), .val (.int p1), .val (.int p2), .val (.int p3), .val (.int p4), .val (.int p5), .val (.int (2 : Int32)), .val (.int y0), .val (.int y1), .val (.int y2), .val (.int y3), .unset, .unset] [(.ref b48), (.ref b48)]) _
      refine XS.iconst X48.here hx rfl (hb hby at_105) ?_
      show own_S p e below T48 (mkF m 106 #[.val (.int p0), .val (.int p1), .val (.int p2), .val (.int p3), .val (.int p4), .val (.int p5), .val (.int (2 : Int32)), .val (.int y0), .val (.int y1), .val (.int y2), .val (.int y3), .unset, .unset] [(.int (0 : Int32)), (.ref b48), (.ref b48)]) _
      refine XS.iload X48.here hx rfl (hb hby at_106) rfl ?_
      exact k
    obtain ⟨cl50, Ar50, qk50, S50, Ng50, Hh50, Gg50⟩ := id V48
    have hin50 : ¬ ((0 : Int32) < 0 ∨ cl50.slots.size ≤ ((0 : Int32)).toNatClampNeg) := inb_of S50 ⟨by decide, by decide⟩
    obtain ⟨T51, h51, X51, e51, W51, st51⟩ := stI X48 hx hZ e48 Ar50 (j := (0 : Int32)) hin50 (g := (mkF m 108 #[.val (.int p0), .val (.int p1), .val (.int p2), .val (.int p3), .val (.int p4), .val (.int p5), .val (.int (2 : Int32)), .val (.int y0), .val (.int y1), .val (.int y2), .val (.int y3), .unset, .unset] [(.int y0), (.int (0 : Int32)), (.ref b48), (.ref b48)])) rfl rfl (hb hby at_108)
    have V51 : Arv Z h51 b48 k48 .int (2 : Int32) [(.int y0), (.int (0 : Int32))] (.int (0 : Int32)) := Arv.set Ar50 qk50 S50 Ng50 Hh50 Gg50 rfl W51 0 rfl (Nat.le_of_ble_eq_true rfl)
    have N51 := Fr.snoc X51 N0 g_b48
    have Kp51 : Keep h0 h51 [] := Keep.wr Kp48 W51 (Or.inr sz_b48)
    have K51 : ∀ t, own_S p e below T51 (mkF m 109 #[.val (.int p0), .val (.int p1), .val (.int p2), .val (.int p3), .val (.int p4), .val (.int p5), .val (.int (2 : Int32)), .val (.int y0), .val (.int y1), .val (.int y2), .val (.int y3), .unset, .unset] [(.ref b48)]) t → Steps p.tables e below SE t := fun t k => K49 _ (st51 _ k)
    have K52 : ∀ t, own_S p e below T51 (mkF m 113 #[.val (.int p0), .val (.int p1), .val (.int p2), .val (.int p3), .val (.int p4), .val (.int p5), .val (.int (2 : Int32)), .val (.int y0), .val (.int y1), .val (.int y2), .val (.int y3), .unset, .unset] [(.int y1), (.int (1 : Int32)), (.ref b48), (.ref b48)]) t → Steps p.tables e below SE t := by
      intro t k
      refine K51 _ ?_
      refine XS.dup X51.here hx rfl (hb hby at_109) rfl rfl ?_
      show own_S p e below T51 (mkF m 110 #[.val (.int p0), .val (.int p1), .val (.int p2), .val (.int p3), .val (.int p4), .val (.int p5), .val (.int (2 : Int32)), .val (.int y0), .val (.int y1), .val (.int y2), .val (.int y3), .unset, .unset] [(.ref b48), (.ref b48)]) _
      refine XS.iconst X51.here hx rfl (hb hby at_110) ?_
      show own_S p e below T51 (mkF m 111 #[.val (.int p0), .val (.int p1), .val (.int p2), .val (.int p3), .val (.int p4), .val (.int p5), .val (.int (2 : Int32)), .val (.int y0), .val (.int y1), .val (.int y2), .val (.int y3), .unset, .unset] [(.int (1 : Int32)), (.ref b48), (.ref b48)]) _
      refine XS.iload X51.here hx rfl (hb hby at_111) rfl ?_
      exact k
    obtain ⟨cl53, Ar53, qk53, S53, Ng53, Hh53, Gg53⟩ := id V51
    have hin53 : ¬ ((1 : Int32) < 0 ∨ cl53.slots.size ≤ ((1 : Int32)).toNatClampNeg) := inb_of S53 ⟨by decide, by decide⟩
    obtain ⟨T54, h54, X54, e54, W54, st54⟩ := stI X51 hx hZ e51 Ar53 (j := (1 : Int32)) hin53 (g := (mkF m 113 #[.val (.int p0), .val (.int p1), .val (.int p2), .val (.int p3), .val (.int p4), .val (.int p5), .val (.int (2 : Int32)), .val (.int y0), .val (.int y1), .val (.int y2), .val (.int y3), .unset, .unset] [(.int y1), (.int (1 : Int32)), (.ref b48), (.ref b48)])) rfl rfl (hb hby at_113)
    have V54 : Arv Z h54 b48 k48 .int (2 : Int32) [(.int y0), (.int y1)] (.int (0 : Int32)) := Arv.set Ar53 qk53 S53 Ng53 Hh53 Gg53 rfl W54 1 rfl (Nat.le_of_ble_eq_true rfl)
    have N54 := Fr.snoc X54 N51 g_b48
    have Kp54 : Keep h0 h54 [] := Keep.wr Kp51 W54 (Or.inr sz_b48)
    have K54 : ∀ t, own_S p e below T54 (mkF m 114 #[.val (.int p0), .val (.int p1), .val (.int p2), .val (.int p3), .val (.int p4), .val (.int p5), .val (.int (2 : Int32)), .val (.int y0), .val (.int y1), .val (.int y2), .val (.int y3), .unset, .unset] [(.ref b48)]) t → Steps p.tables e below SE t := fun t k => K52 _ (st54 _ k)
    have K56 : ∀ t, own_S p e below T54 (mkF m 173 #[.val (.int p0), .val (.int p1), .val (.int p2), .val (.int p3), .val (.int p4), .val (.int p5), .val (.int (2 : Int32)), .val (.int y0), .val (.int y1), .val (.int y2), .val (.int y3), .val (.ref b48), .unset] []) t → Steps p.tables e below SE t := by
      intro t k
      refine K54 _ ?_
      refine XS.astore X54.here hx rfl (hb hby at_114) rfl rfl (l' := #[.val (.int p0), .val (.int p1), .val (.int p2), .val (.int p3), .val (.int p4), .val (.int p5), .val (.int (2 : Int32)), .val (.int y0), .val (.int y1), .val (.int y2), .val (.int y3), .val (.ref b48), .unset]) rfl ?_
      show own_S p e below T54 (mkF m 116 #[.val (.int p0), .val (.int p1), .val (.int p2), .val (.int p3), .val (.int p4), .val (.int p5), .val (.int (2 : Int32)), .val (.int y0), .val (.int y1), .val (.int y2), .val (.int y3), .val (.ref b48), .unset] []) _
      refine XS.goto X54.here hx rfl (pc0 := 116) (pc' := 173) rfl (hb hby at_116) (by decide) (by decide) ?_
      exact k
    obtain ⟨ex, hex, K57⟩ : ∃ ex : Int32, ex = (if y0 = 0 then (if y1 = 0 then (1 : Int32) else (0 : Int32)) else (0 : Int32)) ∧ ∀ t, own_S p e below T54 (mkF m 222 #[.val (.int p0), .val (.int p1), .val (.int p2), .val (.int p3), .val (.int p4), .val (.int p5), .val (.int (2 : Int32)), .val (.int y0), .val (.int y1), .val (.int y2), .val (.int y3), .val (.ref b48), .unset] [(.int ex)]) t → Steps p.tables e below SE t := by
      have K59 : ∀ t, own_S p e below T54 (mkF m 181 #[.val (.int p0), .val (.int p1), .val (.int p2), .val (.int p3), .val (.int p4), .val (.int p5), .val (.int (2 : Int32)), .val (.int y0), .val (.int y1), .val (.int y2), .val (.int y3), .val (.ref b48), .unset] [(.int y0)]) t → Steps p.tables e below SE t := by
        intro t k
        refine K56 _ ?_
        refine XS.iload X54.here hx rfl (hb hby at_173) rfl ?_
        show own_S p e below T54 (mkF m 175 #[.val (.int p0), .val (.int p1), .val (.int p2), .val (.int p3), .val (.int p4), .val (.int p5), .val (.int (2 : Int32)), .val (.int y0), .val (.int y1), .val (.int y2), .val (.int y3), .val (.ref b48), .unset] [(.int (2 : Int32))]) _
        refine XS.iconst X54.here hx rfl (hb hby at_175) ?_
        show own_S p e below T54 (mkF m 176 #[.val (.int p0), .val (.int p1), .val (.int p2), .val (.int p3), .val (.int p4), .val (.int p5), .val (.int (2 : Int32)), .val (.int y0), .val (.int y1), .val (.int y2), .val (.int y3), .val (.ref b48), .unset] [(.int (1 : Int32)), (.int (2 : Int32))]) _
        refine XS.icmpNo X54.here hx rfl (hb hby at_176) rfl (XT.ii_lt_f (by decide : ¬ ((2 : Int32) < (1 : Int32)))) ?_
        show own_S p e below T54 (mkF m 179 #[.val (.int p0), .val (.int p1), .val (.int p2), .val (.int p3), .val (.int p4), .val (.int p5), .val (.int (2 : Int32)), .val (.int y0), .val (.int y1), .val (.int y2), .val (.int y3), .val (.ref b48), .unset] []) _
        refine XS.iload X54.here hx rfl (hb hby at_179) rfl ?_
        exact k
      by_cases c181_58 : y0 = 0
      · skip
        have K61 : ∀ t, own_S p e below T54 (mkF m 192 #[.val (.int p0), .val (.int p1), .val (.int p2), .val (.int p3), .val (.int p4), .val (.int p5), .val (.int (2 : Int32)), .val (.int y0), .val (.int y1), .val (.int y2), .val (.int y3), .val (.ref b48), .unset] [(.int y1)]) t → Steps p.tables e below SE t := by
          intro t k
          refine K59 _ ?_
          refine XS.ifNo X54.here hx rfl (hb hby at_181) rfl (XT.i0_ne_f c181_58) ?_
          show own_S p e below T54 (mkF m 184 #[.val (.int p0), .val (.int p1), .val (.int p2), .val (.int p3), .val (.int p4), .val (.int p5), .val (.int (2 : Int32)), .val (.int y0), .val (.int y1), .val (.int y2), .val (.int y3), .val (.ref b48), .unset] []) _
          refine XS.iload X54.here hx rfl (hb hby at_184) rfl ?_
          show own_S p e below T54 (mkF m 186 #[.val (.int p0), .val (.int p1), .val (.int p2), .val (.int p3), .val (.int p4), .val (.int p5), .val (.int (2 : Int32)), .val (.int y0), .val (.int y1), .val (.int y2), .val (.int y3), .val (.ref b48), .unset] [(.int (2 : Int32))]) _
          refine XS.iconst X54.here hx rfl (hb hby at_186) ?_
          show own_S p e below T54 (mkF m 187 #[.val (.int p0), .val (.int p1), .val (.int p2), .val (.int p3), .val (.int p4), .val (.int p5), .val (.int (2 : Int32)), .val (.int y0), .val (.int y1), .val (.int y2), .val (.int y3), .val (.ref b48), .unset] [(.int (2 : Int32)), (.int (2 : Int32))]) _
          refine XS.icmpNo X54.here hx rfl (hb hby at_187) rfl (XT.ii_lt_f (by decide : ¬ ((2 : Int32) < (2 : Int32)))) ?_
          show own_S p e below T54 (mkF m 190 #[.val (.int p0), .val (.int p1), .val (.int p2), .val (.int p3), .val (.int p4), .val (.int p5), .val (.int (2 : Int32)), .val (.int y0), .val (.int y1), .val (.int y2), .val (.int y3), .val (.ref b48), .unset] []) _
          refine XS.iload X54.here hx rfl (hb hby at_190) rfl ?_
          exact k
        by_cases c192_60 : y1 = 0
        · skip
          have K62 : ∀ t, own_S p e below T54 (mkF m 222 #[.val (.int p0), .val (.int p1), .val (.int p2), .val (.int p3), .val (.int p4), .val (.int p5), .val (.int (2 : Int32)), .val (.int y0), .val (.int y1), .val (.int y2), .val (.int y3), .val (.ref b48), .unset] [(.int (1 : Int32))]) t → Steps p.tables e below SE t := by
            intro t k
            refine K61 _ ?_
            refine XS.ifNo X54.here hx rfl (hb hby at_192) rfl (XT.i0_ne_f c192_60) ?_
            show own_S p e below T54 (mkF m 195 #[.val (.int p0), .val (.int p1), .val (.int p2), .val (.int p3), .val (.int p4), .val (.int p5), .val (.int (2 : Int32)), .val (.int y0), .val (.int y1), .val (.int y2), .val (.int y3), .val (.ref b48), .unset] []) _
            refine XS.iload X54.here hx rfl (hb hby at_195) rfl ?_
            show own_S p e below T54 (mkF m 197 #[.val (.int p0), .val (.int p1), .val (.int p2), .val (.int p3), .val (.int p4), .val (.int p5), .val (.int (2 : Int32)), .val (.int y0), .val (.int y1), .val (.int y2), .val (.int y3), .val (.ref b48), .unset] [(.int (2 : Int32))]) _
            refine XS.iconst X54.here hx rfl (hb hby at_197) ?_
            show own_S p e below T54 (mkF m 198 #[.val (.int p0), .val (.int p1), .val (.int p2), .val (.int p3), .val (.int p4), .val (.int p5), .val (.int (2 : Int32)), .val (.int y0), .val (.int y1), .val (.int y2), .val (.int y3), .val (.ref b48), .unset] [(.int (3 : Int32)), (.int (2 : Int32))]) _
            refine XS.icmpYes X54.here hx rfl (pc0 := 198) (pc' := 206) rfl (hb hby at_198) rfl (XT.ii_lt_t (by decide : (2 : Int32) < (3 : Int32))) (by decide) (by decide) ?_
            show own_S p e below T54 (mkF m 206 #[.val (.int p0), .val (.int p1), .val (.int p2), .val (.int p3), .val (.int p4), .val (.int p5), .val (.int (2 : Int32)), .val (.int y0), .val (.int y1), .val (.int y2), .val (.int y3), .val (.ref b48), .unset] []) _
            refine XS.iload X54.here hx rfl (hb hby at_206) rfl ?_
            show own_S p e below T54 (mkF m 208 #[.val (.int p0), .val (.int p1), .val (.int p2), .val (.int p3), .val (.int p4), .val (.int p5), .val (.int (2 : Int32)), .val (.int y0), .val (.int y1), .val (.int y2), .val (.int y3), .val (.ref b48), .unset] [(.int (2 : Int32))]) _
            refine XS.iconst X54.here hx rfl (hb hby at_208) ?_
            show own_S p e below T54 (mkF m 209 #[.val (.int p0), .val (.int p1), .val (.int p2), .val (.int p3), .val (.int p4), .val (.int p5), .val (.int (2 : Int32)), .val (.int y0), .val (.int y1), .val (.int y2), .val (.int y3), .val (.ref b48), .unset] [(.int (4 : Int32)), (.int (2 : Int32))]) _
            refine XS.icmpYes X54.here hx rfl (pc0 := 209) (pc' := 217) rfl (hb hby at_209) rfl (XT.ii_lt_t (by decide : (2 : Int32) < (4 : Int32))) (by decide) (by decide) ?_
            show own_S p e below T54 (mkF m 217 #[.val (.int p0), .val (.int p1), .val (.int p2), .val (.int p3), .val (.int p4), .val (.int p5), .val (.int (2 : Int32)), .val (.int y0), .val (.int y1), .val (.int y2), .val (.int y3), .val (.ref b48), .unset] []) _
            refine XS.iconst X54.here hx rfl (hb hby at_217) ?_
            show own_S p e below T54 (mkF m 218 #[.val (.int p0), .val (.int p1), .val (.int p2), .val (.int p3), .val (.int p4), .val (.int p5), .val (.int (2 : Int32)), .val (.int y0), .val (.int y1), .val (.int y2), .val (.int y3), .val (.ref b48), .unset] [(.int (1 : Int32))]) _
            refine XS.goto X54.here hx rfl (pc0 := 218) (pc' := 222) rfl (hb hby at_218) (by decide) (by decide) ?_
            exact k
          exact ⟨(1 : Int32), (by simp only [if_pos c181_58, if_pos c192_60]), K62⟩
        · skip
          have K63 : ∀ t, own_S p e below T54 (mkF m 222 #[.val (.int p0), .val (.int p1), .val (.int p2), .val (.int p3), .val (.int p4), .val (.int p5), .val (.int (2 : Int32)), .val (.int y0), .val (.int y1), .val (.int y2), .val (.int y3), .val (.ref b48), .unset] [(.int (0 : Int32))]) t → Steps p.tables e below SE t := by
            intro t k
            refine K61 _ ?_
            refine XS.ifYes X54.here hx rfl (pc0 := 192) (pc' := 221) rfl (hb hby at_192) rfl (XT.i0_ne_t c192_60) (by decide) (by decide) ?_
            show own_S p e below T54 (mkF m 221 #[.val (.int p0), .val (.int p1), .val (.int p2), .val (.int p3), .val (.int p4), .val (.int p5), .val (.int (2 : Int32)), .val (.int y0), .val (.int y1), .val (.int y2), .val (.int y3), .val (.ref b48), .unset] []) _
            refine XS.iconst X54.here hx rfl (hb hby at_221) ?_
            exact k
          exact ⟨(0 : Int32), (by simp only [if_pos c181_58, if_neg c192_60]), K63⟩
      · skip
        have K64 : ∀ t, own_S p e below T54 (mkF m 222 #[.val (.int p0), .val (.int p1), .val (.int p2), .val (.int p3), .val (.int p4), .val (.int p5), .val (.int (2 : Int32)), .val (.int y0), .val (.int y1), .val (.int y2), .val (.int y3), .val (.ref b48), .unset] [(.int (0 : Int32))]) t → Steps p.tables e below SE t := by
          intro t k
          refine K59 _ ?_
          refine XS.ifYes X54.here hx rfl (pc0 := 181) (pc' := 221) rfl (hb hby at_181) rfl (XT.i0_ne_t c181_58) (by decide) (by decide) ?_
          show own_S p e below T54 (mkF m 221 #[.val (.int p0), .val (.int p1), .val (.int p2), .val (.int p3), .val (.int p4), .val (.int p5), .val (.int (2 : Int32)), .val (.int y0), .val (.int y1), .val (.int y2), .val (.int y3), .val (.ref b48), .unset] []) _
          refine XS.iconst X54.here hx rfl (hb hby at_221) ?_
          exact k
        exact ⟨(0 : Int32), (by simp only [if_neg c181_58]), K64⟩
    have hfin : (if (((0 : Int32) ||| y0) ||| y1) = 0 then (1 : Int32) else (0 : Int32)) = ex := (own_eq2 y0 y1).trans hex.symm
    have K65 : ∀ t, own_S p e below T54 (mkF m 226 #[.val (.int p0), .val (.int p1), .val (.int p2), .val (.int p3), .val (.int p4), .val (.int p5), .val (.int (2 : Int32)), .val (.int y0), .val (.int y1), .val (.int y2), .val (.int y3), .val (.ref b48), .val (.int ex)] [(.ref b48)]) t → Steps p.tables e below SE t := by
      intro t k
      refine K57 _ ?_
      refine XS.istore X54.here hx rfl (hb hby at_222) rfl (l' := #[.val (.int p0), .val (.int p1), .val (.int p2), .val (.int p3), .val (.int p4), .val (.int p5), .val (.int (2 : Int32)), .val (.int y0), .val (.int y1), .val (.int y2), .val (.int y3), .val (.ref b48), .val (.int ex)]) rfl ?_
      show own_S p e below T54 (mkF m 224 #[.val (.int p0), .val (.int p1), .val (.int p2), .val (.int p3), .val (.int p4), .val (.int p5), .val (.int (2 : Int32)), .val (.int y0), .val (.int y1), .val (.int y2), .val (.int y3), .val (.ref b48), .val (.int ex)] []) _
      refine XS.aload X54.here hx rfl (hb hby at_224) rfl rfl ?_
      exact k
    obtain ⟨_, _, ⟨T66, L66, k66, n66⟩, -, X66, ⟨Lc66, hQ66, l66, y66, z66⟩, st66⟩ := Jvm.LawKit.callS X54 hx (y := (⟨"com/example/whorl/whorl/PrimeField", "isZero", "([I)Z"⟩ : MethodName)) hown (mvT hZ (hw _ (List.mem_of_getElem? (i := 2) rfl))) (mvT hZ (hw _ (List.mem_of_getElem? (i := 3) rfl))) (mvT hZ (hw _ (List.mem_of_getElem? (i := 4) rfl))) (mvT hZ (hw _ (List.mem_of_getElem? (i := 5) rfl))) (by decide) (backOf (W := 0) (rm1_2 l Z a0 hw [] b48 k48 y0 y1 h54 n0 (Nat.le_trans Z0 Kp54.1) V54) hZ (hw _ (List.mem_of_getElem? (i := 5) rfl)) (hw _ (List.mem_of_getElem? (i := 4) rfl)) (by decide) (by decide)) (g := (mkF m 226 #[.val (.int p0), .val (.int p1), .val (.int p2), .val (.int p3), .val (.int p4), .val (.int p5), .val (.int (2 : Int32)), .val (.int y0), .val (.int y1), .val (.int y2), .val (.int y3), .val (.ref b48), .val (.int ex)] [(.ref b48)])) rfl (by rw [hml]; rfl) (argsL := [(.ref b48)]) (rest := []) (lenOf pd_0_0 rfl) rfl (by show 2 * 0 + _ ≤ _; exact Nat.le_of_eq rfl) (hb hby at_226) (fun _ _ => ⟨rfl, e54, (by decide : 1 + 0 ≤ _), (by decide : 2 + 0 ≤ _)⟩)
    dsimp only [Pt.U, Pt.locs, Pt.cells, Pt.slots] at X66 l66 y66 z66 st66 hQ66
    subst l66 y66 z66
    obtain ⟨rfl, Nq66, e66⟩ := hQ66
    have N66 := Fr.app N54 Nq66
    have K66 : ∀ t, own_S p e below T66 (mkF m 229 #[.val (.int p0), .val (.int p1), .val (.int p2), .val (.int p3), .val (.int p4), .val (.int p5), .val (.int (2 : Int32)), .val (.int y0), .val (.int y1), .val (.int y2), .val (.int y3), .val (.ref b48), .val (.int ex)] [(.int (if (((0 : Int32) ||| y0) ||| y1) = 0 then (1 : Int32) else (0 : Int32)))]) t → Steps p.tables e below SE t := fun t k => K65 _ (st66 _ k)
    have K67 : ∀ t, own_S p e below T66 (mkF m 239 #[.val (.int p0), .val (.int p1), .val (.int p2), .val (.int p3), .val (.int p4), .val (.int p5), .val (.int (2 : Int32)), .val (.int y0), .val (.int y1), .val (.int y2), .val (.int y3), .val (.ref b48), .val (.int ex)] [(.int (1 : Int32))]) t → Steps p.tables e below SE t := by
      intro t k
      refine K66 _ ?_
      refine XS.iload X66.here hx rfl (hb hby at_229) rfl ?_
      show own_S p e below T66 (mkF m 231 #[.val (.int p0), .val (.int p1), .val (.int p2), .val (.int p3), .val (.int p4), .val (.int p5), .val (.int (2 : Int32)), .val (.int y0), .val (.int y1), .val (.int y2), .val (.int y3), .val (.ref b48), .val (.int ex)] [(.int ex), (.int (if (((0 : Int32) ||| y0) ||| y1) = 0 then (1 : Int32) else (0 : Int32)))]) _
      refine XS.icmpNo X66.here hx rfl (hb hby at_231) rfl (XT.ii_ne_f hfin) ?_
      show own_S p e below T66 (mkF m 234 #[.val (.int p0), .val (.int p1), .val (.int p2), .val (.int p3), .val (.int p4), .val (.int p5), .val (.int (2 : Int32)), .val (.int y0), .val (.int y1), .val (.int y2), .val (.int y3), .val (.ref b48), .val (.int ex)] []) _
      refine XS.iconst X66.here hx rfl (hb hby at_234) ?_
      show own_S p e below T66 (mkF m 235 #[.val (.int p0), .val (.int p1), .val (.int p2), .val (.int p3), .val (.int p4), .val (.int p5), .val (.int (2 : Int32)), .val (.int y0), .val (.int y1), .val (.int y2), .val (.int y3), .val (.ref b48), .val (.int ex)] [(.int (1 : Int32))]) _
      refine XS.goto X66.here hx rfl (pc0 := 235) (pc' := 239) rfl (hb hby at_235) (by decide) (by decide) ?_
      exact k
    obtain ⟨fs, hr, hrun, hended, hW, hsame⟩ := X66.leave (v := some (.int (1 : Int32))) (fun h => by rw [Bd.returns] at h; cases h)
    refine ⟨_, _, K67 _ ?_, hrun, hended, _, _, rfl, ?_, ⟨_, rfl⟩, hW, hsame.mono (by decide) (by decide)⟩
    · exact retN X66 hx (t := .boolean) Bd.returns (by simp) (hb hby at_239) hr
    · show Q0 Z p0 p1 p2 p3 p4 p5 h0 n0 _ T66.heap _
      rw [e66]
      exact ⟨rfl, N66⟩
  · skip
    rw [q] at K26
    have K68 : ∀ t, own_S p e below s₁ (mkF m 126 #[.val (.int p0), .val (.int p1), .val (.int p2), .val (.int p3), .val (.int p4), .val (.int p5), .val (.int (3 : Int32)), .val (.int y0), .val (.int y1), .val (.int y2), .val (.int y3), .unset, .unset] [(.int (3 : Int32))]) t → Steps p.tables e below SE t := by
      intro t k
      refine K26 _ ?_
      refine XS.iload X0.here hx rfl (hb hby at_63) rfl ?_
      show own_S p e below s₁ (mkF m 65 #[.val (.int p0), .val (.int p1), .val (.int p2), .val (.int p3), .val (.int p4), .val (.int p5), .val (.int (3 : Int32)), .val (.int y0), .val (.int y1), .val (.int y2), .val (.int y3), .unset, .unset] [(.int (3 : Int32))]) _
      refine XS.ifYes X0.here hx rfl (pc0 := 65) (pc' := 76) rfl (hb hby at_65) rfl (XT.i0_ne_t (by decide : ¬ ((3 : Int32) = 0))) (by decide) (by decide) ?_
      show own_S p e below s₁ (mkF m 76 #[.val (.int p0), .val (.int p1), .val (.int p2), .val (.int p3), .val (.int p4), .val (.int p5), .val (.int (3 : Int32)), .val (.int y0), .val (.int y1), .val (.int y2), .val (.int y3), .unset, .unset] []) _
      refine XS.iload X0.here hx rfl (hb hby at_76) rfl ?_
      show own_S p e below s₁ (mkF m 78 #[.val (.int p0), .val (.int p1), .val (.int p2), .val (.int p3), .val (.int p4), .val (.int p5), .val (.int (3 : Int32)), .val (.int y0), .val (.int y1), .val (.int y2), .val (.int y3), .unset, .unset] [(.int (3 : Int32))]) _
      refine XS.iconst X0.here hx rfl (hb hby at_78) ?_
      show own_S p e below s₁ (mkF m 79 #[.val (.int p0), .val (.int p1), .val (.int p2), .val (.int p3), .val (.int p4), .val (.int p5), .val (.int (3 : Int32)), .val (.int y0), .val (.int y1), .val (.int y2), .val (.int y3), .unset, .unset] [(.int (1 : Int32)), (.int (3 : Int32))]) _
      refine XS.icmpYes X0.here hx rfl (pc0 := 79) (pc' := 95) rfl (hb hby at_79) rfl (XT.ii_ne_t (by decide : ¬ ((3 : Int32) = (1 : Int32)))) (by decide) (by decide) ?_
      show own_S p e below s₁ (mkF m 95 #[.val (.int p0), .val (.int p1), .val (.int p2), .val (.int p3), .val (.int p4), .val (.int p5), .val (.int (3 : Int32)), .val (.int y0), .val (.int y1), .val (.int y2), .val (.int y3), .unset, .unset] []) _
      refine XS.iload X0.here hx rfl (hb hby at_95) rfl ?_
      show own_S p e below s₁ (mkF m 97 #[.val (.int p0), .val (.int p1), .val (.int p2), .val (.int p3), .val (.int p4), .val (.int p5), .val (.int (3 : Int32)), .val (.int y0), .val (.int y1), .val (.int y2), .val (.int y3), .unset, .unset] [(.int (3 : Int32))]) _
      refine XS.iconst X0.here hx rfl (hb hby at_97) ?_
      show own_S p e below s₁ (mkF m 98 #[.val (.int p0), .val (.int p1), .val (.int p2), .val (.int p3), .val (.int p4), .val (.int p5), .val (.int (3 : Int32)), .val (.int y0), .val (.int y1), .val (.int y2), .val (.int y3), .unset, .unset] [(.int (2 : Int32)), (.int (3 : Int32))]) _
      refine XS.icmpYes X0.here hx rfl (pc0 := 98) (pc' := 119) rfl (hb hby at_98) rfl (XT.ii_ne_t (by decide : ¬ ((3 : Int32) = (2 : Int32)))) (by decide) (by decide) ?_
      show own_S p e below s₁ (mkF m 119 #[.val (.int p0), .val (.int p1), .val (.int p2), .val (.int p3), .val (.int p4), .val (.int p5), .val (.int (3 : Int32)), .val (.int y0), .val (.int y1), .val (.int y2), .val (.int y3), .unset, .unset] []) _
      refine XS.iload X0.here hx rfl (hb hby at_119) rfl ?_
      show own_S p e below s₁ (mkF m 121 #[.val (.int p0), .val (.int p1), .val (.int p2), .val (.int p3), .val (.int p4), .val (.int p5), .val (.int (3 : Int32)), .val (.int y0), .val (.int y1), .val (.int y2), .val (.int y3), .unset, .unset] [(.int (3 : Int32))]) _
      refine XS.iconst X0.here hx rfl (hb hby at_121) ?_
      show own_S p e below s₁ (mkF m 122 #[.val (.int p0), .val (.int p1), .val (.int p2), .val (.int p3), .val (.int p4), .val (.int p5), .val (.int (3 : Int32)), .val (.int y0), .val (.int y1), .val (.int y2), .val (.int y3), .unset, .unset] [(.int (3 : Int32)), (.int (3 : Int32))]) _
      refine XS.icmpNo X0.here hx rfl (hb hby at_122) rfl (XT.ii_ne_f (by decide : (3 : Int32) = (3 : Int32))) ?_
      show own_S p e below s₁ (mkF m 125 #[.val (.int p0), .val (.int p1), .val (.int p2), .val (.int p3), .val (.int p4), .val (.int p5), .val (.int (3 : Int32)), .val (.int y0), .val (.int y1), .val (.int y2), .val (.int y3), .unset, .unset] []) _
      refine XS.iconst X0.here hx rfl (hb hby at_125) ?_
      exact k
    obtain ⟨T69, h69, k69, X69, e69, E69, A69, st69⟩ := newP X0 hx hZ (hw _ (List.mem_of_getElem? (i := 1) rfl)) e0 (g := (mkF m 126 #[.val (.int p0), .val (.int p1), .val (.int p2), .val (.int p3), .val (.int p4), .val (.int p5), .val (.int (3 : Int32)), .val (.int y0), .val (.int y1), .val (.int y2), .val (.int y3), .unset, .unset] [(.int (3 : Int32))])) rfl (hb hby at_126) rfl (by decide) (cap := 3) (by decide) (by decide) (by decide) (by decide)
    obtain ⟨b69, g69⟩ : ∃ z, z = h0.size := ⟨_, rfl⟩
    rw [← g69] at A69 st69
    have g_b69 : n0 ≤ b69 := Nat.le_trans Z0 (Nat.le_of_eq g69.symm)
    have sz_b69 : h0.size ≤ b69 := Nat.le_trans (Nat.le_refl _) (Nat.le_of_eq g69.symm)
    have Kp69 : Keep h0 h69 [] := Keep.ext (Keep.refl h0 []) E69
    have V69 : Arv Z h69 b69 k69 .int (3 : Int32) [(.int (0 : Int32)), (.int (0 : Int32)), (.int (0 : Int32))] (.int (0 : Int32)) := (Arv.new A69 (by decide)).pad (pad_rep [] (.int (0 : Int32)) 3)
    have K69 : ∀ t, own_S p e below T69 (mkF m 128 #[.val (.int p0), .val (.int p1), .val (.int p2), .val (.int p3), .val (.int p4), .val (.int p5), .val (.int (3 : Int32)), .val (.int y0), .val (.int y1), .val (.int y2), .val (.int y3), .unset, .unset] [(.ref b69)]) t → Steps p.tables e below SE t := fun t k => K68 _ (st69 _ k)
    have K70 : ∀ t, own_S p e below T69 (mkF m 132 #[.val (.int p0), .val (.int p1), .val (.int p2), .val (.int p3), .val (.int p4), .val (.int p5), .val (.int (3 : Int32)), .val (.int y0), .val (.int y1), .val (.int y2), .val (.int y3), .unset, .unset] [(.int y0), (.int (0 : Int32)), (.ref b69), (.ref b69)]) t → Steps p.tables e below SE t := by
      intro t k
      refine K69 _ ?_
      refine XS.dup X69.here hx rfl (hb hby at_128) rfl rfl ?_
      show own_S p e below T69 (mkF m 129 #[.val (.int p0), .val (.int p1), .val (.int p2), .val (.int p3), .val (.int p4), .val (.int p5), .val (.int (3 : Int32)), .val (.int y0), .val (.int y1), .val (.int y2), .val (.int y3), .unset, .unset] [(.ref b69), (.ref b69)]) _
      refine XS.iconst X69.here hx rfl (hb hby at_129) ?_
      show own_S p e below T69 (mkF m 130 #[.val (.int p0), .val (.int p1), .val (.int p2), .val (.int p3), .val (.int p4), .val (.int p5), .val (.int (3 : Int32)), .val (.int y0), .val (.int y1), .val (.int y2), .val (.int y3), .unset, .unset] [(.int (0 : Int32)), (.ref b69), (.ref b69)]) _
      refine XS.iload X69.here hx rfl (hb hby at_130) rfl ?_
      exact k
    obtain ⟨cl71, Ar71, qk71, S71, Ng71, Hh71, Gg71⟩ := id V69
    have hin71 : ¬ ((0 : Int32) < 0 ∨ cl71.slots.size ≤ ((0 : Int32)).toNatClampNeg) := inb_of S71 ⟨by decide, by decide⟩
    obtain ⟨T72, h72, X72, e72, W72, st72⟩ := stI X69 hx hZ e69 Ar71 (j := (0 : Int32)) hin71 (g := (mkF m 132 #[.val (.int p0), .val (.int p1), .val (.int p2), .val (.int p3), .val (.int p4), .val (.int p5), .val (.int (3 : Int32)), .val (.int y0), .val (.int y1), .val (.int y2), .val (.int y3), .unset, .unset] [(.int y0), (.int (0 : Int32)), (.ref b69), (.ref b69)])) rfl rfl (hb hby at_132)
    have V72 : Arv Z h72 b69 k69 .int (3 : Int32) [(.int y0), (.int (0 : Int32)), (.int (0 : Int32))] (.int (0 : Int32)) := Arv.set Ar71 qk71 S71 Ng71 Hh71 Gg71 rfl W72 0 rfl (Nat.le_of_ble_eq_true rfl)
    have N72 := Fr.snoc X72 N0 g_b69
    have Kp72 : Keep h0 h72 [] := Keep.wr Kp69 W72 (Or.inr sz_b69)
    have K72 : ∀ t, own_S p e below T72 (mkF m 133 #[.val (.int p0), .val (.int p1), .val (.int p2), .val (.int p3), .val (.int p4), .val (.int p5), .val (.int (3 : Int32)), .val (.int y0), .val (.int y1), .val (.int y2), .val (.int y3), .unset, .unset] [(.ref b69)]) t → Steps p.tables e below SE t := fun t k => K70 _ (st72 _ k)
    have K73 : ∀ t, own_S p e below T72 (mkF m 137 #[.val (.int p0), .val (.int p1), .val (.int p2), .val (.int p3), .val (.int p4), .val (.int p5), .val (.int (3 : Int32)), .val (.int y0), .val (.int y1), .val (.int y2), .val (.int y3), .unset, .unset] [(.int y1), (.int (1 : Int32)), (.ref b69), (.ref b69)]) t → Steps p.tables e below SE t := by
      intro t k
      refine K72 _ ?_
      refine XS.dup X72.here hx rfl (hb hby at_133) rfl rfl ?_
      show own_S p e below T72 (mkF m 134 #[.val (.int p0), .val (.int p1), .val (.int p2), .val (.int p3), .val (.int p4), .val (.int p5), .val (.int (3 : Int32)), .val (.int y0), .val (.int y1), .val (.int y2), .val (.int y3), .unset, .unset] [(.ref b69), (.ref b69)]) _
      refine XS.iconst X72.here hx rfl (hb hby at_134) ?_
      show own_S p e below T72 (mkF m 135 #[.val (.int p0), .val (.int p1), .val (.int p2), .val (.int p3), .val (.int p4), .val (.int p5), .val (.int (3 : Int32)), .val (.int y0), .val (.int y1), .val (.int y2), .val (.int y3), .unset, .unset] [(.int (1 : Int32)), (.ref b69), (.ref b69)]) _
      refine XS.iload X72.here hx rfl (hb hby at_135) rfl ?_
      exact k
    obtain ⟨cl74, Ar74, qk74, S74, Ng74, Hh74, Gg74⟩ := id V72
    have hin74 : ¬ ((1 : Int32) < 0 ∨ cl74.slots.size ≤ ((1 : Int32)).toNatClampNeg) := inb_of S74 ⟨by decide, by decide⟩
    obtain ⟨T75, h75, X75, e75, W75, st75⟩ := stI X72 hx hZ e72 Ar74 (j := (1 : Int32)) hin74 (g := (mkF m 137 #[.val (.int p0), .val (.int p1), .val (.int p2), .val (.int p3), .val (.int p4), .val (.int p5), .val (.int (3 : Int32)), .val (.int y0), .val (.int y1), .val (.int y2), .val (.int y3), .unset, .unset] [(.int y1), (.int (1 : Int32)), (.ref b69), (.ref b69)])) rfl rfl (hb hby at_137)
    have V75 : Arv Z h75 b69 k69 .int (3 : Int32) [(.int y0), (.int y1), (.int (0 : Int32))] (.int (0 : Int32)) := Arv.set Ar74 qk74 S74 Ng74 Hh74 Gg74 rfl W75 1 rfl (Nat.le_of_ble_eq_true rfl)
    have N75 := Fr.snoc X75 N72 g_b69
    have Kp75 : Keep h0 h75 [] := Keep.wr Kp72 W75 (Or.inr sz_b69)
    have K75 : ∀ t, own_S p e below T75 (mkF m 138 #[.val (.int p0), .val (.int p1), .val (.int p2), .val (.int p3), .val (.int p4), .val (.int p5), .val (.int (3 : Int32)), .val (.int y0), .val (.int y1), .val (.int y2), .val (.int y3), .unset, .unset] [(.ref b69)]) t → Steps p.tables e below SE t := fun t k => K73 _ (st75 _ k)
    have K76 : ∀ t, own_S p e below T75 (mkF m 142 #[.val (.int p0), .val (.int p1), .val (.int p2), .val (.int p3), .val (.int p4), .val (.int p5), .val (.int (3 : Int32)), .val (.int y0), .val (.int y1), .val (.int y2), .val (.int y3), .unset, .unset] [(.int y2), (.int (2 : Int32)), (.ref b69), (.ref b69)]) t → Steps p.tables e below SE t := by
      intro t k
      refine K75 _ ?_
      refine XS.dup X75.here hx rfl (hb hby at_138) rfl rfl ?_
      show own_S p e below T75 (mkF m 139 #[.val (.int p0), .val (.int p1), .val (.int p2), .val (.int p3), .val (.int p4), .val (.int p5), .val (.int (3 : Int32)), .val (.int y0), .val (.int y1), .val (.int y2), .val (.int y3), .unset, .unset] [(.ref b69), (.ref b69)]) _
      refine XS.iconst X75.here hx rfl (hb hby at_139) ?_
      show own_S p e below T75 (mkF m 140 #[.val (.int p0), .val (.int p1), .val (.int p2), .val (.int p3), .val (.int p4), .val (.int p5), .val (.int (3 : Int32)), .val (.int y0), .val (.int y1), .val (.int y2), .val (.int y3), .unset, .unset] [(.int (2 : Int32)), (.ref b69), (.ref b69)]) _
      refine XS.iload X75.here hx rfl (hb hby at_140) rfl ?_
      exact k
    obtain ⟨cl77, Ar77, qk77, S77, Ng77, Hh77, Gg77⟩ := id V75
    have hin77 : ¬ ((2 : Int32) < 0 ∨ cl77.slots.size ≤ ((2 : Int32)).toNatClampNeg) := inb_of S77 ⟨by decide, by decide⟩
    obtain ⟨T78, h78, X78, e78, W78, st78⟩ := stI X75 hx hZ e75 Ar77 (j := (2 : Int32)) hin77 (g := (mkF m 142 #[.val (.int p0), .val (.int p1), .val (.int p2), .val (.int p3), .val (.int p4), .val (.int p5), .val (.int (3 : Int32)), .val (.int y0), .val (.int y1), .val (.int y2), .val (.int y3), .unset, .unset] [(.int y2), (.int (2 : Int32)), (.ref b69), (.ref b69)])) rfl rfl (hb hby at_142)
    have V78 : Arv Z h78 b69 k69 .int (3 : Int32) [(.int y0), (.int y1), (.int y2)] (.int (0 : Int32)) := Arv.set Ar77 qk77 S77 Ng77 Hh77 Gg77 rfl W78 2 rfl (Nat.le_of_ble_eq_true rfl)
    have N78 := Fr.snoc X78 N75 g_b69
    have Kp78 : Keep h0 h78 [] := Keep.wr Kp75 W78 (Or.inr sz_b69)
    have K78 : ∀ t, own_S p e below T78 (mkF m 143 #[.val (.int p0), .val (.int p1), .val (.int p2), .val (.int p3), .val (.int p4), .val (.int p5), .val (.int (3 : Int32)), .val (.int y0), .val (.int y1), .val (.int y2), .val (.int y3), .unset, .unset] [(.ref b69)]) t → Steps p.tables e below SE t := fun t k => K76 _ (st78 _ k)
    have K80 : ∀ t, own_S p e below T78 (mkF m 173 #[.val (.int p0), .val (.int p1), .val (.int p2), .val (.int p3), .val (.int p4), .val (.int p5), .val (.int (3 : Int32)), .val (.int y0), .val (.int y1), .val (.int y2), .val (.int y3), .val (.ref b69), .unset] []) t → Steps p.tables e below SE t := by
      intro t k
      refine K78 _ ?_
      refine XS.astore X78.here hx rfl (hb hby at_143) rfl rfl (l' := #[.val (.int p0), .val (.int p1), .val (.int p2), .val (.int p3), .val (.int p4), .val (.int p5), .val (.int (3 : Int32)), .val (.int y0), .val (.int y1), .val (.int y2), .val (.int y3), .val (.ref b69), .unset]) rfl ?_
      show own_S p e below T78 (mkF m 145 #[.val (.int p0), .val (.int p1), .val (.int p2), .val (.int p3), .val (.int p4), .val (.int p5), .val (.int (3 : Int32)), .val (.int y0), .val (.int y1), .val (.int y2), .val (.int y3), .val (.ref b69), .unset] []) _
      refine XS.goto X78.here hx rfl (pc0 := 145) (pc' := 173) rfl (hb hby at_145) (by decide) (by decide) ?_
      exact k
    obtain ⟨ex, hex, K81⟩ : ∃ ex : Int32, ex = (if y0 = 0 then (if y1 = 0 then (if y2 = 0 then (1 : Int32) else (0 : Int32)) else (0 : Int32)) else (0 : Int32)) ∧ ∀ t, own_S p e below T78 (mkF m 222 #[.val (.int p0), .val (.int p1), .val (.int p2), .val (.int p3), .val (.int p4), .val (.int p5), .val (.int (3 : Int32)), .val (.int y0), .val (.int y1), .val (.int y2), .val (.int y3), .val (.ref b69), .unset] [(.int ex)]) t → Steps p.tables e below SE t := by
      have K83 : ∀ t, own_S p e below T78 (mkF m 181 #[.val (.int p0), .val (.int p1), .val (.int p2), .val (.int p3), .val (.int p4), .val (.int p5), .val (.int (3 : Int32)), .val (.int y0), .val (.int y1), .val (.int y2), .val (.int y3), .val (.ref b69), .unset] [(.int y0)]) t → Steps p.tables e below SE t := by
        intro t k
        refine K80 _ ?_
        refine XS.iload X78.here hx rfl (hb hby at_173) rfl ?_
        show own_S p e below T78 (mkF m 175 #[.val (.int p0), .val (.int p1), .val (.int p2), .val (.int p3), .val (.int p4), .val (.int p5), .val (.int (3 : Int32)), .val (.int y0), .val (.int y1), .val (.int y2), .val (.int y3), .val (.ref b69), .unset] [(.int (3 : Int32))]) _
        refine XS.iconst X78.here hx rfl (hb hby at_175) ?_
        show own_S p e below T78 (mkF m 176 #[.val (.int p0), .val (.int p1), .val (.int p2), .val (.int p3), .val (.int p4), .val (.int p5), .val (.int (3 : Int32)), .val (.int y0), .val (.int y1), .val (.int y2), .val (.int y3), .val (.ref b69), .unset] [(.int (1 : Int32)), (.int (3 : Int32))]) _
        refine XS.icmpNo X78.here hx rfl (hb hby at_176) rfl (XT.ii_lt_f (by decide : ¬ ((3 : Int32) < (1 : Int32)))) ?_
        show own_S p e below T78 (mkF m 179 #[.val (.int p0), .val (.int p1), .val (.int p2), .val (.int p3), .val (.int p4), .val (.int p5), .val (.int (3 : Int32)), .val (.int y0), .val (.int y1), .val (.int y2), .val (.int y3), .val (.ref b69), .unset] []) _
        refine XS.iload X78.here hx rfl (hb hby at_179) rfl ?_
        exact k
      by_cases c181_82 : y0 = 0
      · skip
        have K85 : ∀ t, own_S p e below T78 (mkF m 192 #[.val (.int p0), .val (.int p1), .val (.int p2), .val (.int p3), .val (.int p4), .val (.int p5), .val (.int (3 : Int32)), .val (.int y0), .val (.int y1), .val (.int y2), .val (.int y3), .val (.ref b69), .unset] [(.int y1)]) t → Steps p.tables e below SE t := by
          intro t k
          refine K83 _ ?_
          refine XS.ifNo X78.here hx rfl (hb hby at_181) rfl (XT.i0_ne_f c181_82) ?_
          show own_S p e below T78 (mkF m 184 #[.val (.int p0), .val (.int p1), .val (.int p2), .val (.int p3), .val (.int p4), .val (.int p5), .val (.int (3 : Int32)), .val (.int y0), .val (.int y1), .val (.int y2), .val (.int y3), .val (.ref b69), .unset] []) _
          refine XS.iload X78.here hx rfl (hb hby at_184) rfl ?_
          show own_S p e below T78 (mkF m 186 #[.val (.int p0), .val (.int p1), .val (.int p2), .val (.int p3), .val (.int p4), .val (.int p5), .val (.int (3 : Int32)), .val (.int y0), .val (.int y1), .val (.int y2), .val (.int y3), .val (.ref b69), .unset] [(.int (3 : Int32))]) _
          refine XS.iconst X78.here hx rfl (hb hby at_186) ?_
          show own_S p e below T78 (mkF m 187 #[.val (.int p0), .val (.int p1), .val (.int p2), .val (.int p3), .val (.int p4), .val (.int p5), .val (.int (3 : Int32)), .val (.int y0), .val (.int y1), .val (.int y2), .val (.int y3), .val (.ref b69), .unset] [(.int (2 : Int32)), (.int (3 : Int32))]) _
          refine XS.icmpNo X78.here hx rfl (hb hby at_187) rfl (XT.ii_lt_f (by decide : ¬ ((3 : Int32) < (2 : Int32)))) ?_
          show own_S p e below T78 (mkF m 190 #[.val (.int p0), .val (.int p1), .val (.int p2), .val (.int p3), .val (.int p4), .val (.int p5), .val (.int (3 : Int32)), .val (.int y0), .val (.int y1), .val (.int y2), .val (.int y3), .val (.ref b69), .unset] []) _
          refine XS.iload X78.here hx rfl (hb hby at_190) rfl ?_
          exact k
        by_cases c192_84 : y1 = 0
        · skip
          have K87 : ∀ t, own_S p e below T78 (mkF m 203 #[.val (.int p0), .val (.int p1), .val (.int p2), .val (.int p3), .val (.int p4), .val (.int p5), .val (.int (3 : Int32)), .val (.int y0), .val (.int y1), .val (.int y2), .val (.int y3), .val (.ref b69), .unset] [(.int y2)]) t → Steps p.tables e below SE t := by
            intro t k
            refine K85 _ ?_
            refine XS.ifNo X78.here hx rfl (hb hby at_192) rfl (XT.i0_ne_f c192_84) ?_
            show own_S p e below T78 (mkF m 195 #[.val (.int p0), .val (.int p1), .val (.int p2), .val (.int p3), .val (.int p4), .val (.int p5), .val (.int (3 : Int32)), .val (.int y0), .val (.int y1), .val (.int y2), .val (.int y3), .val (.ref b69), .unset] []) _
            refine XS.iload X78.here hx rfl (hb hby at_195) rfl ?_
            show own_S p e below T78 (mkF m 197 #[.val (.int p0), .val (.int p1), .val (.int p2), .val (.int p3), .val (.int p4), .val (.int p5), .val (.int (3 : Int32)), .val (.int y0), .val (.int y1), .val (.int y2), .val (.int y3), .val (.ref b69), .unset] [(.int (3 : Int32))]) _
            refine XS.iconst X78.here hx rfl (hb hby at_197) ?_
            show own_S p e below T78 (mkF m 198 #[.val (.int p0), .val (.int p1), .val (.int p2), .val (.int p3), .val (.int p4), .val (.int p5), .val (.int (3 : Int32)), .val (.int y0), .val (.int y1), .val (.int y2), .val (.int y3), .val (.ref b69), .unset] [(.int (3 : Int32)), (.int (3 : Int32))]) _
            refine XS.icmpNo X78.here hx rfl (hb hby at_198) rfl (XT.ii_lt_f (by decide : ¬ ((3 : Int32) < (3 : Int32)))) ?_
            show own_S p e below T78 (mkF m 201 #[.val (.int p0), .val (.int p1), .val (.int p2), .val (.int p3), .val (.int p4), .val (.int p5), .val (.int (3 : Int32)), .val (.int y0), .val (.int y1), .val (.int y2), .val (.int y3), .val (.ref b69), .unset] []) _
            refine XS.iload X78.here hx rfl (hb hby at_201) rfl ?_
            exact k
          by_cases c203_86 : y2 = 0
          · skip
            have K88 : ∀ t, own_S p e below T78 (mkF m 222 #[.val (.int p0), .val (.int p1), .val (.int p2), .val (.int p3), .val (.int p4), .val (.int p5), .val (.int (3 : Int32)), .val (.int y0), .val (.int y1), .val (.int y2), .val (.int y3), .val (.ref b69), .unset] [(.int (1 : Int32))]) t → Steps p.tables e below SE t := by
              intro t k
              refine K87 _ ?_
              refine XS.ifNo X78.here hx rfl (hb hby at_203) rfl (XT.i0_ne_f c203_86) ?_
              show own_S p e below T78 (mkF m 206 #[.val (.int p0), .val (.int p1), .val (.int p2), .val (.int p3), .val (.int p4), .val (.int p5), .val (.int (3 : Int32)), .val (.int y0), .val (.int y1), .val (.int y2), .val (.int y3), .val (.ref b69), .unset] []) _
              refine XS.iload X78.here hx rfl (hb hby at_206) rfl ?_
              show own_S p e below T78 (mkF m 208 #[.val (.int p0), .val (.int p1), .val (.int p2), .val (.int p3), .val (.int p4), .val (.int p5), .val (.int (3 : Int32)), .val (.int y0), .val (.int y1), .val (.int y2), .val (.int y3), .val (.ref b69), .unset] [(.int (3 : Int32))]) _
              refine XS.iconst X78.here hx rfl (hb hby at_208) ?_
              show own_S p e below T78 (mkF m 209 #[.val (.int p0), .val (.int p1), .val (.int p2), .val (.int p3), .val (.int p4), .val (.int p5), .val (.int (3 : Int32)), .val (.int y0), .val (.int y1), .val (.int y2), .val (.int y3), .val (.ref b69), .unset] [(.int (4 : Int32)), (.int (3 : Int32))]) _
              refine XS.icmpYes X78.here hx rfl (pc0 := 209) (pc' := 217) rfl (hb hby at_209) rfl (XT.ii_lt_t (by decide : (3 : Int32) < (4 : Int32))) (by decide) (by decide) ?_
              show own_S p e below T78 (mkF m 217 #[.val (.int p0), .val (.int p1), .val (.int p2), .val (.int p3), .val (.int p4), .val (.int p5), .val (.int (3 : Int32)), .val (.int y0), .val (.int y1), .val (.int y2), .val (.int y3), .val (.ref b69), .unset] []) _
              refine XS.iconst X78.here hx rfl (hb hby at_217) ?_
              show own_S p e below T78 (mkF m 218 #[.val (.int p0), .val (.int p1), .val (.int p2), .val (.int p3), .val (.int p4), .val (.int p5), .val (.int (3 : Int32)), .val (.int y0), .val (.int y1), .val (.int y2), .val (.int y3), .val (.ref b69), .unset] [(.int (1 : Int32))]) _
              refine XS.goto X78.here hx rfl (pc0 := 218) (pc' := 222) rfl (hb hby at_218) (by decide) (by decide) ?_
              exact k
            exact ⟨(1 : Int32), (by simp only [if_pos c181_82, if_pos c192_84, if_pos c203_86]), K88⟩
          · skip
            have K89 : ∀ t, own_S p e below T78 (mkF m 222 #[.val (.int p0), .val (.int p1), .val (.int p2), .val (.int p3), .val (.int p4), .val (.int p5), .val (.int (3 : Int32)), .val (.int y0), .val (.int y1), .val (.int y2), .val (.int y3), .val (.ref b69), .unset] [(.int (0 : Int32))]) t → Steps p.tables e below SE t := by
              intro t k
              refine K87 _ ?_
              refine XS.ifYes X78.here hx rfl (pc0 := 203) (pc' := 221) rfl (hb hby at_203) rfl (XT.i0_ne_t c203_86) (by decide) (by decide) ?_
              show own_S p e below T78 (mkF m 221 #[.val (.int p0), .val (.int p1), .val (.int p2), .val (.int p3), .val (.int p4), .val (.int p5), .val (.int (3 : Int32)), .val (.int y0), .val (.int y1), .val (.int y2), .val (.int y3), .val (.ref b69), .unset] []) _
              refine XS.iconst X78.here hx rfl (hb hby at_221) ?_
              exact k
            exact ⟨(0 : Int32), (by simp only [if_pos c181_82, if_pos c192_84, if_neg c203_86]), K89⟩
        · skip
          have K90 : ∀ t, own_S p e below T78 (mkF m 222 #[.val (.int p0), .val (.int p1), .val (.int p2), .val (.int p3), .val (.int p4), .val (.int p5), .val (.int (3 : Int32)), .val (.int y0), .val (.int y1), .val (.int y2), .val (.int y3), .val (.ref b69), .unset] [(.int (0 : Int32))]) t → Steps p.tables e below SE t := by
            intro t k
            refine K85 _ ?_
            refine XS.ifYes X78.here hx rfl (pc0 := 192) (pc' := 221) rfl (hb hby at_192) rfl (XT.i0_ne_t c192_84) (by decide) (by decide) ?_
            show own_S p e below T78 (mkF m 221 #[.val (.int p0), .val (.int p1), .val (.int p2), .val (.int p3), .val (.int p4), .val (.int p5), .val (.int (3 : Int32)), .val (.int y0), .val (.int y1), .val (.int y2), .val (.int y3), .val (.ref b69), .unset] []) _
            refine XS.iconst X78.here hx rfl (hb hby at_221) ?_
            exact k
          exact ⟨(0 : Int32), (by simp only [if_pos c181_82, if_neg c192_84]), K90⟩
      · skip
        have K91 : ∀ t, own_S p e below T78 (mkF m 222 #[.val (.int p0), .val (.int p1), .val (.int p2), .val (.int p3), .val (.int p4), .val (.int p5), .val (.int (3 : Int32)), .val (.int y0), .val (.int y1), .val (.int y2), .val (.int y3), .val (.ref b69), .unset] [(.int (0 : Int32))]) t → Steps p.tables e below SE t := by
          intro t k
          refine K83 _ ?_
          refine XS.ifYes X78.here hx rfl (pc0 := 181) (pc' := 221) rfl (hb hby at_181) rfl (XT.i0_ne_t c181_82) (by decide) (by decide) ?_
          show own_S p e below T78 (mkF m 221 #[.val (.int p0), .val (.int p1), .val (.int p2), .val (.int p3), .val (.int p4), .val (.int p5), .val (.int (3 : Int32)), .val (.int y0), .val (.int y1), .val (.int y2), .val (.int y3), .val (.ref b69), .unset] []) _
          refine XS.iconst X78.here hx rfl (hb hby at_221) ?_
          exact k
        exact ⟨(0 : Int32), (by simp only [if_neg c181_82]), K91⟩
    have hfin : (if ((((0 : Int32) ||| y0) ||| y1) ||| y2) = 0 then (1 : Int32) else (0 : Int32)) = ex := (own_eq3 y0 y1 y2).trans hex.symm
    have K92 : ∀ t, own_S p e below T78 (mkF m 226 #[.val (.int p0), .val (.int p1), .val (.int p2), .val (.int p3), .val (.int p4), .val (.int p5), .val (.int (3 : Int32)), .val (.int y0), .val (.int y1), .val (.int y2), .val (.int y3), .val (.ref b69), .val (.int ex)] [(.ref b69)]) t → Steps p.tables e below SE t := by
      intro t k
      refine K81 _ ?_
      refine XS.istore X78.here hx rfl (hb hby at_222) rfl (l' := #[.val (.int p0), .val (.int p1), .val (.int p2), .val (.int p3), .val (.int p4), .val (.int p5), .val (.int (3 : Int32)), .val (.int y0), .val (.int y1), .val (.int y2), .val (.int y3), .val (.ref b69), .val (.int ex)]) rfl ?_
      show own_S p e below T78 (mkF m 224 #[.val (.int p0), .val (.int p1), .val (.int p2), .val (.int p3), .val (.int p4), .val (.int p5), .val (.int (3 : Int32)), .val (.int y0), .val (.int y1), .val (.int y2), .val (.int y3), .val (.ref b69), .val (.int ex)] []) _
      refine XS.aload X78.here hx rfl (hb hby at_224) rfl rfl ?_
      exact k
    obtain ⟨_, _, ⟨T93, L93, k93, n93⟩, -, X93, ⟨Lc93, hQ93, l93, y93, z93⟩, st93⟩ := Jvm.LawKit.callS X78 hx (y := (⟨"com/example/whorl/whorl/PrimeField", "isZero", "([I)Z"⟩ : MethodName)) hown (mvT hZ (hw _ (List.mem_of_getElem? (i := 2) rfl))) (mvT hZ (hw _ (List.mem_of_getElem? (i := 3) rfl))) (mvT hZ (hw _ (List.mem_of_getElem? (i := 4) rfl))) (mvT hZ (hw _ (List.mem_of_getElem? (i := 5) rfl))) (by decide) (backOf (W := 0) (rm1_3 l Z a0 hw [] b69 k69 y0 y1 y2 h78 n0 (Nat.le_trans Z0 Kp78.1) V78) hZ (hw _ (List.mem_of_getElem? (i := 5) rfl)) (hw _ (List.mem_of_getElem? (i := 4) rfl)) (by decide) (by decide)) (g := (mkF m 226 #[.val (.int p0), .val (.int p1), .val (.int p2), .val (.int p3), .val (.int p4), .val (.int p5), .val (.int (3 : Int32)), .val (.int y0), .val (.int y1), .val (.int y2), .val (.int y3), .val (.ref b69), .val (.int ex)] [(.ref b69)])) rfl (by rw [hml]; rfl) (argsL := [(.ref b69)]) (rest := []) (lenOf pd_0_0 rfl) rfl (by show 2 * 0 + _ ≤ _; exact Nat.le_of_eq rfl) (hb hby at_226) (fun _ _ => ⟨rfl, e78, (by decide : 1 + 0 ≤ _), (by decide : 3 + 0 ≤ _)⟩)
    dsimp only [Pt.U, Pt.locs, Pt.cells, Pt.slots] at X93 l93 y93 z93 st93 hQ93
    subst l93 y93 z93
    obtain ⟨rfl, Nq93, e93⟩ := hQ93
    have N93 := Fr.app N78 Nq93
    have K93 : ∀ t, own_S p e below T93 (mkF m 229 #[.val (.int p0), .val (.int p1), .val (.int p2), .val (.int p3), .val (.int p4), .val (.int p5), .val (.int (3 : Int32)), .val (.int y0), .val (.int y1), .val (.int y2), .val (.int y3), .val (.ref b69), .val (.int ex)] [(.int (if ((((0 : Int32) ||| y0) ||| y1) ||| y2) = 0 then (1 : Int32) else (0 : Int32)))]) t → Steps p.tables e below SE t := fun t k => K92 _ (st93 _ k)
    have K94 : ∀ t, own_S p e below T93 (mkF m 239 #[.val (.int p0), .val (.int p1), .val (.int p2), .val (.int p3), .val (.int p4), .val (.int p5), .val (.int (3 : Int32)), .val (.int y0), .val (.int y1), .val (.int y2), .val (.int y3), .val (.ref b69), .val (.int ex)] [(.int (1 : Int32))]) t → Steps p.tables e below SE t := by
      intro t k
      refine K93 _ ?_
      refine XS.iload X93.here hx rfl (hb hby at_229) rfl ?_
      show own_S p e below T93 (mkF m 231 #[.val (.int p0), .val (.int p1), .val (.int p2), .val (.int p3), .val (.int p4), .val (.int p5), .val (.int (3 : Int32)), .val (.int y0), .val (.int y1), .val (.int y2), .val (.int y3), .val (.ref b69), .val (.int ex)] [(.int ex), (.int (if ((((0 : Int32) ||| y0) ||| y1) ||| y2) = 0 then (1 : Int32) else (0 : Int32)))]) _
      refine XS.icmpNo X93.here hx rfl (hb hby at_231) rfl (XT.ii_ne_f hfin) ?_
      show own_S p e below T93 (mkF m 234 #[.val (.int p0), .val (.int p1), .val (.int p2), .val (.int p3), .val (.int p4), .val (.int p5), .val (.int (3 : Int32)), .val (.int y0), .val (.int y1), .val (.int y2), .val (.int y3), .val (.ref b69), .val (.int ex)] []) _
      refine XS.iconst X93.here hx rfl (hb hby at_234) ?_
      show own_S p e below T93 (mkF m 235 #[.val (.int p0), .val (.int p1), .val (.int p2), .val (.int p3), .val (.int p4), .val (.int p5), .val (.int (3 : Int32)), .val (.int y0), .val (.int y1), .val (.int y2), .val (.int y3), .val (.ref b69), .val (.int ex)] [(.int (1 : Int32))]) _
      refine XS.goto X93.here hx rfl (pc0 := 235) (pc' := 239) rfl (hb hby at_235) (by decide) (by decide) ?_
      exact k
    obtain ⟨fs, hr, hrun, hended, hW, hsame⟩ := X93.leave (v := some (.int (1 : Int32))) (fun h => by rw [Bd.returns] at h; cases h)
    refine ⟨_, _, K94 _ ?_, hrun, hended, _, _, rfl, ?_, ⟨_, rfl⟩, hW, hsame.mono (by decide) (by decide)⟩
    · exact retN X93 hx (t := .boolean) Bd.returns (by simp) (hb hby at_239) hr
    · show Q0 Z p0 p1 p2 p3 p4 p5 h0 n0 _ T93.heap _
      rw [e93]
      exact ⟨rfl, N93⟩
  · skip
    rw [q] at K26
    have K95 : ∀ t, own_S p e below s₁ (mkF m 149 #[.val (.int p0), .val (.int p1), .val (.int p2), .val (.int p3), .val (.int p4), .val (.int p5), .val (.int (4 : Int32)), .val (.int y0), .val (.int y1), .val (.int y2), .val (.int y3), .unset, .unset] [(.int (4 : Int32))]) t → Steps p.tables e below SE t := by
      intro t k
      refine K26 _ ?_
      refine XS.iload X0.here hx rfl (hb hby at_63) rfl ?_
      show own_S p e below s₁ (mkF m 65 #[.val (.int p0), .val (.int p1), .val (.int p2), .val (.int p3), .val (.int p4), .val (.int p5), .val (.int (4 : Int32)), .val (.int y0), .val (.int y1), .val (.int y2), .val (.int y3), .unset, .unset] [(.int (4 : Int32))]) _
      refine XS.ifYes X0.here hx rfl (pc0 := 65) (pc' := 76) rfl (hb hby at_65) rfl (XT.i0_ne_t (by decide : ¬ ((4 : Int32) = 0))) (by decide) (by decide) ?_
      show own_S p e below s₁ (mkF m 76 #[.val (.int p0), .val (.int p1), .val (.int p2), .val (.int p3), .val (.int p4), .val (.int p5), .val (.int (4 : Int32)), .val (.int y0), .val (.int y1), .val (.int y2), .val (.int y3), .unset, .unset] []) _
      refine XS.iload X0.here hx rfl (hb hby at_76) rfl ?_
      show own_S p e below s₁ (mkF m 78 #[.val (.int p0), .val (.int p1), .val (.int p2), .val (.int p3), .val (.int p4), .val (.int p5), .val (.int (4 : Int32)), .val (.int y0), .val (.int y1), .val (.int y2), .val (.int y3), .unset, .unset] [(.int (4 : Int32))]) _
      refine XS.iconst X0.here hx rfl (hb hby at_78) ?_
      show own_S p e below s₁ (mkF m 79 #[.val (.int p0), .val (.int p1), .val (.int p2), .val (.int p3), .val (.int p4), .val (.int p5), .val (.int (4 : Int32)), .val (.int y0), .val (.int y1), .val (.int y2), .val (.int y3), .unset, .unset] [(.int (1 : Int32)), (.int (4 : Int32))]) _
      refine XS.icmpYes X0.here hx rfl (pc0 := 79) (pc' := 95) rfl (hb hby at_79) rfl (XT.ii_ne_t (by decide : ¬ ((4 : Int32) = (1 : Int32)))) (by decide) (by decide) ?_
      show own_S p e below s₁ (mkF m 95 #[.val (.int p0), .val (.int p1), .val (.int p2), .val (.int p3), .val (.int p4), .val (.int p5), .val (.int (4 : Int32)), .val (.int y0), .val (.int y1), .val (.int y2), .val (.int y3), .unset, .unset] []) _
      refine XS.iload X0.here hx rfl (hb hby at_95) rfl ?_
      show own_S p e below s₁ (mkF m 97 #[.val (.int p0), .val (.int p1), .val (.int p2), .val (.int p3), .val (.int p4), .val (.int p5), .val (.int (4 : Int32)), .val (.int y0), .val (.int y1), .val (.int y2), .val (.int y3), .unset, .unset] [(.int (4 : Int32))]) _
      refine XS.iconst X0.here hx rfl (hb hby at_97) ?_
      show own_S p e below s₁ (mkF m 98 #[.val (.int p0), .val (.int p1), .val (.int p2), .val (.int p3), .val (.int p4), .val (.int p5), .val (.int (4 : Int32)), .val (.int y0), .val (.int y1), .val (.int y2), .val (.int y3), .unset, .unset] [(.int (2 : Int32)), (.int (4 : Int32))]) _
      refine XS.icmpYes X0.here hx rfl (pc0 := 98) (pc' := 119) rfl (hb hby at_98) rfl (XT.ii_ne_t (by decide : ¬ ((4 : Int32) = (2 : Int32)))) (by decide) (by decide) ?_
      show own_S p e below s₁ (mkF m 119 #[.val (.int p0), .val (.int p1), .val (.int p2), .val (.int p3), .val (.int p4), .val (.int p5), .val (.int (4 : Int32)), .val (.int y0), .val (.int y1), .val (.int y2), .val (.int y3), .unset, .unset] []) _
      refine XS.iload X0.here hx rfl (hb hby at_119) rfl ?_
      show own_S p e below s₁ (mkF m 121 #[.val (.int p0), .val (.int p1), .val (.int p2), .val (.int p3), .val (.int p4), .val (.int p5), .val (.int (4 : Int32)), .val (.int y0), .val (.int y1), .val (.int y2), .val (.int y3), .unset, .unset] [(.int (4 : Int32))]) _
      refine XS.iconst X0.here hx rfl (hb hby at_121) ?_
      show own_S p e below s₁ (mkF m 122 #[.val (.int p0), .val (.int p1), .val (.int p2), .val (.int p3), .val (.int p4), .val (.int p5), .val (.int (4 : Int32)), .val (.int y0), .val (.int y1), .val (.int y2), .val (.int y3), .unset, .unset] [(.int (3 : Int32)), (.int (4 : Int32))]) _
      refine XS.icmpYes X0.here hx rfl (pc0 := 122) (pc' := 148) rfl (hb hby at_122) rfl (XT.ii_ne_t (by decide : ¬ ((4 : Int32) = (3 : Int32)))) (by decide) (by decide) ?_
      show own_S p e below s₁ (mkF m 148 #[.val (.int p0), .val (.int p1), .val (.int p2), .val (.int p3), .val (.int p4), .val (.int p5), .val (.int (4 : Int32)), .val (.int y0), .val (.int y1), .val (.int y2), .val (.int y3), .unset, .unset] []) _
      refine XS.iconst X0.here hx rfl (hb hby at_148) ?_
      exact k
    obtain ⟨T96, h96, k96, X96, e96, E96, A96, st96⟩ := newP X0 hx hZ (hw _ (List.mem_of_getElem? (i := 1) rfl)) e0 (g := (mkF m 149 #[.val (.int p0), .val (.int p1), .val (.int p2), .val (.int p3), .val (.int p4), .val (.int p5), .val (.int (4 : Int32)), .val (.int y0), .val (.int y1), .val (.int y2), .val (.int y3), .unset, .unset] [(.int (4 : Int32))])) rfl (hb hby at_149) rfl (by decide) (cap := 4) (by decide) (by decide) (by decide) (by decide)
    obtain ⟨b96, g96⟩ : ∃ z, z = h0.size := ⟨_, rfl⟩
    rw [← g96] at A96 st96
    have g_b96 : n0 ≤ b96 := Nat.le_trans Z0 (Nat.le_of_eq g96.symm)
    have sz_b96 : h0.size ≤ b96 := Nat.le_trans (Nat.le_refl _) (Nat.le_of_eq g96.symm)
    have Kp96 : Keep h0 h96 [] := Keep.ext (Keep.refl h0 []) E96
    have V96 : Arv Z h96 b96 k96 .int (4 : Int32) [(.int (0 : Int32)), (.int (0 : Int32)), (.int (0 : Int32)), (.int (0 : Int32))] (.int (0 : Int32)) := (Arv.new A96 (by decide)).pad (pad_rep [] (.int (0 : Int32)) 4)
    have K96 : ∀ t, own_S p e below T96 (mkF m 151 #[.val (.int p0), .val (.int p1), .val (.int p2), .val (.int p3), .val (.int p4), .val (.int p5), .val (.int (4 : Int32)), .val (.int y0), .val (.int y1), .val (.int y2), .val (.int y3), .unset, .unset] [(.ref b96)]) t → Steps p.tables e below SE t := fun t k => K95 _ (st96 _ k)
    have K97 : ∀ t, own_S p e below T96 (mkF m 155 #[.val (.int p0), .val (.int p1), .val (.int p2), .val (.int p3), .val (.int p4), .val (.int p5), .val (.int (4 : Int32)), .val (.int y0), .val (.int y1), .val (.int y2), .val (.int y3), .unset, .unset] [(.int y0), (.int (0 : Int32)), (.ref b96), (.ref b96)]) t → Steps p.tables e below SE t := by
      intro t k
      refine K96 _ ?_
      refine XS.dup X96.here hx rfl (hb hby at_151) rfl rfl ?_
      show own_S p e below T96 (mkF m 152 #[.val (.int p0), .val (.int p1), .val (.int p2), .val (.int p3), .val (.int p4), .val (.int p5), .val (.int (4 : Int32)), .val (.int y0), .val (.int y1), .val (.int y2), .val (.int y3), .unset, .unset] [(.ref b96), (.ref b96)]) _
      refine XS.iconst X96.here hx rfl (hb hby at_152) ?_
      show own_S p e below T96 (mkF m 153 #[.val (.int p0), .val (.int p1), .val (.int p2), .val (.int p3), .val (.int p4), .val (.int p5), .val (.int (4 : Int32)), .val (.int y0), .val (.int y1), .val (.int y2), .val (.int y3), .unset, .unset] [(.int (0 : Int32)), (.ref b96), (.ref b96)]) _
      refine XS.iload X96.here hx rfl (hb hby at_153) rfl ?_
      exact k
    obtain ⟨cl98, Ar98, qk98, S98, Ng98, Hh98, Gg98⟩ := id V96
    have hin98 : ¬ ((0 : Int32) < 0 ∨ cl98.slots.size ≤ ((0 : Int32)).toNatClampNeg) := inb_of S98 ⟨by decide, by decide⟩
    obtain ⟨T99, h99, X99, e99, W99, st99⟩ := stI X96 hx hZ e96 Ar98 (j := (0 : Int32)) hin98 (g := (mkF m 155 #[.val (.int p0), .val (.int p1), .val (.int p2), .val (.int p3), .val (.int p4), .val (.int p5), .val (.int (4 : Int32)), .val (.int y0), .val (.int y1), .val (.int y2), .val (.int y3), .unset, .unset] [(.int y0), (.int (0 : Int32)), (.ref b96), (.ref b96)])) rfl rfl (hb hby at_155)
    have V99 : Arv Z h99 b96 k96 .int (4 : Int32) [(.int y0), (.int (0 : Int32)), (.int (0 : Int32)), (.int (0 : Int32))] (.int (0 : Int32)) := Arv.set Ar98 qk98 S98 Ng98 Hh98 Gg98 rfl W99 0 rfl (Nat.le_of_ble_eq_true rfl)
    have N99 := Fr.snoc X99 N0 g_b96
    have Kp99 : Keep h0 h99 [] := Keep.wr Kp96 W99 (Or.inr sz_b96)
    have K99 : ∀ t, own_S p e below T99 (mkF m 156 #[.val (.int p0), .val (.int p1), .val (.int p2), .val (.int p3), .val (.int p4), .val (.int p5), .val (.int (4 : Int32)), .val (.int y0), .val (.int y1), .val (.int y2), .val (.int y3), .unset, .unset] [(.ref b96)]) t → Steps p.tables e below SE t := fun t k => K97 _ (st99 _ k)
    have K100 : ∀ t, own_S p e below T99 (mkF m 160 #[.val (.int p0), .val (.int p1), .val (.int p2), .val (.int p3), .val (.int p4), .val (.int p5), .val (.int (4 : Int32)), .val (.int y0), .val (.int y1), .val (.int y2), .val (.int y3), .unset, .unset] [(.int y1), (.int (1 : Int32)), (.ref b96), (.ref b96)]) t → Steps p.tables e below SE t := by
      intro t k
      refine K99 _ ?_
      refine XS.dup X99.here hx rfl (hb hby at_156) rfl rfl ?_
      show own_S p e below T99 (mkF m 157 #[.val (.int p0), .val (.int p1), .val (.int p2), .val (.int p3), .val (.int p4), .val (.int p5), .val (.int (4 : Int32)), .val (.int y0), .val (.int y1), .val (.int y2), .val (.int y3), .unset, .unset] [(.ref b96), (.ref b96)]) _
      refine XS.iconst X99.here hx rfl (hb hby at_157) ?_
      show own_S p e below T99 (mkF m 158 #[.val (.int p0), .val (.int p1), .val (.int p2), .val (.int p3), .val (.int p4), .val (.int p5), .val (.int (4 : Int32)), .val (.int y0), .val (.int y1), .val (.int y2), .val (.int y3), .unset, .unset] [(.int (1 : Int32)), (.ref b96), (.ref b96)]) _
      refine XS.iload X99.here hx rfl (hb hby at_158) rfl ?_
      exact k
    obtain ⟨cl101, Ar101, qk101, S101, Ng101, Hh101, Gg101⟩ := id V99
    have hin101 : ¬ ((1 : Int32) < 0 ∨ cl101.slots.size ≤ ((1 : Int32)).toNatClampNeg) := inb_of S101 ⟨by decide, by decide⟩
    obtain ⟨T102, h102, X102, e102, W102, st102⟩ := stI X99 hx hZ e99 Ar101 (j := (1 : Int32)) hin101 (g := (mkF m 160 #[.val (.int p0), .val (.int p1), .val (.int p2), .val (.int p3), .val (.int p4), .val (.int p5), .val (.int (4 : Int32)), .val (.int y0), .val (.int y1), .val (.int y2), .val (.int y3), .unset, .unset] [(.int y1), (.int (1 : Int32)), (.ref b96), (.ref b96)])) rfl rfl (hb hby at_160)
    have V102 : Arv Z h102 b96 k96 .int (4 : Int32) [(.int y0), (.int y1), (.int (0 : Int32)), (.int (0 : Int32))] (.int (0 : Int32)) := Arv.set Ar101 qk101 S101 Ng101 Hh101 Gg101 rfl W102 1 rfl (Nat.le_of_ble_eq_true rfl)
    have N102 := Fr.snoc X102 N99 g_b96
    have Kp102 : Keep h0 h102 [] := Keep.wr Kp99 W102 (Or.inr sz_b96)
    have K102 : ∀ t, own_S p e below T102 (mkF m 161 #[.val (.int p0), .val (.int p1), .val (.int p2), .val (.int p3), .val (.int p4), .val (.int p5), .val (.int (4 : Int32)), .val (.int y0), .val (.int y1), .val (.int y2), .val (.int y3), .unset, .unset] [(.ref b96)]) t → Steps p.tables e below SE t := fun t k => K100 _ (st102 _ k)
    have K103 : ∀ t, own_S p e below T102 (mkF m 165 #[.val (.int p0), .val (.int p1), .val (.int p2), .val (.int p3), .val (.int p4), .val (.int p5), .val (.int (4 : Int32)), .val (.int y0), .val (.int y1), .val (.int y2), .val (.int y3), .unset, .unset] [(.int y2), (.int (2 : Int32)), (.ref b96), (.ref b96)]) t → Steps p.tables e below SE t := by
      intro t k
      refine K102 _ ?_
      refine XS.dup X102.here hx rfl (hb hby at_161) rfl rfl ?_
      show own_S p e below T102 (mkF m 162 #[.val (.int p0), .val (.int p1), .val (.int p2), .val (.int p3), .val (.int p4), .val (.int p5), .val (.int (4 : Int32)), .val (.int y0), .val (.int y1), .val (.int y2), .val (.int y3), .unset, .unset] [(.ref b96), (.ref b96)]) _
      refine XS.iconst X102.here hx rfl (hb hby at_162) ?_
      show own_S p e below T102 (mkF m 163 #[.val (.int p0), .val (.int p1), .val (.int p2), .val (.int p3), .val (.int p4), .val (.int p5), .val (.int (4 : Int32)), .val (.int y0), .val (.int y1), .val (.int y2), .val (.int y3), .unset, .unset] [(.int (2 : Int32)), (.ref b96), (.ref b96)]) _
      refine XS.iload X102.here hx rfl (hb hby at_163) rfl ?_
      exact k
    obtain ⟨cl104, Ar104, qk104, S104, Ng104, Hh104, Gg104⟩ := id V102
    have hin104 : ¬ ((2 : Int32) < 0 ∨ cl104.slots.size ≤ ((2 : Int32)).toNatClampNeg) := inb_of S104 ⟨by decide, by decide⟩
    obtain ⟨T105, h105, X105, e105, W105, st105⟩ := stI X102 hx hZ e102 Ar104 (j := (2 : Int32)) hin104 (g := (mkF m 165 #[.val (.int p0), .val (.int p1), .val (.int p2), .val (.int p3), .val (.int p4), .val (.int p5), .val (.int (4 : Int32)), .val (.int y0), .val (.int y1), .val (.int y2), .val (.int y3), .unset, .unset] [(.int y2), (.int (2 : Int32)), (.ref b96), (.ref b96)])) rfl rfl (hb hby at_165)
    have V105 : Arv Z h105 b96 k96 .int (4 : Int32) [(.int y0), (.int y1), (.int y2), (.int (0 : Int32))] (.int (0 : Int32)) := Arv.set Ar104 qk104 S104 Ng104 Hh104 Gg104 rfl W105 2 rfl (Nat.le_of_ble_eq_true rfl)
    have N105 := Fr.snoc X105 N102 g_b96
    have Kp105 : Keep h0 h105 [] := Keep.wr Kp102 W105 (Or.inr sz_b96)
    have K105 : ∀ t, own_S p e below T105 (mkF m 166 #[.val (.int p0), .val (.int p1), .val (.int p2), .val (.int p3), .val (.int p4), .val (.int p5), .val (.int (4 : Int32)), .val (.int y0), .val (.int y1), .val (.int y2), .val (.int y3), .unset, .unset] [(.ref b96)]) t → Steps p.tables e below SE t := fun t k => K103 _ (st105 _ k)
    have K106 : ∀ t, own_S p e below T105 (mkF m 170 #[.val (.int p0), .val (.int p1), .val (.int p2), .val (.int p3), .val (.int p4), .val (.int p5), .val (.int (4 : Int32)), .val (.int y0), .val (.int y1), .val (.int y2), .val (.int y3), .unset, .unset] [(.int y3), (.int (3 : Int32)), (.ref b96), (.ref b96)]) t → Steps p.tables e below SE t := by
      intro t k
      refine K105 _ ?_
      refine XS.dup X105.here hx rfl (hb hby at_166) rfl rfl ?_
      show own_S p e below T105 (mkF m 167 #[.val (.int p0), .val (.int p1), .val (.int p2), .val (.int p3), .val (.int p4), .val (.int p5), .val (.int (4 : Int32)), .val (.int y0), .val (.int y1), .val (.int y2), .val (.int y3), .unset, .unset] [(.ref b96), (.ref b96)]) _
      refine XS.iconst X105.here hx rfl (hb hby at_167) ?_
      show own_S p e below T105 (mkF m 168 #[.val (.int p0), .val (.int p1), .val (.int p2), .val (.int p3), .val (.int p4), .val (.int p5), .val (.int (4 : Int32)), .val (.int y0), .val (.int y1), .val (.int y2), .val (.int y3), .unset, .unset] [(.int (3 : Int32)), (.ref b96), (.ref b96)]) _
      refine XS.iload X105.here hx rfl (hb hby at_168) rfl ?_
      exact k
    obtain ⟨cl107, Ar107, qk107, S107, Ng107, Hh107, Gg107⟩ := id V105
    have hin107 : ¬ ((3 : Int32) < 0 ∨ cl107.slots.size ≤ ((3 : Int32)).toNatClampNeg) := inb_of S107 ⟨by decide, by decide⟩
    obtain ⟨T108, h108, X108, e108, W108, st108⟩ := stI X105 hx hZ e105 Ar107 (j := (3 : Int32)) hin107 (g := (mkF m 170 #[.val (.int p0), .val (.int p1), .val (.int p2), .val (.int p3), .val (.int p4), .val (.int p5), .val (.int (4 : Int32)), .val (.int y0), .val (.int y1), .val (.int y2), .val (.int y3), .unset, .unset] [(.int y3), (.int (3 : Int32)), (.ref b96), (.ref b96)])) rfl rfl (hb hby at_170)
    have V108 : Arv Z h108 b96 k96 .int (4 : Int32) [(.int y0), (.int y1), (.int y2), (.int y3)] (.int (0 : Int32)) := Arv.set Ar107 qk107 S107 Ng107 Hh107 Gg107 rfl W108 3 rfl (Nat.le_of_ble_eq_true rfl)
    have N108 := Fr.snoc X108 N105 g_b96
    have Kp108 : Keep h0 h108 [] := Keep.wr Kp105 W108 (Or.inr sz_b96)
    have K108 : ∀ t, own_S p e below T108 (mkF m 171 #[.val (.int p0), .val (.int p1), .val (.int p2), .val (.int p3), .val (.int p4), .val (.int p5), .val (.int (4 : Int32)), .val (.int y0), .val (.int y1), .val (.int y2), .val (.int y3), .unset, .unset] [(.ref b96)]) t → Steps p.tables e below SE t := fun t k => K106 _ (st108 _ k)
    have K110 : ∀ t, own_S p e below T108 (mkF m 173 #[.val (.int p0), .val (.int p1), .val (.int p2), .val (.int p3), .val (.int p4), .val (.int p5), .val (.int (4 : Int32)), .val (.int y0), .val (.int y1), .val (.int y2), .val (.int y3), .val (.ref b96), .unset] []) t → Steps p.tables e below SE t := by
      intro t k
      refine K108 _ ?_
      refine XS.astore X108.here hx rfl (hb hby at_171) rfl rfl (l' := #[.val (.int p0), .val (.int p1), .val (.int p2), .val (.int p3), .val (.int p4), .val (.int p5), .val (.int (4 : Int32)), .val (.int y0), .val (.int y1), .val (.int y2), .val (.int y3), .val (.ref b96), .unset]) rfl ?_
      exact k
    obtain ⟨ex, hex, K111⟩ : ∃ ex : Int32, ex = (if y0 = 0 then (if y1 = 0 then (if y2 = 0 then (if y3 = 0 then (1 : Int32) else (0 : Int32)) else (0 : Int32)) else (0 : Int32)) else (0 : Int32)) ∧ ∀ t, own_S p e below T108 (mkF m 222 #[.val (.int p0), .val (.int p1), .val (.int p2), .val (.int p3), .val (.int p4), .val (.int p5), .val (.int (4 : Int32)), .val (.int y0), .val (.int y1), .val (.int y2), .val (.int y3), .val (.ref b96), .unset] [(.int ex)]) t → Steps p.tables e below SE t := by
      have K113 : ∀ t, own_S p e below T108 (mkF m 181 #[.val (.int p0), .val (.int p1), .val (.int p2), .val (.int p3), .val (.int p4), .val (.int p5), .val (.int (4 : Int32)), .val (.int y0), .val (.int y1), .val (.int y2), .val (.int y3), .val (.ref b96), .unset] [(.int y0)]) t → Steps p.tables e below SE t := by
        intro t k
        refine K110 _ ?_
        refine XS.iload X108.here hx rfl (hb hby at_173) rfl ?_
        show own_S p e below T108 (mkF m 175 #[.val (.int p0), .val (.int p1), .val (.int p2), .val (.int p3), .val (.int p4), .val (.int p5), .val (.int (4 : Int32)), .val (.int y0), .val (.int y1), .val (.int y2), .val (.int y3), .val (.ref b96), .unset] [(.int (4 : Int32))]) _
        refine XS.iconst X108.here hx rfl (hb hby at_175) ?_
        show own_S p e below T108 (mkF m 176 #[.val (.int p0), .val (.int p1), .val (.int p2), .val (.int p3), .val (.int p4), .val (.int p5), .val (.int (4 : Int32)), .val (.int y0), .val (.int y1), .val (.int y2), .val (.int y3), .val (.ref b96), .unset] [(.int (1 : Int32)), (.int (4 : Int32))]) _
        refine XS.icmpNo X108.here hx rfl (hb hby at_176) rfl (XT.ii_lt_f (by decide : ¬ ((4 : Int32) < (1 : Int32)))) ?_
        show own_S p e below T108 (mkF m 179 #[.val (.int p0), .val (.int p1), .val (.int p2), .val (.int p3), .val (.int p4), .val (.int p5), .val (.int (4 : Int32)), .val (.int y0), .val (.int y1), .val (.int y2), .val (.int y3), .val (.ref b96), .unset] []) _
        refine XS.iload X108.here hx rfl (hb hby at_179) rfl ?_
        exact k
      by_cases c181_112 : y0 = 0
      · skip
        have K115 : ∀ t, own_S p e below T108 (mkF m 192 #[.val (.int p0), .val (.int p1), .val (.int p2), .val (.int p3), .val (.int p4), .val (.int p5), .val (.int (4 : Int32)), .val (.int y0), .val (.int y1), .val (.int y2), .val (.int y3), .val (.ref b96), .unset] [(.int y1)]) t → Steps p.tables e below SE t := by
          intro t k
          refine K113 _ ?_
          refine XS.ifNo X108.here hx rfl (hb hby at_181) rfl (XT.i0_ne_f c181_112) ?_
          show own_S p e below T108 (mkF m 184 #[.val (.int p0), .val (.int p1), .val (.int p2), .val (.int p3), .val (.int p4), .val (.int p5), .val (.int (4 : Int32)), .val (.int y0), .val (.int y1), .val (.int y2), .val (.int y3), .val (.ref b96), .unset] []) _
          refine XS.iload X108.here hx rfl (hb hby at_184) rfl ?_
          show own_S p e below T108 (mkF m 186 #[.val (.int p0), .val (.int p1), .val (.int p2), .val (.int p3), .val (.int p4), .val (.int p5), .val (.int (4 : Int32)), .val (.int y0), .val (.int y1), .val (.int y2), .val (.int y3), .val (.ref b96), .unset] [(.int (4 : Int32))]) _
          refine XS.iconst X108.here hx rfl (hb hby at_186) ?_
          show own_S p e below T108 (mkF m 187 #[.val (.int p0), .val (.int p1), .val (.int p2), .val (.int p3), .val (.int p4), .val (.int p5), .val (.int (4 : Int32)), .val (.int y0), .val (.int y1), .val (.int y2), .val (.int y3), .val (.ref b96), .unset] [(.int (2 : Int32)), (.int (4 : Int32))]) _
          refine XS.icmpNo X108.here hx rfl (hb hby at_187) rfl (XT.ii_lt_f (by decide : ¬ ((4 : Int32) < (2 : Int32)))) ?_
          show own_S p e below T108 (mkF m 190 #[.val (.int p0), .val (.int p1), .val (.int p2), .val (.int p3), .val (.int p4), .val (.int p5), .val (.int (4 : Int32)), .val (.int y0), .val (.int y1), .val (.int y2), .val (.int y3), .val (.ref b96), .unset] []) _
          refine XS.iload X108.here hx rfl (hb hby at_190) rfl ?_
          exact k
        by_cases c192_114 : y1 = 0
        · skip
          have K117 : ∀ t, own_S p e below T108 (mkF m 203 #[.val (.int p0), .val (.int p1), .val (.int p2), .val (.int p3), .val (.int p4), .val (.int p5), .val (.int (4 : Int32)), .val (.int y0), .val (.int y1), .val (.int y2), .val (.int y3), .val (.ref b96), .unset] [(.int y2)]) t → Steps p.tables e below SE t := by
            intro t k
            refine K115 _ ?_
            refine XS.ifNo X108.here hx rfl (hb hby at_192) rfl (XT.i0_ne_f c192_114) ?_
            show own_S p e below T108 (mkF m 195 #[.val (.int p0), .val (.int p1), .val (.int p2), .val (.int p3), .val (.int p4), .val (.int p5), .val (.int (4 : Int32)), .val (.int y0), .val (.int y1), .val (.int y2), .val (.int y3), .val (.ref b96), .unset] []) _
            refine XS.iload X108.here hx rfl (hb hby at_195) rfl ?_
            show own_S p e below T108 (mkF m 197 #[.val (.int p0), .val (.int p1), .val (.int p2), .val (.int p3), .val (.int p4), .val (.int p5), .val (.int (4 : Int32)), .val (.int y0), .val (.int y1), .val (.int y2), .val (.int y3), .val (.ref b96), .unset] [(.int (4 : Int32))]) _
            refine XS.iconst X108.here hx rfl (hb hby at_197) ?_
            show own_S p e below T108 (mkF m 198 #[.val (.int p0), .val (.int p1), .val (.int p2), .val (.int p3), .val (.int p4), .val (.int p5), .val (.int (4 : Int32)), .val (.int y0), .val (.int y1), .val (.int y2), .val (.int y3), .val (.ref b96), .unset] [(.int (3 : Int32)), (.int (4 : Int32))]) _
            refine XS.icmpNo X108.here hx rfl (hb hby at_198) rfl (XT.ii_lt_f (by decide : ¬ ((4 : Int32) < (3 : Int32)))) ?_
            show own_S p e below T108 (mkF m 201 #[.val (.int p0), .val (.int p1), .val (.int p2), .val (.int p3), .val (.int p4), .val (.int p5), .val (.int (4 : Int32)), .val (.int y0), .val (.int y1), .val (.int y2), .val (.int y3), .val (.ref b96), .unset] []) _
            refine XS.iload X108.here hx rfl (hb hby at_201) rfl ?_
            exact k
          by_cases c203_116 : y2 = 0
          · skip
            have K119 : ∀ t, own_S p e below T108 (mkF m 214 #[.val (.int p0), .val (.int p1), .val (.int p2), .val (.int p3), .val (.int p4), .val (.int p5), .val (.int (4 : Int32)), .val (.int y0), .val (.int y1), .val (.int y2), .val (.int y3), .val (.ref b96), .unset] [(.int y3)]) t → Steps p.tables e below SE t := by
              intro t k
              refine K117 _ ?_
              refine XS.ifNo X108.here hx rfl (hb hby at_203) rfl (XT.i0_ne_f c203_116) ?_
              show own_S p e below T108 (mkF m 206 #[.val (.int p0), .val (.int p1), .val (.int p2), .val (.int p3), .val (.int p4), .val (.int p5), .val (.int (4 : Int32)), .val (.int y0), .val (.int y1), .val (.int y2), .val (.int y3), .val (.ref b96), .unset] []) _
              refine XS.iload X108.here hx rfl (hb hby at_206) rfl ?_
              show own_S p e below T108 (mkF m 208 #[.val (.int p0), .val (.int p1), .val (.int p2), .val (.int p3), .val (.int p4), .val (.int p5), .val (.int (4 : Int32)), .val (.int y0), .val (.int y1), .val (.int y2), .val (.int y3), .val (.ref b96), .unset] [(.int (4 : Int32))]) _
              refine XS.iconst X108.here hx rfl (hb hby at_208) ?_
              show own_S p e below T108 (mkF m 209 #[.val (.int p0), .val (.int p1), .val (.int p2), .val (.int p3), .val (.int p4), .val (.int p5), .val (.int (4 : Int32)), .val (.int y0), .val (.int y1), .val (.int y2), .val (.int y3), .val (.ref b96), .unset] [(.int (4 : Int32)), (.int (4 : Int32))]) _
              refine XS.icmpNo X108.here hx rfl (hb hby at_209) rfl (XT.ii_lt_f (by decide : ¬ ((4 : Int32) < (4 : Int32)))) ?_
              show own_S p e below T108 (mkF m 212 #[.val (.int p0), .val (.int p1), .val (.int p2), .val (.int p3), .val (.int p4), .val (.int p5), .val (.int (4 : Int32)), .val (.int y0), .val (.int y1), .val (.int y2), .val (.int y3), .val (.ref b96), .unset] []) _
              refine XS.iload X108.here hx rfl (hb hby at_212) rfl ?_
              exact k
            by_cases c214_118 : y3 = 0
            · skip
              have K120 : ∀ t, own_S p e below T108 (mkF m 222 #[.val (.int p0), .val (.int p1), .val (.int p2), .val (.int p3), .val (.int p4), .val (.int p5), .val (.int (4 : Int32)), .val (.int y0), .val (.int y1), .val (.int y2), .val (.int y3), .val (.ref b96), .unset] [(.int (1 : Int32))]) t → Steps p.tables e below SE t := by
                intro t k
                refine K119 _ ?_
                refine XS.ifNo X108.here hx rfl (hb hby at_214) rfl (XT.i0_ne_f c214_118) ?_
                show own_S p e below T108 (mkF m 217 #[.val (.int p0), .val (.int p1), .val (.int p2), .val (.int p3), .val (.int p4), .val (.int p5), .val (.int (4 : Int32)), .val (.int y0), .val (.int y1), .val (.int y2), .val (.int y3), .val (.ref b96), .unset] []) _
                refine XS.iconst X108.here hx rfl (hb hby at_217) ?_
                show own_S p e below T108 (mkF m 218 #[.val (.int p0), .val (.int p1), .val (.int p2), .val (.int p3), .val (.int p4), .val (.int p5), .val (.int (4 : Int32)), .val (.int y0), .val (.int y1), .val (.int y2), .val (.int y3), .val (.ref b96), .unset] [(.int (1 : Int32))]) _
                refine XS.goto X108.here hx rfl (pc0 := 218) (pc' := 222) rfl (hb hby at_218) (by decide) (by decide) ?_
                exact k
              exact ⟨(1 : Int32), (by simp only [if_pos c181_112, if_pos c192_114, if_pos c203_116, if_pos c214_118]), K120⟩
            · skip
              have K121 : ∀ t, own_S p e below T108 (mkF m 222 #[.val (.int p0), .val (.int p1), .val (.int p2), .val (.int p3), .val (.int p4), .val (.int p5), .val (.int (4 : Int32)), .val (.int y0), .val (.int y1), .val (.int y2), .val (.int y3), .val (.ref b96), .unset] [(.int (0 : Int32))]) t → Steps p.tables e below SE t := by
                intro t k
                refine K119 _ ?_
                refine XS.ifYes X108.here hx rfl (pc0 := 214) (pc' := 221) rfl (hb hby at_214) rfl (XT.i0_ne_t c214_118) (by decide) (by decide) ?_
                show own_S p e below T108 (mkF m 221 #[.val (.int p0), .val (.int p1), .val (.int p2), .val (.int p3), .val (.int p4), .val (.int p5), .val (.int (4 : Int32)), .val (.int y0), .val (.int y1), .val (.int y2), .val (.int y3), .val (.ref b96), .unset] []) _
                refine XS.iconst X108.here hx rfl (hb hby at_221) ?_
                exact k
              exact ⟨(0 : Int32), (by simp only [if_pos c181_112, if_pos c192_114, if_pos c203_116, if_neg c214_118]), K121⟩
          · skip
            have K122 : ∀ t, own_S p e below T108 (mkF m 222 #[.val (.int p0), .val (.int p1), .val (.int p2), .val (.int p3), .val (.int p4), .val (.int p5), .val (.int (4 : Int32)), .val (.int y0), .val (.int y1), .val (.int y2), .val (.int y3), .val (.ref b96), .unset] [(.int (0 : Int32))]) t → Steps p.tables e below SE t := by
              intro t k
              refine K117 _ ?_
              refine XS.ifYes X108.here hx rfl (pc0 := 203) (pc' := 221) rfl (hb hby at_203) rfl (XT.i0_ne_t c203_116) (by decide) (by decide) ?_
              show own_S p e below T108 (mkF m 221 #[.val (.int p0), .val (.int p1), .val (.int p2), .val (.int p3), .val (.int p4), .val (.int p5), .val (.int (4 : Int32)), .val (.int y0), .val (.int y1), .val (.int y2), .val (.int y3), .val (.ref b96), .unset] []) _
              refine XS.iconst X108.here hx rfl (hb hby at_221) ?_
              exact k
            exact ⟨(0 : Int32), (by simp only [if_pos c181_112, if_pos c192_114, if_neg c203_116]), K122⟩
        · skip
          have K123 : ∀ t, own_S p e below T108 (mkF m 222 #[.val (.int p0), .val (.int p1), .val (.int p2), .val (.int p3), .val (.int p4), .val (.int p5), .val (.int (4 : Int32)), .val (.int y0), .val (.int y1), .val (.int y2), .val (.int y3), .val (.ref b96), .unset] [(.int (0 : Int32))]) t → Steps p.tables e below SE t := by
            intro t k
            refine K115 _ ?_
            refine XS.ifYes X108.here hx rfl (pc0 := 192) (pc' := 221) rfl (hb hby at_192) rfl (XT.i0_ne_t c192_114) (by decide) (by decide) ?_
            show own_S p e below T108 (mkF m 221 #[.val (.int p0), .val (.int p1), .val (.int p2), .val (.int p3), .val (.int p4), .val (.int p5), .val (.int (4 : Int32)), .val (.int y0), .val (.int y1), .val (.int y2), .val (.int y3), .val (.ref b96), .unset] []) _
            refine XS.iconst X108.here hx rfl (hb hby at_221) ?_
            exact k
          exact ⟨(0 : Int32), (by simp only [if_pos c181_112, if_neg c192_114]), K123⟩
      · skip
        have K124 : ∀ t, own_S p e below T108 (mkF m 222 #[.val (.int p0), .val (.int p1), .val (.int p2), .val (.int p3), .val (.int p4), .val (.int p5), .val (.int (4 : Int32)), .val (.int y0), .val (.int y1), .val (.int y2), .val (.int y3), .val (.ref b96), .unset] [(.int (0 : Int32))]) t → Steps p.tables e below SE t := by
          intro t k
          refine K113 _ ?_
          refine XS.ifYes X108.here hx rfl (pc0 := 181) (pc' := 221) rfl (hb hby at_181) rfl (XT.i0_ne_t c181_112) (by decide) (by decide) ?_
          show own_S p e below T108 (mkF m 221 #[.val (.int p0), .val (.int p1), .val (.int p2), .val (.int p3), .val (.int p4), .val (.int p5), .val (.int (4 : Int32)), .val (.int y0), .val (.int y1), .val (.int y2), .val (.int y3), .val (.ref b96), .unset] []) _
          refine XS.iconst X108.here hx rfl (hb hby at_221) ?_
          exact k
        exact ⟨(0 : Int32), (by simp only [if_neg c181_112]), K124⟩
    have hfin : (if (((((0 : Int32) ||| y0) ||| y1) ||| y2) ||| y3) = 0 then (1 : Int32) else (0 : Int32)) = ex := (own_eq4 y0 y1 y2 y3).trans hex.symm
    have K125 : ∀ t, own_S p e below T108 (mkF m 226 #[.val (.int p0), .val (.int p1), .val (.int p2), .val (.int p3), .val (.int p4), .val (.int p5), .val (.int (4 : Int32)), .val (.int y0), .val (.int y1), .val (.int y2), .val (.int y3), .val (.ref b96), .val (.int ex)] [(.ref b96)]) t → Steps p.tables e below SE t := by
      intro t k
      refine K111 _ ?_
      refine XS.istore X108.here hx rfl (hb hby at_222) rfl (l' := #[.val (.int p0), .val (.int p1), .val (.int p2), .val (.int p3), .val (.int p4), .val (.int p5), .val (.int (4 : Int32)), .val (.int y0), .val (.int y1), .val (.int y2), .val (.int y3), .val (.ref b96), .val (.int ex)]) rfl ?_
      show own_S p e below T108 (mkF m 224 #[.val (.int p0), .val (.int p1), .val (.int p2), .val (.int p3), .val (.int p4), .val (.int p5), .val (.int (4 : Int32)), .val (.int y0), .val (.int y1), .val (.int y2), .val (.int y3), .val (.ref b96), .val (.int ex)] []) _
      refine XS.aload X108.here hx rfl (hb hby at_224) rfl rfl ?_
      exact k
    obtain ⟨_, _, ⟨T126, L126, k126, n126⟩, -, X126, ⟨Lc126, hQ126, l126, y126, z126⟩, st126⟩ := Jvm.LawKit.callS X108 hx (y := (⟨"com/example/whorl/whorl/PrimeField", "isZero", "([I)Z"⟩ : MethodName)) hown (mvT hZ (hw _ (List.mem_of_getElem? (i := 2) rfl))) (mvT hZ (hw _ (List.mem_of_getElem? (i := 3) rfl))) (mvT hZ (hw _ (List.mem_of_getElem? (i := 4) rfl))) (mvT hZ (hw _ (List.mem_of_getElem? (i := 5) rfl))) (by decide) (backOf (W := 0) (rm1_4 l Z a0 hw [] b96 k96 y0 y1 y2 y3 h108 n0 (Nat.le_trans Z0 Kp108.1) V108) hZ (hw _ (List.mem_of_getElem? (i := 5) rfl)) (hw _ (List.mem_of_getElem? (i := 4) rfl)) (by decide) (by decide)) (g := (mkF m 226 #[.val (.int p0), .val (.int p1), .val (.int p2), .val (.int p3), .val (.int p4), .val (.int p5), .val (.int (4 : Int32)), .val (.int y0), .val (.int y1), .val (.int y2), .val (.int y3), .val (.ref b96), .val (.int ex)] [(.ref b96)])) rfl (by rw [hml]; rfl) (argsL := [(.ref b96)]) (rest := []) (lenOf pd_0_0 rfl) rfl (by show 2 * 0 + _ ≤ _; exact Nat.le_of_eq rfl) (hb hby at_226) (fun _ _ => ⟨rfl, e108, (by decide : 1 + 0 ≤ _), (by decide : 4 + 0 ≤ _)⟩)
    dsimp only [Pt.U, Pt.locs, Pt.cells, Pt.slots] at X126 l126 y126 z126 st126 hQ126
    subst l126 y126 z126
    obtain ⟨rfl, Nq126, e126⟩ := hQ126
    have N126 := Fr.app N108 Nq126
    have K126 : ∀ t, own_S p e below T126 (mkF m 229 #[.val (.int p0), .val (.int p1), .val (.int p2), .val (.int p3), .val (.int p4), .val (.int p5), .val (.int (4 : Int32)), .val (.int y0), .val (.int y1), .val (.int y2), .val (.int y3), .val (.ref b96), .val (.int ex)] [(.int (if (((((0 : Int32) ||| y0) ||| y1) ||| y2) ||| y3) = 0 then (1 : Int32) else (0 : Int32)))]) t → Steps p.tables e below SE t := fun t k => K125 _ (st126 _ k)
    have K127 : ∀ t, own_S p e below T126 (mkF m 239 #[.val (.int p0), .val (.int p1), .val (.int p2), .val (.int p3), .val (.int p4), .val (.int p5), .val (.int (4 : Int32)), .val (.int y0), .val (.int y1), .val (.int y2), .val (.int y3), .val (.ref b96), .val (.int ex)] [(.int (1 : Int32))]) t → Steps p.tables e below SE t := by
      intro t k
      refine K126 _ ?_
      refine XS.iload X126.here hx rfl (hb hby at_229) rfl ?_
      show own_S p e below T126 (mkF m 231 #[.val (.int p0), .val (.int p1), .val (.int p2), .val (.int p3), .val (.int p4), .val (.int p5), .val (.int (4 : Int32)), .val (.int y0), .val (.int y1), .val (.int y2), .val (.int y3), .val (.ref b96), .val (.int ex)] [(.int ex), (.int (if (((((0 : Int32) ||| y0) ||| y1) ||| y2) ||| y3) = 0 then (1 : Int32) else (0 : Int32)))]) _
      refine XS.icmpNo X126.here hx rfl (hb hby at_231) rfl (XT.ii_ne_f hfin) ?_
      show own_S p e below T126 (mkF m 234 #[.val (.int p0), .val (.int p1), .val (.int p2), .val (.int p3), .val (.int p4), .val (.int p5), .val (.int (4 : Int32)), .val (.int y0), .val (.int y1), .val (.int y2), .val (.int y3), .val (.ref b96), .val (.int ex)] []) _
      refine XS.iconst X126.here hx rfl (hb hby at_234) ?_
      show own_S p e below T126 (mkF m 235 #[.val (.int p0), .val (.int p1), .val (.int p2), .val (.int p3), .val (.int p4), .val (.int p5), .val (.int (4 : Int32)), .val (.int y0), .val (.int y1), .val (.int y2), .val (.int y3), .val (.ref b96), .val (.int ex)] [(.int (1 : Int32))]) _
      refine XS.goto X126.here hx rfl (pc0 := 235) (pc' := 239) rfl (hb hby at_235) (by decide) (by decide) ?_
      exact k
    obtain ⟨fs, hr, hrun, hended, hW, hsame⟩ := X126.leave (v := some (.int (1 : Int32))) (fun h => by rw [Bd.returns] at h; cases h)
    refine ⟨_, _, K127 _ ?_, hrun, hended, _, _, rfl, ?_, ⟨_, rfl⟩, hW, hsame.mono (by decide) (by decide)⟩
    · exact retN X126 hx (t := .boolean) Bd.returns (by simp) (hb hby at_239) hr
    · show Q0 Z p0 p1 p2 p3 p4 p5 h0 n0 _ T126.heap _
      rw [e126]
      exact ⟨rfl, N126⟩
set_option maxRecDepth 65536 in
set_option maxHeartbeats 40000000 in
theorem comes_1 {Post : Tables → Env → Array Value → State → Outcome → State → Prop} (hpost : ∀ tb e args s v u, (limb_1_1.after args s (.returned v) u = true ∧ limb_1_2.after args s (.returned v) u = true ∧ True) → FrameEnd s (.returned v) u (Jvm.fieldLocs frame_1_writes args s ++ Jvm.arrayLocs frame_1_arrays args s ++ Jvm.staticLocs frame_1_statics s) 16 128 → Post tb e args s (.returned v) u) :
    ArmFor flags0 classFile x code maxLocals ret World_1 tables_1 room_1 Calls_1 rest_1 Pre_1 Post := by
  intro l hfl _ _ p e ha hc hk s m args below hf hA hF happ hP
  obtain ⟨hcalls, hrest, hpre⟩ := hP
  obtain ⟨-, -, -, hnamed, -, -, -, hat⟩ := (Spec.applies_iff hf).mp happ
  obtain ⟨hg, hn⟩ := and_e (Cond.before_iff.mp (show (Jvm.Cond.and given_1 narrow_1).before args s = true from hpre))
  obtain ⟨hcount, hg0⟩ := and_e hg
  obtain ⟨ha0, hg1⟩ := and_e hg0
  obtain ⟨ha1, hg2⟩ := and_e hg1
  obtain ⟨ha2, hg3⟩ := and_e hg2
  obtain ⟨ha3, hg4⟩ := and_e hg3
  obtain ⟨ha4, hg5⟩ := and_e hg4
  obtain ⟨w0, w1, w2, w3, w4, w5, rfl⟩ : ∃ w0 w1 w2 w3 w4 w5 : Value, args = #[w0, w1, w2, w3, w4, w5] := by
    have hs : args.size = 6 := by simpa [Cond.value, given_1] using hcount
    obtain ⟨L⟩ := args
    match L, hs with
    | [w0, w1, w2, w3, w4, w5], _ => exact ⟨w0, w1, w2, w3, w4, w5, rfl⟩
  have hw := fun d (hd : d ∈ tables_1) => atoms_spec (ws := Jvm.Cond.code x code maxLocals ret :: tables_1) hat d (List.mem_cons_of_mem _ hd)
  have hfit : Fit s := fun {y c} hc i hi => by
    obtain ⟨ha, rfl⟩ := Array.getElem?_eq_some_iff.mp hc
    have q := List.all_eq_true.mp ((Array.all_eq_true_iff_forall_mem.mp hF) _ (Array.getElem_mem ha)) i (List.mem_range.mpr hi)
    simpa [Array.getElem?_eq_getElem hi] using q
  obtain ⟨i0, ei0⟩ := is_v ha0
  obtain rfl : w0 = (.int i0) := Option.some.inj ei0
  obtain ⟨i1, ei1⟩ := is_v ha1
  obtain rfl : w1 = (.int i1) := Option.some.inj ei1
  obtain ⟨i2, ei2⟩ := is_v ha2
  obtain rfl : w2 = (.int i2) := Option.some.inj ei2
  obtain ⟨i3, ei3⟩ := is_v ha3
  obtain rfl : w3 = (.int i3) := Option.some.inj ei3
  obtain ⟨i4, ei4⟩ := is_v ha4
  obtain rfl : w4 = (.int i4) := Option.some.inj ei4
  obtain ⟨i5, ei5⟩ := is_v hg5
  obtain rfl : w5 = (.int i5) := Option.some.inj ei5
  obtain ⟨n, o, h1, h2, h3, _, L, rfl, ⟨rfl, N⟩, hq⟩ := rm0 l s _ hw tables_1 i0 i1 i2 i3 i4 i5  s.heap s.heap.size (Nat.le_refl _)  p e ha hc hk s m _ below hf ((Spec.applies_iff_loose hf).mp happ).1 ⟨rfl, State.Warmed39.refl s, rfl⟩ trivial
  refine ⟨n, _, h1, h2, h3, hpost _ _ _ _ _ _ ⟨Cond.after_iff.mpr rfl, Cond.after_iff.mpr (eq_i res_at (Term.int_eval (1)) rfl), trivial⟩ ⟨hq.1, hq.2.1, (hq.2.2.sift fun y hy => Or.inr (N y hy)).mono (by decide) (by decide)⟩⟩
theorem main_1_1 : Claimed_1_1 := comes_1 fun _ _ _ _ _ _ h hF => ⟨h.1, hF⟩
theorem main_1_2 : Claimed_1_2 := comes_1 fun _ _ _ _ _ _ h hF => ⟨h.2.1, hF⟩
end Jvm.Pilot.@@N@@
namespace Jvm.Pilot.@@N@@
open Jvm Jvm.ClassFile Sem Op Lib Jvm.Free Jvm.Stand Jvm.Pilot.@@N@@.Jvm.D
/-! MADE BY PROGRAM (witnessworld.py) out of the Statement's table words and the real class files: 9 classes; the members and pool entries that the words name. The judged class is class 1, her method 1. -/
namespace start1
open Jvm.ClassFile
def u (s : String) : CpInfo := .utf8 (stringToUtf16 s)
/-- a pool by its gaps: so many unusable entries, then the entry; so many at the end -/
def gap : Nat → List CpInfo → List CpInfo
  | 0, r => r
  | n + 1, r => .unusable :: gap n r
def poolList (es : List (Nat × CpInfo)) (last : Nat) : List CpInfo := es.foldr (fun e r => gap e.1 (e.2 :: r)) (gap last [])
def pool (es : List (Nat × CpInfo)) (last : Nat) : Array CpInfo := ⟨poolList es last⟩
def fileOf (pool : Array CpInfo) (this : Nat) (attrs : Array Attribute := #[]) (ms : Array MethodInfo := #[]) (fl : Nat := 33) (sup : Nat := 0) (ifs : Array Nat := #[]) (fds : Array FieldInfo := #[]) : ClassFile where
  minorVersion := 0
  majorVersion := 65
  constantPool := pool
  accessFlags := fl
  thisClass := this
  superClass := sup
  interfaces := ifs
  fields := fds
  methods := ms
  attributes := attrs
def plain (name : String) (sup : Option ClassId) : Class where
  name := name
  kind := .ordinary
  loader := none
  accessFlags := 33
  super := sup
  interfaces := #[]
  cf := none
  fields := #[]
  methods := #[]
  instanceTypes := #[]
  staticTypes := #[]
  resolved := #[]
  callSites := []
  init := .initialized
  statics := none
  mirror := none

def pool0 : Array CpInfo := pool [(5, u "<init>"), (0, u "()V"), (1, .class_ 10), (1, u "java/lang/Object")] 113

def k0m0 : Method := { name := "<init>", desc := "()V", sig := { parameters := [], returnType := none }, accessFlags := 1, code := none }
/-- java/lang/Object -/
def k0 : Class := { plain "java/lang/Object" none with
  accessFlags := 33
  interfaces := #[]
  cf := some (fileOf pool0 8 #[] #[{ accessFlags := 1, nameIndex := 5, descriptorIndex := 6, attributes := #[] }] 33 0 #[] #[])
  fields := #[]
  methods := #[k0m0]
  instanceTypes := #[]
  staticTypes := #[]
  resolved := Array.replicate 124 none
  statics := none }

def pool1 : Array CpInfo := pool [(2, .class_ 4), (1, u "java/lang/Object"), (0, u "<init>"), (0, u "()V"), (0, .integer 2147483647), (0, .methodref 9 10), (0, .class_ 11), (0, .nameAndType 12 13), (0, u "com/example/whorl/whorl/PrimeField"), (0, u "isZero"), (0, u "([I)Z"), (0, .class_ 15), (0, u "com/example/whorl/whorl/PrimeFieldIsZeroPinLaw"), (2, u "law"), (0, u "(IIIIII)Z")] 5

def k1m0 : Method := { name := "<init>", desc := "()V", sig := { parameters := [], returnType := none }, accessFlags := 1, code := none }
def k1c1 : Code := { maxStack := 4, maxLocals := 13, code := code, exceptionTable := #[], attributes := #[] }
def k1m1 : Method := { name := "law", desc := "(IIIIII)Z", sig := { parameters := [.int, .int, .int, .int, .int, .int], returnType := some .boolean }, accessFlags := 9, code := some k1c1 }
/-- com/example/whorl/whorl/PrimeFieldIsZeroPinLaw -/
def k1 : Class := { plain "com/example/whorl/whorl/PrimeFieldIsZeroPinLaw" (some 0) with
  accessFlags := 49
  interfaces := #[]
  cf := some (fileOf pool1 14 #[] #[{ accessFlags := 1, nameIndex := 5, descriptorIndex := 6, attributes := #[] }, { accessFlags := 9, nameIndex := 18, descriptorIndex := 19, attributes := #[] }] 49 2 #[] #[])
  fields := #[]
  methods := #[k1m0, k1m1]
  instanceTypes := #[]
  staticTypes := #[]
  resolved := Array.replicate 25 none
  statics := none }

def pool2 : Array CpInfo := pool [(2, .class_ 4), (1, u "java/lang/Object"), (11, u "Ljava/math/BigInteger;"), (5, .class_ 24), (1, u "com/example/whorl/whorl/PrimeField"), (0, u "primeValue"), (6, u "prime"), (0, u "[I"), (2, u "octets"), (0, u "I"), (16, u "primeInverse"), (2, u "rSquared"), (29, u "isZero"), (0, u "([I)Z"), (37, u "LIMB"), (0, u "J")] 19

def k2c0 : Code := { maxStack := 2, maxLocals := 6, code := prog_33_method_8_code, exceptionTable := #[], attributes := #[] }
def k2m0 : Method := { name := "isZero", desc := "([I)Z", sig := { parameters := [(.array .int)], returnType := some .boolean }, accessFlags := 8, code := some k2c0 }
/-- com/example/whorl/whorl/PrimeField -/
def k2 : Class := { plain "com/example/whorl/whorl/PrimeField" (some 0) with
  accessFlags := 48
  interfaces := #[]
  cf := some (fileOf pool2 22 #[] #[{ accessFlags := 8, nameIndex := 87, descriptorIndex := 88, attributes := #[] }] 48 2 #[] #[{ accessFlags := 26, nameIndex := 126, descriptorIndex := 127, attributes := #[] }, { accessFlags := 18, nameIndex := 25, descriptorIndex := 16, attributes := #[] }, { accessFlags := 18, nameIndex := 32, descriptorIndex := 33, attributes := #[] }, { accessFlags := 18, nameIndex := 36, descriptorIndex := 37, attributes := #[] }, { accessFlags := 18, nameIndex := 54, descriptorIndex := 37, attributes := #[] }, { accessFlags := 18, nameIndex := 57, descriptorIndex := 33, attributes := #[] }])
  fields := #[{ name := "LIMB", type := .long, accessFlags := 26, slot := 0, constantValue := 0 }, { name := "primeValue", type := (.object "java/math/BigInteger"), accessFlags := 18, slot := 0, constantValue := 0 }, { name := "prime", type := (.array .int), accessFlags := 18, slot := 1, constantValue := 0 }, { name := "octets", type := .int, accessFlags := 18, slot := 2, constantValue := 0 }, { name := "primeInverse", type := .int, accessFlags := 18, slot := 3, constantValue := 0 }, { name := "rSquared", type := (.array .int), accessFlags := 18, slot := 4, constantValue := 0 }]
  methods := #[k2m0]
  instanceTypes := #[(.object "java/math/BigInteger"), (.array .int), .int, .int, (.array .int)]
  staticTypes := #[.long]
  resolved := Array.replicate 147 none
  statics := none }

def pool3 : Array CpInfo := pool [(1, u "java/lang/Cloneable"), (0, .class_ 1), (0, u "java/lang/Object"), (0, .class_ 3)] 3

/-- java/lang/Cloneable -/
def k3 : Class := { plain "java/lang/Cloneable" (some 0) with
  accessFlags := 1537
  interfaces := #[]
  cf := some (fileOf pool3 2 #[] #[] 1537 4 #[] #[])
  fields := #[]
  methods := #[]
  instanceTypes := #[]
  staticTypes := #[]
  resolved := Array.replicate 8 none
  statics := none }

def pool4 : Array CpInfo := pool [(1, u "java/io/Serializable"), (0, .class_ 1), (0, u "java/lang/Object"), (0, .class_ 3)] 3

/-- java/io/Serializable -/
def k4 : Class := { plain "java/io/Serializable" (some 0) with
  accessFlags := 1537
  interfaces := #[]
  cf := some (fileOf pool4 2 #[] #[] 1537 4 #[] #[])
  fields := #[]
  methods := #[]
  instanceTypes := #[]
  staticTypes := #[]
  resolved := Array.replicate 8 none
  statics := none }

/-- the primitive byte -/
def k5 : Class := { plain "byte" none with kind := .primitive 'B', accessFlags := 0x411 }
/-- [B -/
def k6 : Class := { plain "[B" (some 0) with kind := .array 5 .byte, interfaces := #[3, 4], accessFlags := 1041 }

/-- the primitive int -/
def k7 : Class := { plain "int" none with kind := .primitive 'I', accessFlags := 0x411 }
/-- [I -/
def k8 : Class := { plain "[I" (some 0) with kind := .array 7 .int, interfaces := #[3, 4], accessFlags := 1041 }

def heap : Heap := #[]
def classes : Array Class := #[k0, k1, k2, k3, k4, k5, k6, k7, k8]
def interned : List (Array UInt16 × Addr) := []
def slotsUsed : Nat := 0
def theMethod : MethodId := ⟨1, 1⟩
def args0 : Array Value := #[.int 1, .int 2, .int 3, .int 4, .int 5, .int 6]
def aboutOver (below : List Frame) : State where
  vm := { classes := classes, interned := interned.toArray }
  heap := heap
  slotsUsed := slotsUsed
  threads := #[{ frames := .invoking theMethod args0 :: below }]
def below0 : List Frame := [.native { method := ⟨0, 0⟩, args := #[] }]
def about1 : State := aboutOver below0
def p0 : Program := .bare "" "" ""
def e0 : Env := launch0.env 0 0 0
theorem w_frames : about1.frames = Frame.invoking theMethod args0 :: below0 := rfl
set_option maxRecDepth 65536 in
theorem w_args : argsFit about1.vm theMethod args0 = true := by decide +kernel
set_option maxRecDepth 65536 in
theorem w_heap : heapFits about1 = true := by decide +kernel
set_option maxRecDepth 65536 in
theorem w_runnable : about1.curStatus? = some .runnable := by decide +kernel
set_option maxRecDepth 65536 in
theorem w_alone : about1.alone = true := by decide +kernel
set_option maxRecDepth 65536 in
theorem w_named : about1.methodNamed? x = some theMethod := by decide +kernel
set_option maxRecDepth 65536 in
theorem w_hears : about1.hears theMethod below0 = true := by decide +kernel
set_option maxRecDepth 65536 in
theorem w_ripe : about1.ripe theMethod args0 below0 = true := by decide +kernel
theorem w_running : about1.status = .running := rfl
set_option maxRecDepth 65536 in
theorem w_room : about1.hasRoom e0.platform room_1 = true :=
  launch0.hasRoom_least _ room_1 (by decide +kernel) (by decide +kernel) (by decide +kernel) (by decide +kernel) (by decide +kernel) (by decide +kernel)
theorem allAtoms_all (ts : List Jvm.Cond) (a : Array Jvm.Value) (st : Jvm.State) : (allAtoms ts).before a st = ts.all (fun c => c.before a st) := by
  induction ts with
  | nil => rfl
  | cons c t ih =>
    show (Jvm.Cond.and c (allAtoms t)).before a st = _
    rw [Jvm.Cond.before_and, ih, List.all_cons]
def words1 : List Jvm.Cond := Jvm.Cond.code x code maxLocals ret :: tables_1
/-- a 'code' word, met by the world's own term for the bytes: nothing is compared byte by byte -/
theorem code_word {y : MethodName} {bytes : ByteArray} {mx : Nat} {rt : Option FieldType} {a : Array Value} {s : State} {m : MethodId} {meth : Method} {c : Code} (h1 : s.methodNamed? y = some m) (h2 : s.vm.method? m = some meth) (h3 : meth.code = some c) (h4 : c.code = bytes)
    (h5 : (c.maxLocals == mx && c.exceptionTable.isEmpty && decide (c.maxStack ≤ mostOperands) && decide (meth.sig.returnType = rt) && !meth.locks && decide (parseMethodDescriptor y.desc = some meth.sig)) = true) : (Jvm.Cond.code y bytes mx rt).before a s = true := by
  simp only [Bool.and_eq_true, beq_iff_eq, Bool.not_eq_true', decide_eq_true_eq] at h5
  obtain ⟨⟨⟨⟨⟨g1, g2⟩, g3⟩, g4⟩, g5⟩, g6⟩ := h5
  simp [Cond.before, Cond.holds, Cond.value, h1, h2, h3, h4, g1, g2, g3, g4, g5, g6]
def isCode : Jvm.Cond → Bool
  | .code _ _ _ _ => true
  | _ => false
theorem all_split {L : List Jvm.Cond} {P : Jvm.Cond → Bool} (h1 : L.all (fun c => isCode c || P c) = true) (h2 : ∀ c ∈ L.filter isCode, P c = true) : L.all P = true := by
  refine List.all_eq_true.mpr fun c hc => ?_
  have h := List.all_eq_true.mp h1 c hc
  rcases Bool.eq_false_or_eq_true (isCode c) with hi | hi
  · exact h2 c (List.mem_filter.mpr ⟨hc, hi⟩)
  · simpa [hi] using h
set_option maxRecDepth 65536 in
theorem w_c0 : (Jvm.Cond.code x code maxLocals ret).before args0 about1 = true := code_word (m := ⟨1, 1⟩) (meth := k1m1) (c := k1c1) (by decide +kernel) rfl rfl rfl (by decide +kernel)
set_option maxRecDepth 65536 in
theorem w_c1 : (Jvm.Cond.code ({ cls := "com/example/whorl/whorl/PrimeField", name := "isZero", desc := "([I)Z" } : Jvm.MethodName) prog_33_method_8_code (6 : Nat) (Option.some Jvm.ClassFile.FieldType.boolean)).before args0 about1 = true := code_word (m := ⟨2, 0⟩) (meth := k2m0) (c := k2c0) (by decide +kernel) rfl rfl rfl (by decide +kernel)
def codes1 : List Jvm.Cond := [Jvm.Cond.code x code maxLocals ret, Jvm.Cond.code ({ cls := "com/example/whorl/whorl/PrimeField", name := "isZero", desc := "([I)Z" } : Jvm.MethodName) prog_33_method_8_code (6 : Nat) (Option.some Jvm.ClassFile.FieldType.boolean)]
set_option maxRecDepth 65536 in
theorem codes_eq : words1.filter isCode = codes1 := rfl
theorem w_codes : ∀ c ∈ words1.filter isCode, c.before args0 about1 = true := by
  rw [codes_eq]
  intro c hc
  simp only [codes1, List.mem_cons, List.not_mem_nil, or_false] at hc
  rcases hc with rfl | rfl
  · exact w_c0
  · exact w_c1
set_option maxRecDepth 65536 in
theorem w_t1 : words1.all (fun c => isCode c || c.before args0 about1) = true := by decide +kernel
theorem w_tables : (allAtoms (Jvm.Cond.code x code maxLocals ret :: tables_1)).before args0 about1 = true := by
  rw [allAtoms_all]
  show words1.all (fun c => c.before args0 about1) = true
  refine all_split ?_ w_codes
  rw [w_t1]
set_option maxRecDepth 65536 in
theorem w_case : (Jvm.Cond.and given_1 narrow_1).before args0 about1 = true := by decide +kernel
theorem w_applies : (headSpec (Jvm.Cond.code x code maxLocals ret :: tables_1) room_1).applies x e0.platform about1 = true :=
  (Spec.applies_iff w_frames).mpr ⟨w_running, w_runnable, w_alone, w_named, w_hears, w_ripe, w_room, w_tables⟩
theorem atStart : AtStart classFile x code maxLocals ret World_1 tables_1 room_1 Calls_1 rest_1 Pre_1 launch0 p0 e0 about1 theMethod args0 below0 :=
  ⟨lists_1, trivial, launch0.admits_env _ _ _, launch0.least_env, fairChoices_fair.cas, fairChoices_fair.clock, w_frames, w_args, w_heap, w_applies, trivial, trivial, w_case⟩
end start1
theorem witness_1 : WitnessClaimed_1 := ⟨start1.p0, start1.e0, start1.about1, start1.theMethod, start1.args0, start1.below0, start1.atStart⟩
end Jvm.Pilot.@@N@@
