import JvmDerived
import JvmDerived.Pilot.@@N@@Statement
import JvmDerived.Pilot.@@N@@Code
set_option linter.unusedVariables false
set_option linter.unusedSimpArgs false
@@BLOCK:NumsL.lean.txt@@
namespace Jvm.Pilot.@@N@@
open Jvm Jvm.ClassFile Sem Op Lib Jvm.Free Jvm.Stand Jvm.LawKit Jvm.RoadKit Bundle Jvm.Pilot.@@N@@.Jvm.D
abbrev own_S (p : Program) (e : Env) (below : List Frame) (T : State) (g : JFrame) (t : State) : Prop := Steps p.tables e below (T.setTop g) t

theorem d1_0 : decode prog_38_method_1_code 0 = .ok (.aload_n 0, 1) := by decide +kernel
theorem d1_1 : decode prog_38_method_1_code 1 = .ok (.invokespecial 1, 3) := by decide +kernel
theorem d1_4 : decode prog_38_method_1_code 4 = .ok (.aload_n 0, 1) := by decide +kernel
theorem d1_5 : decode prog_38_method_1_code 5 = .ok (.lload_n 1, 1) := by decide +kernel
theorem d1_6 : decode prog_38_method_1_code 6 = .ok (.putfield 7, 3) := by decide +kernel
theorem d1_9 : decode prog_38_method_1_code 9 = .ok (.return_, 1) := by decide +kernel
theorem pn_1 : plainName "com/example/headroom/headroom/model/ByteBudget" = true := by first | (simp [plainName, overriddenIn]; done) | decide +kernel
theorem ef_1 (m : MethodId) (r0 : Addr) (q1 : Int64) : entryFrame m #[(.ref r0), (.long q1)] 3 = mkF m 0 #[.val (.ref r0), .val (.long q1), .second] [] := by first | (simp [entryFrame, mkF, argsToLocals, Value.category]; done) | rfl
def Q1 (Z : State) (r0 : Addr) (q1 : Int64) (h0 : Heap) (n0 : Nat) (v : Option Value) (h : Heap) (L : List Loc) : Prop := v = none ∧ Fr n0 L ∧ Keep h0 h [r0] ∧ Exa Z h r0 "com/example/headroom/headroom/model/ByteBudget" ∧ Fld Z h r0 "com/example/headroom/headroom/model/ByteBudget" "capacity" "J" (.long q1) ∧ Fld Z h r0 "com/example/headroom/headroom/model/ByteBudget" "taken" "J" (.long (0 : Int64))
set_option maxRecDepth 65536 in
set_option maxHeartbeats 40000000 in
theorem rm1 (l : Launch) (Z : State) (a0 : Array Value) (hw : ∀ d ∈ tables_1, d.before a0 Z = true) (ws : List Jvm.Cond) (r0 : Addr) (q1 : Int64) (h0 : Heap) (n0 : Nat) (Z0 : n0 ≤ h0.size) (E_r0 : Exa Z h0 r0 "com/example/headroom/headroom/model/ByteBudget") (Fc : Fld Z h0 r0 "com/example/headroom/headroom/model/ByteBudget" "capacity" "J" (.long (0 : Int64))) (Ft : Fld Z h0 r0 "com/example/headroom/headroom/model/ByteBudget" "taken" "J" (.long (0 : Int64))) (g_r0 : n0 ≤ r0) :
    MetFree l (⟨"com/example/headroom/headroom/model/ByteBudget", "<init>", "(J)V"⟩ : MethodName) (head1 (Jvm.Cond.code (⟨"com/example/headroom/headroom/model/ByteBudget", "<init>", "(J)V"⟩ : MethodName) prog_38_method_1_code 3 none :: ws) ({ frames := 1, cells := 0, slots := 0, locals := 12 } : Room)) (fun a U => a = #[(.ref r0), (.long q1)] ∧ Z.Warmed39 U.vm ∧ U.heap = h0) (fun _ _ _ _ _ => True) (fun _ U o U' => ∃ v L, o = .returned v ∧ Q1 Z r0 q1 h0 n0 v U'.heap L ∧ FrameEnd U o U' L ({ frames := 1, cells := 0, slots := 0, locals := 12 } : Room).cells ({ frames := 1, cells := 0, slots := 0, locals := 12 } : Room).slots) := by
  refine MetFree.of_bodySF (plainFor_of_name pn_1) hisR ?_
  intro p e s m args below meth c s₁ Bd hml0 hP hK
  obtain ⟨rfl, hZ, hh⟩ := hP
  have hx := Bd.exec
  have hby := Bd.bytes
  have hml : c.maxLocals = 3 := hml0
  have hown : s.vm.findClass "com/example/headroom/headroom/model/ByteBudget" = some m.cls := findClass_of_methodNamed Bd.named
  have hnm := (name_of_methodNamed Bd.named Bd.method).1
  have X0 : Stand p l e ({ frames := 1, cells := 0, slots := 0, locals := 12 } : Room) s m #[(.ref r0), (.long q1)] below meth c s₁ [] 0 0 := Stand.of_body Bd
  have e0 : s₁.heap = h0 := by rw [← hh, Bd.state]; rfl
  have N0 := Fr.nil n0
  have K0 : ∀ t, Steps p.tables e below (s₁.setTop (mkF m 0 #[.val (.ref r0), .val (.long q1), .second] [])) t → Steps p.tables e below (s₁.setTop (entryFrame m #[(.ref r0), (.long q1)] 3)) t := fun t k => castTop (ef_1 m r0 q1) k
  generalize s₁.setTop (entryFrame m #[(.ref r0), (.long q1)] 3) = SE at K0 ⊢
  have K1 : ∀ t, own_S p e below s₁ (mkF m 1 #[.val (.ref r0), .val (.long q1), .second] [(.ref r0)]) t → Steps p.tables e below SE t := by
    intro t k
    refine K0 _ ?_
    refine XS.aloadN X0.here hx rfl (hb hby d1_0) rfl rfl ?_
    exact k
  obtain ⟨T2, X2, e2, st2⟩ := initO X0 hx hZ hown (hw _ (List.mem_of_getElem? (i := 7) rfl)) (hw _ (List.mem_of_getElem? (i := 8) rfl)) (hw _ (List.mem_of_getElem? (i := 9) rfl)) e0 (g := (mkF m 1 #[.val (.ref r0), .val (.long q1), .second] [(.ref r0)])) rfl (by rw [hml]; rfl) rfl (hb hby d1_1) (by decide) (W := 0) (by show 2 * 0 + _ ≤ _; exact Nat.le_of_eq rfl) (by decide)
  have K2 : ∀ t, own_S p e below T2 (mkF m 4 #[.val (.ref r0), .val (.long q1), .second] []) t → Steps p.tables e below SE t := fun t k => K1 _ (st2 _ k)
  have K3 : ∀ t, own_S p e below T2 (mkF m 6 #[.val (.ref r0), .val (.long q1), .second] [(.long q1), (.ref r0)]) t → Steps p.tables e below SE t := by
    intro t k
    refine K2 _ ?_
    refine XS.aloadN X2.here hx rfl (hb hby d1_4) rfl rfl ?_
    show own_S p e below T2 (mkF m 5 #[.val (.ref r0), .val (.long q1), .second] [(.ref r0)]) _
    refine XS.lloadN X2.here hx rfl (hb hby d1_5) rfl ?_
    exact k
  obtain ⟨T4, h4, X4, e4, W4, st4⟩ := putF X2 hx hZ hown (host := "") (Or.inl (hw _ (List.mem_of_getElem? (i := 10) rfl))) Via.refl e2 Fc E_r0 (Or.inr ⟨(hw _ (List.mem_of_getElem? (i := 11) rfl)), rfl, hnm⟩) (hw _ (List.mem_of_getElem? (i := 2) rfl)) (ty := .long) (by decide) rfl rfl (g := (mkF m 6 #[.val (.ref r0), .val (.long q1), .second] [(.long q1), (.ref r0)])) rfl rfl (hb hby d1_6)
  have Fw4 := Fld.same W4 Fc
  have N4 := Fr.snoc X4 N0 g_r0
  have Kp4 : Keep h0 h4 [r0] := Keep.wr (Keep.refl h0 [r0]) W4 (Or.inl (List.mem_of_getElem? (i := 0) rfl))
  have K4 : ∀ t, own_S p e below T4 (mkF m 9 #[.val (.ref r0), .val (.long q1), .second] []) t → Steps p.tables e below SE t := fun t k => K3 _ (st4 _ k)
  obtain ⟨fs, hr, hrun, hended, hW, hsame⟩ := X4.leave (v := none) (fun _ => rfl)
  refine ⟨_, _, K4 _ ?_, hrun, hended, _, _, rfl, ?_, ⟨_, rfl⟩, hW, hsame.mono (by decide) (by decide)⟩
  · exact X4.returnOut hx Bd.returns (hb hby d1_9) hr
  · show Q1 Z r0 q1 h0 n0 _ T4.heap _
    rw [e4]
    exact ⟨rfl, N4, Kp4, (E_r0.wr W4), Fw4, (Ft.other W4 (Or.inr (slot_ne (Or.inl (hw _ (List.mem_of_getElem? (i := 18) rfl))) (Or.inr (hw _ (List.mem_of_getElem? (i := 11) rfl))) (by decide) (t := .long) (t' := .long) (by decide) (by decide))))⟩
theorem d3_0 : decode prog_38_method_3_code 0 = .ok (.aload_n 0, 1) := by decide +kernel
theorem d3_1 : decode prog_38_method_3_code 1 = .ok (.dup, 1) := by decide +kernel
theorem d3_2 : decode prog_38_method_3_code 2 = .ok (.getfield 17, 3) := by decide +kernel
theorem d3_5 : decode prog_38_method_3_code 5 = .ok (.lload_n 1, 1) := by decide +kernel
theorem d3_6 : decode prog_38_method_3_code 6 = .ok (.ladd, 1) := by decide +kernel
theorem d3_7 : decode prog_38_method_3_code 7 = .ok (.putfield 17, 3) := by decide +kernel
theorem d3_10 : decode prog_38_method_3_code 10 = .ok (.return_, 1) := by decide +kernel
theorem ef_3 (m : MethodId) (r0 : Addr) (q1 : Int64) : entryFrame m #[(.ref r0), (.long q1)] 3 = mkF m 0 #[.val (.ref r0), .val (.long q1), .second] [] := by first | (simp [entryFrame, mkF, argsToLocals, Value.category]; done) | rfl
def Q3 (Z : State) (r0 : Addr) (q1 : Int64) (cp : Int64) (tk : Int64) (h0 : Heap) (n0 : Nat) (v : Option Value) (h : Heap) (L : List Loc) : Prop := v = none ∧ Fr n0 L ∧ Keep h0 h [r0] ∧ Exa Z h r0 "com/example/headroom/headroom/model/ByteBudget" ∧ Fld Z h r0 "com/example/headroom/headroom/model/ByteBudget" "capacity" "J" (.long cp) ∧ Fld Z h r0 "com/example/headroom/headroom/model/ByteBudget" "taken" "J" (.long (tk + q1))
set_option maxRecDepth 65536 in
set_option maxHeartbeats 40000000 in
theorem rm3 (l : Launch) (Z : State) (a0 : Array Value) (hw : ∀ d ∈ tables_1, d.before a0 Z = true) (ws : List Jvm.Cond) (r0 : Addr) (q1 : Int64) (cp : Int64) (tk : Int64) (h0 : Heap) (n0 : Nat) (Z0 : n0 ≤ h0.size) (E_r0 : Exa Z h0 r0 "com/example/headroom/headroom/model/ByteBudget") (Fc : Fld Z h0 r0 "com/example/headroom/headroom/model/ByteBudget" "capacity" "J" (.long cp)) (Ft : Fld Z h0 r0 "com/example/headroom/headroom/model/ByteBudget" "taken" "J" (.long tk)) (g_r0 : n0 ≤ r0) :
    MetFree l (⟨"com/example/headroom/headroom/model/ByteBudget", "takeAnyway", "(J)V"⟩ : MethodName) (head1 (Jvm.Cond.code (⟨"com/example/headroom/headroom/model/ByteBudget", "takeAnyway", "(J)V"⟩ : MethodName) prog_38_method_3_code 3 none :: ws) ({ frames := 0, cells := 0, slots := 0, locals := 0 } : Room)) (fun a U => a = #[(.ref r0), (.long q1)] ∧ Z.Warmed39 U.vm ∧ U.heap = h0) (fun _ _ _ _ _ => True) (fun _ U o U' => ∃ v L, o = .returned v ∧ Q3 Z r0 q1 cp tk h0 n0 v U'.heap L ∧ FrameEnd U o U' L ({ frames := 0, cells := 0, slots := 0, locals := 0 } : Room).cells ({ frames := 0, cells := 0, slots := 0, locals := 0 } : Room).slots) := by
  refine MetFree.of_bodySF (plainFor_of_name pn_1) hisR ?_
  intro p e s m args below meth c s₁ Bd hml0 hP hK
  obtain ⟨rfl, hZ, hh⟩ := hP
  have hx := Bd.exec
  have hby := Bd.bytes
  have hml : c.maxLocals = 3 := hml0
  have hown : s.vm.findClass "com/example/headroom/headroom/model/ByteBudget" = some m.cls := findClass_of_methodNamed Bd.named
  have hnm := (name_of_methodNamed Bd.named Bd.method).1
  have X0 : Stand p l e ({ frames := 0, cells := 0, slots := 0, locals := 0 } : Room) s m #[(.ref r0), (.long q1)] below meth c s₁ [] 0 0 := Stand.of_body Bd
  have e0 : s₁.heap = h0 := by rw [← hh, Bd.state]; rfl
  have N0 := Fr.nil n0
  have K0 : ∀ t, Steps p.tables e below (s₁.setTop (mkF m 0 #[.val (.ref r0), .val (.long q1), .second] [])) t → Steps p.tables e below (s₁.setTop (entryFrame m #[(.ref r0), (.long q1)] 3)) t := fun t k => castTop (ef_3 m r0 q1) k
  generalize s₁.setTop (entryFrame m #[(.ref r0), (.long q1)] 3) = SE at K0 ⊢
  have K1 : ∀ t, own_S p e below s₁ (mkF m 2 #[.val (.ref r0), .val (.long q1), .second] [(.ref r0), (.ref r0)]) t → Steps p.tables e below SE t := by
    intro t k
    refine K0 _ ?_
    refine XS.aloadN X0.here hx rfl (hb hby d3_0) rfl rfl ?_
    show own_S p e below s₁ (mkF m 1 #[.val (.ref r0), .val (.long q1), .second] [(.ref r0)]) _
    refine XS.dup X0.here hx rfl (hb hby d3_1) rfl rfl ?_
    exact k
  obtain ⟨T2, X2, e2, st2⟩ := getF X0 hx hZ hown (host := "") (Or.inl (hw _ (List.mem_of_getElem? (i := 17) rfl))) Via.refl e0 Ft (g := (mkF m 2 #[.val (.ref r0), .val (.long q1), .second] [(.ref r0), (.ref r0)])) rfl rfl (hb hby d3_2)
  have K2 : ∀ t, own_S p e below T2 (mkF m 5 #[.val (.ref r0), .val (.long q1), .second] [(.long tk), (.ref r0)]) t → Steps p.tables e below SE t := fun t k => K1 _ (st2 _ k)
  have K3 : ∀ t, own_S p e below T2 (mkF m 7 #[.val (.ref r0), .val (.long q1), .second] [(.long (tk + q1)), (.ref r0)]) t → Steps p.tables e below SE t := by
    intro t k
    refine K2 _ ?_
    refine XS.lloadN X2.here hx rfl (hb hby d3_5) rfl ?_
    show own_S p e below T2 (mkF m 6 #[.val (.ref r0), .val (.long q1), .second] [(.long q1), (.long tk), (.ref r0)]) _
    refine XS.ladd X2.here hx rfl (hb hby d3_6) rfl ?_
    exact k
  obtain ⟨T4, h4, X4, e4, W4, st4⟩ := putF X2 hx hZ hown (host := "") (Or.inl (hw _ (List.mem_of_getElem? (i := 17) rfl))) Via.refl e2 Ft E_r0 (Or.inl (hw _ (List.mem_of_getElem? (i := 18) rfl))) (hw _ (List.mem_of_getElem? (i := 2) rfl)) (ty := .long) (by decide) rfl rfl (g := (mkF m 7 #[.val (.ref r0), .val (.long q1), .second] [(.long (tk + q1)), (.ref r0)])) rfl rfl (hb hby d3_7)
  have Fw4 := Fld.same W4 Ft
  have N4 := Fr.snoc X4 N0 g_r0
  have Kp4 : Keep h0 h4 [r0] := Keep.wr (Keep.refl h0 [r0]) W4 (Or.inl (List.mem_of_getElem? (i := 0) rfl))
  have K4 : ∀ t, own_S p e below T4 (mkF m 10 #[.val (.ref r0), .val (.long q1), .second] []) t → Steps p.tables e below SE t := fun t k => K3 _ (st4 _ k)
  obtain ⟨fs, hr, hrun, hended, hW, hsame⟩ := X4.leave (v := none) (fun _ => rfl)
  refine ⟨_, _, K4 _ ?_, hrun, hended, _, _, rfl, ?_, ⟨_, rfl⟩, hW, hsame.mono (by decide) (by decide)⟩
  · exact X4.returnOut hx Bd.returns (hb hby d3_10) hr
  · show Q3 Z r0 q1 cp tk h0 n0 _ T4.heap _
    rw [e4]
    exact ⟨rfl, N4, Kp4, (E_r0.wr W4), (Fc.other W4 (Or.inr (slot_ne (Or.inr (hw _ (List.mem_of_getElem? (i := 11) rfl))) (Or.inl (hw _ (List.mem_of_getElem? (i := 18) rfl))) (by decide) (t := .long) (t' := .long) (by decide) (by decide)))), Fw4⟩
theorem d4_0 : decode prog_38_method_6_code 0 = .ok (.aload_n 0, 1) := by decide +kernel
theorem d4_1 : decode prog_38_method_6_code 1 = .ok (.dup, 1) := by decide +kernel
theorem d4_2 : decode prog_38_method_6_code 2 = .ok (.getfield 17, 3) := by decide +kernel
theorem d4_5 : decode prog_38_method_6_code 5 = .ok (.lload_n 1, 1) := by decide +kernel
theorem d4_6 : decode prog_38_method_6_code 6 = .ok (.lsub, 1) := by decide +kernel
theorem d4_7 : decode prog_38_method_6_code 7 = .ok (.putfield 17, 3) := by decide +kernel
theorem d4_10 : decode prog_38_method_6_code 10 = .ok (.return_, 1) := by decide +kernel
theorem ef_4 (m : MethodId) (r0 : Addr) (q1 : Int64) : entryFrame m #[(.ref r0), (.long q1)] 3 = mkF m 0 #[.val (.ref r0), .val (.long q1), .second] [] := by first | (simp [entryFrame, mkF, argsToLocals, Value.category]; done) | rfl
def Q4 (Z : State) (r0 : Addr) (q1 : Int64) (cp : Int64) (tk : Int64) (h0 : Heap) (n0 : Nat) (v : Option Value) (h : Heap) (L : List Loc) : Prop := v = none ∧ Fr n0 L ∧ Keep h0 h [r0] ∧ Exa Z h r0 "com/example/headroom/headroom/model/ByteBudget" ∧ Fld Z h r0 "com/example/headroom/headroom/model/ByteBudget" "capacity" "J" (.long cp) ∧ Fld Z h r0 "com/example/headroom/headroom/model/ByteBudget" "taken" "J" (.long (tk - q1))
set_option maxRecDepth 65536 in
set_option maxHeartbeats 40000000 in
theorem rm4 (l : Launch) (Z : State) (a0 : Array Value) (hw : ∀ d ∈ tables_1, d.before a0 Z = true) (ws : List Jvm.Cond) (r0 : Addr) (q1 : Int64) (cp : Int64) (tk : Int64) (h0 : Heap) (n0 : Nat) (Z0 : n0 ≤ h0.size) (E_r0 : Exa Z h0 r0 "com/example/headroom/headroom/model/ByteBudget") (Fc : Fld Z h0 r0 "com/example/headroom/headroom/model/ByteBudget" "capacity" "J" (.long cp)) (Ft : Fld Z h0 r0 "com/example/headroom/headroom/model/ByteBudget" "taken" "J" (.long tk)) (g_r0 : n0 ≤ r0) :
    MetFree l (⟨"com/example/headroom/headroom/model/ByteBudget", "giveBack", "(J)V"⟩ : MethodName) (head1 (Jvm.Cond.code (⟨"com/example/headroom/headroom/model/ByteBudget", "giveBack", "(J)V"⟩ : MethodName) prog_38_method_6_code 3 none :: ws) ({ frames := 0, cells := 0, slots := 0, locals := 0 } : Room)) (fun a U => a = #[(.ref r0), (.long q1)] ∧ Z.Warmed39 U.vm ∧ U.heap = h0) (fun _ _ _ _ _ => True) (fun _ U o U' => ∃ v L, o = .returned v ∧ Q4 Z r0 q1 cp tk h0 n0 v U'.heap L ∧ FrameEnd U o U' L ({ frames := 0, cells := 0, slots := 0, locals := 0 } : Room).cells ({ frames := 0, cells := 0, slots := 0, locals := 0 } : Room).slots) := by
  refine MetFree.of_bodySF (plainFor_of_name pn_1) hisR ?_
  intro p e s m args below meth c s₁ Bd hml0 hP hK
  obtain ⟨rfl, hZ, hh⟩ := hP
  have hx := Bd.exec
  have hby := Bd.bytes
  have hml : c.maxLocals = 3 := hml0
  have hown : s.vm.findClass "com/example/headroom/headroom/model/ByteBudget" = some m.cls := findClass_of_methodNamed Bd.named
  have hnm := (name_of_methodNamed Bd.named Bd.method).1
  have X0 : Stand p l e ({ frames := 0, cells := 0, slots := 0, locals := 0 } : Room) s m #[(.ref r0), (.long q1)] below meth c s₁ [] 0 0 := Stand.of_body Bd
  have e0 : s₁.heap = h0 := by rw [← hh, Bd.state]; rfl
  have N0 := Fr.nil n0
  have K0 : ∀ t, Steps p.tables e below (s₁.setTop (mkF m 0 #[.val (.ref r0), .val (.long q1), .second] [])) t → Steps p.tables e below (s₁.setTop (entryFrame m #[(.ref r0), (.long q1)] 3)) t := fun t k => castTop (ef_4 m r0 q1) k
  generalize s₁.setTop (entryFrame m #[(.ref r0), (.long q1)] 3) = SE at K0 ⊢
  have K1 : ∀ t, own_S p e below s₁ (mkF m 2 #[.val (.ref r0), .val (.long q1), .second] [(.ref r0), (.ref r0)]) t → Steps p.tables e below SE t := by
    intro t k
    refine K0 _ ?_
    refine XS.aloadN X0.here hx rfl (hb hby d4_0) rfl rfl ?_
    show own_S p e below s₁ (mkF m 1 #[.val (.ref r0), .val (.long q1), .second] [(.ref r0)]) _
    refine XS.dup X0.here hx rfl (hb hby d4_1) rfl rfl ?_
    exact k
  obtain ⟨T2, X2, e2, st2⟩ := getF X0 hx hZ hown (host := "") (Or.inl (hw _ (List.mem_of_getElem? (i := 17) rfl))) Via.refl e0 Ft (g := (mkF m 2 #[.val (.ref r0), .val (.long q1), .second] [(.ref r0), (.ref r0)])) rfl rfl (hb hby d4_2)
  have K2 : ∀ t, own_S p e below T2 (mkF m 5 #[.val (.ref r0), .val (.long q1), .second] [(.long tk), (.ref r0)]) t → Steps p.tables e below SE t := fun t k => K1 _ (st2 _ k)
  have K3 : ∀ t, own_S p e below T2 (mkF m 7 #[.val (.ref r0), .val (.long q1), .second] [(.long (tk - q1)), (.ref r0)]) t → Steps p.tables e below SE t := by
    intro t k
    refine K2 _ ?_
    refine XS.lloadN X2.here hx rfl (hb hby d4_5) rfl ?_
    show own_S p e below T2 (mkF m 6 #[.val (.ref r0), .val (.long q1), .second] [(.long q1), (.long tk), (.ref r0)]) _
    refine XS.lsub X2.here hx rfl (hb hby d4_6) rfl ?_
    exact k
  obtain ⟨T4, h4, X4, e4, W4, st4⟩ := putF X2 hx hZ hown (host := "") (Or.inl (hw _ (List.mem_of_getElem? (i := 17) rfl))) Via.refl e2 Ft E_r0 (Or.inl (hw _ (List.mem_of_getElem? (i := 18) rfl))) (hw _ (List.mem_of_getElem? (i := 2) rfl)) (ty := .long) (by decide) rfl rfl (g := (mkF m 7 #[.val (.ref r0), .val (.long q1), .second] [(.long (tk - q1)), (.ref r0)])) rfl rfl (hb hby d4_7)
  have Fw4 := Fld.same W4 Ft
  have N4 := Fr.snoc X4 N0 g_r0
  have Kp4 : Keep h0 h4 [r0] := Keep.wr (Keep.refl h0 [r0]) W4 (Or.inl (List.mem_of_getElem? (i := 0) rfl))
  have K4 : ∀ t, own_S p e below T4 (mkF m 10 #[.val (.ref r0), .val (.long q1), .second] []) t → Steps p.tables e below SE t := fun t k => K3 _ (st4 _ k)
  obtain ⟨fs, hr, hrun, hended, hW, hsame⟩ := X4.leave (v := none) (fun _ => rfl)
  refine ⟨_, _, K4 _ ?_, hrun, hended, _, _, rfl, ?_, ⟨_, rfl⟩, hW, hsame.mono (by decide) (by decide)⟩
  · exact X4.returnOut hx Bd.returns (hb hby d4_10) hr
  · show Q4 Z r0 q1 cp tk h0 n0 _ T4.heap _
    rw [e4]
    exact ⟨rfl, N4, Kp4, (E_r0.wr W4), (Fc.other W4 (Or.inr (slot_ne (Or.inr (hw _ (List.mem_of_getElem? (i := 11) rfl))) (Or.inl (hw _ (List.mem_of_getElem? (i := 18) rfl))) (by decide) (t := .long) (t' := .long) (by decide) (by decide)))), Fw4⟩
theorem d5_0 : decode prog_38_method_4_code 0 = .ok (.lload_n 1, 1) := by decide +kernel
theorem d5_1 : decode prog_38_method_4_code 1 = .ok (.aload_n 0, 1) := by decide +kernel
theorem d5_2 : decode prog_38_method_4_code 2 = .ok (.getfield 7, 3) := by decide +kernel
theorem d5_5 : decode prog_38_method_4_code 5 = .ok (.aload_n 0, 1) := by decide +kernel
theorem d5_6 : decode prog_38_method_4_code 6 = .ok (.getfield 17, 3) := by decide +kernel
theorem d5_9 : decode prog_38_method_4_code 9 = .ok (.lsub, 1) := by decide +kernel
theorem d5_10 : decode prog_38_method_4_code 10 = .ok (.lcmp, 1) := by decide +kernel
theorem d5_11 : decode prog_38_method_4_code 11 = .ok (.ifCond .gt 7, 3) := by decide +kernel
theorem d5_14 : decode prog_38_method_4_code 14 = .ok (.iconst 1, 1) := by decide +kernel
theorem d5_15 : decode prog_38_method_4_code 15 = .ok (.goto 4, 3) := by decide +kernel
theorem d5_18 : decode prog_38_method_4_code 18 = .ok (.iconst 0, 1) := by decide +kernel
theorem d5_19 : decode prog_38_method_4_code 19 = .ok (.ireturn, 1) := by decide +kernel
theorem ef_5 (m : MethodId) (r0 : Addr) (q1 : Int64) : entryFrame m #[(.ref r0), (.long q1)] 3 = mkF m 0 #[.val (.ref r0), .val (.long q1), .second] [] := by first | (simp [entryFrame, mkF, argsToLocals, Value.category]; done) | rfl
def Q5 (Z : State) (r0 : Addr) (q1 : Int64) (cp : Int64) (tk : Int64) (h0 : Heap) (n0 : Nat) (v : Option Value) (h : Heap) (L : List Loc) : Prop := v = some (.int (if (cp - tk) < q1 then (0 : Int32) else (1 : Int32))) ∧ Fr n0 L ∧ h = h0
set_option maxRecDepth 65536 in
set_option maxHeartbeats 40000000 in
theorem rm5 (l : Launch) (Z : State) (a0 : Array Value) (hw : ∀ d ∈ tables_1, d.before a0 Z = true) (ws : List Jvm.Cond) (r0 : Addr) (q1 : Int64) (cp : Int64) (tk : Int64) (h0 : Heap) (n0 : Nat) (Z0 : n0 ≤ h0.size) (Fc : Fld Z h0 r0 "com/example/headroom/headroom/model/ByteBudget" "capacity" "J" (.long cp)) (Ft : Fld Z h0 r0 "com/example/headroom/headroom/model/ByteBudget" "taken" "J" (.long tk)) :
    MetFree l (⟨"com/example/headroom/headroom/model/ByteBudget", "hasLeft", "(J)Z"⟩ : MethodName) (head1 (Jvm.Cond.code (⟨"com/example/headroom/headroom/model/ByteBudget", "hasLeft", "(J)Z"⟩ : MethodName) prog_38_method_4_code 3 (some .boolean) :: ws) ({ frames := 0, cells := 0, slots := 0, locals := 0 } : Room)) (fun a U => a = #[(.ref r0), (.long q1)] ∧ Z.Warmed39 U.vm ∧ U.heap = h0) (fun _ _ _ _ _ => True) (fun _ U o U' => ∃ v L, o = .returned v ∧ Q5 Z r0 q1 cp tk h0 n0 v U'.heap L ∧ FrameEnd U o U' L ({ frames := 0, cells := 0, slots := 0, locals := 0 } : Room).cells ({ frames := 0, cells := 0, slots := 0, locals := 0 } : Room).slots) := by
  refine MetFree.of_bodySF (plainFor_of_name pn_1) hisR ?_
  intro p e s m args below meth c s₁ Bd hml0 hP hK
  obtain ⟨rfl, hZ, hh⟩ := hP
  have hx := Bd.exec
  have hby := Bd.bytes
  have hml : c.maxLocals = 3 := hml0
  have hown : s.vm.findClass "com/example/headroom/headroom/model/ByteBudget" = some m.cls := findClass_of_methodNamed Bd.named
  have hnm := (name_of_methodNamed Bd.named Bd.method).1
  have X0 : Stand p l e ({ frames := 0, cells := 0, slots := 0, locals := 0 } : Room) s m #[(.ref r0), (.long q1)] below meth c s₁ [] 0 0 := Stand.of_body Bd
  have e0 : s₁.heap = h0 := by rw [← hh, Bd.state]; rfl
  have N0 := Fr.nil n0
  have K0 : ∀ t, Steps p.tables e below (s₁.setTop (mkF m 0 #[.val (.ref r0), .val (.long q1), .second] [])) t → Steps p.tables e below (s₁.setTop (entryFrame m #[(.ref r0), (.long q1)] 3)) t := fun t k => castTop (ef_5 m r0 q1) k
  generalize s₁.setTop (entryFrame m #[(.ref r0), (.long q1)] 3) = SE at K0 ⊢
  have K1 : ∀ t, own_S p e below s₁ (mkF m 2 #[.val (.ref r0), .val (.long q1), .second] [(.ref r0), (.long q1)]) t → Steps p.tables e below SE t := by
    intro t k
    refine K0 _ ?_
    refine XS.lloadN X0.here hx rfl (hb hby d5_0) rfl ?_
    show own_S p e below s₁ (mkF m 1 #[.val (.ref r0), .val (.long q1), .second] [(.long q1)]) _
    refine XS.aloadN X0.here hx rfl (hb hby d5_1) rfl rfl ?_
    exact k
  obtain ⟨T2, X2, e2, st2⟩ := getF X0 hx hZ hown (host := "") (Or.inl (hw _ (List.mem_of_getElem? (i := 10) rfl))) Via.refl e0 Fc (g := (mkF m 2 #[.val (.ref r0), .val (.long q1), .second] [(.ref r0), (.long q1)])) rfl rfl (hb hby d5_2)
  have K2 : ∀ t, own_S p e below T2 (mkF m 5 #[.val (.ref r0), .val (.long q1), .second] [(.long cp), (.long q1)]) t → Steps p.tables e below SE t := fun t k => K1 _ (st2 _ k)
  have K3 : ∀ t, own_S p e below T2 (mkF m 6 #[.val (.ref r0), .val (.long q1), .second] [(.ref r0), (.long cp), (.long q1)]) t → Steps p.tables e below SE t := by
    intro t k
    refine K2 _ ?_
    refine XS.aloadN X2.here hx rfl (hb hby d5_5) rfl rfl ?_
    exact k
  obtain ⟨T4, X4, e4, st4⟩ := getF X2 hx hZ hown (host := "") (Or.inl (hw _ (List.mem_of_getElem? (i := 17) rfl))) Via.refl e2 Ft (g := (mkF m 6 #[.val (.ref r0), .val (.long q1), .second] [(.ref r0), (.long cp), (.long q1)])) rfl rfl (hb hby d5_6)
  have K4 : ∀ t, own_S p e below T4 (mkF m 9 #[.val (.ref r0), .val (.long q1), .second] [(.long tk), (.long cp), (.long q1)]) t → Steps p.tables e below SE t := fun t k => K3 _ (st4 _ k)
  have K6 : ∀ t, own_S p e below T4 (mkF m 11 #[.val (.ref r0), .val (.long q1), .second] [(.int (XT.cmpL q1 (cp - tk)))]) t → Steps p.tables e below SE t := by
    intro t k
    refine K4 _ ?_
    refine XS.lsub X4.here hx rfl (hb hby d5_9) rfl ?_
    show own_S p e below T4 (mkF m 10 #[.val (.ref r0), .val (.long q1), .second] [(.long (cp - tk)), (.long q1)]) _
    refine XT.lcmp X4.here hx rfl (hb hby d5_10) rfl ?_
    exact k
  by_cases c11_5 : (cp - tk) < q1
  · skip
    have K7 : ∀ t, own_S p e below T4 (mkF m 19 #[.val (.ref r0), .val (.long q1), .second] [(.int (0 : Int32))]) t → Steps p.tables e below SE t := by
      intro t k
      refine K6 _ ?_
      refine XS.ifYes X4.here hx rfl (pc0 := 11) (pc' := 18) rfl (hb hby d5_11) rfl (XT.ll_gt_t c11_5) (by decide) (by decide) ?_
      show own_S p e below T4 (mkF m 18 #[.val (.ref r0), .val (.long q1), .second] []) _
      refine XS.iconst X4.here hx rfl (hb hby d5_18) ?_
      exact k
    obtain ⟨fs, hr, hrun, hended, hW, hsame⟩ := X4.leave (v := some (.int (0 : Int32))) (fun h => by rw [Bd.returns] at h; cases h)
    refine ⟨_, _, K7 _ ?_, hrun, hended, _, _, rfl, ?_, ⟨_, rfl⟩, hW, hsame.mono (by decide) (by decide)⟩
    · exact retN X4 hx (t := .boolean) Bd.returns (by simp) (hb hby d5_19) hr
    · show Q5 Z r0 q1 cp tk h0 n0 _ T4.heap _
      rw [e4]
      exact ⟨(by simp only [if_pos c11_5]), N0, rfl⟩
  · skip
    have K8 : ∀ t, own_S p e below T4 (mkF m 19 #[.val (.ref r0), .val (.long q1), .second] [(.int (1 : Int32))]) t → Steps p.tables e below SE t := by
      intro t k
      refine K6 _ ?_
      refine XS.ifNo X4.here hx rfl (hb hby d5_11) rfl (XT.ll_gt_f c11_5) ?_
      show own_S p e below T4 (mkF m 14 #[.val (.ref r0), .val (.long q1), .second] []) _
      refine XS.iconst X4.here hx rfl (hb hby d5_14) ?_
      show own_S p e below T4 (mkF m 15 #[.val (.ref r0), .val (.long q1), .second] [(.int (1 : Int32))]) _
      refine XS.goto X4.here hx rfl (pc0 := 15) (pc' := 19) rfl (hb hby d5_15) (by decide) (by decide) ?_
      exact k
    obtain ⟨fs, hr, hrun, hended, hW, hsame⟩ := X4.leave (v := some (.int (1 : Int32))) (fun h => by rw [Bd.returns] at h; cases h)
    refine ⟨_, _, K8 _ ?_, hrun, hended, _, _, rfl, ?_, ⟨_, rfl⟩, hW, hsame.mono (by decide) (by decide)⟩
    · exact retN X4 hx (t := .boolean) Bd.returns (by simp) (hb hby d5_19) hr
    · show Q5 Z r0 q1 cp tk h0 n0 _ T4.heap _
      rw [e4]
      exact ⟨(by simp only [if_neg c11_5]), N0, rfl⟩
theorem own_mask (x y : Int64) (h : y = (x &&& (9223372036854775807 : Int64))) : 0 ≤ y.toInt := by
  have e : (x &&& (9223372036854775807 : Int64)).toInt = x.toInt % 2 ^ 63 := Jvm.Kit.i64_mask x 9223372036854775807 (k := 63) (by decide) (by decide)
  rw [h, e]
  omega
theorem own_g (t u g : Int64) (ht : 0 ≤ t.toInt) (hu : 0 ≤ u.toInt) (h : g = (if t = (0 : Int64) then (0 : Int64) else (u - (u / t) * t))) : 0 ≤ g.toInt ∧ g.toInt ≤ t.toInt := by
  have c0 : (0 : Int64).toInt = 0 := by decide
  by_cases q : t = (0 : Int64)
  · rw [if_pos q] at h
    rw [h, c0]
    exact ⟨by omega, ht⟩
  · rw [if_neg q] at h
    rw [← Int64.toInt_inj, c0] at q
    rw [h, Jvm.Kit.i64_rem_nonneg hu]
    exact ⟨Int.emod_nonneg _ q, Int.le_of_lt (Int.emod_lt_of_pos _ (by omega))⟩
theorem own_law (cp t g byt tk : Int64) (h1 : 0 ≤ cp.toInt) (h2 : 0 ≤ t.toInt) (h3 : 0 ≤ g.toInt ∧ g.toInt ≤ t.toInt) (h4 : 0 ≤ byt.toInt) (htk : tk = t - g) :
    (if (cp - (((0 : Int64) + t) - g)) < byt then (0 : Int32) else (1 : Int32)) = (if cp < byt then (0 : Int32) else (if (cp - byt) < tk then (0 : Int32) else (1 : Int32))) := by
  have c0 : (0 : Int64).toInt = 0 := by decide
  have r1 := cp.toInt_lt
  have r2 := t.toInt_lt
  have r3 := byt.toInt_lt
  have e0 : ((0 : Int64) + t) = t := by rw [Int64.zero_add]
  have e1 : (t - g).toInt = t.toInt - g.toInt := Jvm.Kit.i64_sub (by omega) (by omega)
  have e2 : (cp - (t - g)).toInt = cp.toInt - (t - g).toInt := Jvm.Kit.i64_sub (by omega) (by omega)
  have e3 : (cp - byt).toInt = cp.toInt - byt.toInt := Jvm.Kit.i64_sub (by omega) (by omega)
  rw [e0, htk]
  simp only [Int64.lt_iff_toInt_lt, e2, e3, e1]
  repeat' split
  all_goals first | rfl | (exfalso; omega)
theorem pn_0 : plainName "com/example/headroom/headroom/model/ByteBudgetHasLeftPinLaw" = true := by first | (simp [plainName, overriddenIn]; done) | decide +kernel
theorem pd_0_0 : parseMethodDescriptor "(J)V" = some ⟨[.long], none⟩ := by decide +kernel
theorem pd_0_1 : parseMethodDescriptor "(J)Z" = some ⟨[.long], some .boolean⟩ := by decide +kernel
theorem ef_0 (m : MethodId) (q0 : Int64) (q1 : Int64) (q2 : Int64) (q3 : Int64) : entryFrame m #[(.long q0), (.long q1), (.long q2), (.long q3)] maxLocals = mkF m 0 #[.val (.long q0), .second, .val (.long q1), .second, .val (.long q2), .second, .val (.long q3), .second, .unset, .unset, .unset, .unset, .unset, .unset, .unset, .unset, .unset, .unset, .unset, .unset, .unset] [] := by first | (simp [entryFrame, mkF, argsToLocals, Value.category, maxLocals]; done) | rfl
def Q0 (Z : State) (q0 : Int64) (q1 : Int64) (q2 : Int64) (q3 : Int64) (h0 : Heap) (n0 : Nat) (v : Option Value) (h : Heap) (L : List Loc) : Prop := v = some (.int 1) ∧ Fr n0 L
set_option maxRecDepth 65536 in
set_option maxHeartbeats 40000000 in
theorem rm0 (l : Launch) (Z : State) (a0 : Array Value) (hw : ∀ d ∈ tables_1, d.before a0 Z = true) (ws : List Jvm.Cond) (q0 : Int64) (q1 : Int64) (q2 : Int64) (q3 : Int64) (h0 : Heap) (n0 : Nat) (Z0 : n0 ≤ h0.size) :
    MetFree l x (head1 (Jvm.Cond.code x code maxLocals ret :: ws) room_1) (fun a U => a = #[(.long q0), (.long q1), (.long q2), (.long q3)] ∧ Z.Warmed39 U.vm ∧ U.heap = h0) (fun _ _ _ _ _ => True) (fun _ U o U' => ∃ v L, o = .returned v ∧ Q0 Z q0 q1 q2 q3 h0 n0 v U'.heap L ∧ FrameEnd U o U' L room_1.cells room_1.slots) := by
  refine MetFree.of_bodySF (plainFor_of_name pn_0) hisR ?_
  intro p e s m args below meth c s₁ Bd hml0 hP hK
  obtain ⟨rfl, hZ, hh⟩ := hP
  have hx := Bd.exec
  have hby := Bd.bytes
  have hml : c.maxLocals = 21 := hml0
  have hown : s.vm.findClass "com/example/headroom/headroom/model/ByteBudgetHasLeftPinLaw" = some m.cls := findClass_of_methodNamed Bd.named
  have hnm := (name_of_methodNamed Bd.named Bd.method).1
  have X0 : Stand p l e room_1 s m #[(.long q0), (.long q1), (.long q2), (.long q3)] below meth c s₁ [] 0 0 := Stand.of_body Bd
  have e0 : s₁.heap = h0 := by rw [← hh, Bd.state]; rfl
  have N0 := Fr.nil n0
  have K0 : ∀ t, Steps p.tables e below (s₁.setTop (mkF m 0 #[.val (.long q0), .second, .val (.long q1), .second, .val (.long q2), .second, .val (.long q3), .second, .unset, .unset, .unset, .unset, .unset, .unset, .unset, .unset, .unset, .unset, .unset, .unset, .unset] [])) t → Steps p.tables e below (s₁.setTop (entryFrame m #[(.long q0), (.long q1), (.long q2), (.long q3)] maxLocals)) t := fun t k => castTop (ef_0 m q0 q1 q2 q3) k
  generalize s₁.setTop (entryFrame m #[(.long q0), (.long q1), (.long q2), (.long q3)] maxLocals) = SE at K0 ⊢
  have K1 : ∀ t, own_S p e below s₁ (mkF m 7 #[.val (.long q0), .second, .val (.long q1), .second, .val (.long q2), .second, .val (.long q3), .second, .val (.long (q0 &&& (9223372036854775807 : Int64))), .second, .unset, .unset, .unset, .unset, .unset, .unset, .unset, .unset, .unset, .unset, .unset] []) t → Steps p.tables e below SE t := by
    intro t k
    refine K0 _ ?_
    refine XS.lloadN X0.here hx rfl (hb hby at_0) rfl ?_
    show own_S p e below s₁ (mkF m 1 #[.val (.long q0), .second, .val (.long q1), .second, .val (.long q2), .second, .val (.long q3), .second, .unset, .unset, .unset, .unset, .unset, .unset, .unset, .unset, .unset, .unset, .unset, .unset, .unset] [(.long q0)]) _
    refine Stand.ldc2J X0 hx hown (mvT hZ (hw _ (List.mem_of_getElem? (i := 0) rfl))) (v := (9223372036854775807 : Int64)) (g := (mkF m 1 #[.val (.long q0), .second, .val (.long q1), .second, .val (.long q2), .second, .val (.long q3), .second, .unset, .unset, .unset, .unset, .unset, .unset, .unset, .unset, .unset, .unset, .unset, .unset, .unset] [(.long q0)])) rfl (hb hby at_1) ?_
    show own_S p e below s₁ (mkF m 4 #[.val (.long q0), .second, .val (.long q1), .second, .val (.long q2), .second, .val (.long q3), .second, .unset, .unset, .unset, .unset, .unset, .unset, .unset, .unset, .unset, .unset, .unset, .unset, .unset] [(.long (9223372036854775807 : Int64)), (.long q0)]) _
    refine XS.land X0.here hx rfl (hb hby at_4) rfl ?_
    show own_S p e below s₁ (mkF m 5 #[.val (.long q0), .second, .val (.long q1), .second, .val (.long q2), .second, .val (.long q3), .second, .unset, .unset, .unset, .unset, .unset, .unset, .unset, .unset, .unset, .unset, .unset, .unset, .unset] [(.long (q0 &&& (9223372036854775807 : Int64)))]) _
    refine XS.lstore X0.here hx rfl (hb hby at_5) rfl (l' := #[.val (.long q0), .second, .val (.long q1), .second, .val (.long q2), .second, .val (.long q3), .second, .val (.long (q0 &&& (9223372036854775807 : Int64))), .second, .unset, .unset, .unset, .unset, .unset, .unset, .unset, .unset, .unset, .unset, .unset]) rfl ?_
    exact k
  obtain ⟨cp, hcp⟩ : ∃ z : Int64, z = (q0 &&& (9223372036854775807 : Int64)) := ⟨_, rfl⟩
  rw [← hcp] at K1
  have K2 : ∀ t, own_S p e below s₁ (mkF m 14 #[.val (.long q0), .second, .val (.long q1), .second, .val (.long q2), .second, .val (.long q3), .second, .val (.long cp), .second, .val (.long (q1 &&& (9223372036854775807 : Int64))), .second, .unset, .unset, .unset, .unset, .unset, .unset, .unset, .unset, .unset] []) t → Steps p.tables e below SE t := by
    intro t k
    refine K1 _ ?_
    refine XS.lloadN X0.here hx rfl (hb hby at_7) rfl ?_
    show own_S p e below s₁ (mkF m 8 #[.val (.long q0), .second, .val (.long q1), .second, .val (.long q2), .second, .val (.long q3), .second, .val (.long cp), .second, .unset, .unset, .unset, .unset, .unset, .unset, .unset, .unset, .unset, .unset, .unset] [(.long q1)]) _
    refine Stand.ldc2J X0 hx hown (mvT hZ (hw _ (List.mem_of_getElem? (i := 0) rfl))) (v := (9223372036854775807 : Int64)) (g := (mkF m 8 #[.val (.long q0), .second, .val (.long q1), .second, .val (.long q2), .second, .val (.long q3), .second, .val (.long cp), .second, .unset, .unset, .unset, .unset, .unset, .unset, .unset, .unset, .unset, .unset, .unset] [(.long q1)])) rfl (hb hby at_8) ?_
    show own_S p e below s₁ (mkF m 11 #[.val (.long q0), .second, .val (.long q1), .second, .val (.long q2), .second, .val (.long q3), .second, .val (.long cp), .second, .unset, .unset, .unset, .unset, .unset, .unset, .unset, .unset, .unset, .unset, .unset] [(.long (9223372036854775807 : Int64)), (.long q1)]) _
    refine XS.land X0.here hx rfl (hb hby at_11) rfl ?_
    show own_S p e below s₁ (mkF m 12 #[.val (.long q0), .second, .val (.long q1), .second, .val (.long q2), .second, .val (.long q3), .second, .val (.long cp), .second, .unset, .unset, .unset, .unset, .unset, .unset, .unset, .unset, .unset, .unset, .unset] [(.long (q1 &&& (9223372036854775807 : Int64)))]) _
    refine XS.lstore X0.here hx rfl (hb hby at_12) rfl (l' := #[.val (.long q0), .second, .val (.long q1), .second, .val (.long q2), .second, .val (.long q3), .second, .val (.long cp), .second, .val (.long (q1 &&& (9223372036854775807 : Int64))), .second, .unset, .unset, .unset, .unset, .unset, .unset, .unset, .unset, .unset]) rfl ?_
    exact k
  obtain ⟨t', ht'⟩ : ∃ z : Int64, z = (q1 &&& (9223372036854775807 : Int64)) := ⟨_, rfl⟩
  rw [← ht'] at K2
  have hcp' := own_mask _ _ hcp
  have ht'' := own_mask _ _ ht'
  have K4 : ∀ t, own_S p e below s₁ (mkF m 21 #[.val (.long q0), .second, .val (.long q1), .second, .val (.long q2), .second, .val (.long q3), .second, .val (.long cp), .second, .val (.long t'), .second, .val (.long (0 : Int64)), .second, .unset, .unset, .unset, .unset, .unset, .unset, .unset] [(.int (XT.cmpL t' (0 : Int64)))]) t → Steps p.tables e below SE t := by
    intro t k
    refine K2 _ ?_
    refine XS.lconst X0.here hx rfl (hb hby at_14) ?_
    show own_S p e below s₁ (mkF m 15 #[.val (.long q0), .second, .val (.long q1), .second, .val (.long q2), .second, .val (.long q3), .second, .val (.long cp), .second, .val (.long t'), .second, .unset, .unset, .unset, .unset, .unset, .unset, .unset, .unset, .unset] [(.long (0 : Int64))]) _
    refine XS.lstore X0.here hx rfl (hb hby at_15) rfl (l' := #[.val (.long q0), .second, .val (.long q1), .second, .val (.long q2), .second, .val (.long q3), .second, .val (.long cp), .second, .val (.long t'), .second, .val (.long (0 : Int64)), .second, .unset, .unset, .unset, .unset, .unset, .unset, .unset]) rfl ?_
    show own_S p e below s₁ (mkF m 17 #[.val (.long q0), .second, .val (.long q1), .second, .val (.long q2), .second, .val (.long q3), .second, .val (.long cp), .second, .val (.long t'), .second, .val (.long (0 : Int64)), .second, .unset, .unset, .unset, .unset, .unset, .unset, .unset] []) _
    refine XS.lload X0.here hx rfl (hb hby at_17) rfl ?_
    show own_S p e below s₁ (mkF m 19 #[.val (.long q0), .second, .val (.long q1), .second, .val (.long q2), .second, .val (.long q3), .second, .val (.long cp), .second, .val (.long t'), .second, .val (.long (0 : Int64)), .second, .unset, .unset, .unset, .unset, .unset, .unset, .unset] [(.long t')]) _
    refine XS.lconst X0.here hx rfl (hb hby at_19) ?_
    show own_S p e below s₁ (mkF m 20 #[.val (.long q0), .second, .val (.long q1), .second, .val (.long q2), .second, .val (.long q3), .second, .val (.long cp), .second, .val (.long t'), .second, .val (.long (0 : Int64)), .second, .unset, .unset, .unset, .unset, .unset, .unset, .unset] [(.long (0 : Int64)), (.long t')]) _
    refine XT.lcmp X0.here hx rfl (hb hby at_20) rfl ?_
    exact k
  obtain ⟨g', hg', K5⟩ : ∃ g' : Int64, g' = (if t' = (0 : Int64) then (0 : Int64) else ((q2 &&& (9223372036854775807 : Int64)) - ((q2 &&& (9223372036854775807 : Int64)) / t') * t')) ∧ ∀ t, own_S p e below s₁ (mkF m 35 #[.val (.long q0), .second, .val (.long q1), .second, .val (.long q2), .second, .val (.long q3), .second, .val (.long cp), .second, .val (.long t'), .second, .val (.long g'), .second, .unset, .unset, .unset, .unset, .unset, .unset, .unset] []) t → Steps p.tables e below SE t := by
    by_cases c21_6 : t' = (0 : Int64)
    · skip
      have K7 : ∀ t, own_S p e below s₁ (mkF m 35 #[.val (.long q0), .second, .val (.long q1), .second, .val (.long q2), .second, .val (.long q3), .second, .val (.long cp), .second, .val (.long t'), .second, .val (.long (0 : Int64)), .second, .unset, .unset, .unset, .unset, .unset, .unset, .unset] []) t → Steps p.tables e below SE t := by
        intro t k
        refine K4 _ ?_
        refine XS.ifYes X0.here hx rfl (pc0 := 21) (pc' := 35) rfl (hb hby at_21) rfl (XT.ll_eq_t c21_6) (by decide) (by decide) ?_
        exact k
      exact ⟨(0 : Int64), (by simp only [if_pos c21_6]), K7⟩
    · skip
      have K8 : ∀ t, own_S p e below s₁ (mkF m 35 #[.val (.long q0), .second, .val (.long q1), .second, .val (.long q2), .second, .val (.long q3), .second, .val (.long cp), .second, .val (.long t'), .second, .val (.long ((q2 &&& (9223372036854775807 : Int64)) - ((q2 &&& (9223372036854775807 : Int64)) / t') * t')), .second, .unset, .unset, .unset, .unset, .unset, .unset, .unset] []) t → Steps p.tables e below SE t := by
        intro t k
        refine K4 _ ?_
        refine XS.ifNo X0.here hx rfl (hb hby at_21) rfl (XT.ll_eq_f c21_6) ?_
        show own_S p e below s₁ (mkF m 24 #[.val (.long q0), .second, .val (.long q1), .second, .val (.long q2), .second, .val (.long q3), .second, .val (.long cp), .second, .val (.long t'), .second, .val (.long (0 : Int64)), .second, .unset, .unset, .unset, .unset, .unset, .unset, .unset] []) _
        refine XS.lload X0.here hx rfl (hb hby at_24) rfl ?_
        show own_S p e below s₁ (mkF m 26 #[.val (.long q0), .second, .val (.long q1), .second, .val (.long q2), .second, .val (.long q3), .second, .val (.long cp), .second, .val (.long t'), .second, .val (.long (0 : Int64)), .second, .unset, .unset, .unset, .unset, .unset, .unset, .unset] [(.long q2)]) _
        refine Stand.ldc2J X0 hx hown (mvT hZ (hw _ (List.mem_of_getElem? (i := 0) rfl))) (v := (9223372036854775807 : Int64)) (g := (mkF m 26 #[.val (.long q0), .second, .val (.long q1), .second, .val (.long q2), .second, .val (.long q3), .second, .val (.long cp), .second, .val (.long t'), .second, .val (.long (0 : Int64)), .second, .unset, .unset, .unset, .unset, .unset, .unset, .unset] [(.long q2)])) rfl (hb hby at_26) ?_
        show own_S p e below s₁ (mkF m 29 #[.val (.long q0), .second, .val (.long q1), .second, .val (.long q2), .second, .val (.long q3), .second, .val (.long cp), .second, .val (.long t'), .second, .val (.long (0 : Int64)), .second, .unset, .unset, .unset, .unset, .unset, .unset, .unset] [(.long (9223372036854775807 : Int64)), (.long q2)]) _
        refine XS.land X0.here hx rfl (hb hby at_29) rfl ?_
        show own_S p e below s₁ (mkF m 30 #[.val (.long q0), .second, .val (.long q1), .second, .val (.long q2), .second, .val (.long q3), .second, .val (.long cp), .second, .val (.long t'), .second, .val (.long (0 : Int64)), .second, .unset, .unset, .unset, .unset, .unset, .unset, .unset] [(.long (q2 &&& (9223372036854775807 : Int64)))]) _
        refine XS.lload X0.here hx rfl (hb hby at_30) rfl ?_
        show own_S p e below s₁ (mkF m 32 #[.val (.long q0), .second, .val (.long q1), .second, .val (.long q2), .second, .val (.long q3), .second, .val (.long cp), .second, .val (.long t'), .second, .val (.long (0 : Int64)), .second, .unset, .unset, .unset, .unset, .unset, .unset, .unset] [(.long t'), (.long (q2 &&& (9223372036854775807 : Int64)))]) _
        refine XS.lrem X0.here hx rfl (hb hby at_32) rfl (by assumption) ?_
        show own_S p e below s₁ (mkF m 33 #[.val (.long q0), .second, .val (.long q1), .second, .val (.long q2), .second, .val (.long q3), .second, .val (.long cp), .second, .val (.long t'), .second, .val (.long (0 : Int64)), .second, .unset, .unset, .unset, .unset, .unset, .unset, .unset] [(.long ((q2 &&& (9223372036854775807 : Int64)) - ((q2 &&& (9223372036854775807 : Int64)) / t') * t'))]) _
        refine XS.lstore X0.here hx rfl (hb hby at_33) rfl (l' := #[.val (.long q0), .second, .val (.long q1), .second, .val (.long q2), .second, .val (.long q3), .second, .val (.long cp), .second, .val (.long t'), .second, .val (.long ((q2 &&& (9223372036854775807 : Int64)) - ((q2 &&& (9223372036854775807 : Int64)) / t') * t')), .second, .unset, .unset, .unset, .unset, .unset, .unset, .unset]) rfl ?_
        exact k
      exact ⟨((q2 &&& (9223372036854775807 : Int64)) - ((q2 &&& (9223372036854775807 : Int64)) / t') * t'), (by simp only [if_neg c21_6]), K8⟩
  have hg'' := own_g t' _ g' ht'' (own_mask q2 _ rfl) hg'
  have K9 : ∀ t, own_S p e below s₁ (mkF m 43 #[.val (.long q0), .second, .val (.long q1), .second, .val (.long q2), .second, .val (.long q3), .second, .val (.long cp), .second, .val (.long t'), .second, .val (.long g'), .second, .val (.long (q3 &&& (9223372036854775807 : Int64))), .second, .unset, .unset, .unset, .unset, .unset] []) t → Steps p.tables e below SE t := by
    intro t k
    refine K5 _ ?_
    refine XS.lload X0.here hx rfl (hb hby at_35) rfl ?_
    show own_S p e below s₁ (mkF m 37 #[.val (.long q0), .second, .val (.long q1), .second, .val (.long q2), .second, .val (.long q3), .second, .val (.long cp), .second, .val (.long t'), .second, .val (.long g'), .second, .unset, .unset, .unset, .unset, .unset, .unset, .unset] [(.long q3)]) _
    refine Stand.ldc2J X0 hx hown (mvT hZ (hw _ (List.mem_of_getElem? (i := 0) rfl))) (v := (9223372036854775807 : Int64)) (g := (mkF m 37 #[.val (.long q0), .second, .val (.long q1), .second, .val (.long q2), .second, .val (.long q3), .second, .val (.long cp), .second, .val (.long t'), .second, .val (.long g'), .second, .unset, .unset, .unset, .unset, .unset, .unset, .unset] [(.long q3)])) rfl (hb hby at_37) ?_
    show own_S p e below s₁ (mkF m 40 #[.val (.long q0), .second, .val (.long q1), .second, .val (.long q2), .second, .val (.long q3), .second, .val (.long cp), .second, .val (.long t'), .second, .val (.long g'), .second, .unset, .unset, .unset, .unset, .unset, .unset, .unset] [(.long (9223372036854775807 : Int64)), (.long q3)]) _
    refine XS.land X0.here hx rfl (hb hby at_40) rfl ?_
    show own_S p e below s₁ (mkF m 41 #[.val (.long q0), .second, .val (.long q1), .second, .val (.long q2), .second, .val (.long q3), .second, .val (.long cp), .second, .val (.long t'), .second, .val (.long g'), .second, .unset, .unset, .unset, .unset, .unset, .unset, .unset] [(.long (q3 &&& (9223372036854775807 : Int64)))]) _
    refine XS.lstore X0.here hx rfl (hb hby at_41) rfl (l' := #[.val (.long q0), .second, .val (.long q1), .second, .val (.long q2), .second, .val (.long q3), .second, .val (.long cp), .second, .val (.long t'), .second, .val (.long g'), .second, .val (.long (q3 &&& (9223372036854775807 : Int64))), .second, .unset, .unset, .unset, .unset, .unset]) rfl ?_
    exact k
  obtain ⟨byt, hbyt⟩ : ∃ z : Int64, z = (q3 &&& (9223372036854775807 : Int64)) := ⟨_, rfl⟩
  rw [← hbyt] at K9
  have hbyt2 := own_mask _ _ hbyt
  have K10 : ∀ t, own_S p e below s₁ (mkF m 50 #[.val (.long q0), .second, .val (.long q1), .second, .val (.long q2), .second, .val (.long q3), .second, .val (.long cp), .second, .val (.long t'), .second, .val (.long g'), .second, .val (.long byt), .second, .val (.long (t' - g')), .second, .unset, .unset, .unset] []) t → Steps p.tables e below SE t := by
    intro t k
    refine K9 _ ?_
    refine XS.lload X0.here hx rfl (hb hby at_43) rfl ?_
    show own_S p e below s₁ (mkF m 45 #[.val (.long q0), .second, .val (.long q1), .second, .val (.long q2), .second, .val (.long q3), .second, .val (.long cp), .second, .val (.long t'), .second, .val (.long g'), .second, .val (.long byt), .second, .unset, .unset, .unset, .unset, .unset] [(.long t')]) _
    refine XS.lload X0.here hx rfl (hb hby at_45) rfl ?_
    show own_S p e below s₁ (mkF m 47 #[.val (.long q0), .second, .val (.long q1), .second, .val (.long q2), .second, .val (.long q3), .second, .val (.long cp), .second, .val (.long t'), .second, .val (.long g'), .second, .val (.long byt), .second, .unset, .unset, .unset, .unset, .unset] [(.long g'), (.long t')]) _
    refine XS.lsub X0.here hx rfl (hb hby at_47) rfl ?_
    show own_S p e below s₁ (mkF m 48 #[.val (.long q0), .second, .val (.long q1), .second, .val (.long q2), .second, .val (.long q3), .second, .val (.long cp), .second, .val (.long t'), .second, .val (.long g'), .second, .val (.long byt), .second, .unset, .unset, .unset, .unset, .unset] [(.long (t' - g'))]) _
    refine XS.lstore X0.here hx rfl (hb hby at_48) rfl (l' := #[.val (.long q0), .second, .val (.long q1), .second, .val (.long q2), .second, .val (.long q3), .second, .val (.long cp), .second, .val (.long t'), .second, .val (.long g'), .second, .val (.long byt), .second, .val (.long (t' - g')), .second, .unset, .unset, .unset]) rfl ?_
    exact k
  obtain ⟨tk, htk⟩ : ∃ z : Int64, z = (t' - g') := ⟨_, rfl⟩
  rw [← htk] at K10
  obtain ⟨T11, h11, X11, e11, E11, A11, D11, -, st11⟩ := newO X0 hx hZ hown (hw _ (List.mem_of_getElem? (i := 1) rfl)) (hw _ (List.mem_of_getElem? (i := 2) rfl)) (hw _ (List.mem_of_getElem? (i := 3) rfl)) e0 (g := (mkF m 50 #[.val (.long q0), .second, .val (.long q1), .second, .val (.long q2), .second, .val (.long q3), .second, .val (.long cp), .second, .val (.long t'), .second, .val (.long g'), .second, .val (.long byt), .second, .val (.long tk), .second, .unset, .unset, .unset] [])) rfl (hb hby at_50) (by decide) (by decide)
  obtain ⟨b11, g11⟩ : ∃ z, z = h0.size := ⟨_, rfl⟩
  rw [← g11] at A11 D11 st11
  have g_b11 : n0 ≤ b11 := Nat.le_trans Z0 (Nat.le_of_eq g11.symm)
  have sz_b11 : h0.size ≤ b11 := Nat.le_trans (Nat.le_refl _) (Nat.le_of_eq g11.symm)
  have Kp11 : Keep h0 h11 [] := Keep.ext (Keep.refl h0 []) E11
  have F_capacity_b11 : Fld Z h11 b11 "com/example/headroom/headroom/model/ByteBudget" "capacity" "J" (.long (0 : Int64)) := D11 (Or.inr (hw _ (List.mem_of_getElem? (i := 11) rfl))) (ty := .long) (by decide)
  have F_taken_b11 : Fld Z h11 b11 "com/example/headroom/headroom/model/ByteBudget" "taken" "J" (.long (0 : Int64)) := D11 (Or.inl (hw _ (List.mem_of_getElem? (i := 18) rfl))) (ty := .long) (by decide)
  have K11 : ∀ t, own_S p e below T11 (mkF m 53 #[.val (.long q0), .second, .val (.long q1), .second, .val (.long q2), .second, .val (.long q3), .second, .val (.long cp), .second, .val (.long t'), .second, .val (.long g'), .second, .val (.long byt), .second, .val (.long tk), .second, .unset, .unset, .unset] [(.ref b11)]) t → Steps p.tables e below SE t := fun t k => K10 _ (st11 _ k)
  have K12 : ∀ t, own_S p e below T11 (mkF m 56 #[.val (.long q0), .second, .val (.long q1), .second, .val (.long q2), .second, .val (.long q3), .second, .val (.long cp), .second, .val (.long t'), .second, .val (.long g'), .second, .val (.long byt), .second, .val (.long tk), .second, .unset, .unset, .unset] [(.long cp), (.ref b11), (.ref b11)]) t → Steps p.tables e below SE t := by
    intro t k
    refine K11 _ ?_
    refine XS.dup X11.here hx rfl (hb hby at_53) rfl rfl ?_
    show own_S p e below T11 (mkF m 54 #[.val (.long q0), .second, .val (.long q1), .second, .val (.long q2), .second, .val (.long q3), .second, .val (.long cp), .second, .val (.long t'), .second, .val (.long g'), .second, .val (.long byt), .second, .val (.long tk), .second, .unset, .unset, .unset] [(.ref b11), (.ref b11)]) _
    refine XS.lload X11.here hx rfl (hb hby at_54) rfl ?_
    exact k
  obtain ⟨_, _, ⟨T13, L13, k13, n13⟩, -, X13, ⟨Lc13, hQ13, l13, y13, z13⟩, st13⟩ := X11.specialBack hx (y := (⟨"com/example/headroom/headroom/model/ByteBudget", "<init>", "(J)V"⟩ : MethodName)) rfl hown (mvT hZ (hw _ (List.mem_of_getElem? (i := 4) rfl))) (mvT hZ (hw _ (List.mem_of_getElem? (i := 5) rfl))) (mvT hZ (hw _ (List.mem_of_getElem? (i := 6) rfl))) (by decide) (backOf (W := 1) (rm1 l Z a0 hw [] b11 cp h11 n0 (Nat.le_trans Z0 Kp11.1) A11 F_capacity_b11 F_taken_b11 g_b11) hZ (hw _ (List.mem_of_getElem? (i := 6) rfl)) (hw _ (List.mem_of_getElem? (i := 3) rfl)) (by decide) (by decide)) (g := (mkF m 56 #[.val (.long q0), .second, .val (.long q1), .second, .val (.long q2), .second, .val (.long q3), .second, .val (.long cp), .second, .val (.long t'), .second, .val (.long g'), .second, .val (.long byt), .second, .val (.long tk), .second, .unset, .unset, .unset] [(.long cp), (.ref b11), (.ref b11)])) rfl (by rw [hml]; rfl) (Steps.refl _) (a := b11) (argsL := [(.long cp)]) (rest := [(.ref b11)]) (lenOf pd_0_0 rfl) rfl (by show 2 * 0 + _ ≤ _; exact Nat.le_of_eq rfl) (hb hby at_56) (fun _ _ => ⟨rfl, e11, (by decide : 1 + 0 ≤ _), (by decide : 2 + 0 ≤ _)⟩)
  dsimp only [Pt.U, Pt.locs, Pt.cells, Pt.slots] at X13 l13 y13 z13 st13 hQ13
  subst l13 y13 z13
  obtain ⟨rfl, Nq13, Kq13, Ex13, Fc13, Ft13⟩ := hQ13
  have N13 := Fr.app N0 Nq13
  have Kp13 : Keep h0 T13.heap [] := Keep.trans Kp11 Kq13 (allS (Or.inr sz_b11) all0)
  have K13 : ∀ t, own_S p e below T13 (mkF m 59 #[.val (.long q0), .second, .val (.long q1), .second, .val (.long q2), .second, .val (.long q3), .second, .val (.long cp), .second, .val (.long t'), .second, .val (.long g'), .second, .val (.long byt), .second, .val (.long tk), .second, .unset, .unset, .unset] [(.ref b11)]) t → Steps p.tables e below SE t := fun t k => K12 _ (st13.trans k)
  have K14 : ∀ t, own_S p e below T13 (mkF m 65 #[.val (.long q0), .second, .val (.long q1), .second, .val (.long q2), .second, .val (.long q3), .second, .val (.long cp), .second, .val (.long t'), .second, .val (.long g'), .second, .val (.long byt), .second, .val (.long tk), .second, .val (.ref b11), .unset, .unset] [(.long t'), (.ref b11)]) t → Steps p.tables e below SE t := by
    intro t k
    refine K13 _ ?_
    refine XS.astore X13.here hx rfl (hb hby at_59) rfl rfl (l' := #[.val (.long q0), .second, .val (.long q1), .second, .val (.long q2), .second, .val (.long q3), .second, .val (.long cp), .second, .val (.long t'), .second, .val (.long g'), .second, .val (.long byt), .second, .val (.long tk), .second, .val (.ref b11), .unset, .unset]) rfl ?_
    show own_S p e below T13 (mkF m 61 #[.val (.long q0), .second, .val (.long q1), .second, .val (.long q2), .second, .val (.long q3), .second, .val (.long cp), .second, .val (.long t'), .second, .val (.long g'), .second, .val (.long byt), .second, .val (.long tk), .second, .val (.ref b11), .unset, .unset] []) _
    refine XS.aload X13.here hx rfl (hb hby at_61) rfl rfl ?_
    show own_S p e below T13 (mkF m 63 #[.val (.long q0), .second, .val (.long q1), .second, .val (.long q2), .second, .val (.long q3), .second, .val (.long cp), .second, .val (.long t'), .second, .val (.long g'), .second, .val (.long byt), .second, .val (.long tk), .second, .val (.ref b11), .unset, .unset] [(.ref b11)]) _
    refine XS.lload X13.here hx rfl (hb hby at_63) rfl ?_
    exact k
  obtain ⟨cq15, kq15, q15a, q15b, q15c⟩ := isOf hZ rfl Ex13
  obtain ⟨_, _, ⟨T15, L15, k15, n15⟩, -, X15, ⟨Lc15, hQ15, l15, y15, z15⟩, st15⟩ := X13.virtualBack hx (y := (⟨"com/example/headroom/headroom/model/ByteBudget", "takeAnyway", "(J)V"⟩ : MethodName)) (z := (⟨"com/example/headroom/headroom/model/ByteBudget", "takeAnyway", "(J)V"⟩ : MethodName)) hown (mvT hZ (hw _ (List.mem_of_getElem? (i := 12) rfl))) (mvT hZ (hw _ (List.mem_of_getElem? (i := 13) rfl))) (notFace_of_selects (args := #[]) (mvT hZ (hw _ (List.mem_of_getElem? (i := 15) rfl)))) (mvT hZ (hw _ (List.mem_of_getElem? (i := 15) rfl))) (mvT hZ (hw _ (List.mem_of_getElem? (i := 14) rfl))) (by decide) (backOf (W := 0) (rm3 l Z a0 hw [] b11 t' cp (0 : Int64) T13.heap n0 (Nat.le_trans Z0 Kp13.1) Ex13 Fc13 Ft13 g_b11) hZ (hw _ (List.mem_of_getElem? (i := 16) rfl)) (hw _ (List.mem_of_getElem? (i := 3) rfl)) (by decide) (by decide)) q15a q15c (g := (mkF m 65 #[.val (.long q0), .second, .val (.long q1), .second, .val (.long q2), .second, .val (.long q3), .second, .val (.long cp), .second, .val (.long t'), .second, .val (.long g'), .second, .val (.long byt), .second, .val (.long tk), .second, .val (.ref b11), .unset, .unset] [(.long t'), (.ref b11)])) rfl (by rw [hml]; rfl) (Steps.refl _) (argsL := [(.long t')]) (rest := []) (lenOf pd_0_0 rfl) rfl (by show 2 * 0 + _ ≤ _; exact Nat.le_of_eq rfl) (hb hby at_65) (fun _ _ => ⟨rfl, rfl, (by decide : 1 + 0 ≤ _), (by decide : 2 + 0 ≤ _)⟩)
  dsimp only [Pt.U, Pt.locs, Pt.cells, Pt.slots] at X15 l15 y15 z15 st15 hQ15
  subst l15 y15 z15
  obtain ⟨rfl, Nq15, Kq15, Ex15, Fc15, Ft15⟩ := hQ15
  have N15 := Fr.app N13 Nq15
  have Kp15 : Keep h0 T15.heap [] := Keep.trans Kp13 Kq15 (allS (Or.inr sz_b11) all0)
  have K15 : ∀ t, own_S p e below T15 (mkF m 68 #[.val (.long q0), .second, .val (.long q1), .second, .val (.long q2), .second, .val (.long q3), .second, .val (.long cp), .second, .val (.long t'), .second, .val (.long g'), .second, .val (.long byt), .second, .val (.long tk), .second, .val (.ref b11), .unset, .unset] []) t → Steps p.tables e below SE t := fun t k => K14 _ (st15.trans k)
  have K16 : ∀ t, own_S p e below T15 (mkF m 72 #[.val (.long q0), .second, .val (.long q1), .second, .val (.long q2), .second, .val (.long q3), .second, .val (.long cp), .second, .val (.long t'), .second, .val (.long g'), .second, .val (.long byt), .second, .val (.long tk), .second, .val (.ref b11), .unset, .unset] [(.long g'), (.ref b11)]) t → Steps p.tables e below SE t := by
    intro t k
    refine K15 _ ?_
    refine XS.aload X15.here hx rfl (hb hby at_68) rfl rfl ?_
    show own_S p e below T15 (mkF m 70 #[.val (.long q0), .second, .val (.long q1), .second, .val (.long q2), .second, .val (.long q3), .second, .val (.long cp), .second, .val (.long t'), .second, .val (.long g'), .second, .val (.long byt), .second, .val (.long tk), .second, .val (.ref b11), .unset, .unset] [(.ref b11)]) _
    refine XS.lload X15.here hx rfl (hb hby at_70) rfl ?_
    exact k
  obtain ⟨cq17, kq17, q17a, q17b, q17c⟩ := isOf hZ rfl Ex15
  obtain ⟨_, _, ⟨T17, L17, k17, n17⟩, -, X17, ⟨Lc17, hQ17, l17, y17, z17⟩, st17⟩ := X15.virtualBack hx (y := (⟨"com/example/headroom/headroom/model/ByteBudget", "giveBack", "(J)V"⟩ : MethodName)) (z := (⟨"com/example/headroom/headroom/model/ByteBudget", "giveBack", "(J)V"⟩ : MethodName)) hown (mvT hZ (hw _ (List.mem_of_getElem? (i := 19) rfl))) (mvT hZ (hw _ (List.mem_of_getElem? (i := 20) rfl))) (notFace_of_selects (args := #[]) (mvT hZ (hw _ (List.mem_of_getElem? (i := 22) rfl)))) (mvT hZ (hw _ (List.mem_of_getElem? (i := 22) rfl))) (mvT hZ (hw _ (List.mem_of_getElem? (i := 21) rfl))) (by decide) (backOf (W := 0) (rm4 l Z a0 hw [] b11 g' cp ((0 : Int64) + t') T15.heap n0 (Nat.le_trans Z0 Kp15.1) Ex15 Fc15 Ft15 g_b11) hZ (hw _ (List.mem_of_getElem? (i := 23) rfl)) (hw _ (List.mem_of_getElem? (i := 3) rfl)) (by decide) (by decide)) q17a q17c (g := (mkF m 72 #[.val (.long q0), .second, .val (.long q1), .second, .val (.long q2), .second, .val (.long q3), .second, .val (.long cp), .second, .val (.long t'), .second, .val (.long g'), .second, .val (.long byt), .second, .val (.long tk), .second, .val (.ref b11), .unset, .unset] [(.long g'), (.ref b11)])) rfl (by rw [hml]; rfl) (Steps.refl _) (argsL := [(.long g')]) (rest := []) (lenOf pd_0_0 rfl) rfl (by show 2 * 0 + _ ≤ _; exact Nat.le_of_eq rfl) (hb hby at_72) (fun _ _ => ⟨rfl, rfl, (by decide : 1 + 0 ≤ _), (by decide : 2 + 0 ≤ _)⟩)
  dsimp only [Pt.U, Pt.locs, Pt.cells, Pt.slots] at X17 l17 y17 z17 st17 hQ17
  subst l17 y17 z17
  obtain ⟨rfl, Nq17, Kq17, Ex17, Fc17, Ft17⟩ := hQ17
  have N17 := Fr.app N15 Nq17
  have Kp17 : Keep h0 T17.heap [] := Keep.trans Kp15 Kq17 (allS (Or.inr sz_b11) all0)
  have K17 : ∀ t, own_S p e below T17 (mkF m 75 #[.val (.long q0), .second, .val (.long q1), .second, .val (.long q2), .second, .val (.long q3), .second, .val (.long cp), .second, .val (.long t'), .second, .val (.long g'), .second, .val (.long byt), .second, .val (.long tk), .second, .val (.ref b11), .unset, .unset] []) t → Steps p.tables e below SE t := fun t k => K16 _ (st17.trans k)
  have K18 : ∀ t, own_S p e below T17 (mkF m 79 #[.val (.long q0), .second, .val (.long q1), .second, .val (.long q2), .second, .val (.long q3), .second, .val (.long cp), .second, .val (.long t'), .second, .val (.long g'), .second, .val (.long byt), .second, .val (.long tk), .second, .val (.ref b11), .unset, .unset] [(.long byt), (.ref b11)]) t → Steps p.tables e below SE t := by
    intro t k
    refine K17 _ ?_
    refine XS.aload X17.here hx rfl (hb hby at_75) rfl rfl ?_
    show own_S p e below T17 (mkF m 77 #[.val (.long q0), .second, .val (.long q1), .second, .val (.long q2), .second, .val (.long q3), .second, .val (.long cp), .second, .val (.long t'), .second, .val (.long g'), .second, .val (.long byt), .second, .val (.long tk), .second, .val (.ref b11), .unset, .unset] [(.ref b11)]) _
    refine XS.lload X17.here hx rfl (hb hby at_77) rfl ?_
    exact k
  obtain ⟨cq19, kq19, q19a, q19b, q19c⟩ := isOf hZ rfl Ex17
  obtain ⟨_, _, ⟨T19, L19, k19, n19⟩, -, X19, ⟨Lc19, hQ19, l19, y19, z19⟩, st19⟩ := X17.virtualBack hx (y := (⟨"com/example/headroom/headroom/model/ByteBudget", "hasLeft", "(J)Z"⟩ : MethodName)) (z := (⟨"com/example/headroom/headroom/model/ByteBudget", "hasLeft", "(J)Z"⟩ : MethodName)) hown (mvT hZ (hw _ (List.mem_of_getElem? (i := 24) rfl))) (mvT hZ (hw _ (List.mem_of_getElem? (i := 25) rfl))) (notFace_of_selects (args := #[]) (mvT hZ (hw _ (List.mem_of_getElem? (i := 27) rfl)))) (mvT hZ (hw _ (List.mem_of_getElem? (i := 27) rfl))) (mvT hZ (hw _ (List.mem_of_getElem? (i := 26) rfl))) (by decide) (backOf (W := 0) (rm5 l Z a0 hw [] b11 byt cp (((0 : Int64) + t') - g') T17.heap n0 (Nat.le_trans Z0 Kp17.1) Fc17 Ft17) hZ (hw _ (List.mem_of_getElem? (i := 28) rfl)) (hw _ (List.mem_of_getElem? (i := 3) rfl)) (by decide) (by decide)) q19a q19c (g := (mkF m 79 #[.val (.long q0), .second, .val (.long q1), .second, .val (.long q2), .second, .val (.long q3), .second, .val (.long cp), .second, .val (.long t'), .second, .val (.long g'), .second, .val (.long byt), .second, .val (.long tk), .second, .val (.ref b11), .unset, .unset] [(.long byt), (.ref b11)])) rfl (by rw [hml]; rfl) (Steps.refl _) (argsL := [(.long byt)]) (rest := []) (lenOf pd_0_1 rfl) rfl (by show 2 * 0 + _ ≤ _; exact Nat.le_of_eq rfl) (hb hby at_79) (fun _ _ => ⟨rfl, rfl, (by decide : 1 + 0 ≤ _), (by decide : 2 + 0 ≤ _)⟩)
  dsimp only [Pt.U, Pt.locs, Pt.cells, Pt.slots] at X19 l19 y19 z19 st19 hQ19
  subst l19 y19 z19
  obtain ⟨rfl, Nq19, e19⟩ := hQ19
  have N19 := Fr.app N17 Nq19
  have K19 : ∀ t, own_S p e below T19 (mkF m 82 #[.val (.long q0), .second, .val (.long q1), .second, .val (.long q2), .second, .val (.long q3), .second, .val (.long cp), .second, .val (.long t'), .second, .val (.long g'), .second, .val (.long byt), .second, .val (.long tk), .second, .val (.ref b11), .unset, .unset] [(.int (if (cp - (((0 : Int64) + t') - g')) < byt then (0 : Int32) else (1 : Int32)))]) t → Steps p.tables e below SE t := fun t k => K18 _ (st19.trans k)
  have K20 : ∀ t, own_S p e below T19 (mkF m 84 #[.val (.long q0), .second, .val (.long q1), .second, .val (.long q2), .second, .val (.long q3), .second, .val (.long cp), .second, .val (.long t'), .second, .val (.long g'), .second, .val (.long byt), .second, .val (.long tk), .second, .val (.ref b11), .val (.int (if (cp - (((0 : Int64) + t') - g')) < byt then (0 : Int32) else (1 : Int32))), .unset] []) t → Steps p.tables e below SE t := by
    intro t k
    refine K19 _ ?_
    refine XS.istore X19.here hx rfl (hb hby at_82) rfl (l' := #[.val (.long q0), .second, .val (.long q1), .second, .val (.long q2), .second, .val (.long q3), .second, .val (.long cp), .second, .val (.long t'), .second, .val (.long g'), .second, .val (.long byt), .second, .val (.long tk), .second, .val (.ref b11), .val (.int (if (cp - (((0 : Int64) + t') - g')) < byt then (0 : Int32) else (1 : Int32))), .unset]) rfl ?_
    exact k
  obtain ⟨got, hgot⟩ : ∃ z : Int32, z = (if (cp - (((0 : Int64) + t') - g')) < byt then (0 : Int32) else (1 : Int32)) := ⟨_, rfl⟩
  rw [← hgot] at K20
  obtain ⟨ex, hex, K22⟩ : ∃ ex : Int32, ex = (if cp < byt then (0 : Int32) else (if (cp - byt) < tk then (0 : Int32) else (1 : Int32))) ∧ ∀ t, own_S p e below T19 (mkF m 108 #[.val (.long q0), .second, .val (.long q1), .second, .val (.long q2), .second, .val (.long q3), .second, .val (.long cp), .second, .val (.long t'), .second, .val (.long g'), .second, .val (.long byt), .second, .val (.long tk), .second, .val (.ref b11), .val (.int got), .unset] [(.int ex)]) t → Steps p.tables e below SE t := by
    have K24 : ∀ t, own_S p e below T19 (mkF m 89 #[.val (.long q0), .second, .val (.long q1), .second, .val (.long q2), .second, .val (.long q3), .second, .val (.long cp), .second, .val (.long t'), .second, .val (.long g'), .second, .val (.long byt), .second, .val (.long tk), .second, .val (.ref b11), .val (.int got), .unset] [(.int (XT.cmpL byt cp))]) t → Steps p.tables e below SE t := by
      intro t k
      refine K20 _ ?_
      refine XS.lload X19.here hx rfl (hb hby at_84) rfl ?_
      show own_S p e below T19 (mkF m 86 #[.val (.long q0), .second, .val (.long q1), .second, .val (.long q2), .second, .val (.long q3), .second, .val (.long cp), .second, .val (.long t'), .second, .val (.long g'), .second, .val (.long byt), .second, .val (.long tk), .second, .val (.ref b11), .val (.int got), .unset] [(.long byt)]) _
      refine XS.lload X19.here hx rfl (hb hby at_86) rfl ?_
      show own_S p e below T19 (mkF m 88 #[.val (.long q0), .second, .val (.long q1), .second, .val (.long q2), .second, .val (.long q3), .second, .val (.long cp), .second, .val (.long t'), .second, .val (.long g'), .second, .val (.long byt), .second, .val (.long tk), .second, .val (.ref b11), .val (.int got), .unset] [(.long cp), (.long byt)]) _
      refine XT.lcmp X19.here hx rfl (hb hby at_88) rfl ?_
      exact k
    by_cases c89_23 : cp < byt
    · skip
      have K25 : ∀ t, own_S p e below T19 (mkF m 108 #[.val (.long q0), .second, .val (.long q1), .second, .val (.long q2), .second, .val (.long q3), .second, .val (.long cp), .second, .val (.long t'), .second, .val (.long g'), .second, .val (.long byt), .second, .val (.long tk), .second, .val (.ref b11), .val (.int got), .unset] [(.int (0 : Int32))]) t → Steps p.tables e below SE t := by
        intro t k
        refine K24 _ ?_
        refine XS.ifYes X19.here hx rfl (pc0 := 89) (pc' := 107) rfl (hb hby at_89) rfl (XT.ll_gt_t c89_23) (by decide) (by decide) ?_
        show own_S p e below T19 (mkF m 107 #[.val (.long q0), .second, .val (.long q1), .second, .val (.long q2), .second, .val (.long q3), .second, .val (.long cp), .second, .val (.long t'), .second, .val (.long g'), .second, .val (.long byt), .second, .val (.long tk), .second, .val (.ref b11), .val (.int got), .unset] []) _
        refine XS.iconst X19.here hx rfl (hb hby at_107) ?_
        exact k
      exact ⟨(0 : Int32), (by simp only [if_pos c89_23]), K25⟩
    · skip
      have K27 : ∀ t, own_S p e below T19 (mkF m 100 #[.val (.long q0), .second, .val (.long q1), .second, .val (.long q2), .second, .val (.long q3), .second, .val (.long cp), .second, .val (.long t'), .second, .val (.long g'), .second, .val (.long byt), .second, .val (.long tk), .second, .val (.ref b11), .val (.int got), .unset] [(.int (XT.cmpL tk (cp - byt)))]) t → Steps p.tables e below SE t := by
        intro t k
        refine K24 _ ?_
        refine XS.ifNo X19.here hx rfl (hb hby at_89) rfl (XT.ll_gt_f c89_23) ?_
        show own_S p e below T19 (mkF m 92 #[.val (.long q0), .second, .val (.long q1), .second, .val (.long q2), .second, .val (.long q3), .second, .val (.long cp), .second, .val (.long t'), .second, .val (.long g'), .second, .val (.long byt), .second, .val (.long tk), .second, .val (.ref b11), .val (.int got), .unset] []) _
        refine XS.lload X19.here hx rfl (hb hby at_92) rfl ?_
        show own_S p e below T19 (mkF m 94 #[.val (.long q0), .second, .val (.long q1), .second, .val (.long q2), .second, .val (.long q3), .second, .val (.long cp), .second, .val (.long t'), .second, .val (.long g'), .second, .val (.long byt), .second, .val (.long tk), .second, .val (.ref b11), .val (.int got), .unset] [(.long tk)]) _
        refine XS.lload X19.here hx rfl (hb hby at_94) rfl ?_
        show own_S p e below T19 (mkF m 96 #[.val (.long q0), .second, .val (.long q1), .second, .val (.long q2), .second, .val (.long q3), .second, .val (.long cp), .second, .val (.long t'), .second, .val (.long g'), .second, .val (.long byt), .second, .val (.long tk), .second, .val (.ref b11), .val (.int got), .unset] [(.long cp), (.long tk)]) _
        refine XS.lload X19.here hx rfl (hb hby at_96) rfl ?_
        show own_S p e below T19 (mkF m 98 #[.val (.long q0), .second, .val (.long q1), .second, .val (.long q2), .second, .val (.long q3), .second, .val (.long cp), .second, .val (.long t'), .second, .val (.long g'), .second, .val (.long byt), .second, .val (.long tk), .second, .val (.ref b11), .val (.int got), .unset] [(.long byt), (.long cp), (.long tk)]) _
        refine XS.lsub X19.here hx rfl (hb hby at_98) rfl ?_
        show own_S p e below T19 (mkF m 99 #[.val (.long q0), .second, .val (.long q1), .second, .val (.long q2), .second, .val (.long q3), .second, .val (.long cp), .second, .val (.long t'), .second, .val (.long g'), .second, .val (.long byt), .second, .val (.long tk), .second, .val (.ref b11), .val (.int got), .unset] [(.long (cp - byt)), (.long tk)]) _
        refine XT.lcmp X19.here hx rfl (hb hby at_99) rfl ?_
        exact k
      by_cases c100_26 : (cp - byt) < tk
      · skip
        have K28 : ∀ t, own_S p e below T19 (mkF m 108 #[.val (.long q0), .second, .val (.long q1), .second, .val (.long q2), .second, .val (.long q3), .second, .val (.long cp), .second, .val (.long t'), .second, .val (.long g'), .second, .val (.long byt), .second, .val (.long tk), .second, .val (.ref b11), .val (.int got), .unset] [(.int (0 : Int32))]) t → Steps p.tables e below SE t := by
          intro t k
          refine K27 _ ?_
          refine XS.ifYes X19.here hx rfl (pc0 := 100) (pc' := 107) rfl (hb hby at_100) rfl (XT.ll_gt_t c100_26) (by decide) (by decide) ?_
          show own_S p e below T19 (mkF m 107 #[.val (.long q0), .second, .val (.long q1), .second, .val (.long q2), .second, .val (.long q3), .second, .val (.long cp), .second, .val (.long t'), .second, .val (.long g'), .second, .val (.long byt), .second, .val (.long tk), .second, .val (.ref b11), .val (.int got), .unset] []) _
          refine XS.iconst X19.here hx rfl (hb hby at_107) ?_
          exact k
        exact ⟨(0 : Int32), (by simp only [if_neg c89_23, if_pos c100_26]), K28⟩
      · skip
        have K29 : ∀ t, own_S p e below T19 (mkF m 108 #[.val (.long q0), .second, .val (.long q1), .second, .val (.long q2), .second, .val (.long q3), .second, .val (.long cp), .second, .val (.long t'), .second, .val (.long g'), .second, .val (.long byt), .second, .val (.long tk), .second, .val (.ref b11), .val (.int got), .unset] [(.int (1 : Int32))]) t → Steps p.tables e below SE t := by
          intro t k
          refine K27 _ ?_
          refine XS.ifNo X19.here hx rfl (hb hby at_100) rfl (XT.ll_gt_f c100_26) ?_
          show own_S p e below T19 (mkF m 103 #[.val (.long q0), .second, .val (.long q1), .second, .val (.long q2), .second, .val (.long q3), .second, .val (.long cp), .second, .val (.long t'), .second, .val (.long g'), .second, .val (.long byt), .second, .val (.long tk), .second, .val (.ref b11), .val (.int got), .unset] []) _
          refine XS.iconst X19.here hx rfl (hb hby at_103) ?_
          show own_S p e below T19 (mkF m 104 #[.val (.long q0), .second, .val (.long q1), .second, .val (.long q2), .second, .val (.long q3), .second, .val (.long cp), .second, .val (.long t'), .second, .val (.long g'), .second, .val (.long byt), .second, .val (.long tk), .second, .val (.ref b11), .val (.int got), .unset] [(.int (1 : Int32))]) _
          refine XS.goto X19.here hx rfl (pc0 := 104) (pc' := 108) rfl (hb hby at_104) (by decide) (by decide) ?_
          exact k
        exact ⟨(1 : Int32), (by simp only [if_neg c89_23, if_neg c100_26]), K29⟩
  have hfin : got = ex := hgot.trans ((own_law cp t' g' byt tk hcp' ht'' hg'' hbyt2 htk).trans hex.symm)
  have K30 : ∀ t, own_S p e below T19 (mkF m 122 #[.val (.long q0), .second, .val (.long q1), .second, .val (.long q2), .second, .val (.long q3), .second, .val (.long cp), .second, .val (.long t'), .second, .val (.long g'), .second, .val (.long byt), .second, .val (.long tk), .second, .val (.ref b11), .val (.int got), .val (.int ex)] [(.int (1 : Int32))]) t → Steps p.tables e below SE t := by
    intro t k
    refine K22 _ ?_
    refine XS.istore X19.here hx rfl (hb hby at_108) rfl (l' := #[.val (.long q0), .second, .val (.long q1), .second, .val (.long q2), .second, .val (.long q3), .second, .val (.long cp), .second, .val (.long t'), .second, .val (.long g'), .second, .val (.long byt), .second, .val (.long tk), .second, .val (.ref b11), .val (.int got), .val (.int ex)]) rfl ?_
    show own_S p e below T19 (mkF m 110 #[.val (.long q0), .second, .val (.long q1), .second, .val (.long q2), .second, .val (.long q3), .second, .val (.long cp), .second, .val (.long t'), .second, .val (.long g'), .second, .val (.long byt), .second, .val (.long tk), .second, .val (.ref b11), .val (.int got), .val (.int ex)] []) _
    refine XS.iload X19.here hx rfl (hb hby at_110) rfl ?_
    show own_S p e below T19 (mkF m 112 #[.val (.long q0), .second, .val (.long q1), .second, .val (.long q2), .second, .val (.long q3), .second, .val (.long cp), .second, .val (.long t'), .second, .val (.long g'), .second, .val (.long byt), .second, .val (.long tk), .second, .val (.ref b11), .val (.int got), .val (.int ex)] [(.int got)]) _
    refine XS.iload X19.here hx rfl (hb hby at_112) rfl ?_
    show own_S p e below T19 (mkF m 114 #[.val (.long q0), .second, .val (.long q1), .second, .val (.long q2), .second, .val (.long q3), .second, .val (.long cp), .second, .val (.long t'), .second, .val (.long g'), .second, .val (.long byt), .second, .val (.long tk), .second, .val (.ref b11), .val (.int got), .val (.int ex)] [(.int ex), (.int got)]) _
    refine XS.icmpNo X19.here hx rfl (hb hby at_114) rfl (XT.ii_ne_f hfin) ?_
    show own_S p e below T19 (mkF m 117 #[.val (.long q0), .second, .val (.long q1), .second, .val (.long q2), .second, .val (.long q3), .second, .val (.long cp), .second, .val (.long t'), .second, .val (.long g'), .second, .val (.long byt), .second, .val (.long tk), .second, .val (.ref b11), .val (.int got), .val (.int ex)] []) _
    refine XS.iconst X19.here hx rfl (hb hby at_117) ?_
    show own_S p e below T19 (mkF m 118 #[.val (.long q0), .second, .val (.long q1), .second, .val (.long q2), .second, .val (.long q3), .second, .val (.long cp), .second, .val (.long t'), .second, .val (.long g'), .second, .val (.long byt), .second, .val (.long tk), .second, .val (.ref b11), .val (.int got), .val (.int ex)] [(.int (1 : Int32))]) _
    refine XS.goto X19.here hx rfl (pc0 := 118) (pc' := 122) rfl (hb hby at_118) (by decide) (by decide) ?_
    exact k
  obtain ⟨fs, hr, hrun, hended, hW, hsame⟩ := X19.leave (v := some (.int (1 : Int32))) (fun h => by rw [Bd.returns] at h; cases h)
  refine ⟨_, _, K30 _ ?_, hrun, hended, _, _, rfl, ?_, ⟨_, rfl⟩, hW, hsame.mono (by decide) (by decide)⟩
  · exact retN X19 hx (t := .boolean) Bd.returns (by simp) (hb hby at_122) hr
  · show Q0 Z q0 q1 q2 q3 h0 n0 _ T19.heap _
    rw [e19]
    exact ⟨rfl, N19⟩
set_option maxRecDepth 65536 in
set_option maxHeartbeats 40000000 in
theorem comes_1 {Post : Tables → Env → Array Value → State → Outcome → State → Prop} (hpost : ∀ tb e args s v u, (limb_1_1.after args s (.returned v) u = true ∧ limb_1_2.after args s (.returned v) u = true ∧ True) → FrameEnd s (.returned v) u (Jvm.fieldLocs frame_1_writes args s ++ Jvm.arrayLocs frame_1_arrays args s ++ Jvm.staticLocs frame_1_statics s) 16 128 → Post tb e args s (.returned v) u) :
    ArmFor flags0 classFile x code maxLocals ret World_1 tables_1 room_1 Calls_1 rest_1 Pre_1 Post := by
  intro l hfl _ _ p e ha hc hk s m args below hf hA hF happ hP
  obtain ⟨hcalls, hrest, hpre⟩ := hP
  obtain ⟨-, -, -, hnamed, -, -, -, hat⟩ := (Spec.applies_iff hf).mp happ
  obtain ⟨hg, hn⟩ := and_e (Cond.before_iff.mp (show (Jvm.Cond.and given_1 narrow_1).before args s = true from hpre))
  obtain ⟨hcount, hg0⟩ := and_e hg
  obtain ⟨ha0, hg1⟩ := and_e hg0
  obtain ⟨ha1, hg2⟩ := and_e hg1
  obtain ⟨ha2, hg3⟩ := and_e hg2
  obtain ⟨w0, w1, w2, w3, rfl⟩ : ∃ w0 w1 w2 w3 : Value, args = #[w0, w1, w2, w3] := by
    have hs : args.size = 4 := by simpa [Cond.value, given_1] using hcount
    obtain ⟨L⟩ := args
    match L, hs with
    | [w0, w1, w2, w3], _ => exact ⟨w0, w1, w2, w3, rfl⟩
  have hw := fun d (hd : d ∈ tables_1) => atoms_spec (ws := Jvm.Cond.code x code maxLocals ret :: tables_1) hat d (List.mem_cons_of_mem _ hd)
  have hfit : Fit s := fun {y c} hc i hi => by
    obtain ⟨ha, rfl⟩ := Array.getElem?_eq_some_iff.mp hc
    have q := List.all_eq_true.mp ((Array.all_eq_true_iff_forall_mem.mp hF) _ (Array.getElem_mem ha)) i (List.mem_range.mpr hi)
    simpa [Array.getElem?_eq_getElem hi] using q
  obtain ⟨i0, ei0⟩ := isL_v ha0
  obtain rfl : w0 = (.long i0) := Option.some.inj ei0
  obtain ⟨i1, ei1⟩ := isL_v ha1
  obtain rfl : w1 = (.long i1) := Option.some.inj ei1
  obtain ⟨i2, ei2⟩ := isL_v ha2
  obtain rfl : w2 = (.long i2) := Option.some.inj ei2
  obtain ⟨i3, ei3⟩ := isL_v hg3
  obtain rfl : w3 = (.long i3) := Option.some.inj ei3
  obtain ⟨n, o, h1, h2, h3, _, L, rfl, ⟨rfl, N⟩, hq⟩ := rm0 l s _ hw tables_1 i0 i1 i2 i3  s.heap s.heap.size (Nat.le_refl _)  p e ha hc hk s m _ below hf ((Spec.applies_iff_loose hf).mp happ).1 ⟨rfl, State.Warmed39.refl s, rfl⟩ trivial
  refine ⟨n, _, h1, h2, h3, hpost _ _ _ _ _ _ ⟨Cond.after_iff.mpr rfl, Cond.after_iff.mpr (eq_i res_at (Term.int_eval (1)) rfl), trivial⟩ ⟨hq.1, hq.2.1, (hq.2.2.sift fun y hy => Or.inr (N y hy)).mono (by decide) (by decide)⟩⟩
theorem main_1_1 : Claimed_1_1 := comes_1 fun _ _ _ _ _ _ h hF => ⟨h.1, hF⟩
theorem main_1_2 : Claimed_1_2 := comes_1 fun _ _ _ _ _ _ h hF => ⟨h.2.1, hF⟩
end Jvm.Pilot.@@N@@
namespace Jvm.Pilot.@@N@@
open Jvm Jvm.ClassFile Sem Op Lib Jvm.Free Jvm.Stand Jvm.Pilot.@@N@@.Jvm.D
/-! MADE BY PROGRAM (witnessworld.py) out of the Statement's table words and the real class files: 9 classes; the members and pool entries that the words name. The judged class is class 1, her method 1. -/
namespace start1
open Jvm.ClassFile
def u (s : String) : CpInfo := .utf8 (stringToUtf16 s)
/-- a pool by its gaps: so many unusable entries, then the entry; so many at the end -/
def gap : Nat → List CpInfo → List CpInfo
  | 0, r => r
  | n + 1, r => .unusable :: gap n r
def poolList (es : List (Nat × CpInfo)) (last : Nat) : List CpInfo := es.foldr (fun e r => gap e.1 (e.2 :: r)) (gap last [])
def pool (es : List (Nat × CpInfo)) (last : Nat) : Array CpInfo := ⟨poolList es last⟩
def fileOf (pool : Array CpInfo) (this : Nat) (attrs : Array Attribute := #[]) (ms : Array MethodInfo := #[]) (fl : Nat := 33) (sup : Nat := 0) (ifs : Array Nat := #[]) (fds : Array FieldInfo := #[]) : ClassFile where
  minorVersion := 0
  majorVersion := 65
  constantPool := pool
  accessFlags := fl
  thisClass := this
  superClass := sup
  interfaces := ifs
  fields := fds
  methods := ms
  attributes := attrs
def plain (name : String) (sup : Option ClassId) : Class where
  name := name
  kind := .ordinary
  loader := none
  accessFlags := 33
  super := sup
  interfaces := #[]
  cf := none
  fields := #[]
  methods := #[]
  instanceTypes := #[]
  staticTypes := #[]
  resolved := #[]
  callSites := []
  init := .initialized
  statics := none
  mirror := none

def pool0 : Array CpInfo := pool [(5, u "<init>"), (0, u "()V"), (1, .class_ 10), (1, u "java/lang/Object")] 113

def k0c0 : Code := { maxStack := 0, maxLocals := 1, code := object_method_1_code, exceptionTable := #[], attributes := #[] }
def k0m0 : Method := { name := "<init>", desc := "()V", sig := { parameters := [], returnType := none }, accessFlags := 1, code := some k0c0 }
/-- java/lang/Object -/
def k0 : Class := { plain "java/lang/Object" none with
  accessFlags := 33
  interfaces := #[]
  cf := some (fileOf pool0 8 #[] #[{ accessFlags := 1, nameIndex := 5, descriptorIndex := 6, attributes := #[] }] 33 0 #[] #[])
  fields := #[]
  methods := #[k0m0]
  instanceTypes := #[]
  staticTypes := #[]
  resolved := Array.replicate 124 none
  statics := none }

def pool1 : Array CpInfo := pool [(2, .class_ 4), (1, u "java/lang/Object"), (0, u "<init>"), (0, u "()V"), (2, .long 9223372036854775807), (1, .class_ 12), (0, u "com/example/headroom/headroom/model/ByteBudget"), (0, .methodref 11 14), (0, .nameAndType 5 15), (0, u "(J)V"), (0, .methodref 11 17), (0, .nameAndType 18 15), (0, u "takeAnyway"), (0, .methodref 11 20), (0, .nameAndType 21 15), (0, u "giveBack"), (0, .methodref 11 23), (0, .nameAndType 24 25), (0, u "hasLeft"), (0, u "(J)Z"), (0, .class_ 27), (0, u "com/example/headroom/headroom/model/ByteBudgetHasLeftPinLaw"), (2, u "law"), (0, u "(JJJJ)Z")] 3

def k1m0 : Method := { name := "<init>", desc := "()V", sig := { parameters := [], returnType := none }, accessFlags := 1, code := none }
def k1c1 : Code := { maxStack := 6, maxLocals := 21, code := code, exceptionTable := #[], attributes := #[] }
def k1m1 : Method := { name := "law", desc := "(JJJJ)Z", sig := { parameters := [.long, .long, .long, .long], returnType := some .boolean }, accessFlags := 9, code := some k1c1 }
/-- com/example/headroom/headroom/model/ByteBudgetHasLeftPinLaw -/
def k1 : Class := { plain "com/example/headroom/headroom/model/ByteBudgetHasLeftPinLaw" (some 0) with
  accessFlags := 49
  interfaces := #[]
  cf := some (fileOf pool1 26 #[] #[{ accessFlags := 1, nameIndex := 5, descriptorIndex := 6, attributes := #[] }, { accessFlags := 9, nameIndex := 30, descriptorIndex := 31, attributes := #[] }] 49 2 #[] #[])
  fields := #[]
  methods := #[k1m0, k1m1]
  instanceTypes := #[]
  staticTypes := #[]
  resolved := Array.replicate 35 none
  statics := none }

def pool2 : Array CpInfo := pool [(1, .methodref 2 3), (0, .class_ 4), (0, .nameAndType 5 6), (0, u "java/lang/Object"), (0, u "<init>"), (0, u "()V"), (0, .fieldref 8 9), (0, .class_ 10), (0, .nameAndType 11 12), (0, u "com/example/headroom/headroom/model/ByteBudget"), (0, u "capacity"), (0, u "J"), (2, u "hasLeft"), (0, u "(J)Z"), (0, .fieldref 8 18), (0, .nameAndType 19 12), (0, u "taken"), (0, u "(J)V"), (4, u "takeAnyway"), (1, u "giveBack")] 2

def k2c0 : Code := { maxStack := 3, maxLocals := 3, code := prog_38_method_1_code, exceptionTable := #[], attributes := #[] }
def k2m0 : Method := { name := "<init>", desc := "(J)V", sig := { parameters := [.long], returnType := none }, accessFlags := 1, code := some k2c0 }
def k2c1 : Code := { maxStack := 5, maxLocals := 3, code := prog_38_method_3_code, exceptionTable := #[], attributes := #[] }
def k2m1 : Method := { name := "takeAnyway", desc := "(J)V", sig := { parameters := [.long], returnType := none }, accessFlags := 1, code := some k2c1 }
def k2c2 : Code := { maxStack := 6, maxLocals := 3, code := prog_38_method_4_code, exceptionTable := #[], attributes := #[] }
def k2m2 : Method := { name := "hasLeft", desc := "(J)Z", sig := { parameters := [.long], returnType := some .boolean }, accessFlags := 1, code := some k2c2 }
def k2c3 : Code := { maxStack := 5, maxLocals := 3, code := prog_38_method_6_code, exceptionTable := #[], attributes := #[] }
def k2m3 : Method := { name := "giveBack", desc := "(J)V", sig := { parameters := [.long], returnType := none }, accessFlags := 1, code := some k2c3 }
/-- com/example/headroom/headroom/model/ByteBudget -/
def k2 : Class := { plain "com/example/headroom/headroom/model/ByteBudget" (some 0) with
  accessFlags := 33
  interfaces := #[]
  cf := some (fileOf pool2 8 #[] #[{ accessFlags := 1, nameIndex := 5, descriptorIndex := 20, attributes := #[] }, { accessFlags := 1, nameIndex := 25, descriptorIndex := 20, attributes := #[] }, { accessFlags := 1, nameIndex := 15, descriptorIndex := 16, attributes := #[] }, { accessFlags := 1, nameIndex := 27, descriptorIndex := 20, attributes := #[] }] 33 2 #[] #[{ accessFlags := 18, nameIndex := 11, descriptorIndex := 12, attributes := #[] }, { accessFlags := 2, nameIndex := 19, descriptorIndex := 12, attributes := #[] }])
  fields := #[{ name := "capacity", type := .long, accessFlags := 18, slot := 0, constantValue := 0 }, { name := "taken", type := .long, accessFlags := 2, slot := 1, constantValue := 0 }]
  methods := #[k2m0, k2m1, k2m2, k2m3]
  instanceTypes := #[.long, .long]
  staticTypes := #[]
  resolved := Array.replicate 30 none
  statics := none }

def pool3 : Array CpInfo := pool [(1, u "java/lang/Cloneable"), (0, .class_ 1), (0, u "java/lang/Object"), (0, .class_ 3)] 3

/-- java/lang/Cloneable -/
def k3 : Class := { plain "java/lang/Cloneable" (some 0) with
  accessFlags := 1537
  interfaces := #[]
  cf := some (fileOf pool3 2 #[] #[] 1537 4 #[] #[])
  fields := #[]
  methods := #[]
  instanceTypes := #[]
  staticTypes := #[]
  resolved := Array.replicate 8 none
  statics := none }

def pool4 : Array CpInfo := pool [(1, u "java/io/Serializable"), (0, .class_ 1), (0, u "java/lang/Object"), (0, .class_ 3)] 3

/-- java/io/Serializable -/
def k4 : Class := { plain "java/io/Serializable" (some 0) with
  accessFlags := 1537
  interfaces := #[]
  cf := some (fileOf pool4 2 #[] #[] 1537 4 #[] #[])
  fields := #[]
  methods := #[]
  instanceTypes := #[]
  staticTypes := #[]
  resolved := Array.replicate 8 none
  statics := none }

/-- the primitive byte -/
def k5 : Class := { plain "byte" none with kind := .primitive 'B', accessFlags := 0x411 }
/-- [B -/
def k6 : Class := { plain "[B" (some 0) with kind := .array 5 .byte, interfaces := #[3, 4], accessFlags := 1041 }

/-- the primitive int -/
def k7 : Class := { plain "int" none with kind := .primitive 'I', accessFlags := 0x411 }
/-- [I -/
def k8 : Class := { plain "[I" (some 0) with kind := .array 7 .int, interfaces := #[3, 4], accessFlags := 1041 }

def heap : Heap := #[]
def classes : Array Class := #[k0, k1, k2, k3, k4, k5, k6, k7, k8]
def interned : List (Array UInt16 × Addr) := []
def slotsUsed : Nat := 0
def theMethod : MethodId := ⟨1, 1⟩
def args0 : Array Value := #[.long 5, .long 7, .long 9, .long 1]
def aboutOver (below : List Frame) : State where
  vm := { classes := classes, interned := interned.toArray }
  heap := heap
  slotsUsed := slotsUsed
  threads := #[{ frames := .invoking theMethod args0 :: below }]
def below0 : List Frame := [.native { method := ⟨0, 0⟩, args := #[] }]
def about1 : State := aboutOver below0
def p0 : Program := .bare "" "" ""
def e0 : Env := launch0.env 0 0 0
theorem w_frames : about1.frames = Frame.invoking theMethod args0 :: below0 := rfl
set_option maxRecDepth 65536 in
theorem w_args : argsFit about1.vm theMethod args0 = true := by decide +kernel
set_option maxRecDepth 65536 in
theorem w_heap : heapFits about1 = true := by decide +kernel
set_option maxRecDepth 65536 in
theorem w_runnable : about1.curStatus? = some .runnable := by decide +kernel
set_option maxRecDepth 65536 in
theorem w_alone : about1.alone = true := by decide +kernel
set_option maxRecDepth 65536 in
theorem w_named : about1.methodNamed? x = some theMethod := by decide +kernel
set_option maxRecDepth 65536 in
theorem w_hears : about1.hears theMethod below0 = true := by decide +kernel
set_option maxRecDepth 65536 in
theorem w_ripe : about1.ripe theMethod args0 below0 = true := by decide +kernel
theorem w_running : about1.status = .running := rfl
set_option maxRecDepth 65536 in
theorem w_room : about1.hasRoom e0.platform room_1 = true :=
  launch0.hasRoom_least _ room_1 (by decide +kernel) (by decide +kernel) (by decide +kernel) (by decide +kernel) (by decide +kernel) (by decide +kernel)
theorem allAtoms_all (ts : List Jvm.Cond) (a : Array Jvm.Value) (st : Jvm.State) : (allAtoms ts).before a st = ts.all (fun c => c.before a st) := by
  induction ts with
  | nil => rfl
  | cons c t ih =>
    show (Jvm.Cond.and c (allAtoms t)).before a st = _
    rw [Jvm.Cond.before_and, ih, List.all_cons]
def words1 : List Jvm.Cond := Jvm.Cond.code x code maxLocals ret :: tables_1
/-- a 'code' word, met by the world's own term for the bytes: nothing is compared byte by byte -/
theorem code_word {y : MethodName} {bytes : ByteArray} {mx : Nat} {rt : Option FieldType} {a : Array Value} {s : State} {m : MethodId} {meth : Method} {c : Code} (h1 : s.methodNamed? y = some m) (h2 : s.vm.method? m = some meth) (h3 : meth.code = some c) (h4 : c.code = bytes)
    (h5 : (c.maxLocals == mx && c.exceptionTable.isEmpty && decide (c.maxStack ≤ mostOperands) && decide (meth.sig.returnType = rt) && !meth.locks && decide (parseMethodDescriptor y.desc = some meth.sig)) = true) : (Jvm.Cond.code y bytes mx rt).before a s = true := by
  simp only [Bool.and_eq_true, beq_iff_eq, Bool.not_eq_true', decide_eq_true_eq] at h5
  obtain ⟨⟨⟨⟨⟨g1, g2⟩, g3⟩, g4⟩, g5⟩, g6⟩ := h5
  simp [Cond.before, Cond.holds, Cond.value, h1, h2, h3, h4, g1, g2, g3, g4, g5, g6]
def isCode : Jvm.Cond → Bool
  | .code _ _ _ _ => true
  | _ => false
theorem all_split {L : List Jvm.Cond} {P : Jvm.Cond → Bool} (h1 : L.all (fun c => isCode c || P c) = true) (h2 : ∀ c ∈ L.filter isCode, P c = true) : L.all P = true := by
  refine List.all_eq_true.mpr fun c hc => ?_
  have h := List.all_eq_true.mp h1 c hc
  rcases Bool.eq_false_or_eq_true (isCode c) with hi | hi
  · exact h2 c (List.mem_filter.mpr ⟨hc, hi⟩)
  · simpa [hi] using h
set_option maxRecDepth 65536 in
theorem w_c0 : (Jvm.Cond.code x code maxLocals ret).before args0 about1 = true := code_word (m := ⟨1, 1⟩) (meth := k1m1) (c := k1c1) (by decide +kernel) rfl rfl rfl (by decide +kernel)
set_option maxRecDepth 65536 in
theorem w_c1 : (Jvm.Cond.code ({ cls := "com/example/headroom/headroom/model/ByteBudget", name := "<init>", desc := "(J)V" } : Jvm.MethodName) prog_38_method_1_code (3 : Nat) (Option.none : Option Jvm.ClassFile.FieldType)).before args0 about1 = true := code_word (m := ⟨2, 0⟩) (meth := k2m0) (c := k2c0) (by decide +kernel) rfl rfl rfl (by decide +kernel)
set_option maxRecDepth 65536 in
theorem w_c2 : (Jvm.Cond.code ({ cls := "java/lang/Object", name := "<init>", desc := "()V" } : Jvm.MethodName) object_method_1_code (1 : Nat) (Option.none : Option Jvm.ClassFile.FieldType)).before args0 about1 = true := code_word (m := ⟨0, 0⟩) (meth := k0m0) (c := k0c0) (by decide +kernel) rfl rfl rfl (by decide +kernel)
set_option maxRecDepth 65536 in
theorem w_c3 : (Jvm.Cond.code ({ cls := "com/example/headroom/headroom/model/ByteBudget", name := "takeAnyway", desc := "(J)V" } : Jvm.MethodName) prog_38_method_3_code (3 : Nat) (Option.none : Option Jvm.ClassFile.FieldType)).before args0 about1 = true := code_word (m := ⟨2, 1⟩) (meth := k2m1) (c := k2c1) (by decide +kernel) rfl rfl rfl (by decide +kernel)
set_option maxRecDepth 65536 in
theorem w_c4 : (Jvm.Cond.code ({ cls := "com/example/headroom/headroom/model/ByteBudget", name := "giveBack", desc := "(J)V" } : Jvm.MethodName) prog_38_method_6_code (3 : Nat) (Option.none : Option Jvm.ClassFile.FieldType)).before args0 about1 = true := code_word (m := ⟨2, 3⟩) (meth := k2m3) (c := k2c3) (by decide +kernel) rfl rfl rfl (by decide +kernel)
set_option maxRecDepth 65536 in
theorem w_c5 : (Jvm.Cond.code ({ cls := "com/example/headroom/headroom/model/ByteBudget", name := "hasLeft", desc := "(J)Z" } : Jvm.MethodName) prog_38_method_4_code (3 : Nat) (Option.some Jvm.ClassFile.FieldType.boolean)).before args0 about1 = true := code_word (m := ⟨2, 2⟩) (meth := k2m2) (c := k2c2) (by decide +kernel) rfl rfl rfl (by decide +kernel)
def codes1 : List Jvm.Cond := [Jvm.Cond.code x code maxLocals ret, Jvm.Cond.code ({ cls := "com/example/headroom/headroom/model/ByteBudget", name := "<init>", desc := "(J)V" } : Jvm.MethodName) prog_38_method_1_code (3 : Nat) (Option.none : Option Jvm.ClassFile.FieldType), Jvm.Cond.code ({ cls := "java/lang/Object", name := "<init>", desc := "()V" } : Jvm.MethodName) object_method_1_code (1 : Nat) (Option.none : Option Jvm.ClassFile.FieldType), Jvm.Cond.code ({ cls := "com/example/headroom/headroom/model/ByteBudget", name := "takeAnyway", desc := "(J)V" } : Jvm.MethodName) prog_38_method_3_code (3 : Nat) (Option.none : Option Jvm.ClassFile.FieldType), Jvm.Cond.code ({ cls := "com/example/headroom/headroom/model/ByteBudget", name := "giveBack", desc := "(J)V" } : Jvm.MethodName) prog_38_method_6_code (3 : Nat) (Option.none : Option Jvm.ClassFile.FieldType), Jvm.Cond.code ({ cls := "com/example/headroom/headroom/model/ByteBudget", name := "hasLeft", desc := "(J)Z" } : Jvm.MethodName) prog_38_method_4_code (3 : Nat) (Option.some Jvm.ClassFile.FieldType.boolean)]
set_option maxRecDepth 65536 in
theorem codes_eq : words1.filter isCode = codes1 := rfl
theorem w_codes : ∀ c ∈ words1.filter isCode, c.before args0 about1 = true := by
  rw [codes_eq]
  intro c hc
  simp only [codes1, List.mem_cons, List.not_mem_nil, or_false] at hc
  rcases hc with rfl | rfl | rfl | rfl | rfl | rfl
  · exact w_c0
  · exact w_c1
  · exact w_c2
  · exact w_c3
  · exact w_c4
  · exact w_c5
set_option maxRecDepth 65536 in
theorem w_t1 : (words1.take 24).all (fun c => isCode c || c.before args0 about1) = true := by decide +kernel
set_option maxRecDepth 65536 in
theorem w_t2 : (words1.drop 24).all (fun c => isCode c || c.before args0 about1) = true := by decide +kernel
theorem w_tables : (allAtoms (Jvm.Cond.code x code maxLocals ret :: tables_1)).before args0 about1 = true := by
  rw [allAtoms_all]
  show words1.all (fun c => c.before args0 about1) = true
  refine all_split ?_ w_codes
  rw [← List.take_append_drop 24 words1, List.all_append, w_t1, w_t2]
  rfl
set_option maxRecDepth 65536 in
theorem w_case : (Jvm.Cond.and given_1 narrow_1).before args0 about1 = true := by decide +kernel
theorem w_applies : (headSpec (Jvm.Cond.code x code maxLocals ret :: tables_1) room_1).applies x e0.platform about1 = true :=
  (Spec.applies_iff w_frames).mpr ⟨w_running, w_runnable, w_alone, w_named, w_hears, w_ripe, w_room, w_tables⟩
theorem atStart : AtStart classFile x code maxLocals ret World_1 tables_1 room_1 Calls_1 rest_1 Pre_1 launch0 p0 e0 about1 theMethod args0 below0 :=
  ⟨lists_1, trivial, launch0.admits_env _ _ _, launch0.least_env, fairChoices_fair.cas, fairChoices_fair.clock, w_frames, w_args, w_heap, w_applies, trivial, trivial, w_case⟩
end start1
theorem witness_1 : WitnessClaimed_1 := ⟨start1.p0, start1.e0, start1.about1, start1.theMethod, start1.args0, start1.below0, start1.atStart⟩
end Jvm.Pilot.@@N@@
