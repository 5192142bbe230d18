import JvmDerived
import JvmDerived.Pilot.@@N@@Statement
import JvmDerived.Pilot.@@N@@Code
set_option linter.unusedVariables false
set_option linter.unusedSimpArgs false
@@BLOCK:NumsL.lean.txt@@
namespace Jvm.Pilot.@@N@@
open Jvm Jvm.ClassFile Sem Op Lib Jvm.Free Jvm.Stand Jvm.LawKit Jvm.RoadKit Bundle Jvm.Pilot.@@N@@.Jvm.D
abbrev own_S (p : Program) (e : Env) (below : List Frame) (T : State) (g : JFrame) (t : State) : Prop := Steps p.tables e below (T.setTop g) t
theorem own_ext {h h' : Heap} (K : Keep h h' []) : Ext h h' := ⟨K.1, fun a c q => K.2.1 a c q nin0⟩
theorem own_eqI {args : Array Value} {s : State} {t : Term} {n : Int32} (h : (Jvm.Cond.eq t (.int n)).value args s none s [] = some true) : t.eval args s none [] s = some (.int n) := by
  obtain ⟨x, y, h1, h2, h3, h4⟩ := cmp_v (Or.inl h)
  cases (Term.int_eval n (args := args) (s := s) (first := s) (o := none) (idx := [])).symm.trans h2
  obtain ⟨z, rfl⟩ : ∃ z, x = .int z := h4
  rw [h1]
  simp [Cond.value, h1, Term.eval] at h
  rw [h]
theorem own_eqJ {args : Array Value} {s : State} {t : Term} {n : Int64} (h : (Jvm.Cond.eq t (.long n)).value args s none s [] = some true) : t.eval args s none [] s = some (.long n) := by
  obtain ⟨x, y, h1, h2, h3, h4⟩ := cmp_v (Or.inl h)
  cases (long_at n (args := args) (s := s) (first := s) (o := none) (idx := [])).symm.trans h2
  obtain ⟨z, rfl⟩ : ∃ z, x = .long z := h4
  rw [h1]
  simp [Cond.value, h1, Term.eval] at h
  rw [h]
theorem own_eqR {args : Array Value} {s : State} {t u : Term} {x : Addr} (hu : u.eval args s none [] s = some (.ref x)) (h : (Jvm.Cond.eq t u).value args s none s [] = some true) : t.eval args s none [] s = some (.ref x) := by
  obtain ⟨z, y, h1, h2, h3, h4⟩ := cmp_v (Or.inl h)
  cases hu.symm.trans h2
  have hz : z.isRef = true := h4.2
  have e := gotT (eq_R h1 hu hz rfl) h
  rw [h1, e]

theorem d2_0 : decode jdk_30_method_1_code 0 = .ok (.aload_n 0, 1) := by decide +kernel
theorem d2_1 : decode jdk_30_method_1_code 1 = .ok (.invokespecial 1, 3) := by decide +kernel
theorem d2_4 : decode jdk_30_method_1_code 4 = .ok (.return_, 1) := by decide +kernel
theorem pn_2 : plainName "java/lang/Record" = true := by first | (simp [plainName, overriddenIn]; done) | decide +kernel
theorem ef_2 (m : MethodId) (r0 : Addr) : entryFrame m #[(.ref r0)] 1 = mkF m 0 #[.val (.ref r0)] [] := by first | (simp [entryFrame, mkF, argsToLocals, Value.category]; done) | rfl
def Q2 (Z : State) (r0 : Addr) (h0 : Heap) (n0 : Nat) (v : Option Value) (h : Heap) (L : List Loc) : Prop := v = none ∧ Fr n0 L ∧ h = h0
set_option maxRecDepth 65536 in
set_option maxHeartbeats 40000000 in
theorem rm2 (l : Launch) (Z : State) (a0 : Array Value) (hw : ∀ d ∈ tables_1, d.before a0 Z = true) (ws : List Jvm.Cond) (r0 : Addr) (h0 : Heap) (n0 : Nat) (Z0 : n0 ≤ h0.size) :
    MetFree l (⟨"java/lang/Record", "<init>", "()V"⟩ : MethodName) (head1 (Jvm.Cond.code (⟨"java/lang/Record", "<init>", "()V"⟩ : MethodName) jdk_30_method_1_code 1 none :: ws) ({ frames := 1, cells := 0, slots := 0, locals := 12 } : Room)) (fun a U => a = #[(.ref r0)] ∧ Z.Warmed39 U.vm ∧ U.heap = h0) (fun _ _ _ _ _ => True) (fun _ U o U' => ∃ v L, o = .returned v ∧ Q2 Z r0 h0 n0 v U'.heap L ∧ FrameEnd U o U' L ({ frames := 1, cells := 0, slots := 0, locals := 12 } : Room).cells ({ frames := 1, cells := 0, slots := 0, locals := 12 } : Room).slots) := by
  refine MetFree.of_bodySF (plainFor_of_name pn_2) hisR ?_
  intro p e s m args below meth c s₁ Bd hml0 hP hK
  obtain ⟨rfl, hZ, hh⟩ := hP
  have hx := Bd.exec
  have hby := Bd.bytes
  have hml : c.maxLocals = 1 := hml0
  have hown : s.vm.findClass "java/lang/Record" = some m.cls := findClass_of_methodNamed Bd.named
  have hnm := (name_of_methodNamed Bd.named Bd.method).1
  have X0 : Stand p l e ({ frames := 1, cells := 0, slots := 0, locals := 12 } : Room) s m #[(.ref r0)] below meth c s₁ [] 0 0 := Stand.of_body Bd
  have e0 : s₁.heap = h0 := by rw [← hh, Bd.state]; rfl
  have N0 := Fr.nil n0
  have K0 : ∀ t, Steps p.tables e below (s₁.setTop (mkF m 0 #[.val (.ref r0)] [])) t → Steps p.tables e below (s₁.setTop (entryFrame m #[(.ref r0)] 1)) t := fun t k => castTop (ef_2 m r0) k
  generalize s₁.setTop (entryFrame m #[(.ref r0)] 1) = SE at K0 ⊢
  have K1 : ∀ t, own_S p e below s₁ (mkF m 1 #[.val (.ref r0)] [(.ref r0)]) t → Steps p.tables e below SE t := by
    intro t k
    refine K0 _ ?_
    refine XS.aloadN X0.here hx rfl (hb hby d2_0) rfl rfl ?_
    exact k
  obtain ⟨T2, X2, e2, st2⟩ := initO X0 hx hZ hown (hw _ (List.mem_of_getElem? (i := 11) rfl)) (hw _ (List.mem_of_getElem? (i := 12) rfl)) (hw _ (List.mem_of_getElem? (i := 13) rfl)) e0 (g := (mkF m 1 #[.val (.ref r0)] [(.ref r0)])) rfl (by rw [hml]; rfl) rfl (hb hby d2_1) (by decide) (W := 0) (by show 2 * 0 + _ ≤ _; exact Nat.le_of_eq rfl) (by decide)
  have K2 : ∀ t, own_S p e below T2 (mkF m 4 #[.val (.ref r0)] []) t → Steps p.tables e below SE t := fun t k => K1 _ (st2 _ k)
  obtain ⟨fs, hr, hrun, hended, hW, hsame⟩ := X2.leave (v := none) (fun _ => rfl)
  refine ⟨_, _, K2 _ ?_, hrun, hended, _, _, rfl, ?_, ⟨_, rfl⟩, hW, hsame.mono (by decide) (by decide)⟩
  · exact X2.returnOut hx Bd.returns (hb hby d2_4) hr
  · show Q2 Z r0 h0 n0 _ T2.heap _
    rw [e2]
    exact ⟨rfl, N0, rfl⟩
theorem d1_0 : decode prog_62_method_1_code 0 = .ok (.aload_n 0, 1) := by decide +kernel
theorem d1_1 : decode prog_62_method_1_code 1 = .ok (.invokespecial 1, 3) := by decide +kernel
theorem d1_4 : decode prog_62_method_1_code 4 = .ok (.aload_n 0, 1) := by decide +kernel
theorem d1_5 : decode prog_62_method_1_code 5 = .ok (.lload_n 1, 1) := by decide +kernel
theorem d1_6 : decode prog_62_method_1_code 6 = .ok (.putfield 7, 3) := by decide +kernel
theorem d1_9 : decode prog_62_method_1_code 9 = .ok (.aload_n 0, 1) := by decide +kernel
theorem d1_10 : decode prog_62_method_1_code 10 = .ok (.lload_n 3, 1) := by decide +kernel
theorem d1_11 : decode prog_62_method_1_code 11 = .ok (.putfield 13, 3) := by decide +kernel
theorem d1_14 : decode prog_62_method_1_code 14 = .ok (.aload_n 0, 1) := by decide +kernel
theorem d1_15 : decode prog_62_method_1_code 15 = .ok (.lload 5, 2) := by decide +kernel
theorem d1_17 : decode prog_62_method_1_code 17 = .ok (.putfield 16, 3) := by decide +kernel
theorem d1_20 : decode prog_62_method_1_code 20 = .ok (.return_, 1) := by decide +kernel
theorem pn_1 : plainName "com/example/convene/convene/server/ReplyBytes" = true := by first | (simp [plainName, overriddenIn]; done) | decide +kernel
theorem pd_1_0 : parseMethodDescriptor "()V" = some ⟨[], none⟩ := by decide +kernel
theorem ef_1 (m : MethodId) (r0 : Addr) (q1 : Int64) (q2 : Int64) (q3 : Int64) : entryFrame m #[(.ref r0), (.long q1), (.long q2), (.long q3)] 7 = mkF m 0 #[.val (.ref r0), .val (.long q1), .second, .val (.long q2), .second, .val (.long q3), .second] [] := by first | (simp [entryFrame, mkF, argsToLocals, Value.category]; done) | rfl
def Q1 (Z : State) (r0 : Addr) (q1 : Int64) (q2 : Int64) (q3 : Int64) (h0 : Heap) (n0 : Nat) (v : Option Value) (h : Heap) (L : List Loc) : Prop := v = none ∧ Fr n0 L ∧ Keep h0 h [r0] ∧ Exa Z h r0 "com/example/convene/convene/server/ReplyBytes" ∧ Fld Z h r0 "com/example/convene/convene/server/ReplyBytes" "total" "J" (.long q1) ∧ Fld Z h r0 "com/example/convene/convene/server/ReplyBytes" "copied" "J" (.long q2) ∧ Fld Z h r0 "com/example/convene/convene/server/ReplyBytes" "shared" "J" (.long q3)
set_option maxRecDepth 65536 in
set_option maxHeartbeats 40000000 in
theorem rm1 (l : Launch) (Z : State) (a0 : Array Value) (hw : ∀ d ∈ tables_1, d.before a0 Z = true) (ws : List Jvm.Cond) (r0 : Addr) (q1 : Int64) (q2 : Int64) (q3 : Int64) (h0 : Heap) (n0 : Nat) (Z0 : n0 ≤ h0.size) (E_r0 : Exa Z h0 r0 "com/example/convene/convene/server/ReplyBytes") (F0 : Fld Z h0 r0 "com/example/convene/convene/server/ReplyBytes" "total" "J" (.long (0 : Int64))) (F1 : Fld Z h0 r0 "com/example/convene/convene/server/ReplyBytes" "copied" "J" (.long (0 : Int64))) (F2 : Fld Z h0 r0 "com/example/convene/convene/server/ReplyBytes" "shared" "J" (.long (0 : Int64))) (g_r0 : n0 ≤ r0) :
    MetFree l (⟨"com/example/convene/convene/server/ReplyBytes", "<init>", "(JJJ)V"⟩ : MethodName) (head1 (Jvm.Cond.code (⟨"com/example/convene/convene/server/ReplyBytes", "<init>", "(JJJ)V"⟩ : MethodName) prog_62_method_1_code 7 none :: ws) ({ frames := 2, cells := 0, slots := 0, locals := 24 } : Room)) (fun a U => a = #[(.ref r0), (.long q1), (.long q2), (.long q3)] ∧ Z.Warmed39 U.vm ∧ U.heap = h0) (fun _ _ _ _ _ => True) (fun _ U o U' => ∃ v L, o = .returned v ∧ Q1 Z r0 q1 q2 q3 h0 n0 v U'.heap L ∧ FrameEnd U o U' L ({ frames := 2, cells := 0, slots := 0, locals := 24 } : Room).cells ({ frames := 2, cells := 0, slots := 0, locals := 24 } : Room).slots) := by
  refine MetFree.of_bodySF (plainFor_of_name pn_1) hisR ?_
  intro p e s m args below meth c s₁ Bd hml0 hP hK
  obtain ⟨rfl, hZ, hh⟩ := hP
  have hx := Bd.exec
  have hby := Bd.bytes
  have hml : c.maxLocals = 7 := hml0
  have hown : s.vm.findClass "com/example/convene/convene/server/ReplyBytes" = some m.cls := findClass_of_methodNamed Bd.named
  have hnm := (name_of_methodNamed Bd.named Bd.method).1
  have X0 : Stand p l e ({ frames := 2, cells := 0, slots := 0, locals := 24 } : Room) s m #[(.ref r0), (.long q1), (.long q2), (.long q3)] below meth c s₁ [] 0 0 := Stand.of_body Bd
  have e0 : s₁.heap = h0 := by rw [← hh, Bd.state]; rfl
  have N0 := Fr.nil n0
  have K0 : ∀ t, Steps p.tables e below (s₁.setTop (mkF m 0 #[.val (.ref r0), .val (.long q1), .second, .val (.long q2), .second, .val (.long q3), .second] [])) t → Steps p.tables e below (s₁.setTop (entryFrame m #[(.ref r0), (.long q1), (.long q2), (.long q3)] 7)) t := fun t k => castTop (ef_1 m r0 q1 q2 q3) k
  generalize s₁.setTop (entryFrame m #[(.ref r0), (.long q1), (.long q2), (.long q3)] 7) = SE at K0 ⊢
  have K1 : ∀ t, own_S p e below s₁ (mkF m 1 #[.val (.ref r0), .val (.long q1), .second, .val (.long q2), .second, .val (.long q3), .second] [(.ref r0)]) t → Steps p.tables e below SE t := by
    intro t k
    refine K0 _ ?_
    refine XS.aloadN X0.here hx rfl (hb hby d1_0) rfl rfl ?_
    exact k
  obtain ⟨_, _, ⟨T2, L2, k2, n2⟩, -, X2, ⟨Lc2, hQ2, l2, y2, z2⟩, st2⟩ := X0.specialBack hx (y := (⟨"java/lang/Record", "<init>", "()V"⟩ : MethodName)) rfl hown (mvT hZ (hw _ (List.mem_of_getElem? (i := 6) rfl))) (mvT hZ (hw _ (List.mem_of_getElem? (i := 7) rfl))) (mvT hZ (hw _ (List.mem_of_getElem? (i := 10) rfl))) (by decide) (backOf (W := 0) (rm2 l Z a0 hw [] r0 h0 n0 Z0) hZ (hw _ (List.mem_of_getElem? (i := 10) rfl)) (hw _ (List.mem_of_getElem? (i := 9) rfl)) (by decide) (by decide)) (g := (mkF m 1 #[.val (.ref r0), .val (.long q1), .second, .val (.long q2), .second, .val (.long q3), .second] [(.ref r0)])) rfl (by rw [hml]; rfl) (Steps.refl _) (a := r0) (argsL := []) (rest := []) (lenOf pd_1_0 rfl) rfl (by show 2 * 0 + _ ≤ _; exact Nat.le_of_eq rfl) (hb hby d1_1) (fun _ _ => ⟨rfl, e0, (by decide : 0 + 0 ≤ _), (by decide : 0 + 0 ≤ _)⟩)
  dsimp only [Pt.U, Pt.locs, Pt.cells, Pt.slots] at X2 l2 y2 z2 st2 hQ2
  subst l2 y2 z2
  obtain ⟨rfl, Nq2, e2⟩ := hQ2
  have N2 := Fr.app N0 Nq2
  have K2 : ∀ t, own_S p e below T2 (mkF m 4 #[.val (.ref r0), .val (.long q1), .second, .val (.long q2), .second, .val (.long q3), .second] []) t → Steps p.tables e below SE t := fun t k => K1 _ (st2.trans k)
  have K3 : ∀ t, own_S p e below T2 (mkF m 6 #[.val (.ref r0), .val (.long q1), .second, .val (.long q2), .second, .val (.long q3), .second] [(.long q1), (.ref r0)]) t → Steps p.tables e below SE t := by
    intro t k
    refine K2 _ ?_
    refine XS.aloadN X2.here hx rfl (hb hby d1_4) rfl rfl ?_
    show own_S p e below T2 (mkF m 5 #[.val (.ref r0), .val (.long q1), .second, .val (.long q2), .second, .val (.long q3), .second] [(.ref r0)]) _
    refine XS.lloadN X2.here hx rfl (hb hby d1_5) rfl ?_
    exact k
  obtain ⟨T4, h4, X4, e4, W4, st4⟩ := putF X2 hx hZ hown (host := "") (Or.inl (hw _ (List.mem_of_getElem? (i := 14) rfl))) Via.refl e2 F0 E_r0 (Or.inr ⟨(hw _ (List.mem_of_getElem? (i := 15) rfl)), rfl, hnm⟩) (hw _ (List.mem_of_getElem? (i := 1) rfl)) (ty := .long) (by decide) rfl rfl (g := (mkF m 6 #[.val (.ref r0), .val (.long q1), .second, .val (.long q2), .second, .val (.long q3), .second] [(.long q1), (.ref r0)])) rfl rfl (hb hby d1_6)
  have Fw4 := Fld.same W4 F0
  have N4 := Fr.snoc X4 N2 g_r0
  have Kp4 : Keep h0 h4 [r0] := Keep.wr (Keep.refl h0 [r0]) W4 (Or.inl (List.mem_of_getElem? (i := 0) rfl))
  have K4 : ∀ t, own_S p e below T4 (mkF m 9 #[.val (.ref r0), .val (.long q1), .second, .val (.long q2), .second, .val (.long q3), .second] []) t → Steps p.tables e below SE t := fun t k => K3 _ (st4 _ k)
  have K5 : ∀ t, own_S p e below T4 (mkF m 11 #[.val (.ref r0), .val (.long q1), .second, .val (.long q2), .second, .val (.long q3), .second] [(.long q2), (.ref r0)]) t → Steps p.tables e below SE t := by
    intro t k
    refine K4 _ ?_
    refine XS.aloadN X4.here hx rfl (hb hby d1_9) rfl rfl ?_
    show own_S p e below T4 (mkF m 10 #[.val (.ref r0), .val (.long q1), .second, .val (.long q2), .second, .val (.long q3), .second] [(.ref r0)]) _
    refine XS.lloadN X4.here hx rfl (hb hby d1_10) rfl ?_
    exact k
  obtain ⟨T6, h6, X6, e6, W6, st6⟩ := putF X4 hx hZ hown (host := "") (Or.inl (hw _ (List.mem_of_getElem? (i := 16) rfl))) Via.refl e4 (F1.other W4 (Or.inr (slot_ne (Or.inr (hw _ (List.mem_of_getElem? (i := 17) rfl))) (Or.inr (hw _ (List.mem_of_getElem? (i := 15) rfl))) (by decide) (t := .long) (t' := .long) (by decide) (by decide)))) (E_r0.wr W4) (Or.inr ⟨(hw _ (List.mem_of_getElem? (i := 17) rfl)), rfl, hnm⟩) (hw _ (List.mem_of_getElem? (i := 1) rfl)) (ty := .long) (by decide) rfl rfl (g := (mkF m 11 #[.val (.ref r0), .val (.long q1), .second, .val (.long q2), .second, .val (.long q3), .second] [(.long q2), (.ref r0)])) rfl rfl (hb hby d1_11)
  have Fw6 := Fld.same W6 (F1.other W4 (Or.inr (slot_ne (Or.inr (hw _ (List.mem_of_getElem? (i := 17) rfl))) (Or.inr (hw _ (List.mem_of_getElem? (i := 15) rfl))) (by decide) (t := .long) (t' := .long) (by decide) (by decide))))
  have N6 := Fr.snoc X6 N4 g_r0
  have Kp6 : Keep h0 h6 [r0] := Keep.wr Kp4 W6 (Or.inl (List.mem_of_getElem? (i := 0) rfl))
  have K6 : ∀ t, own_S p e below T6 (mkF m 14 #[.val (.ref r0), .val (.long q1), .second, .val (.long q2), .second, .val (.long q3), .second] []) t → Steps p.tables e below SE t := fun t k => K5 _ (st6 _ k)
  have K7 : ∀ t, own_S p e below T6 (mkF m 17 #[.val (.ref r0), .val (.long q1), .second, .val (.long q2), .second, .val (.long q3), .second] [(.long q3), (.ref r0)]) t → Steps p.tables e below SE t := by
    intro t k
    refine K6 _ ?_
    refine XS.aloadN X6.here hx rfl (hb hby d1_14) rfl rfl ?_
    show own_S p e below T6 (mkF m 15 #[.val (.ref r0), .val (.long q1), .second, .val (.long q2), .second, .val (.long q3), .second] [(.ref r0)]) _
    refine XS.lload X6.here hx rfl (hb hby d1_15) rfl ?_
    exact k
  obtain ⟨T8, h8, X8, e8, W8, st8⟩ := putF X6 hx hZ hown (host := "") (Or.inl (hw _ (List.mem_of_getElem? (i := 18) rfl))) Via.refl e6 ((F2.other W4 (Or.inr (slot_ne (Or.inr (hw _ (List.mem_of_getElem? (i := 19) rfl))) (Or.inr (hw _ (List.mem_of_getElem? (i := 15) rfl))) (by decide) (t := .long) (t' := .long) (by decide) (by decide)))).other W6 (Or.inr (slot_ne (Or.inr (hw _ (List.mem_of_getElem? (i := 19) rfl))) (Or.inr (hw _ (List.mem_of_getElem? (i := 17) rfl))) (by decide) (t := .long) (t' := .long) (by decide) (by decide)))) ((E_r0.wr W4).wr W6) (Or.inr ⟨(hw _ (List.mem_of_getElem? (i := 19) rfl)), rfl, hnm⟩) (hw _ (List.mem_of_getElem? (i := 1) rfl)) (ty := .long) (by decide) rfl rfl (g := (mkF m 17 #[.val (.ref r0), .val (.long q1), .second, .val (.long q2), .second, .val (.long q3), .second] [(.long q3), (.ref r0)])) rfl rfl (hb hby d1_17)
  have Fw8 := Fld.same W8 ((F2.other W4 (Or.inr (slot_ne (Or.inr (hw _ (List.mem_of_getElem? (i := 19) rfl))) (Or.inr (hw _ (List.mem_of_getElem? (i := 15) rfl))) (by decide) (t := .long) (t' := .long) (by decide) (by decide)))).other W6 (Or.inr (slot_ne (Or.inr (hw _ (List.mem_of_getElem? (i := 19) rfl))) (Or.inr (hw _ (List.mem_of_getElem? (i := 17) rfl))) (by decide) (t := .long) (t' := .long) (by decide) (by decide))))
  have N8 := Fr.snoc X8 N6 g_r0
  have Kp8 : Keep h0 h8 [r0] := Keep.wr Kp6 W8 (Or.inl (List.mem_of_getElem? (i := 0) rfl))
  have K8 : ∀ t, own_S p e below T8 (mkF m 20 #[.val (.ref r0), .val (.long q1), .second, .val (.long q2), .second, .val (.long q3), .second] []) t → Steps p.tables e below SE t := fun t k => K7 _ (st8 _ k)
  obtain ⟨fs, hr, hrun, hended, hW, hsame⟩ := X8.leave (v := none) (fun _ => rfl)
  refine ⟨_, _, K8 _ ?_, hrun, hended, _, _, rfl, ?_, ⟨_, rfl⟩, hW, hsame.mono (by decide) (by decide)⟩
  · exact X8.returnOut hx Bd.returns (hb hby d1_20) hr
  · show Q1 Z r0 q1 q2 q3 h0 n0 _ T8.heap _
    rw [e8]
    exact ⟨rfl, N8, Kp8, (((E_r0.wr W4).wr W6).wr W8), ((Fw4.other W6 (Or.inr (slot_ne (Or.inr (hw _ (List.mem_of_getElem? (i := 15) rfl))) (Or.inr (hw _ (List.mem_of_getElem? (i := 17) rfl))) (by decide) (t := .long) (t' := .long) (by decide) (by decide)))).other W8 (Or.inr (slot_ne (Or.inr (hw _ (List.mem_of_getElem? (i := 15) rfl))) (Or.inr (hw _ (List.mem_of_getElem? (i := 19) rfl))) (by decide) (t := .long) (t' := .long) (by decide) (by decide)))), (Fw6.other W8 (Or.inr (slot_ne (Or.inr (hw _ (List.mem_of_getElem? (i := 17) rfl))) (Or.inr (hw _ (List.mem_of_getElem? (i := 19) rfl))) (by decide) (t := .long) (t' := .long) (by decide) (by decide)))), Fw8⟩
theorem d4_0 : decode prog_62_method_2_code 0 = .ok (.aload_n 0, 1) := by decide +kernel
theorem d4_1 : decode prog_62_method_2_code 1 = .ok (.getfield 7, 3) := by decide +kernel
theorem d4_4 : decode prog_62_method_2_code 4 = .ok (.lconst 0, 1) := by decide +kernel
theorem d4_5 : decode prog_62_method_2_code 5 = .ok (.lcmp, 1) := by decide +kernel
theorem d4_6 : decode prog_62_method_2_code 6 = .ok (.ifCond .ne 25, 3) := by decide +kernel
theorem d4_9 : decode prog_62_method_2_code 9 = .ok (.aload_n 0, 1) := by decide +kernel
theorem d4_10 : decode prog_62_method_2_code 10 = .ok (.getfield 13, 3) := by decide +kernel
theorem d4_13 : decode prog_62_method_2_code 13 = .ok (.lconst 0, 1) := by decide +kernel
theorem d4_14 : decode prog_62_method_2_code 14 = .ok (.lcmp, 1) := by decide +kernel
theorem d4_15 : decode prog_62_method_2_code 15 = .ok (.ifCond .ne 16, 3) := by decide +kernel
theorem d4_18 : decode prog_62_method_2_code 18 = .ok (.aload_n 0, 1) := by decide +kernel
theorem d4_19 : decode prog_62_method_2_code 19 = .ok (.getfield 16, 3) := by decide +kernel
theorem d4_22 : decode prog_62_method_2_code 22 = .ok (.lconst 0, 1) := by decide +kernel
theorem d4_23 : decode prog_62_method_2_code 23 = .ok (.lcmp, 1) := by decide +kernel
theorem d4_24 : decode prog_62_method_2_code 24 = .ok (.ifCond .ne 7, 3) := by decide +kernel
theorem d4_27 : decode prog_62_method_2_code 27 = .ok (.iconst 1, 1) := by decide +kernel
theorem d4_28 : decode prog_62_method_2_code 28 = .ok (.goto 4, 3) := by decide +kernel
theorem d4_31 : decode prog_62_method_2_code 31 = .ok (.iconst 0, 1) := by decide +kernel
theorem d4_32 : decode prog_62_method_2_code 32 = .ok (.ireturn, 1) := by decide +kernel
theorem ef_4 (m : MethodId) (r0 : Addr) : entryFrame m #[(.ref r0)] 1 = mkF m 0 #[.val (.ref r0)] [] := by first | (simp [entryFrame, mkF, argsToLocals, Value.category]; done) | rfl
def Q4 (Z : State) (r0 : Addr) (vt : Int64) (vc : Int64) (vs : Int64) (h0 : Heap) (n0 : Nat) (v : Option Value) (h : Heap) (L : List Loc) : Prop := v = some (.int (if vt = (0 : Int64) then (if vc = (0 : Int64) then (if vs = (0 : Int64) then (1 : Int32) else (0 : Int32)) else (0 : Int32)) else (0 : Int32))) ∧ Fr n0 L ∧ h = h0
set_option maxRecDepth 65536 in
set_option maxHeartbeats 40000000 in
theorem rm4 (l : Launch) (Z : State) (a0 : Array Value) (hw : ∀ d ∈ tables_1, d.before a0 Z = true) (ws : List Jvm.Cond) (r0 : Addr) (vt : Int64) (vc : Int64) (vs : Int64) (h0 : Heap) (n0 : Nat) (Z0 : n0 ≤ h0.size) (F0 : Fld Z h0 r0 "com/example/convene/convene/server/ReplyBytes" "total" "J" (.long vt)) (F1 : Fld Z h0 r0 "com/example/convene/convene/server/ReplyBytes" "copied" "J" (.long vc)) (F2 : Fld Z h0 r0 "com/example/convene/convene/server/ReplyBytes" "shared" "J" (.long vs)) :
    MetFree l (⟨"com/example/convene/convene/server/ReplyBytes", "none", "()Z"⟩ : MethodName) (head1 (Jvm.Cond.code (⟨"com/example/convene/convene/server/ReplyBytes", "none", "()Z"⟩ : MethodName) prog_62_method_2_code 1 (some .boolean) :: ws) ({ frames := 0, cells := 0, slots := 0, locals := 0 } : Room)) (fun a U => a = #[(.ref r0)] ∧ Z.Warmed39 U.vm ∧ U.heap = h0) (fun _ _ _ _ _ => True) (fun _ U o U' => ∃ v L, o = .returned v ∧ Q4 Z r0 vt vc vs h0 n0 v U'.heap L ∧ FrameEnd U o U' L ({ frames := 0, cells := 0, slots := 0, locals := 0 } : Room).cells ({ frames := 0, cells := 0, slots := 0, locals := 0 } : Room).slots) := by
  refine MetFree.of_bodySF (plainFor_of_name pn_1) hisR ?_
  intro p e s m args below meth c s₁ Bd hml0 hP hK
  obtain ⟨rfl, hZ, hh⟩ := hP
  have hx := Bd.exec
  have hby := Bd.bytes
  have hml : c.maxLocals = 1 := hml0
  have hown : s.vm.findClass "com/example/convene/convene/server/ReplyBytes" = some m.cls := findClass_of_methodNamed Bd.named
  have hnm := (name_of_methodNamed Bd.named Bd.method).1
  have X0 : Stand p l e ({ frames := 0, cells := 0, slots := 0, locals := 0 } : Room) s m #[(.ref r0)] below meth c s₁ [] 0 0 := Stand.of_body Bd
  have e0 : s₁.heap = h0 := by rw [← hh, Bd.state]; rfl
  have N0 := Fr.nil n0
  have K0 : ∀ t, Steps p.tables e below (s₁.setTop (mkF m 0 #[.val (.ref r0)] [])) t → Steps p.tables e below (s₁.setTop (entryFrame m #[(.ref r0)] 1)) t := fun t k => castTop (ef_4 m r0) k
  generalize s₁.setTop (entryFrame m #[(.ref r0)] 1) = SE at K0 ⊢
  have K1 : ∀ t, own_S p e below s₁ (mkF m 1 #[.val (.ref r0)] [(.ref r0)]) t → Steps p.tables e below SE t := by
    intro t k
    refine K0 _ ?_
    refine XS.aloadN X0.here hx rfl (hb hby d4_0) rfl rfl ?_
    exact k
  obtain ⟨T2, X2, e2, st2⟩ := getF X0 hx hZ hown (host := "") (Or.inl (hw _ (List.mem_of_getElem? (i := 14) rfl))) Via.refl e0 F0 (g := (mkF m 1 #[.val (.ref r0)] [(.ref r0)])) rfl rfl (hb hby d4_1)
  have K2 : ∀ t, own_S p e below T2 (mkF m 4 #[.val (.ref r0)] [(.long vt)]) t → Steps p.tables e below SE t := fun t k => K1 _ (st2 _ k)
  have K4 : ∀ t, own_S p e below T2 (mkF m 6 #[.val (.ref r0)] [(.int (XT.cmpL vt (0 : Int64)))]) t → Steps p.tables e below SE t := by
    intro t k
    refine K2 _ ?_
    refine XS.lconst X2.here hx rfl (hb hby d4_4) ?_
    show own_S p e below T2 (mkF m 5 #[.val (.ref r0)] [(.long (0 : Int64)), (.long vt)]) _
    refine XT.lcmp X2.here hx rfl (hb hby d4_5) rfl ?_
    exact k
  by_cases c6_3 : vt = (0 : Int64)
  · skip
    have K5 : ∀ t, own_S p e below T2 (mkF m 10 #[.val (.ref r0)] [(.ref r0)]) t → Steps p.tables e below SE t := by
      intro t k
      refine K4 _ ?_
      refine XS.ifNo X2.here hx rfl (hb hby d4_6) rfl (XT.ll_ne_f c6_3) ?_
      show own_S p e below T2 (mkF m 9 #[.val (.ref r0)] []) _
      refine XS.aloadN X2.here hx rfl (hb hby d4_9) rfl rfl ?_
      exact k
    obtain ⟨T6, X6, e6, st6⟩ := getF X2 hx hZ hown (host := "") (Or.inl (hw _ (List.mem_of_getElem? (i := 16) rfl))) Via.refl e2 F1 (g := (mkF m 10 #[.val (.ref r0)] [(.ref r0)])) rfl rfl (hb hby d4_10)
    have K6 : ∀ t, own_S p e below T6 (mkF m 13 #[.val (.ref r0)] [(.long vc)]) t → Steps p.tables e below SE t := fun t k => K5 _ (st6 _ k)
    have K8 : ∀ t, own_S p e below T6 (mkF m 15 #[.val (.ref r0)] [(.int (XT.cmpL vc (0 : Int64)))]) t → Steps p.tables e below SE t := by
      intro t k
      refine K6 _ ?_
      refine XS.lconst X6.here hx rfl (hb hby d4_13) ?_
      show own_S p e below T6 (mkF m 14 #[.val (.ref r0)] [(.long (0 : Int64)), (.long vc)]) _
      refine XT.lcmp X6.here hx rfl (hb hby d4_14) rfl ?_
      exact k
    by_cases c15_7 : vc = (0 : Int64)
    · skip
      have K9 : ∀ t, own_S p e below T6 (mkF m 19 #[.val (.ref r0)] [(.ref r0)]) t → Steps p.tables e below SE t := by
        intro t k
        refine K8 _ ?_
        refine XS.ifNo X6.here hx rfl (hb hby d4_15) rfl (XT.ll_ne_f c15_7) ?_
        show own_S p e below T6 (mkF m 18 #[.val (.ref r0)] []) _
        refine XS.aloadN X6.here hx rfl (hb hby d4_18) rfl rfl ?_
        exact k
      obtain ⟨T10, X10, e10, st10⟩ := getF X6 hx hZ hown (host := "") (Or.inl (hw _ (List.mem_of_getElem? (i := 18) rfl))) Via.refl e6 F2 (g := (mkF m 19 #[.val (.ref r0)] [(.ref r0)])) rfl rfl (hb hby d4_19)
      have K10 : ∀ t, own_S p e below T10 (mkF m 22 #[.val (.ref r0)] [(.long vs)]) t → Steps p.tables e below SE t := fun t k => K9 _ (st10 _ k)
      have K12 : ∀ t, own_S p e below T10 (mkF m 24 #[.val (.ref r0)] [(.int (XT.cmpL vs (0 : Int64)))]) t → Steps p.tables e below SE t := by
        intro t k
        refine K10 _ ?_
        refine XS.lconst X10.here hx rfl (hb hby d4_22) ?_
        show own_S p e below T10 (mkF m 23 #[.val (.ref r0)] [(.long (0 : Int64)), (.long vs)]) _
        refine XT.lcmp X10.here hx rfl (hb hby d4_23) rfl ?_
        exact k
      by_cases c24_11 : vs = (0 : Int64)
      · skip
        have K13 : ∀ t, own_S p e below T10 (mkF m 32 #[.val (.ref r0)] [(.int (1 : Int32))]) t → Steps p.tables e below SE t := by
          intro t k
          refine K12 _ ?_
          refine XS.ifNo X10.here hx rfl (hb hby d4_24) rfl (XT.ll_ne_f c24_11) ?_
          show own_S p e below T10 (mkF m 27 #[.val (.ref r0)] []) _
          refine XS.iconst X10.here hx rfl (hb hby d4_27) ?_
          show own_S p e below T10 (mkF m 28 #[.val (.ref r0)] [(.int (1 : Int32))]) _
          refine XS.goto X10.here hx rfl (pc0 := 28) (pc' := 32) rfl (hb hby d4_28) (by decide) (by decide) ?_
          exact k
        obtain ⟨fs, hr, hrun, hended, hW, hsame⟩ := X10.leave (v := some (.int (1 : Int32))) (fun h => by rw [Bd.returns] at h; cases h)
        refine ⟨_, _, K13 _ ?_, hrun, hended, _, _, rfl, ?_, ⟨_, rfl⟩, hW, hsame.mono (by decide) (by decide)⟩
        · exact retN X10 hx (t := .boolean) Bd.returns (by simp) (hb hby d4_32) hr
        · show Q4 Z r0 vt vc vs h0 n0 _ T10.heap _
          rw [e10]
          exact ⟨(by simp only [if_pos c6_3, if_pos c15_7, if_pos c24_11]), N0, rfl⟩
      · skip
        have K14 : ∀ t, own_S p e below T10 (mkF m 32 #[.val (.ref r0)] [(.int (0 : Int32))]) t → Steps p.tables e below SE t := by
          intro t k
          refine K12 _ ?_
          refine XS.ifYes X10.here hx rfl (pc0 := 24) (pc' := 31) rfl (hb hby d4_24) rfl (XT.ll_ne_t c24_11) (by decide) (by decide) ?_
          show own_S p e below T10 (mkF m 31 #[.val (.ref r0)] []) _
          refine XS.iconst X10.here hx rfl (hb hby d4_31) ?_
          exact k
        obtain ⟨fs, hr, hrun, hended, hW, hsame⟩ := X10.leave (v := some (.int (0 : Int32))) (fun h => by rw [Bd.returns] at h; cases h)
        refine ⟨_, _, K14 _ ?_, hrun, hended, _, _, rfl, ?_, ⟨_, rfl⟩, hW, hsame.mono (by decide) (by decide)⟩
        · exact retN X10 hx (t := .boolean) Bd.returns (by simp) (hb hby d4_32) hr
        · show Q4 Z r0 vt vc vs h0 n0 _ T10.heap _
          rw [e10]
          exact ⟨(by simp only [if_pos c6_3, if_pos c15_7, if_neg c24_11]), N0, rfl⟩
    · skip
      have K15 : ∀ t, own_S p e below T6 (mkF m 32 #[.val (.ref r0)] [(.int (0 : Int32))]) t → Steps p.tables e below SE t := by
        intro t k
        refine K8 _ ?_
        refine XS.ifYes X6.here hx rfl (pc0 := 15) (pc' := 31) rfl (hb hby d4_15) rfl (XT.ll_ne_t c15_7) (by decide) (by decide) ?_
        show own_S p e below T6 (mkF m 31 #[.val (.ref r0)] []) _
        refine XS.iconst X6.here hx rfl (hb hby d4_31) ?_
        exact k
      obtain ⟨fs, hr, hrun, hended, hW, hsame⟩ := X6.leave (v := some (.int (0 : Int32))) (fun h => by rw [Bd.returns] at h; cases h)
      refine ⟨_, _, K15 _ ?_, hrun, hended, _, _, rfl, ?_, ⟨_, rfl⟩, hW, hsame.mono (by decide) (by decide)⟩
      · exact retN X6 hx (t := .boolean) Bd.returns (by simp) (hb hby d4_32) hr
      · show Q4 Z r0 vt vc vs h0 n0 _ T6.heap _
        rw [e6]
        exact ⟨(by simp only [if_pos c6_3, if_neg c15_7]), N0, rfl⟩
  · skip
    have K16 : ∀ t, own_S p e below T2 (mkF m 32 #[.val (.ref r0)] [(.int (0 : Int32))]) t → Steps p.tables e below SE t := by
      intro t k
      refine K4 _ ?_
      refine XS.ifYes X2.here hx rfl (pc0 := 6) (pc' := 31) rfl (hb hby d4_6) rfl (XT.ll_ne_t c6_3) (by decide) (by decide) ?_
      show own_S p e below T2 (mkF m 31 #[.val (.ref r0)] []) _
      refine XS.iconst X2.here hx rfl (hb hby d4_31) ?_
      exact k
    obtain ⟨fs, hr, hrun, hended, hW, hsame⟩ := X2.leave (v := some (.int (0 : Int32))) (fun h => by rw [Bd.returns] at h; cases h)
    refine ⟨_, _, K16 _ ?_, hrun, hended, _, _, rfl, ?_, ⟨_, rfl⟩, hW, hsame.mono (by decide) (by decide)⟩
    · exact retN X2 hx (t := .boolean) Bd.returns (by simp) (hb hby d4_32) hr
    · show Q4 Z r0 vt vc vs h0 n0 _ T2.heap _
      rw [e2]
      exact ⟨(by simp only [if_neg c6_3]), N0, rfl⟩
theorem d5_0 : decode prog_62_method_3_code 0 = .ok (.new 8, 3) := by decide +kernel
theorem d5_3 : decode prog_62_method_3_code 3 = .ok (.dup, 1) := by decide +kernel
theorem d5_4 : decode prog_62_method_3_code 4 = .ok (.lload_n 0, 1) := by decide +kernel
theorem d5_5 : decode prog_62_method_3_code 5 = .ok (.lload_n 0, 1) := by decide +kernel
theorem d5_6 : decode prog_62_method_3_code 6 = .ok (.lconst 0, 1) := by decide +kernel
theorem d5_7 : decode prog_62_method_3_code 7 = .ok (.invokespecial 19, 3) := by decide +kernel
theorem d5_10 : decode prog_62_method_3_code 10 = .ok (.areturn, 1) := by decide +kernel
theorem pd_5_0 : parseMethodDescriptor "(JJJ)V" = some ⟨[.long, .long, .long], none⟩ := by decide +kernel
theorem ef_5 (m : MethodId) (q0 : Int64) : entryFrame m #[(.long q0)] 2 = mkF m 0 #[.val (.long q0), .second] [] := by first | (simp [entryFrame, mkF, argsToLocals, Value.category]; done) | rfl
def Q5 (Z : State) (q0 : Int64) (h0 : Heap) (n0 : Nat) (v : Option Value) (h : Heap) (L : List Loc) : Prop := v = some (.ref h0.size) ∧ Fr n0 L ∧ Keep h0 h [] ∧ Exa Z h h0.size "com/example/convene/convene/server/ReplyBytes" ∧ Fld Z h h0.size "com/example/convene/convene/server/ReplyBytes" "total" "J" (.long q0) ∧ Fld Z h h0.size "com/example/convene/convene/server/ReplyBytes" "copied" "J" (.long q0) ∧ Fld Z h h0.size "com/example/convene/convene/server/ReplyBytes" "shared" "J" (.long (0 : Int64))
set_option maxRecDepth 65536 in
set_option maxHeartbeats 40000000 in
theorem rm5 (l : Launch) (Z : State) (a0 : Array Value) (hw : ∀ d ∈ tables_1, d.before a0 Z = true) (ws : List Jvm.Cond) (q0 : Int64) (h0 : Heap) (n0 : Nat) (Z0 : n0 ≤ h0.size) :
    MetFree l (⟨"com/example/convene/convene/server/ReplyBytes", "copies", "(J)Lcom/example/convene/convene/server/ReplyBytes;"⟩ : MethodName) (head1 (Jvm.Cond.code (⟨"com/example/convene/convene/server/ReplyBytes", "copies", "(J)Lcom/example/convene/convene/server/ReplyBytes;"⟩ : MethodName) prog_62_method_3_code 2 (some (.object "com/example/convene/convene/server/ReplyBytes")) :: ws) ({ frames := 3, cells := 1, slots := 3, locals := 43 } : Room)) (fun a U => a = #[(.long q0)] ∧ Z.Warmed39 U.vm ∧ U.heap = h0) (fun _ _ _ _ _ => True) (fun _ U o U' => ∃ v L, o = .returned v ∧ Q5 Z q0 h0 n0 v U'.heap L ∧ FrameEnd U o U' L ({ frames := 3, cells := 1, slots := 3, locals := 43 } : Room).cells ({ frames := 3, cells := 1, slots := 3, locals := 43 } : Room).slots) := by
  refine MetFree.of_bodySF (plainFor_of_name pn_1) hisR ?_
  intro p e s m args below meth c s₁ Bd hml0 hP hK
  obtain ⟨rfl, hZ, hh⟩ := hP
  have hx := Bd.exec
  have hby := Bd.bytes
  have hml : c.maxLocals = 2 := hml0
  have hown : s.vm.findClass "com/example/convene/convene/server/ReplyBytes" = some m.cls := findClass_of_methodNamed Bd.named
  have hnm := (name_of_methodNamed Bd.named Bd.method).1
  have X0 : Stand p l e ({ frames := 3, cells := 1, slots := 3, locals := 43 } : Room) s m #[(.long q0)] below meth c s₁ [] 0 0 := Stand.of_body Bd
  have e0 : s₁.heap = h0 := by rw [← hh, Bd.state]; rfl
  have N0 := Fr.nil n0
  have K0 : ∀ t, Steps p.tables e below (s₁.setTop (mkF m 0 #[.val (.long q0), .second] [])) t → Steps p.tables e below (s₁.setTop (entryFrame m #[(.long q0)] 2)) t := fun t k => castTop (ef_5 m q0) k
  generalize s₁.setTop (entryFrame m #[(.long q0)] 2) = SE at K0 ⊢
  obtain ⟨T1, h1, X1, e1, E1, A1, D1, -, st1⟩ := newO X0 hx hZ hown (hw _ (List.mem_of_getElem? (i := 28) rfl)) (hw _ (List.mem_of_getElem? (i := 1) rfl)) (hw _ (List.mem_of_getElem? (i := 2) rfl)) e0 (g := (mkF m 0 #[.val (.long q0), .second] [])) rfl (hb hby d5_0) (by decide) (by decide)
  obtain ⟨b1, g1⟩ : ∃ z, z = h0.size := ⟨_, rfl⟩
  rw [← g1] at A1 D1 st1
  have g_b1 : n0 ≤ b1 := Nat.le_trans Z0 (Nat.le_of_eq g1.symm)
  have sz_b1 : h0.size ≤ b1 := Nat.le_trans (Nat.le_refl _) (Nat.le_of_eq g1.symm)
  have Kp1 : Keep h0 h1 [] := Keep.ext (Keep.refl h0 []) E1
  have F_total_b1 : Fld Z h1 b1 "com/example/convene/convene/server/ReplyBytes" "total" "J" (.long (0 : Int64)) := D1 (Or.inr (hw _ (List.mem_of_getElem? (i := 15) rfl))) (ty := .long) (by decide)
  have F_copied_b1 : Fld Z h1 b1 "com/example/convene/convene/server/ReplyBytes" "copied" "J" (.long (0 : Int64)) := D1 (Or.inr (hw _ (List.mem_of_getElem? (i := 17) rfl))) (ty := .long) (by decide)
  have F_shared_b1 : Fld Z h1 b1 "com/example/convene/convene/server/ReplyBytes" "shared" "J" (.long (0 : Int64)) := D1 (Or.inr (hw _ (List.mem_of_getElem? (i := 19) rfl))) (ty := .long) (by decide)
  have K1 : ∀ t, own_S p e below T1 (mkF m 3 #[.val (.long q0), .second] [(.ref b1)]) t → Steps p.tables e below SE t := fun t k => K0 _ (st1 _ k)
  have K2 : ∀ t, own_S p e below T1 (mkF m 7 #[.val (.long q0), .second] [(.long (0 : Int64)), (.long q0), (.long q0), (.ref b1), (.ref b1)]) t → Steps p.tables e below SE t := by
    intro t k
    refine K1 _ ?_
    refine XS.dup X1.here hx rfl (hb hby d5_3) rfl rfl ?_
    show own_S p e below T1 (mkF m 4 #[.val (.long q0), .second] [(.ref b1), (.ref b1)]) _
    refine XS.lloadN X1.here hx rfl (hb hby d5_4) rfl ?_
    show own_S p e below T1 (mkF m 5 #[.val (.long q0), .second] [(.long q0), (.ref b1), (.ref b1)]) _
    refine XS.lloadN X1.here hx rfl (hb hby d5_5) rfl ?_
    show own_S p e below T1 (mkF m 6 #[.val (.long q0), .second] [(.long q0), (.long q0), (.ref b1), (.ref b1)]) _
    refine XS.lconst X1.here hx rfl (hb hby d5_6) ?_
    exact k
  obtain ⟨_, _, ⟨T3, L3, k3, n3⟩, -, X3, ⟨Lc3, hQ3, l3, y3, z3⟩, st3⟩ := X1.specialBack hx (y := (⟨"com/example/convene/convene/server/ReplyBytes", "<init>", "(JJJ)V"⟩ : MethodName)) rfl hown (mvT hZ (hw _ (List.mem_of_getElem? (i := 29) rfl))) (mvT hZ (hw _ (List.mem_of_getElem? (i := 4) rfl))) (mvT hZ (hw _ (List.mem_of_getElem? (i := 5) rfl))) (by decide) (backOf (W := 1) (rm1 l Z a0 hw [] b1 q0 q0 (0 : Int64) h1 n0 (Nat.le_trans Z0 Kp1.1) A1 F_total_b1 F_copied_b1 F_shared_b1 g_b1) hZ (hw _ (List.mem_of_getElem? (i := 5) rfl)) (hw _ (List.mem_of_getElem? (i := 2) rfl)) (by decide) (by decide)) (g := (mkF m 7 #[.val (.long q0), .second] [(.long (0 : Int64)), (.long q0), (.long q0), (.ref b1), (.ref b1)])) rfl (by rw [hml]; rfl) (Steps.refl _) (a := b1) (argsL := [(.long q0), (.long q0), (.long (0 : Int64))]) (rest := [(.ref b1)]) (lenOf pd_5_0 rfl) rfl (by show 2 * 0 + _ ≤ _; exact Nat.le_of_eq rfl) (hb hby d5_7) (fun _ _ => ⟨rfl, e1, (by decide : 1 + 0 ≤ _), (by decide : 3 + 0 ≤ _)⟩)
  dsimp only [Pt.U, Pt.locs, Pt.cells, Pt.slots] at X3 l3 y3 z3 st3 hQ3
  subst l3 y3 z3
  obtain ⟨rfl, Nq3, Kq3, Ex3, Fa3, Fb3, Fc3⟩ := hQ3
  have N3 := Fr.app N0 Nq3
  have Kp3 : Keep h0 T3.heap [] := Keep.trans Kp1 Kq3 (allS (Or.inr sz_b1) all0)
  have K3 : ∀ t, own_S p e below T3 (mkF m 10 #[.val (.long q0), .second] [(.ref b1)]) t → Steps p.tables e below SE t := fun t k => K2 _ (st3.trans k)
  obtain ⟨fs, hr, hrun, hended, hW, hsame⟩ := X3.leave (v := some (.ref b1)) (fun h => by rw [Bd.returns] at h; cases h)
  refine ⟨_, _, K3 _ ?_, hrun, hended, _, _, rfl, ?_, ⟨_, rfl⟩, hW, hsame.mono (by decide) (by decide)⟩
  · show Steps p.tables e below (T3.setTop (mkF m 10 #[.val (.long q0), .second] [(.ref b1)])) _
    jvm_step X3.here [X3.here.top, hx, (hb hby d5_10), X3.method', Bd.returns, Value.isRef, FieldType.isReference]
    first | (intro acts; rw [hr _ acts rfl rfl rfl]) | rw [hr _ _ rfl rfl rfl]
    exact Steps.refl _
  · show Q5 Z q0 h0 n0 _ T3.heap _
    exact ⟨congrArg (fun z => some (Value.ref z)) g1, N3, Kp3, (g1 ▸ Ex3), (g1 ▸ Fa3), (g1 ▸ Fb3), (g1 ▸ Fc3)⟩
theorem own_or64 (a b : Int64) : (a ||| b) = (0 : Int64) ↔ a = (0 : Int64) ∧ b = (0 : Int64) := by
  simp only [← Int64.toBitVec_inj, Int64.toBitVec_or]
  exact BitVec.or_eq_zero_iff
theorem own_e1 (t c s : Int64) : (if t = (0 : Int64) then (if c = (0 : Int64) then (if s = (0 : Int64) then (1 : Int32) else (0 : Int32)) else (0 : Int32)) else (0 : Int32)) = (if ((t ||| c) ||| s) = (0 : Int64) then (1 : Int32) else (0 : Int32)) := by
  simp only [own_or64]
  by_cases q0 : t = (0 : Int64) <;> by_cases q1 : c = (0 : Int64) <;> by_cases q2 : s = (0 : Int64) <;> simp [*]
theorem own_e2 (t : Int64) : (if t = (0 : Int64) then (if t = (0 : Int64) then (if (0 : Int64) = (0 : Int64) then (1 : Int32) else (0 : Int32)) else (0 : Int32)) else (0 : Int32)) = (if t = (0 : Int64) then (1 : Int32) else (0 : Int32)) := by
  by_cases q0 : t = (0 : Int64) <;> simp [*]
theorem own_e3 : ¬ (if (0 : Int64) = (0 : Int64) then (if (0 : Int64) = (0 : Int64) then (if (0 : Int64) = (0 : Int64) then (1 : Int32) else (0 : Int32)) else (0 : Int32)) else (0 : Int32)) = (0 : Int32) := by decide
theorem pn_0 : plainName "com/example/convene/convene/server/ReplyBytesNonePinLaw" = true := by first | (simp [plainName, overriddenIn]; done) | decide +kernel
theorem pd_0_0 : parseMethodDescriptor "(JJJ)V" = some ⟨[.long, .long, .long], none⟩ := by decide +kernel
theorem pd_0_1 : parseMethodDescriptor "()Z" = some ⟨[], some .boolean⟩ := by decide +kernel
theorem pd_0_2 : parseMethodDescriptor "(J)Lcom/example/convene/convene/server/ReplyBytes;" = some ⟨[.long], some (.object "com/example/convene/convene/server/ReplyBytes")⟩ := by decide +kernel
theorem ef_0 (m : MethodId) (q0 : Int64) (q1 : Int64) (q2 : Int64) (p3 : Int32) : entryFrame m #[(.long q0), (.long q1), (.long q2), (.int p3)] maxLocals = mkF m 0 #[.val (.long q0), .second, .val (.long q1), .second, .val (.long q2), .second, .val (.int p3), .unset, .unset, .unset, .unset, .unset, .unset, .unset, .unset, .unset, .unset, .unset] [] := by first | (simp [entryFrame, mkF, argsToLocals, Value.category, maxLocals]; done) | rfl
def Q0 (Z : State) (q0 : Int64) (q1 : Int64) (q2 : Int64) (p3 : Int32) (oNONE : Addr) (h0 : Heap) (n0 : Nat) (v : Option Value) (h : Heap) (L : List Loc) : Prop := v = some (.int 1) ∧ Fr n0 L
set_option maxRecDepth 65536 in
set_option maxHeartbeats 40000000 in
theorem rm0 (l : Launch) (Z : State) (a0 : Array Value) (hw : ∀ d ∈ tables_1, d.before a0 Z = true) (ws : List Jvm.Cond) (q0 : Int64) (q1 : Int64) (q2 : Int64) (p3 : Int32) (oNONE : Addr) (h0 : Heap) (n0 : Nat) (Z0 : n0 ≤ h0.size) (ST_NONE : Sta Z h0 "com/example/convene/convene/server/ReplyBytes" "NONE" "Lcom/example/convene/convene/server/ReplyBytes;" (.ref oNONE)) (EX_oNONE : Exa Z h0 oNONE "com/example/convene/convene/server/ReplyBytes") (FL_oNONE_total : Fld Z h0 oNONE "com/example/convene/convene/server/ReplyBytes" "total" "J" (.long (0 : Int64))) (FL_oNONE_copied : Fld Z h0 oNONE "com/example/convene/convene/server/ReplyBytes" "copied" "J" (.long (0 : Int64))) (FL_oNONE_shared : Fld Z h0 oNONE "com/example/convene/convene/server/ReplyBytes" "shared" "J" (.long (0 : Int64))) :
    MetFree l x (head1 (Jvm.Cond.code x code maxLocals ret :: ws) room_1) (fun a U => a = #[(.long q0), (.long q1), (.long q2), (.int p3)] ∧ Z.Warmed39 U.vm ∧ U.heap = h0) (fun _ _ _ _ _ => True) (fun _ U o U' => ∃ v L, o = .returned v ∧ Q0 Z q0 q1 q2 p3 oNONE h0 n0 v U'.heap L ∧ FrameEnd U o U' L room_1.cells room_1.slots) := by
  refine MetFree.of_bodySF (plainFor_of_name pn_0) hisR ?_
  intro p e s m args below meth c s₁ Bd hml0 hP hK
  obtain ⟨rfl, hZ, hh⟩ := hP
  have hx := Bd.exec
  have hby := Bd.bytes
  have hml : c.maxLocals = 18 := hml0
  have hown : s.vm.findClass "com/example/convene/convene/server/ReplyBytesNonePinLaw" = some m.cls := findClass_of_methodNamed Bd.named
  have hnm := (name_of_methodNamed Bd.named Bd.method).1
  have X0 : Stand p l e room_1 s m #[(.long q0), (.long q1), (.long q2), (.int p3)] below meth c s₁ [] 0 0 := Stand.of_body Bd
  have e0 : s₁.heap = h0 := by rw [← hh, Bd.state]; rfl
  have N0 := Fr.nil n0
  have K0 : ∀ t, Steps p.tables e below (s₁.setTop (mkF m 0 #[.val (.long q0), .second, .val (.long q1), .second, .val (.long q2), .second, .val (.int p3), .unset, .unset, .unset, .unset, .unset, .unset, .unset, .unset, .unset, .unset, .unset] [])) t → Steps p.tables e below (s₁.setTop (entryFrame m #[(.long q0), (.long q1), (.long q2), (.int p3)] maxLocals)) t := fun t k => castTop (ef_0 m q0 q1 q2 p3) k
  generalize s₁.setTop (entryFrame m #[(.long q0), (.long q1), (.long q2), (.int p3)] maxLocals) = SE at K0 ⊢
  obtain ⟨vt, hvt, K2⟩ : ∃ vt : Int64, vt = (if (p3 &&& (1 : Int32)) = 0 then q0 else (0 : Int64)) ∧ ∀ t, own_S p e below s₁ (mkF m 12 #[.val (.long q0), .second, .val (.long q1), .second, .val (.long q2), .second, .val (.int p3), .unset, .unset, .unset, .unset, .unset, .unset, .unset, .unset, .unset, .unset, .unset] [(.long vt)]) t → Steps p.tables e below SE t := by
    have K4 : ∀ t, own_S p e below s₁ (mkF m 4 #[.val (.long q0), .second, .val (.long q1), .second, .val (.long q2), .second, .val (.int p3), .unset, .unset, .unset, .unset, .unset, .unset, .unset, .unset, .unset, .unset, .unset] [(.int (p3 &&& (1 : Int32)))]) t → Steps p.tables e below SE t := by
      intro t k
      refine K0 _ ?_
      refine XS.iload X0.here hx rfl (hb hby at_0) rfl ?_
      show own_S p e below s₁ (mkF m 2 #[.val (.long q0), .second, .val (.long q1), .second, .val (.long q2), .second, .val (.int p3), .unset, .unset, .unset, .unset, .unset, .unset, .unset, .unset, .unset, .unset, .unset] [(.int p3)]) _
      refine XS.iconst X0.here hx rfl (hb hby at_2) ?_
      show own_S p e below s₁ (mkF m 3 #[.val (.long q0), .second, .val (.long q1), .second, .val (.long q2), .second, .val (.int p3), .unset, .unset, .unset, .unset, .unset, .unset, .unset, .unset, .unset, .unset, .unset] [(.int (1 : Int32)), (.int p3)]) _
      refine XS.iand X0.here hx rfl (hb hby at_3) rfl ?_
      exact k
    by_cases c4_3 : (p3 &&& (1 : Int32)) = 0
    · skip
      have K5 : ∀ t, own_S p e below s₁ (mkF m 12 #[.val (.long q0), .second, .val (.long q1), .second, .val (.long q2), .second, .val (.int p3), .unset, .unset, .unset, .unset, .unset, .unset, .unset, .unset, .unset, .unset, .unset] [(.long q0)]) t → Steps p.tables e below SE t := by
        intro t k
        refine K4 _ ?_
        refine XS.ifYes X0.here hx rfl (pc0 := 4) (pc' := 11) rfl (hb hby at_4) rfl (XT.i0_eq_t c4_3) (by decide) (by decide) ?_
        show own_S p e below s₁ (mkF m 11 #[.val (.long q0), .second, .val (.long q1), .second, .val (.long q2), .second, .val (.int p3), .unset, .unset, .unset, .unset, .unset, .unset, .unset, .unset, .unset, .unset, .unset] []) _
        refine XS.lloadN X0.here hx rfl (hb hby at_11) rfl ?_
        exact k
      exact ⟨q0, (by simp only [if_pos c4_3]), K5⟩
    · skip
      have K6 : ∀ t, own_S p e below s₁ (mkF m 12 #[.val (.long q0), .second, .val (.long q1), .second, .val (.long q2), .second, .val (.int p3), .unset, .unset, .unset, .unset, .unset, .unset, .unset, .unset, .unset, .unset, .unset] [(.long (0 : Int64))]) t → Steps p.tables e below SE t := by
        intro t k
        refine K4 _ ?_
        refine XS.ifNo X0.here hx rfl (hb hby at_4) rfl (XT.i0_eq_f c4_3) ?_
        show own_S p e below s₁ (mkF m 7 #[.val (.long q0), .second, .val (.long q1), .second, .val (.long q2), .second, .val (.int p3), .unset, .unset, .unset, .unset, .unset, .unset, .unset, .unset, .unset, .unset, .unset] []) _
        refine XS.lconst X0.here hx rfl (hb hby at_7) ?_
        show own_S p e below s₁ (mkF m 8 #[.val (.long q0), .second, .val (.long q1), .second, .val (.long q2), .second, .val (.int p3), .unset, .unset, .unset, .unset, .unset, .unset, .unset, .unset, .unset, .unset, .unset] [(.long (0 : Int64))]) _
        refine XS.goto X0.here hx rfl (pc0 := 8) (pc' := 12) rfl (hb hby at_8) (by decide) (by decide) ?_
        exact k
      exact ⟨(0 : Int64), (by simp only [if_neg c4_3]), K6⟩
  obtain ⟨vk, hvk, K8⟩ : ∃ vk : Int64, vk = (if (p3 &&& (2 : Int32)) = 0 then q1 else (0 : Int64)) ∧ ∀ t, own_S p e below s₁ (mkF m 26 #[.val (.long q0), .second, .val (.long q1), .second, .val (.long q2), .second, .val (.int p3), .val (.long vt), .second, .unset, .unset, .unset, .unset, .unset, .unset, .unset, .unset, .unset] [(.long vk)]) t → Steps p.tables e below SE t := by
    have K10 : ∀ t, own_S p e below s₁ (mkF m 18 #[.val (.long q0), .second, .val (.long q1), .second, .val (.long q2), .second, .val (.int p3), .val (.long vt), .second, .unset, .unset, .unset, .unset, .unset, .unset, .unset, .unset, .unset] [(.int (p3 &&& (2 : Int32)))]) t → Steps p.tables e below SE t := by
      intro t k
      refine K2 _ ?_
      refine XS.lstore X0.here hx rfl (hb hby at_12) rfl (l' := #[.val (.long q0), .second, .val (.long q1), .second, .val (.long q2), .second, .val (.int p3), .val (.long vt), .second, .unset, .unset, .unset, .unset, .unset, .unset, .unset, .unset, .unset]) rfl ?_
      show own_S p e below s₁ (mkF m 14 #[.val (.long q0), .second, .val (.long q1), .second, .val (.long q2), .second, .val (.int p3), .val (.long vt), .second, .unset, .unset, .unset, .unset, .unset, .unset, .unset, .unset, .unset] []) _
      refine XS.iload X0.here hx rfl (hb hby at_14) rfl ?_
      show own_S p e below s₁ (mkF m 16 #[.val (.long q0), .second, .val (.long q1), .second, .val (.long q2), .second, .val (.int p3), .val (.long vt), .second, .unset, .unset, .unset, .unset, .unset, .unset, .unset, .unset, .unset] [(.int p3)]) _
      refine XS.iconst X0.here hx rfl (hb hby at_16) ?_
      show own_S p e below s₁ (mkF m 17 #[.val (.long q0), .second, .val (.long q1), .second, .val (.long q2), .second, .val (.int p3), .val (.long vt), .second, .unset, .unset, .unset, .unset, .unset, .unset, .unset, .unset, .unset] [(.int (2 : Int32)), (.int p3)]) _
      refine XS.iand X0.here hx rfl (hb hby at_17) rfl ?_
      exact k
    by_cases c18_9 : (p3 &&& (2 : Int32)) = 0
    · skip
      have K11 : ∀ t, own_S p e below s₁ (mkF m 26 #[.val (.long q0), .second, .val (.long q1), .second, .val (.long q2), .second, .val (.int p3), .val (.long vt), .second, .unset, .unset, .unset, .unset, .unset, .unset, .unset, .unset, .unset] [(.long q1)]) t → Steps p.tables e below SE t := by
        intro t k
        refine K10 _ ?_
        refine XS.ifYes X0.here hx rfl (pc0 := 18) (pc' := 25) rfl (hb hby at_18) rfl (XT.i0_eq_t c18_9) (by decide) (by decide) ?_
        show own_S p e below s₁ (mkF m 25 #[.val (.long q0), .second, .val (.long q1), .second, .val (.long q2), .second, .val (.int p3), .val (.long vt), .second, .unset, .unset, .unset, .unset, .unset, .unset, .unset, .unset, .unset] []) _
        refine XS.lloadN X0.here hx rfl (hb hby at_25) rfl ?_
        exact k
      exact ⟨q1, (by simp only [if_pos c18_9]), K11⟩
    · skip
      have K12 : ∀ t, own_S p e below s₁ (mkF m 26 #[.val (.long q0), .second, .val (.long q1), .second, .val (.long q2), .second, .val (.int p3), .val (.long vt), .second, .unset, .unset, .unset, .unset, .unset, .unset, .unset, .unset, .unset] [(.long (0 : Int64))]) t → Steps p.tables e below SE t := by
        intro t k
        refine K10 _ ?_
        refine XS.ifNo X0.here hx rfl (hb hby at_18) rfl (XT.i0_eq_f c18_9) ?_
        show own_S p e below s₁ (mkF m 21 #[.val (.long q0), .second, .val (.long q1), .second, .val (.long q2), .second, .val (.int p3), .val (.long vt), .second, .unset, .unset, .unset, .unset, .unset, .unset, .unset, .unset, .unset] []) _
        refine XS.lconst X0.here hx rfl (hb hby at_21) ?_
        show own_S p e below s₁ (mkF m 22 #[.val (.long q0), .second, .val (.long q1), .second, .val (.long q2), .second, .val (.int p3), .val (.long vt), .second, .unset, .unset, .unset, .unset, .unset, .unset, .unset, .unset, .unset] [(.long (0 : Int64))]) _
        refine XS.goto X0.here hx rfl (pc0 := 22) (pc' := 26) rfl (hb hby at_22) (by decide) (by decide) ?_
        exact k
      exact ⟨(0 : Int64), (by simp only [if_neg c18_9]), K12⟩
  obtain ⟨vs, hvs, K14⟩ : ∃ vs : Int64, vs = (if (p3 &&& (4 : Int32)) = 0 then q2 else (0 : Int64)) ∧ ∀ t, own_S p e below s₁ (mkF m 41 #[.val (.long q0), .second, .val (.long q1), .second, .val (.long q2), .second, .val (.int p3), .val (.long vt), .second, .val (.long vk), .second, .unset, .unset, .unset, .unset, .unset, .unset, .unset] [(.long vs)]) t → Steps p.tables e below SE t := by
    have K16 : ∀ t, own_S p e below s₁ (mkF m 32 #[.val (.long q0), .second, .val (.long q1), .second, .val (.long q2), .second, .val (.int p3), .val (.long vt), .second, .val (.long vk), .second, .unset, .unset, .unset, .unset, .unset, .unset, .unset] [(.int (p3 &&& (4 : Int32)))]) t → Steps p.tables e below SE t := by
      intro t k
      refine K8 _ ?_
      refine XS.lstore X0.here hx rfl (hb hby at_26) rfl (l' := #[.val (.long q0), .second, .val (.long q1), .second, .val (.long q2), .second, .val (.int p3), .val (.long vt), .second, .val (.long vk), .second, .unset, .unset, .unset, .unset, .unset, .unset, .unset]) rfl ?_
      show own_S p e below s₁ (mkF m 28 #[.val (.long q0), .second, .val (.long q1), .second, .val (.long q2), .second, .val (.int p3), .val (.long vt), .second, .val (.long vk), .second, .unset, .unset, .unset, .unset, .unset, .unset, .unset] []) _
      refine XS.iload X0.here hx rfl (hb hby at_28) rfl ?_
      show own_S p e below s₁ (mkF m 30 #[.val (.long q0), .second, .val (.long q1), .second, .val (.long q2), .second, .val (.int p3), .val (.long vt), .second, .val (.long vk), .second, .unset, .unset, .unset, .unset, .unset, .unset, .unset] [(.int p3)]) _
      refine XS.iconst X0.here hx rfl (hb hby at_30) ?_
      show own_S p e below s₁ (mkF m 31 #[.val (.long q0), .second, .val (.long q1), .second, .val (.long q2), .second, .val (.int p3), .val (.long vt), .second, .val (.long vk), .second, .unset, .unset, .unset, .unset, .unset, .unset, .unset] [(.int (4 : Int32)), (.int p3)]) _
      refine XS.iand X0.here hx rfl (hb hby at_31) rfl ?_
      exact k
    by_cases c32_15 : (p3 &&& (4 : Int32)) = 0
    · skip
      have K17 : ∀ t, own_S p e below s₁ (mkF m 41 #[.val (.long q0), .second, .val (.long q1), .second, .val (.long q2), .second, .val (.int p3), .val (.long vt), .second, .val (.long vk), .second, .unset, .unset, .unset, .unset, .unset, .unset, .unset] [(.long q2)]) t → Steps p.tables e below SE t := by
        intro t k
        refine K16 _ ?_
        refine XS.ifYes X0.here hx rfl (pc0 := 32) (pc' := 39) rfl (hb hby at_32) rfl (XT.i0_eq_t c32_15) (by decide) (by decide) ?_
        show own_S p e below s₁ (mkF m 39 #[.val (.long q0), .second, .val (.long q1), .second, .val (.long q2), .second, .val (.int p3), .val (.long vt), .second, .val (.long vk), .second, .unset, .unset, .unset, .unset, .unset, .unset, .unset] []) _
        refine XS.lload X0.here hx rfl (hb hby at_39) rfl ?_
        exact k
      exact ⟨q2, (by simp only [if_pos c32_15]), K17⟩
    · skip
      have K18 : ∀ t, own_S p e below s₁ (mkF m 41 #[.val (.long q0), .second, .val (.long q1), .second, .val (.long q2), .second, .val (.int p3), .val (.long vt), .second, .val (.long vk), .second, .unset, .unset, .unset, .unset, .unset, .unset, .unset] [(.long (0 : Int64))]) t → Steps p.tables e below SE t := by
        intro t k
        refine K16 _ ?_
        refine XS.ifNo X0.here hx rfl (hb hby at_32) rfl (XT.i0_eq_f c32_15) ?_
        show own_S p e below s₁ (mkF m 35 #[.val (.long q0), .second, .val (.long q1), .second, .val (.long q2), .second, .val (.int p3), .val (.long vt), .second, .val (.long vk), .second, .unset, .unset, .unset, .unset, .unset, .unset, .unset] []) _
        refine XS.lconst X0.here hx rfl (hb hby at_35) ?_
        show own_S p e below s₁ (mkF m 36 #[.val (.long q0), .second, .val (.long q1), .second, .val (.long q2), .second, .val (.int p3), .val (.long vt), .second, .val (.long vk), .second, .unset, .unset, .unset, .unset, .unset, .unset, .unset] [(.long (0 : Int64))]) _
        refine XS.goto X0.here hx rfl (pc0 := 36) (pc' := 41) rfl (hb hby at_36) (by decide) (by decide) ?_
        exact k
      exact ⟨(0 : Int64), (by simp only [if_neg c32_15]), K18⟩
  have K19 : ∀ t, own_S p e below s₁ (mkF m 43 #[.val (.long q0), .second, .val (.long q1), .second, .val (.long q2), .second, .val (.int p3), .val (.long vt), .second, .val (.long vk), .second, .val (.long vs), .second, .unset, .unset, .unset, .unset, .unset] []) t → Steps p.tables e below SE t := by
    intro t k
    refine K14 _ ?_
    refine XS.lstore X0.here hx rfl (hb hby at_41) rfl (l' := #[.val (.long q0), .second, .val (.long q1), .second, .val (.long q2), .second, .val (.int p3), .val (.long vt), .second, .val (.long vk), .second, .val (.long vs), .second, .unset, .unset, .unset, .unset, .unset]) rfl ?_
    exact k
  obtain ⟨T20, h20, X20, e20, E20, A20, D20, -, st20⟩ := newO X0 hx hZ hown (hw _ (List.mem_of_getElem? (i := 0) rfl)) (hw _ (List.mem_of_getElem? (i := 1) rfl)) (hw _ (List.mem_of_getElem? (i := 2) rfl)) e0 (g := (mkF m 43 #[.val (.long q0), .second, .val (.long q1), .second, .val (.long q2), .second, .val (.int p3), .val (.long vt), .second, .val (.long vk), .second, .val (.long vs), .second, .unset, .unset, .unset, .unset, .unset] [])) rfl (hb hby at_43) (by decide) (by decide)
  obtain ⟨b20, g20⟩ : ∃ z, z = h0.size := ⟨_, rfl⟩
  rw [← g20] at A20 D20 st20
  have g_b20 : n0 ≤ b20 := Nat.le_trans Z0 (Nat.le_of_eq g20.symm)
  have sz_b20 : h0.size ≤ b20 := Nat.le_trans (Nat.le_refl _) (Nat.le_of_eq g20.symm)
  have own_ne_oNONE_b20 : oNONE ≠ b20 := Nat.ne_of_lt (Nat.lt_of_lt_of_le EX_oNONE.lt (Nat.le_of_eq g20.symm))
  have Kp20 : Keep h0 h20 [] := Keep.ext (Keep.refl h0 []) E20
  have F_total_b20 : Fld Z h20 b20 "com/example/convene/convene/server/ReplyBytes" "total" "J" (.long (0 : Int64)) := D20 (Or.inr (hw _ (List.mem_of_getElem? (i := 15) rfl))) (ty := .long) (by decide)
  have F_copied_b20 : Fld Z h20 b20 "com/example/convene/convene/server/ReplyBytes" "copied" "J" (.long (0 : Int64)) := D20 (Or.inr (hw _ (List.mem_of_getElem? (i := 17) rfl))) (ty := .long) (by decide)
  have F_shared_b20 : Fld Z h20 b20 "com/example/convene/convene/server/ReplyBytes" "shared" "J" (.long (0 : Int64)) := D20 (Or.inr (hw _ (List.mem_of_getElem? (i := 19) rfl))) (ty := .long) (by decide)
  have K20 : ∀ t, own_S p e below T20 (mkF m 46 #[.val (.long q0), .second, .val (.long q1), .second, .val (.long q2), .second, .val (.int p3), .val (.long vt), .second, .val (.long vk), .second, .val (.long vs), .second, .unset, .unset, .unset, .unset, .unset] [(.ref b20)]) t → Steps p.tables e below SE t := fun t k => K19 _ (st20 _ k)
  have K21 : ∀ t, own_S p e below T20 (mkF m 53 #[.val (.long q0), .second, .val (.long q1), .second, .val (.long q2), .second, .val (.int p3), .val (.long vt), .second, .val (.long vk), .second, .val (.long vs), .second, .unset, .unset, .unset, .unset, .unset] [(.long vs), (.long vk), (.long vt), (.ref b20), (.ref b20)]) t → Steps p.tables e below SE t := by
    intro t k
    refine K20 _ ?_
    refine XS.dup X20.here hx rfl (hb hby at_46) rfl rfl ?_
    show own_S p e below T20 (mkF m 47 #[.val (.long q0), .second, .val (.long q1), .second, .val (.long q2), .second, .val (.int p3), .val (.long vt), .second, .val (.long vk), .second, .val (.long vs), .second, .unset, .unset, .unset, .unset, .unset] [(.ref b20), (.ref b20)]) _
    refine XS.lload X20.here hx rfl (hb hby at_47) rfl ?_
    show own_S p e below T20 (mkF m 49 #[.val (.long q0), .second, .val (.long q1), .second, .val (.long q2), .second, .val (.int p3), .val (.long vt), .second, .val (.long vk), .second, .val (.long vs), .second, .unset, .unset, .unset, .unset, .unset] [(.long vt), (.ref b20), (.ref b20)]) _
    refine XS.lload X20.here hx rfl (hb hby at_49) rfl ?_
    show own_S p e below T20 (mkF m 51 #[.val (.long q0), .second, .val (.long q1), .second, .val (.long q2), .second, .val (.int p3), .val (.long vt), .second, .val (.long vk), .second, .val (.long vs), .second, .unset, .unset, .unset, .unset, .unset] [(.long vk), (.long vt), (.ref b20), (.ref b20)]) _
    refine XS.lload X20.here hx rfl (hb hby at_51) rfl ?_
    exact k
  obtain ⟨_, _, ⟨T22, L22, k22, n22⟩, -, X22, ⟨Lc22, hQ22, l22, y22, z22⟩, st22⟩ := X20.specialBack hx (y := (⟨"com/example/convene/convene/server/ReplyBytes", "<init>", "(JJJ)V"⟩ : MethodName)) rfl hown (mvT hZ (hw _ (List.mem_of_getElem? (i := 3) rfl))) (mvT hZ (hw _ (List.mem_of_getElem? (i := 4) rfl))) (mvT hZ (hw _ (List.mem_of_getElem? (i := 5) rfl))) (by decide) (backOf (W := 1) (rm1 l Z a0 hw [] b20 vt vk vs h20 n0 (Nat.le_trans Z0 Kp20.1) A20 F_total_b20 F_copied_b20 F_shared_b20 g_b20) hZ (hw _ (List.mem_of_getElem? (i := 5) rfl)) (hw _ (List.mem_of_getElem? (i := 2) rfl)) (by decide) (by decide)) (g := (mkF m 53 #[.val (.long q0), .second, .val (.long q1), .second, .val (.long q2), .second, .val (.int p3), .val (.long vt), .second, .val (.long vk), .second, .val (.long vs), .second, .unset, .unset, .unset, .unset, .unset] [(.long vs), (.long vk), (.long vt), (.ref b20), (.ref b20)])) rfl (by rw [hml]; rfl) (Steps.refl _) (a := b20) (argsL := [(.long vt), (.long vk), (.long vs)]) (rest := [(.ref b20)]) (lenOf pd_0_0 rfl) rfl (by show 2 * 0 + _ ≤ _; exact Nat.le_of_eq rfl) (hb hby at_53) (fun _ _ => ⟨rfl, e20, (by decide : 1 + 0 ≤ _), (by decide : 3 + 0 ≤ _)⟩)
  dsimp only [Pt.U, Pt.locs, Pt.cells, Pt.slots] at X22 l22 y22 z22 st22 hQ22
  subst l22 y22 z22
  obtain ⟨rfl, Nq22, Kq22, Ex22, Fa22, Fb22, Fc22⟩ := hQ22
  have N22 := Fr.app N0 Nq22
  have Kp22 : Keep h0 T22.heap [] := Keep.trans Kp20 Kq22 (allS (Or.inr sz_b20) all0)
  have K22 : ∀ t, own_S p e below T22 (mkF m 56 #[.val (.long q0), .second, .val (.long q1), .second, .val (.long q2), .second, .val (.int p3), .val (.long vt), .second, .val (.long vk), .second, .val (.long vs), .second, .unset, .unset, .unset, .unset, .unset] [(.ref b20)]) t → Steps p.tables e below SE t := fun t k => K21 _ (st22.trans k)
  have K24 : ∀ t, own_S p e below T22 (mkF m 58 #[.val (.long q0), .second, .val (.long q1), .second, .val (.long q2), .second, .val (.int p3), .val (.long vt), .second, .val (.long vk), .second, .val (.long vs), .second, .val (.ref b20), .unset, .unset, .unset, .unset] []) t → Steps p.tables e below SE t := by
    intro t k
    refine K22 _ ?_
    refine XS.astore X22.here hx rfl (hb hby at_56) rfl rfl (l' := #[.val (.long q0), .second, .val (.long q1), .second, .val (.long q2), .second, .val (.int p3), .val (.long vt), .second, .val (.long vk), .second, .val (.long vs), .second, .val (.ref b20), .unset, .unset, .unset, .unset]) rfl ?_
    exact k
  obtain ⟨ex, hex, K25⟩ : ∃ ex : Int32, ex = (if ((vt ||| vk) ||| vs) = (0 : Int64) then (1 : Int32) else (0 : Int32)) ∧ ∀ t, own_S p e below T22 (mkF m 76 #[.val (.long q0), .second, .val (.long q1), .second, .val (.long q2), .second, .val (.int p3), .val (.long vt), .second, .val (.long vk), .second, .val (.long vs), .second, .val (.ref b20), .unset, .unset, .unset, .unset] [(.int ex)]) t → Steps p.tables e below SE t := by
    have K27 : ∀ t, own_S p e below T22 (mkF m 68 #[.val (.long q0), .second, .val (.long q1), .second, .val (.long q2), .second, .val (.int p3), .val (.long vt), .second, .val (.long vk), .second, .val (.long vs), .second, .val (.ref b20), .unset, .unset, .unset, .unset] [(.int (XT.cmpL ((vt ||| vk) ||| vs) (0 : Int64)))]) t → Steps p.tables e below SE t := by
      intro t k
      refine K24 _ ?_
      refine XS.lload X22.here hx rfl (hb hby at_58) rfl ?_
      show own_S p e below T22 (mkF m 60 #[.val (.long q0), .second, .val (.long q1), .second, .val (.long q2), .second, .val (.int p3), .val (.long vt), .second, .val (.long vk), .second, .val (.long vs), .second, .val (.ref b20), .unset, .unset, .unset, .unset] [(.long vt)]) _
      refine XS.lload X22.here hx rfl (hb hby at_60) rfl ?_
      show own_S p e below T22 (mkF m 62 #[.val (.long q0), .second, .val (.long q1), .second, .val (.long q2), .second, .val (.int p3), .val (.long vt), .second, .val (.long vk), .second, .val (.long vs), .second, .val (.ref b20), .unset, .unset, .unset, .unset] [(.long vk), (.long vt)]) _
      refine XS.lor X22.here hx rfl (hb hby at_62) rfl ?_
      show own_S p e below T22 (mkF m 63 #[.val (.long q0), .second, .val (.long q1), .second, .val (.long q2), .second, .val (.int p3), .val (.long vt), .second, .val (.long vk), .second, .val (.long vs), .second, .val (.ref b20), .unset, .unset, .unset, .unset] [(.long (vt ||| vk))]) _
      refine XS.lload X22.here hx rfl (hb hby at_63) rfl ?_
      show own_S p e below T22 (mkF m 65 #[.val (.long q0), .second, .val (.long q1), .second, .val (.long q2), .second, .val (.int p3), .val (.long vt), .second, .val (.long vk), .second, .val (.long vs), .second, .val (.ref b20), .unset, .unset, .unset, .unset] [(.long vs), (.long (vt ||| vk))]) _
      refine XS.lor X22.here hx rfl (hb hby at_65) rfl ?_
      show own_S p e below T22 (mkF m 66 #[.val (.long q0), .second, .val (.long q1), .second, .val (.long q2), .second, .val (.int p3), .val (.long vt), .second, .val (.long vk), .second, .val (.long vs), .second, .val (.ref b20), .unset, .unset, .unset, .unset] [(.long ((vt ||| vk) ||| vs))]) _
      refine XS.lconst X22.here hx rfl (hb hby at_66) ?_
      show own_S p e below T22 (mkF m 67 #[.val (.long q0), .second, .val (.long q1), .second, .val (.long q2), .second, .val (.int p3), .val (.long vt), .second, .val (.long vk), .second, .val (.long vs), .second, .val (.ref b20), .unset, .unset, .unset, .unset] [(.long (0 : Int64)), (.long ((vt ||| vk) ||| vs))]) _
      refine XT.lcmp X22.here hx rfl (hb hby at_67) rfl ?_
      exact k
    by_cases c68_26 : ((vt ||| vk) ||| vs) = (0 : Int64)
    · skip
      have K28 : ∀ t, own_S p e below T22 (mkF m 76 #[.val (.long q0), .second, .val (.long q1), .second, .val (.long q2), .second, .val (.int p3), .val (.long vt), .second, .val (.long vk), .second, .val (.long vs), .second, .val (.ref b20), .unset, .unset, .unset, .unset] [(.int (1 : Int32))]) t → Steps p.tables e below SE t := by
        intro t k
        refine K27 _ ?_
        refine XS.ifNo X22.here hx rfl (hb hby at_68) rfl (XT.ll_ne_f c68_26) ?_
        show own_S p e below T22 (mkF m 71 #[.val (.long q0), .second, .val (.long q1), .second, .val (.long q2), .second, .val (.int p3), .val (.long vt), .second, .val (.long vk), .second, .val (.long vs), .second, .val (.ref b20), .unset, .unset, .unset, .unset] []) _
        refine XS.iconst X22.here hx rfl (hb hby at_71) ?_
        show own_S p e below T22 (mkF m 72 #[.val (.long q0), .second, .val (.long q1), .second, .val (.long q2), .second, .val (.int p3), .val (.long vt), .second, .val (.long vk), .second, .val (.long vs), .second, .val (.ref b20), .unset, .unset, .unset, .unset] [(.int (1 : Int32))]) _
        refine XS.goto X22.here hx rfl (pc0 := 72) (pc' := 76) rfl (hb hby at_72) (by decide) (by decide) ?_
        exact k
      exact ⟨(1 : Int32), (by simp only [if_pos c68_26]), K28⟩
    · skip
      have K29 : ∀ t, own_S p e below T22 (mkF m 76 #[.val (.long q0), .second, .val (.long q1), .second, .val (.long q2), .second, .val (.int p3), .val (.long vt), .second, .val (.long vk), .second, .val (.long vs), .second, .val (.ref b20), .unset, .unset, .unset, .unset] [(.int (0 : Int32))]) t → Steps p.tables e below SE t := by
        intro t k
        refine K27 _ ?_
        refine XS.ifYes X22.here hx rfl (pc0 := 68) (pc' := 75) rfl (hb hby at_68) rfl (XT.ll_ne_t c68_26) (by decide) (by decide) ?_
        show own_S p e below T22 (mkF m 75 #[.val (.long q0), .second, .val (.long q1), .second, .val (.long q2), .second, .val (.int p3), .val (.long vt), .second, .val (.long vk), .second, .val (.long vs), .second, .val (.ref b20), .unset, .unset, .unset, .unset] []) _
        refine XS.iconst X22.here hx rfl (hb hby at_75) ?_
        exact k
      exact ⟨(0 : Int32), (by simp only [if_neg c68_26]), K29⟩
  have hf1 : (if vt = (0 : Int64) then (if vk = (0 : Int64) then (if vs = (0 : Int64) then (1 : Int32) else (0 : Int32)) else (0 : Int32)) else (0 : Int32)) = ex := (own_e1 vt vk vs).trans hex.symm
  have K30 : ∀ t, own_S p e below T22 (mkF m 80 #[.val (.long q0), .second, .val (.long q1), .second, .val (.long q2), .second, .val (.int p3), .val (.long vt), .second, .val (.long vk), .second, .val (.long vs), .second, .val (.ref b20), .val (.int ex), .unset, .unset, .unset] [(.ref b20)]) t → Steps p.tables e below SE t := by
    intro t k
    refine K25 _ ?_
    refine XS.istore X22.here hx rfl (hb hby at_76) rfl (l' := #[.val (.long q0), .second, .val (.long q1), .second, .val (.long q2), .second, .val (.int p3), .val (.long vt), .second, .val (.long vk), .second, .val (.long vs), .second, .val (.ref b20), .val (.int ex), .unset, .unset, .unset]) rfl ?_
    show own_S p e below T22 (mkF m 78 #[.val (.long q0), .second, .val (.long q1), .second, .val (.long q2), .second, .val (.int p3), .val (.long vt), .second, .val (.long vk), .second, .val (.long vs), .second, .val (.ref b20), .val (.int ex), .unset, .unset, .unset] []) _
    refine XS.aload X22.here hx rfl (hb hby at_78) rfl rfl ?_
    exact k
  obtain ⟨cq31, kq31, q31a, q31b, q31c⟩ := isOf hZ rfl Ex22
  obtain ⟨_, _, ⟨T31, L31, k31, n31⟩, -, X31, ⟨Lc31, hQ31, l31, y31, z31⟩, st31⟩ := X22.virtualBack hx (y := (⟨"com/example/convene/convene/server/ReplyBytes", "none", "()Z"⟩ : MethodName)) (z := (⟨"com/example/convene/convene/server/ReplyBytes", "none", "()Z"⟩ : MethodName)) hown (mvT hZ (hw _ (List.mem_of_getElem? (i := 20) rfl))) (mvT hZ (hw _ (List.mem_of_getElem? (i := 21) rfl))) (notFace_of_selects (args := #[]) (mvT hZ (hw _ (List.mem_of_getElem? (i := 23) rfl)))) (mvT hZ (hw _ (List.mem_of_getElem? (i := 23) rfl))) (mvT hZ (hw _ (List.mem_of_getElem? (i := 22) rfl))) (by decide) (backOf (W := 0) (rm4 l Z a0 hw [] b20 vt vk vs T22.heap n0 (Nat.le_trans Z0 Kp22.1) Fa22 Fb22 Fc22) hZ (hw _ (List.mem_of_getElem? (i := 24) rfl)) (hw _ (List.mem_of_getElem? (i := 2) rfl)) (by decide) (by decide)) q31a q31c (g := (mkF m 80 #[.val (.long q0), .second, .val (.long q1), .second, .val (.long q2), .second, .val (.int p3), .val (.long vt), .second, .val (.long vk), .second, .val (.long vs), .second, .val (.ref b20), .val (.int ex), .unset, .unset, .unset] [(.ref b20)])) rfl (by rw [hml]; rfl) (Steps.refl _) (argsL := []) (rest := []) (lenOf pd_0_1 rfl) rfl (by show 2 * 0 + _ ≤ _; exact Nat.le_of_eq rfl) (hb hby at_80) (fun _ _ => ⟨rfl, rfl, (by decide : 1 + 0 ≤ _), (by decide : 3 + 0 ≤ _)⟩)
  dsimp only [Pt.U, Pt.locs, Pt.cells, Pt.slots] at X31 l31 y31 z31 st31 hQ31
  subst l31 y31 z31
  obtain ⟨rfl, Nq31, e31⟩ := hQ31
  have N31 := Fr.app N22 Nq31
  have K31 : ∀ t, own_S p e below T31 (mkF m 83 #[.val (.long q0), .second, .val (.long q1), .second, .val (.long q2), .second, .val (.int p3), .val (.long vt), .second, .val (.long vk), .second, .val (.long vs), .second, .val (.ref b20), .val (.int ex), .unset, .unset, .unset] [(.int (if vt = (0 : Int64) then (if vk = (0 : Int64) then (if vs = (0 : Int64) then (1 : Int32) else (0 : Int32)) else (0 : Int32)) else (0 : Int32)))]) t → Steps p.tables e below SE t := fun t k => K30 _ (st31.trans k)
  have K32 : ∀ t, own_S p e below T31 (mkF m 97 #[.val (.long q0), .second, .val (.long q1), .second, .val (.long q2), .second, .val (.int p3), .val (.long vt), .second, .val (.long vk), .second, .val (.long vs), .second, .val (.ref b20), .val (.int ex), .val (.int (1 : Int32)), .unset, .unset] [(.long vt)]) t → Steps p.tables e below SE t := by
    intro t k
    refine K31 _ ?_
    refine XS.iload X31.here hx rfl (hb hby at_83) rfl ?_
    show own_S p e below T31 (mkF m 85 #[.val (.long q0), .second, .val (.long q1), .second, .val (.long q2), .second, .val (.int p3), .val (.long vt), .second, .val (.long vk), .second, .val (.long vs), .second, .val (.ref b20), .val (.int ex), .unset, .unset, .unset] [(.int ex), (.int (if vt = (0 : Int64) then (if vk = (0 : Int64) then (if vs = (0 : Int64) then (1 : Int32) else (0 : Int32)) else (0 : Int32)) else (0 : Int32)))]) _
    refine XS.icmpNo X31.here hx rfl (hb hby at_85) rfl (XT.ii_ne_f hf1) ?_
    show own_S p e below T31 (mkF m 88 #[.val (.long q0), .second, .val (.long q1), .second, .val (.long q2), .second, .val (.int p3), .val (.long vt), .second, .val (.long vk), .second, .val (.long vs), .second, .val (.ref b20), .val (.int ex), .unset, .unset, .unset] []) _
    refine XS.iconst X31.here hx rfl (hb hby at_88) ?_
    show own_S p e below T31 (mkF m 89 #[.val (.long q0), .second, .val (.long q1), .second, .val (.long q2), .second, .val (.int p3), .val (.long vt), .second, .val (.long vk), .second, .val (.long vs), .second, .val (.ref b20), .val (.int ex), .unset, .unset, .unset] [(.int (1 : Int32))]) _
    refine XS.goto X31.here hx rfl (pc0 := 89) (pc' := 93) rfl (hb hby at_89) (by decide) (by decide) ?_
    show own_S p e below T31 (mkF m 93 #[.val (.long q0), .second, .val (.long q1), .second, .val (.long q2), .second, .val (.int p3), .val (.long vt), .second, .val (.long vk), .second, .val (.long vs), .second, .val (.ref b20), .val (.int ex), .unset, .unset, .unset] [(.int (1 : Int32))]) _
    refine XS.istore X31.here hx rfl (hb hby at_93) rfl (l' := #[.val (.long q0), .second, .val (.long q1), .second, .val (.long q2), .second, .val (.int p3), .val (.long vt), .second, .val (.long vk), .second, .val (.long vs), .second, .val (.ref b20), .val (.int ex), .val (.int (1 : Int32)), .unset, .unset]) rfl ?_
    show own_S p e below T31 (mkF m 95 #[.val (.long q0), .second, .val (.long q1), .second, .val (.long q2), .second, .val (.int p3), .val (.long vt), .second, .val (.long vk), .second, .val (.long vs), .second, .val (.ref b20), .val (.int ex), .val (.int (1 : Int32)), .unset, .unset] []) _
    refine XS.lload X31.here hx rfl (hb hby at_95) rfl ?_
    exact k
  obtain ⟨_, _, ⟨T33, L33, k33, n33⟩, -, X33, ⟨Lc33, hQ33, l33, y33, z33⟩, st33⟩ := Jvm.LawKit.callS X31 hx (y := (⟨"com/example/convene/convene/server/ReplyBytes", "copies", "(J)Lcom/example/convene/convene/server/ReplyBytes;"⟩ : MethodName)) hown (mvT hZ (hw _ (List.mem_of_getElem? (i := 25) rfl))) (mvT hZ (hw _ (List.mem_of_getElem? (i := 26) rfl))) (mvT hZ (hw _ (List.mem_of_getElem? (i := 2) rfl))) (mvT hZ (hw _ (List.mem_of_getElem? (i := 27) rfl))) (by decide) (backOf (W := 0) (rm5 l Z a0 hw [] vt T22.heap n0 (Nat.le_trans Z0 Kp22.1)) hZ (hw _ (List.mem_of_getElem? (i := 27) rfl)) (hw _ (List.mem_of_getElem? (i := 2) rfl)) (by decide) (by decide)) (g := (mkF m 97 #[.val (.long q0), .second, .val (.long q1), .second, .val (.long q2), .second, .val (.int p3), .val (.long vt), .second, .val (.long vk), .second, .val (.long vs), .second, .val (.ref b20), .val (.int ex), .val (.int (1 : Int32)), .unset, .unset] [(.long vt)])) rfl (by rw [hml]; rfl) (argsL := [(.long vt)]) (rest := []) (lenOf pd_0_2 rfl) rfl (by show 2 * 0 + _ ≤ _; exact Nat.le_of_eq rfl) (hb hby at_97) (fun _ _ => ⟨rfl, e31, (by decide : 1 + 1 ≤ _), (by decide : 3 + 3 ≤ _)⟩)
  dsimp only [Pt.U, Pt.locs, Pt.cells, Pt.slots] at X33 l33 y33 z33 st33 hQ33
  subst l33 y33 z33
  obtain ⟨rfl, Nq33, Kq33, Ex33, Fa33, Fb33, Fc33⟩ := hQ33
  have N33 := Fr.app N31 Nq33
  have Kp33 : Keep h0 T33.heap [] := Keep.trans Kp22 Kq33 all0
  have K33 : ∀ t, own_S p e below T33 (mkF m 100 #[.val (.long q0), .second, .val (.long q1), .second, .val (.long q2), .second, .val (.int p3), .val (.long vt), .second, .val (.long vk), .second, .val (.long vs), .second, .val (.ref b20), .val (.int ex), .val (.int (1 : Int32)), .unset, .unset] [(.ref T22.heap.size)]) t → Steps p.tables e below SE t := fun t k => K32 _ (st33 _ k)
  obtain ⟨bc, gbc⟩ : ∃ z, z = T22.heap.size := ⟨_, rfl⟩
  rw [← gbc] at K33 Ex33 Fa33 Fb33 Fc33
  obtain ⟨cq34, kq34, q34a, q34b, q34c⟩ := isOf hZ rfl Ex33
  obtain ⟨_, _, ⟨T34, L34, k34, n34⟩, -, X34, ⟨Lc34, hQ34, l34, y34, z34⟩, st34⟩ := X33.virtualBack hx (y := (⟨"com/example/convene/convene/server/ReplyBytes", "none", "()Z"⟩ : MethodName)) (z := (⟨"com/example/convene/convene/server/ReplyBytes", "none", "()Z"⟩ : MethodName)) hown (mvT hZ (hw _ (List.mem_of_getElem? (i := 20) rfl))) (mvT hZ (hw _ (List.mem_of_getElem? (i := 21) rfl))) (notFace_of_selects (args := #[]) (mvT hZ (hw _ (List.mem_of_getElem? (i := 23) rfl)))) (mvT hZ (hw _ (List.mem_of_getElem? (i := 23) rfl))) (mvT hZ (hw _ (List.mem_of_getElem? (i := 22) rfl))) (by decide) (backOf (W := 0) (rm4 l Z a0 hw [] bc vt vt (0 : Int64) T33.heap n0 (Nat.le_trans Z0 Kp33.1) Fa33 Fb33 Fc33) hZ (hw _ (List.mem_of_getElem? (i := 24) rfl)) (hw _ (List.mem_of_getElem? (i := 2) rfl)) (by decide) (by decide)) q34a q34c (g := (mkF m 100 #[.val (.long q0), .second, .val (.long q1), .second, .val (.long q2), .second, .val (.int p3), .val (.long vt), .second, .val (.long vk), .second, .val (.long vs), .second, .val (.ref b20), .val (.int ex), .val (.int (1 : Int32)), .unset, .unset] [(.ref bc)])) rfl (by rw [hml]; rfl) (Steps.refl _) (argsL := []) (rest := []) (lenOf pd_0_1 rfl) rfl (by show 2 * 0 + _ ≤ _; exact Nat.le_of_eq rfl) (hb hby at_100) (fun _ _ => ⟨rfl, rfl, (by decide : 2 + 0 ≤ _), (by decide : 6 + 0 ≤ _)⟩)
  dsimp only [Pt.U, Pt.locs, Pt.cells, Pt.slots] at X34 l34 y34 z34 st34 hQ34
  subst l34 y34 z34
  obtain ⟨rfl, Nq34, e34⟩ := hQ34
  have N34 := Fr.app N33 Nq34
  have K34 : ∀ t, own_S p e below T34 (mkF m 103 #[.val (.long q0), .second, .val (.long q1), .second, .val (.long q2), .second, .val (.int p3), .val (.long vt), .second, .val (.long vk), .second, .val (.long vs), .second, .val (.ref b20), .val (.int ex), .val (.int (1 : Int32)), .unset, .unset] [(.int (if vt = (0 : Int64) then (if vt = (0 : Int64) then (if (0 : Int64) = (0 : Int64) then (1 : Int32) else (0 : Int32)) else (0 : Int32)) else (0 : Int32)))]) t → Steps p.tables e below SE t := fun t k => K33 _ (st34.trans k)
  obtain ⟨ex2, hex2, K36⟩ : ∃ ex2 : Int32, ex2 = (if vt = (0 : Int64) then (1 : Int32) else (0 : Int32)) ∧ ∀ t, own_S p e below T34 (mkF m 115 #[.val (.long q0), .second, .val (.long q1), .second, .val (.long q2), .second, .val (.int p3), .val (.long vt), .second, .val (.long vk), .second, .val (.long vs), .second, .val (.ref b20), .val (.int ex), .val (.int (1 : Int32)), .unset, .unset] [(.int ex2), (.int (if vt = (0 : Int64) then (if vt = (0 : Int64) then (if (0 : Int64) = (0 : Int64) then (1 : Int32) else (0 : Int32)) else (0 : Int32)) else (0 : Int32)))]) t → Steps p.tables e below SE t := by
    have K38 : ∀ t, own_S p e below T34 (mkF m 107 #[.val (.long q0), .second, .val (.long q1), .second, .val (.long q2), .second, .val (.int p3), .val (.long vt), .second, .val (.long vk), .second, .val (.long vs), .second, .val (.ref b20), .val (.int ex), .val (.int (1 : Int32)), .unset, .unset] [(.int (XT.cmpL vt (0 : Int64))), (.int (if vt = (0 : Int64) then (if vt = (0 : Int64) then (if (0 : Int64) = (0 : Int64) then (1 : Int32) else (0 : Int32)) else (0 : Int32)) else (0 : Int32)))]) t → Steps p.tables e below SE t := by
      intro t k
      refine K34 _ ?_
      refine XS.lload X34.here hx rfl (hb hby at_103) rfl ?_
      show own_S p e below T34 (mkF m 105 #[.val (.long q0), .second, .val (.long q1), .second, .val (.long q2), .second, .val (.int p3), .val (.long vt), .second, .val (.long vk), .second, .val (.long vs), .second, .val (.ref b20), .val (.int ex), .val (.int (1 : Int32)), .unset, .unset] [(.long vt), (.int (if vt = (0 : Int64) then (if vt = (0 : Int64) then (if (0 : Int64) = (0 : Int64) then (1 : Int32) else (0 : Int32)) else (0 : Int32)) else (0 : Int32)))]) _
      refine XS.lconst X34.here hx rfl (hb hby at_105) ?_
      show own_S p e below T34 (mkF m 106 #[.val (.long q0), .second, .val (.long q1), .second, .val (.long q2), .second, .val (.int p3), .val (.long vt), .second, .val (.long vk), .second, .val (.long vs), .second, .val (.ref b20), .val (.int ex), .val (.int (1 : Int32)), .unset, .unset] [(.long (0 : Int64)), (.long vt), (.int (if vt = (0 : Int64) then (if vt = (0 : Int64) then (if (0 : Int64) = (0 : Int64) then (1 : Int32) else (0 : Int32)) else (0 : Int32)) else (0 : Int32)))]) _
      refine XT.lcmp X34.here hx rfl (hb hby at_106) rfl ?_
      exact k
    by_cases c107_37 : vt = (0 : Int64)
    · skip
      have K39 : ∀ t, own_S p e below T34 (mkF m 115 #[.val (.long q0), .second, .val (.long q1), .second, .val (.long q2), .second, .val (.int p3), .val (.long vt), .second, .val (.long vk), .second, .val (.long vs), .second, .val (.ref b20), .val (.int ex), .val (.int (1 : Int32)), .unset, .unset] [(.int (1 : Int32)), (.int (if vt = (0 : Int64) then (if vt = (0 : Int64) then (if (0 : Int64) = (0 : Int64) then (1 : Int32) else (0 : Int32)) else (0 : Int32)) else (0 : Int32)))]) t → Steps p.tables e below SE t := by
        intro t k
        refine K38 _ ?_
        refine XS.ifNo X34.here hx rfl (hb hby at_107) rfl (XT.ll_ne_f c107_37) ?_
        show own_S p e below T34 (mkF m 110 #[.val (.long q0), .second, .val (.long q1), .second, .val (.long q2), .second, .val (.int p3), .val (.long vt), .second, .val (.long vk), .second, .val (.long vs), .second, .val (.ref b20), .val (.int ex), .val (.int (1 : Int32)), .unset, .unset] [(.int (if vt = (0 : Int64) then (if vt = (0 : Int64) then (if (0 : Int64) = (0 : Int64) then (1 : Int32) else (0 : Int32)) else (0 : Int32)) else (0 : Int32)))]) _
        refine XS.iconst X34.here hx rfl (hb hby at_110) ?_
        show own_S p e below T34 (mkF m 111 #[.val (.long q0), .second, .val (.long q1), .second, .val (.long q2), .second, .val (.int p3), .val (.long vt), .second, .val (.long vk), .second, .val (.long vs), .second, .val (.ref b20), .val (.int ex), .val (.int (1 : Int32)), .unset, .unset] [(.int (1 : Int32)), (.int (if vt = (0 : Int64) then (if vt = (0 : Int64) then (if (0 : Int64) = (0 : Int64) then (1 : Int32) else (0 : Int32)) else (0 : Int32)) else (0 : Int32)))]) _
        refine XS.goto X34.here hx rfl (pc0 := 111) (pc' := 115) rfl (hb hby at_111) (by decide) (by decide) ?_
        exact k
      exact ⟨(1 : Int32), (by simp only [if_pos c107_37]), K39⟩
    · skip
      have K40 : ∀ t, own_S p e below T34 (mkF m 115 #[.val (.long q0), .second, .val (.long q1), .second, .val (.long q2), .second, .val (.int p3), .val (.long vt), .second, .val (.long vk), .second, .val (.long vs), .second, .val (.ref b20), .val (.int ex), .val (.int (1 : Int32)), .unset, .unset] [(.int (0 : Int32)), (.int (if vt = (0 : Int64) then (if vt = (0 : Int64) then (if (0 : Int64) = (0 : Int64) then (1 : Int32) else (0 : Int32)) else (0 : Int32)) else (0 : Int32)))]) t → Steps p.tables e below SE t := by
        intro t k
        refine K38 _ ?_
        refine XS.ifYes X34.here hx rfl (pc0 := 107) (pc' := 114) rfl (hb hby at_107) rfl (XT.ll_ne_t c107_37) (by decide) (by decide) ?_
        show own_S p e below T34 (mkF m 114 #[.val (.long q0), .second, .val (.long q1), .second, .val (.long q2), .second, .val (.int p3), .val (.long vt), .second, .val (.long vk), .second, .val (.long vs), .second, .val (.ref b20), .val (.int ex), .val (.int (1 : Int32)), .unset, .unset] [(.int (if vt = (0 : Int64) then (if vt = (0 : Int64) then (if (0 : Int64) = (0 : Int64) then (1 : Int32) else (0 : Int32)) else (0 : Int32)) else (0 : Int32)))]) _
        refine XS.iconst X34.here hx rfl (hb hby at_114) ?_
        exact k
      exact ⟨(0 : Int32), (by simp only [if_neg c107_37]), K40⟩
  have hf2 : (if vt = (0 : Int64) then (if vt = (0 : Int64) then (if (0 : Int64) = (0 : Int64) then (1 : Int32) else (0 : Int32)) else (0 : Int32)) else (0 : Int32)) = ex2 := (own_e2 vt).trans hex2.symm
  have K41 : ∀ t, own_S p e below T34 (mkF m 125 #[.val (.long q0), .second, .val (.long q1), .second, .val (.long q2), .second, .val (.int p3), .val (.long vt), .second, .val (.long vk), .second, .val (.long vs), .second, .val (.ref b20), .val (.int ex), .val (.int (1 : Int32)), .val (.int (1 : Int32)), .unset] []) t → Steps p.tables e below SE t := by
    intro t k
    refine K36 _ ?_
    refine XS.icmpNo X34.here hx rfl (hb hby at_115) rfl (XT.ii_ne_f hf2) ?_
    show own_S p e below T34 (mkF m 118 #[.val (.long q0), .second, .val (.long q1), .second, .val (.long q2), .second, .val (.int p3), .val (.long vt), .second, .val (.long vk), .second, .val (.long vs), .second, .val (.ref b20), .val (.int ex), .val (.int (1 : Int32)), .unset, .unset] []) _
    refine XS.iconst X34.here hx rfl (hb hby at_118) ?_
    show own_S p e below T34 (mkF m 119 #[.val (.long q0), .second, .val (.long q1), .second, .val (.long q2), .second, .val (.int p3), .val (.long vt), .second, .val (.long vk), .second, .val (.long vs), .second, .val (.ref b20), .val (.int ex), .val (.int (1 : Int32)), .unset, .unset] [(.int (1 : Int32))]) _
    refine XS.goto X34.here hx rfl (pc0 := 119) (pc' := 123) rfl (hb hby at_119) (by decide) (by decide) ?_
    show own_S p e below T34 (mkF m 123 #[.val (.long q0), .second, .val (.long q1), .second, .val (.long q2), .second, .val (.int p3), .val (.long vt), .second, .val (.long vk), .second, .val (.long vs), .second, .val (.ref b20), .val (.int ex), .val (.int (1 : Int32)), .unset, .unset] [(.int (1 : Int32))]) _
    refine XS.istore X34.here hx rfl (hb hby at_123) rfl (l' := #[.val (.long q0), .second, .val (.long q1), .second, .val (.long q2), .second, .val (.int p3), .val (.long vt), .second, .val (.long vk), .second, .val (.long vs), .second, .val (.ref b20), .val (.int ex), .val (.int (1 : Int32)), .val (.int (1 : Int32)), .unset]) rfl ?_
    exact k
  obtain ⟨T42, X42, e42, st42⟩ := getS2 X34 hx hZ hown (host := "") (Or.inl (hw _ (List.mem_of_getElem? (i := 30) rfl))) Via.refl e34 (ST_NONE.ext (own_ext Kp33)) (g := (mkF m 125 #[.val (.long q0), .second, .val (.long q1), .second, .val (.long q2), .second, .val (.int p3), .val (.long vt), .second, .val (.long vk), .second, .val (.long vs), .second, .val (.ref b20), .val (.int ex), .val (.int (1 : Int32)), .val (.int (1 : Int32)), .unset] [])) rfl (hb hby at_125)
  have K42 : ∀ t, own_S p e below T42 (mkF m 128 #[.val (.long q0), .second, .val (.long q1), .second, .val (.long q2), .second, .val (.int p3), .val (.long vt), .second, .val (.long vk), .second, .val (.long vs), .second, .val (.ref b20), .val (.int ex), .val (.int (1 : Int32)), .val (.int (1 : Int32)), .unset] [(.ref oNONE)]) t → Steps p.tables e below SE t := fun t k => K41 _ (st42 _ k)
  obtain ⟨cq43, kq43, q43a, q43b, q43c⟩ := isOf hZ e42 (EX_oNONE.ext (own_ext Kp33))
  obtain ⟨_, _, ⟨T43, L43, k43, n43⟩, -, X43, ⟨Lc43, hQ43, l43, y43, z43⟩, st43⟩ := X42.virtualBack hx (y := (⟨"com/example/convene/convene/server/ReplyBytes", "none", "()Z"⟩ : MethodName)) (z := (⟨"com/example/convene/convene/server/ReplyBytes", "none", "()Z"⟩ : MethodName)) hown (mvT hZ (hw _ (List.mem_of_getElem? (i := 20) rfl))) (mvT hZ (hw _ (List.mem_of_getElem? (i := 21) rfl))) (notFace_of_selects (args := #[]) (mvT hZ (hw _ (List.mem_of_getElem? (i := 23) rfl)))) (mvT hZ (hw _ (List.mem_of_getElem? (i := 23) rfl))) (mvT hZ (hw _ (List.mem_of_getElem? (i := 22) rfl))) (by decide) (backOf (W := 0) (rm4 l Z a0 hw [] oNONE (0 : Int64) (0 : Int64) (0 : Int64) T33.heap n0 (Nat.le_trans Z0 Kp33.1) (FL_oNONE_total.ext (own_ext Kp33)) (FL_oNONE_copied.ext (own_ext Kp33)) (FL_oNONE_shared.ext (own_ext Kp33))) hZ (hw _ (List.mem_of_getElem? (i := 24) rfl)) (hw _ (List.mem_of_getElem? (i := 2) rfl)) (by decide) (by decide)) q43a q43c (g := (mkF m 128 #[.val (.long q0), .second, .val (.long q1), .second, .val (.long q2), .second, .val (.int p3), .val (.long vt), .second, .val (.long vk), .second, .val (.long vs), .second, .val (.ref b20), .val (.int ex), .val (.int (1 : Int32)), .val (.int (1 : Int32)), .unset] [(.ref oNONE)])) rfl (by rw [hml]; rfl) (Steps.refl _) (argsL := []) (rest := []) (lenOf pd_0_1 rfl) rfl (by show 2 * 0 + _ ≤ _; exact Nat.le_of_eq rfl) (hb hby at_128) (fun _ _ => ⟨rfl, e42, (by decide : 2 + 0 ≤ _), (by decide : 6 + 0 ≤ _)⟩)
  dsimp only [Pt.U, Pt.locs, Pt.cells, Pt.slots] at X43 l43 y43 z43 st43 hQ43
  subst l43 y43 z43
  obtain ⟨rfl, Nq43, e43⟩ := hQ43
  have N43 := Fr.app N34 Nq43
  have K43 : ∀ t, own_S p e below T43 (mkF m 131 #[.val (.long q0), .second, .val (.long q1), .second, .val (.long q2), .second, .val (.int p3), .val (.long vt), .second, .val (.long vk), .second, .val (.long vs), .second, .val (.ref b20), .val (.int ex), .val (.int (1 : Int32)), .val (.int (1 : Int32)), .unset] [(.int (if (0 : Int64) = (0 : Int64) then (if (0 : Int64) = (0 : Int64) then (if (0 : Int64) = (0 : Int64) then (1 : Int32) else (0 : Int32)) else (0 : Int32)) else (0 : Int32)))]) t → Steps p.tables e below SE t := fun t k => K42 _ (st43.trans k)
  have K44 : ∀ t, own_S p e below T43 (mkF m 153 #[.val (.long q0), .second, .val (.long q1), .second, .val (.long q2), .second, .val (.int p3), .val (.long vt), .second, .val (.long vk), .second, .val (.long vs), .second, .val (.ref b20), .val (.int ex), .val (.int (1 : Int32)), .val (.int (1 : Int32)), .val (.int (if (0 : Int64) = (0 : Int64) then (if (0 : Int64) = (0 : Int64) then (if (0 : Int64) = (0 : Int64) then (1 : Int32) else (0 : Int32)) else (0 : Int32)) else (0 : Int32)))] [(.int (1 : Int32))]) t → Steps p.tables e below SE t := by
    intro t k
    refine K43 _ ?_
    refine XS.istore X43.here hx rfl (hb hby at_131) rfl (l' := #[.val (.long q0), .second, .val (.long q1), .second, .val (.long q2), .second, .val (.int p3), .val (.long vt), .second, .val (.long vk), .second, .val (.long vs), .second, .val (.ref b20), .val (.int ex), .val (.int (1 : Int32)), .val (.int (1 : Int32)), .val (.int (if (0 : Int64) = (0 : Int64) then (if (0 : Int64) = (0 : Int64) then (if (0 : Int64) = (0 : Int64) then (1 : Int32) else (0 : Int32)) else (0 : Int32)) else (0 : Int32)))]) rfl ?_
    show own_S p e below T43 (mkF m 133 #[.val (.long q0), .second, .val (.long q1), .second, .val (.long q2), .second, .val (.int p3), .val (.long vt), .second, .val (.long vk), .second, .val (.long vs), .second, .val (.ref b20), .val (.int ex), .val (.int (1 : Int32)), .val (.int (1 : Int32)), .val (.int (if (0 : Int64) = (0 : Int64) then (if (0 : Int64) = (0 : Int64) then (if (0 : Int64) = (0 : Int64) then (1 : Int32) else (0 : Int32)) else (0 : Int32)) else (0 : Int32)))] []) _
    refine XS.iload X43.here hx rfl (hb hby at_133) rfl ?_
    show own_S p e below T43 (mkF m 135 #[.val (.long q0), .second, .val (.long q1), .second, .val (.long q2), .second, .val (.int p3), .val (.long vt), .second, .val (.long vk), .second, .val (.long vs), .second, .val (.ref b20), .val (.int ex), .val (.int (1 : Int32)), .val (.int (1 : Int32)), .val (.int (if (0 : Int64) = (0 : Int64) then (if (0 : Int64) = (0 : Int64) then (if (0 : Int64) = (0 : Int64) then (1 : Int32) else (0 : Int32)) else (0 : Int32)) else (0 : Int32)))] [(.int (1 : Int32))]) _
    refine XS.ifNo X43.here hx rfl (hb hby at_135) rfl (XT.i0_eq_f (by decide : ¬ ((1 : Int32) = 0))) ?_
    show own_S p e below T43 (mkF m 138 #[.val (.long q0), .second, .val (.long q1), .second, .val (.long q2), .second, .val (.int p3), .val (.long vt), .second, .val (.long vk), .second, .val (.long vs), .second, .val (.ref b20), .val (.int ex), .val (.int (1 : Int32)), .val (.int (1 : Int32)), .val (.int (if (0 : Int64) = (0 : Int64) then (if (0 : Int64) = (0 : Int64) then (if (0 : Int64) = (0 : Int64) then (1 : Int32) else (0 : Int32)) else (0 : Int32)) else (0 : Int32)))] []) _
    refine XS.iload X43.here hx rfl (hb hby at_138) rfl ?_
    show own_S p e below T43 (mkF m 140 #[.val (.long q0), .second, .val (.long q1), .second, .val (.long q2), .second, .val (.int p3), .val (.long vt), .second, .val (.long vk), .second, .val (.long vs), .second, .val (.ref b20), .val (.int ex), .val (.int (1 : Int32)), .val (.int (1 : Int32)), .val (.int (if (0 : Int64) = (0 : Int64) then (if (0 : Int64) = (0 : Int64) then (if (0 : Int64) = (0 : Int64) then (1 : Int32) else (0 : Int32)) else (0 : Int32)) else (0 : Int32)))] [(.int (1 : Int32))]) _
    refine XS.ifNo X43.here hx rfl (hb hby at_140) rfl (XT.i0_eq_f (by decide : ¬ ((1 : Int32) = 0))) ?_
    show own_S p e below T43 (mkF m 143 #[.val (.long q0), .second, .val (.long q1), .second, .val (.long q2), .second, .val (.int p3), .val (.long vt), .second, .val (.long vk), .second, .val (.long vs), .second, .val (.ref b20), .val (.int ex), .val (.int (1 : Int32)), .val (.int (1 : Int32)), .val (.int (if (0 : Int64) = (0 : Int64) then (if (0 : Int64) = (0 : Int64) then (if (0 : Int64) = (0 : Int64) then (1 : Int32) else (0 : Int32)) else (0 : Int32)) else (0 : Int32)))] []) _
    refine XS.iload X43.here hx rfl (hb hby at_143) rfl ?_
    show own_S p e below T43 (mkF m 145 #[.val (.long q0), .second, .val (.long q1), .second, .val (.long q2), .second, .val (.int p3), .val (.long vt), .second, .val (.long vk), .second, .val (.long vs), .second, .val (.ref b20), .val (.int ex), .val (.int (1 : Int32)), .val (.int (1 : Int32)), .val (.int (if (0 : Int64) = (0 : Int64) then (if (0 : Int64) = (0 : Int64) then (if (0 : Int64) = (0 : Int64) then (1 : Int32) else (0 : Int32)) else (0 : Int32)) else (0 : Int32)))] [(.int (if (0 : Int64) = (0 : Int64) then (if (0 : Int64) = (0 : Int64) then (if (0 : Int64) = (0 : Int64) then (1 : Int32) else (0 : Int32)) else (0 : Int32)) else (0 : Int32)))]) _
    refine XS.ifNo X43.here hx rfl (hb hby at_145) rfl (XT.i0_eq_f own_e3) ?_
    show own_S p e below T43 (mkF m 148 #[.val (.long q0), .second, .val (.long q1), .second, .val (.long q2), .second, .val (.int p3), .val (.long vt), .second, .val (.long vk), .second, .val (.long vs), .second, .val (.ref b20), .val (.int ex), .val (.int (1 : Int32)), .val (.int (1 : Int32)), .val (.int (if (0 : Int64) = (0 : Int64) then (if (0 : Int64) = (0 : Int64) then (if (0 : Int64) = (0 : Int64) then (1 : Int32) else (0 : Int32)) else (0 : Int32)) else (0 : Int32)))] []) _
    refine XS.iconst X43.here hx rfl (hb hby at_148) ?_
    show own_S p e below T43 (mkF m 149 #[.val (.long q0), .second, .val (.long q1), .second, .val (.long q2), .second, .val (.int p3), .val (.long vt), .second, .val (.long vk), .second, .val (.long vs), .second, .val (.ref b20), .val (.int ex), .val (.int (1 : Int32)), .val (.int (1 : Int32)), .val (.int (if (0 : Int64) = (0 : Int64) then (if (0 : Int64) = (0 : Int64) then (if (0 : Int64) = (0 : Int64) then (1 : Int32) else (0 : Int32)) else (0 : Int32)) else (0 : Int32)))] [(.int (1 : Int32))]) _
    refine XS.goto X43.here hx rfl (pc0 := 149) (pc' := 153) rfl (hb hby at_149) (by decide) (by decide) ?_
    exact k
  obtain ⟨fs, hr, hrun, hended, hW, hsame⟩ := X43.leave (v := some (.int (1 : Int32))) (fun h => by rw [Bd.returns] at h; cases h)
  refine ⟨_, _, K44 _ ?_, hrun, hended, _, _, rfl, ?_, ⟨_, rfl⟩, hW, hsame.mono (by decide) (by decide)⟩
  · exact retN X43 hx (t := .boolean) Bd.returns (by simp) (hb hby at_153) hr
  · show Q0 Z q0 q1 q2 p3 oNONE h0 n0 _ T43.heap _
    rw [e43]
    exact ⟨rfl, N43⟩
set_option maxRecDepth 65536 in
set_option maxHeartbeats 40000000 in
theorem comes_1 {Post : Tables → Env → Array Value → State → Outcome → State → Prop} (hpost : ∀ tb e args s v u, (limb_1_1.after args s (.returned v) u = true ∧ limb_1_2.after args s (.returned v) u = true ∧ True) → FrameEnd s (.returned v) u (Jvm.fieldLocs frame_1_writes args s ++ Jvm.arrayLocs frame_1_arrays args s ++ Jvm.staticLocs frame_1_statics s) 16 128 → Post tb e args s (.returned v) u) :
    ArmFor flags0 classFile x code maxLocals ret World_1 tables_1 room_1 Calls_1 rest_1 Pre_1 Post := by
  intro l hfl _ _ p e ha hc hk s m args below hf hA hF happ hP
  obtain ⟨hcalls, hrest, hpre⟩ := hP
  obtain ⟨-, -, -, hnamed, -, -, -, hat⟩ := (Spec.applies_iff hf).mp happ
  obtain ⟨hg, hn⟩ := and_e (Cond.before_iff.mp (show (Jvm.Cond.and given_1 narrow_1).before args s = true from hpre))
  obtain ⟨hcount, hg0⟩ := and_e hg
  obtain ⟨ha0, hg1⟩ := and_e hg0
  obtain ⟨ha1, hg2⟩ := and_e hg1
  obtain ⟨ha2, hg3⟩ := and_e hg2
  obtain ⟨w0, w1, w2, w3, rfl⟩ : ∃ w0 w1 w2 w3 : Value, args = #[w0, w1, w2, w3] := by
    have hs : args.size = 4 := by simpa [Cond.value, given_1] using hcount
    obtain ⟨L⟩ := args
    match L, hs with
    | [w0, w1, w2, w3], _ => exact ⟨w0, w1, w2, w3, rfl⟩
  have hw := fun d (hd : d ∈ tables_1) => atoms_spec (ws := Jvm.Cond.code x code maxLocals ret :: tables_1) hat d (List.mem_cons_of_mem _ hd)
  have hfit : Fit s := fun {y c} hc i hi => by
    obtain ⟨ha, rfl⟩ := Array.getElem?_eq_some_iff.mp hc
    have q := List.all_eq_true.mp ((Array.all_eq_true_iff_forall_mem.mp hF) _ (Array.getElem_mem ha)) i (List.mem_range.mpr hi)
    simpa [Array.getElem?_eq_getElem hi] using q
  obtain ⟨i0, ei0⟩ := isL_v ha0
  obtain rfl : w0 = (.long i0) := Option.some.inj ei0
  obtain ⟨i1, ei1⟩ := isL_v ha1
  obtain rfl : w1 = (.long i1) := Option.some.inj ei1
  obtain ⟨i2, ei2⟩ := isL_v ha2
  obtain rfl : w2 = (.long i2) := Option.some.inj ei2
  obtain ⟨i3, ei3⟩ := is_v hg3
  obtain rfl : w3 = (.int i3) := Option.some.inj ei3
  obtain ⟨hc0, hcr0⟩ := and_e hn
  obtain ⟨hc1, hcr1⟩ := and_e hcr0
  obtain ⟨hc2, hcr2⟩ := and_e hcr1
  obtain ⟨oNONE, ev_oNONE⟩ := exa_v hc0
  have ST_NONE : Sta s s.heap "com/example/convene/convene/server/ReplyBytes" "NONE" "Lcom/example/convene/convene/server/ReplyBytes;" (.ref oNONE) := Sta.start ev_oNONE (Or.inr ⟨(hw _ (List.mem_of_getElem? (i := 2) rfl)), (hw _ (List.mem_of_getElem? (i := 31) rfl))⟩)
  have EX_oNONE : Exa s s.heap oNONE "com/example/convene/convene/server/ReplyBytes" := Exa.start ev_oNONE hc0
  have evn1 := own_eqJ hc1
  have FL_oNONE_total : Fld s s.heap oNONE "com/example/convene/convene/server/ReplyBytes" "total" "J" (.long (0 : Int64)) := Fld.start ((fld_at ev_oNONE).symm.trans evn1)
  have evn2 := own_eqJ hc2
  have FL_oNONE_copied : Fld s s.heap oNONE "com/example/convene/convene/server/ReplyBytes" "copied" "J" (.long (0 : Int64)) := Fld.start ((fld_at ev_oNONE).symm.trans evn2)
  have evn3 := own_eqJ hcr2
  have FL_oNONE_shared : Fld s s.heap oNONE "com/example/convene/convene/server/ReplyBytes" "shared" "J" (.long (0 : Int64)) := Fld.start ((fld_at ev_oNONE).symm.trans evn3)
  obtain ⟨n, o, h1, h2, h3, _, L, rfl, ⟨rfl, N⟩, hq⟩ := rm0 l s _ hw tables_1 i0 i1 i2 i3 oNONE s.heap s.heap.size (Nat.le_refl _) ST_NONE EX_oNONE FL_oNONE_total FL_oNONE_copied FL_oNONE_shared p e ha hc hk s m _ below hf ((Spec.applies_iff_loose hf).mp happ).1 ⟨rfl, State.Warmed39.refl s, rfl⟩ trivial
  refine ⟨n, _, h1, h2, h3, hpost _ _ _ _ _ _ ⟨Cond.after_iff.mpr rfl, Cond.after_iff.mpr (eq_i res_at (Term.int_eval (1)) rfl), trivial⟩ ⟨hq.1, hq.2.1, (hq.2.2.sift fun y hy => Or.inr (N y hy)).mono (by decide) (by decide)⟩⟩
theorem main_1_1 : Claimed_1_1 := comes_1 fun _ _ _ _ _ _ h hF => ⟨h.1, hF⟩
theorem main_1_2 : Claimed_1_2 := comes_1 fun _ _ _ _ _ _ h hF => ⟨h.2.1, hF⟩
end Jvm.Pilot.@@N@@
namespace Jvm.Pilot.@@N@@
open Jvm Jvm.ClassFile Sem Op Lib Jvm.Free Jvm.Stand Jvm.Pilot.@@N@@.Jvm.D
/-! MADE BY PROGRAM (witnessworld.py) out of the Statement's table words and the real class files: 10 classes; the members and pool entries that the words name. The judged class is class 1, her method 1. -/
namespace start1
open Jvm.ClassFile
def u (s : String) : CpInfo := .utf8 (stringToUtf16 s)
/-- a pool by its gaps: so many unusable entries, then the entry; so many at the end -/
def gap : Nat → List CpInfo → List CpInfo
  | 0, r => r
  | n + 1, r => .unusable :: gap n r
def poolList (es : List (Nat × CpInfo)) (last : Nat) : List CpInfo := es.foldr (fun e r => gap e.1 (e.2 :: r)) (gap last [])
def pool (es : List (Nat × CpInfo)) (last : Nat) : Array CpInfo := ⟨poolList es last⟩
def fileOf (pool : Array CpInfo) (this : Nat) (attrs : Array Attribute := #[]) (ms : Array MethodInfo := #[]) (fl : Nat := 33) (sup : Nat := 0) (ifs : Array Nat := #[]) (fds : Array FieldInfo := #[]) : ClassFile where
  minorVersion := 0
  majorVersion := 65
  constantPool := pool
  accessFlags := fl
  thisClass := this
  superClass := sup
  interfaces := ifs
  fields := fds
  methods := ms
  attributes := attrs
def plain (name : String) (sup : Option ClassId) : Class where
  name := name
  kind := .ordinary
  loader := none
  accessFlags := 33
  super := sup
  interfaces := #[]
  cf := none
  fields := #[]
  methods := #[]
  instanceTypes := #[]
  staticTypes := #[]
  resolved := #[]
  callSites := []
  init := .initialized
  statics := none
  mirror := none

def pool0 : Array CpInfo := pool [(5, u "<init>"), (0, u "()V"), (1, .class_ 10), (1, u "java/lang/Object")] 113

def k0c0 : Code := { maxStack := 0, maxLocals := 1, code := object_method_1_code, exceptionTable := #[], attributes := #[] }
def k0m0 : Method := { name := "<init>", desc := "()V", sig := { parameters := [], returnType := none }, accessFlags := 1, code := some k0c0 }
/-- java/lang/Object -/
def k0 : Class := { plain "java/lang/Object" none with
  accessFlags := 33
  interfaces := #[]
  cf := some (fileOf pool0 8 #[] #[{ accessFlags := 1, nameIndex := 5, descriptorIndex := 6, attributes := #[] }] 33 0 #[] #[])
  fields := #[]
  methods := #[k0m0]
  instanceTypes := #[]
  staticTypes := #[]
  resolved := Array.replicate 124 none
  statics := none }

def pool1 : Array CpInfo := pool [(2, .class_ 4), (1, u "java/lang/Object"), (0, u "<init>"), (0, u "()V"), (0, .class_ 8), (0, u "com/example/convene/convene/server/ReplyBytes"), (0, .methodref 7 10), (0, .nameAndType 5 11), (0, u "(JJJ)V"), (0, .methodref 7 13), (0, .nameAndType 14 15), (0, u "none"), (0, u "()Z"), (0, .methodref 7 17), (0, .nameAndType 18 19), (0, u "copies"), (0, u "(J)Lcom/example/convene/convene/server/ReplyBytes;"), (0, .fieldref 7 21), (0, .nameAndType 22 23), (0, u "NONE"), (0, u "Lcom/example/convene/convene/server/ReplyBytes;"), (0, .class_ 25), (0, u "com/example/convene/convene/server/ReplyBytesNonePinLaw"), (2, u "law"), (0, u "(JJJI)Z")] 3

def k1m0 : Method := { name := "<init>", desc := "()V", sig := { parameters := [], returnType := none }, accessFlags := 1, code := none }
def k1c1 : Code := { maxStack := 8, maxLocals := 18, code := code, exceptionTable := #[], attributes := #[] }
def k1m1 : Method := { name := "law", desc := "(JJJI)Z", sig := { parameters := [.long, .long, .long, .int], returnType := some .boolean }, accessFlags := 9, code := some k1c1 }
/-- com/example/convene/convene/server/ReplyBytesNonePinLaw -/
def k1 : Class := { plain "com/example/convene/convene/server/ReplyBytesNonePinLaw" (some 0) with
  accessFlags := 49
  interfaces := #[]
  cf := some (fileOf pool1 24 #[] #[{ accessFlags := 1, nameIndex := 5, descriptorIndex := 6, attributes := #[] }, { accessFlags := 9, nameIndex := 28, descriptorIndex := 29, attributes := #[] }] 49 2 #[] #[])
  fields := #[]
  methods := #[k1m0, k1m1]
  instanceTypes := #[]
  staticTypes := #[]
  resolved := Array.replicate 33 none
  statics := none }

def pool2 : Array CpInfo := pool [(1, .methodref 2 3), (0, .class_ 4), (0, .nameAndType 5 6), (0, u "java/lang/Object"), (0, u "<init>"), (0, u "()V"), (0, .class_ 8), (0, u "java/lang/Record")] 13

def k2c0 : Code := { maxStack := 1, maxLocals := 1, code := jdk_30_method_1_code, exceptionTable := #[], attributes := #[] }
def k2m0 : Method := { name := "<init>", desc := "()V", sig := { parameters := [], returnType := none }, accessFlags := 4, code := some k2c0 }
/-- java/lang/Record -/
def k2 : Class := { plain "java/lang/Record" (some 0) with
  accessFlags := 1057
  interfaces := #[]
  cf := some (fileOf pool2 7 #[] #[{ accessFlags := 4, nameIndex := 5, descriptorIndex := 6, attributes := #[] }] 1057 2 #[] #[])
  fields := #[]
  methods := #[k2m0]
  instanceTypes := #[]
  staticTypes := #[]
  resolved := Array.replicate 22 none
  statics := none }

def pool3 : Array CpInfo := pool [(1, .methodref 2 3), (0, .class_ 4), (0, .nameAndType 5 6), (0, u "java/lang/Record"), (0, u "<init>"), (0, u "()V"), (0, .fieldref 8 9), (0, .class_ 10), (0, .nameAndType 11 12), (0, u "com/example/convene/convene/server/ReplyBytes"), (0, u "total"), (0, u "J"), (0, .fieldref 8 14), (0, .nameAndType 15 12), (0, u "copied"), (0, .fieldref 8 17), (0, .nameAndType 18 12), (0, u "shared"), (0, .methodref 8 20), (0, .nameAndType 5 21), (0, u "(JJJ)V"), (14, u "NONE"), (0, u "Lcom/example/convene/convene/server/ReplyBytes;"), (3, u "none"), (0, u "()Z"), (1, u "copies"), (0, u "(J)Lcom/example/convene/convene/server/ReplyBytes;")] 27

def k3c0 : Code := { maxStack := 3, maxLocals := 7, code := prog_62_method_1_code, exceptionTable := #[], attributes := #[] }
def k3m0 : Method := { name := "<init>", desc := "(JJJ)V", sig := { parameters := [.long, .long, .long], returnType := none }, accessFlags := 0, code := some k3c0 }
def k3c1 : Code := { maxStack := 4, maxLocals := 1, code := prog_62_method_2_code, exceptionTable := #[], attributes := #[] }
def k3m1 : Method := { name := "none", desc := "()Z", sig := { parameters := [], returnType := some .boolean }, accessFlags := 0, code := some k3c1 }
def k3c2 : Code := { maxStack := 8, maxLocals := 2, code := prog_62_method_3_code, exceptionTable := #[], attributes := #[] }
def k3m2 : Method := { name := "copies", desc := "(J)Lcom/example/convene/convene/server/ReplyBytes;", sig := { parameters := [.long], returnType := some (.object "com/example/convene/convene/server/ReplyBytes") }, accessFlags := 8, code := some k3c2 }
/-- com/example/convene/convene/server/ReplyBytes -/
def k3 : Class := { plain "com/example/convene/convene/server/ReplyBytes" (some 2) with
  accessFlags := 48
  interfaces := #[]
  cf := some (fileOf pool3 8 #[] #[{ accessFlags := 0, nameIndex := 5, descriptorIndex := 21, attributes := #[] }, { accessFlags := 0, nameIndex := 41, descriptorIndex := 42, attributes := #[] }, { accessFlags := 8, nameIndex := 44, descriptorIndex := 45, attributes := #[] }] 48 2 #[] #[{ accessFlags := 18, nameIndex := 11, descriptorIndex := 12, attributes := #[] }, { accessFlags := 18, nameIndex := 15, descriptorIndex := 12, attributes := #[] }, { accessFlags := 18, nameIndex := 18, descriptorIndex := 12, attributes := #[] }, { accessFlags := 24, nameIndex := 36, descriptorIndex := 37, attributes := #[] }])
  fields := #[{ name := "total", type := .long, accessFlags := 18, slot := 0, constantValue := 0 }, { name := "copied", type := .long, accessFlags := 18, slot := 1, constantValue := 0 }, { name := "shared", type := .long, accessFlags := 18, slot := 2, constantValue := 0 }, { name := "NONE", type := (.object "com/example/convene/convene/server/ReplyBytes"), accessFlags := 24, slot := 0, constantValue := 0 }]
  methods := #[k3m0, k3m1, k3m2]
  instanceTypes := #[.long, .long, .long]
  staticTypes := #[(.object "com/example/convene/convene/server/ReplyBytes")]
  resolved := Array.replicate 73 none
  statics := some 0 }

def pool4 : Array CpInfo := pool [(1, u "java/lang/Cloneable"), (0, .class_ 1), (0, u "java/lang/Object"), (0, .class_ 3)] 3

/-- java/lang/Cloneable -/
def k4 : Class := { plain "java/lang/Cloneable" (some 0) with
  accessFlags := 1537
  interfaces := #[]
  cf := some (fileOf pool4 2 #[] #[] 1537 4 #[] #[])
  fields := #[]
  methods := #[]
  instanceTypes := #[]
  staticTypes := #[]
  resolved := Array.replicate 8 none
  statics := none }

def pool5 : Array CpInfo := pool [(1, u "java/io/Serializable"), (0, .class_ 1), (0, u "java/lang/Object"), (0, .class_ 3)] 3

/-- java/io/Serializable -/
def k5 : Class := { plain "java/io/Serializable" (some 0) with
  accessFlags := 1537
  interfaces := #[]
  cf := some (fileOf pool5 2 #[] #[] 1537 4 #[] #[])
  fields := #[]
  methods := #[]
  instanceTypes := #[]
  staticTypes := #[]
  resolved := Array.replicate 8 none
  statics := none }

/-- the primitive byte -/
def k6 : Class := { plain "byte" none with kind := .primitive 'B', accessFlags := 0x411 }
/-- [B -/
def k7 : Class := { plain "[B" (some 0) with kind := .array 6 .byte, interfaces := #[4, 5], accessFlags := 1041 }

/-- the primitive int -/
def k8 : Class := { plain "int" none with kind := .primitive 'I', accessFlags := 0x411 }
/-- [I -/
def k9 : Class := { plain "[I" (some 0) with kind := .array 8 .int, interfaces := #[4, 5], accessFlags := 1041 }

def heap : Heap := #[{ cls := 3, slots := #[.ref 1], vm := .statics 3 },
  { cls := 3, slots := #[.long 0, .long 0, .long 0], vm := .none }]
def classes : Array Class := #[k0, k1, k2, k3, k4, k5, k6, k7, k8, k9]
def interned : List (Array UInt16 × Addr) := []
def slotsUsed : Nat := 4
def theMethod : MethodId := ⟨1, 1⟩
def args0 : Array Value := #[.long 5, .long 7, .long 9, .int 1]
def aboutOver (below : List Frame) : State where
  vm := { classes := classes, interned := interned.toArray }
  heap := heap
  slotsUsed := slotsUsed
  threads := #[{ frames := .invoking theMethod args0 :: below }]
def below0 : List Frame := [.native { method := ⟨0, 0⟩, args := #[] }]
def about1 : State := aboutOver below0
def p0 : Program := .bare "" "" ""
def e0 : Env := launch0.env 0 0 0
theorem w_frames : about1.frames = Frame.invoking theMethod args0 :: below0 := rfl
set_option maxRecDepth 65536 in
theorem w_args : argsFit about1.vm theMethod args0 = true := by decide +kernel
set_option maxRecDepth 65536 in
theorem w_heap : heapFits about1 = true := by decide +kernel
set_option maxRecDepth 65536 in
theorem w_runnable : about1.curStatus? = some .runnable := by decide +kernel
set_option maxRecDepth 65536 in
theorem w_alone : about1.alone = true := by decide +kernel
set_option maxRecDepth 65536 in
theorem w_named : about1.methodNamed? x = some theMethod := by decide +kernel
set_option maxRecDepth 65536 in
theorem w_hears : about1.hears theMethod below0 = true := by decide +kernel
set_option maxRecDepth 65536 in
theorem w_ripe : about1.ripe theMethod args0 below0 = true := by decide +kernel
theorem w_running : about1.status = .running := rfl
set_option maxRecDepth 65536 in
theorem w_room : about1.hasRoom e0.platform room_1 = true :=
  launch0.hasRoom_least _ room_1 (by decide +kernel) (by decide +kernel) (by decide +kernel) (by decide +kernel) (by decide +kernel) (by decide +kernel)
theorem allAtoms_all (ts : List Jvm.Cond) (a : Array Jvm.Value) (st : Jvm.State) : (allAtoms ts).before a st = ts.all (fun c => c.before a st) := by
  induction ts with
  | nil => rfl
  | cons c t ih =>
    show (Jvm.Cond.and c (allAtoms t)).before a st = _
    rw [Jvm.Cond.before_and, ih, List.all_cons]
def words1 : List Jvm.Cond := Jvm.Cond.code x code maxLocals ret :: tables_1
/-- a 'code' word, met by the world's own term for the bytes: nothing is compared byte by byte -/
theorem code_word {y : MethodName} {bytes : ByteArray} {mx : Nat} {rt : Option FieldType} {a : Array Value} {s : State} {m : MethodId} {meth : Method} {c : Code} (h1 : s.methodNamed? y = some m) (h2 : s.vm.method? m = some meth) (h3 : meth.code = some c) (h4 : c.code = bytes)
    (h5 : (c.maxLocals == mx && c.exceptionTable.isEmpty && decide (c.maxStack ≤ mostOperands) && decide (meth.sig.returnType = rt) && !meth.locks && decide (parseMethodDescriptor y.desc = some meth.sig)) = true) : (Jvm.Cond.code y bytes mx rt).before a s = true := by
  simp only [Bool.and_eq_true, beq_iff_eq, Bool.not_eq_true', decide_eq_true_eq] at h5
  obtain ⟨⟨⟨⟨⟨g1, g2⟩, g3⟩, g4⟩, g5⟩, g6⟩ := h5
  simp [Cond.before, Cond.holds, Cond.value, h1, h2, h3, h4, g1, g2, g3, g4, g5, g6]
def isCode : Jvm.Cond → Bool
  | .code _ _ _ _ => true
  | _ => false
theorem all_split {L : List Jvm.Cond} {P : Jvm.Cond → Bool} (h1 : L.all (fun c => isCode c || P c) = true) (h2 : ∀ c ∈ L.filter isCode, P c = true) : L.all P = true := by
  refine List.all_eq_true.mpr fun c hc => ?_
  have h := List.all_eq_true.mp h1 c hc
  rcases Bool.eq_false_or_eq_true (isCode c) with hi | hi
  · exact h2 c (List.mem_filter.mpr ⟨hc, hi⟩)
  · simpa [hi] using h
set_option maxRecDepth 65536 in
theorem w_c0 : (Jvm.Cond.code x code maxLocals ret).before args0 about1 = true := code_word (m := ⟨1, 1⟩) (meth := k1m1) (c := k1c1) (by decide +kernel) rfl rfl rfl (by decide +kernel)
set_option maxRecDepth 65536 in
theorem w_c1 : (Jvm.Cond.code ({ cls := "com/example/convene/convene/server/ReplyBytes", name := "<init>", desc := "(JJJ)V" } : Jvm.MethodName) prog_62_method_1_code (7 : Nat) (Option.none : Option Jvm.ClassFile.FieldType)).before args0 about1 = true := code_word (m := ⟨3, 0⟩) (meth := k3m0) (c := k3c0) (by decide +kernel) rfl rfl rfl (by decide +kernel)
set_option maxRecDepth 65536 in
theorem w_c2 : (Jvm.Cond.code ({ cls := "java/lang/Record", name := "<init>", desc := "()V" } : Jvm.MethodName) jdk_30_method_1_code (1 : Nat) (Option.none : Option Jvm.ClassFile.FieldType)).before args0 about1 = true := code_word (m := ⟨2, 0⟩) (meth := k2m0) (c := k2c0) (by decide +kernel) rfl rfl rfl (by decide +kernel)
set_option maxRecDepth 65536 in
theorem w_c3 : (Jvm.Cond.code ({ cls := "java/lang/Object", name := "<init>", desc := "()V" } : Jvm.MethodName) object_method_1_code (1 : Nat) (Option.none : Option Jvm.ClassFile.FieldType)).before args0 about1 = true := code_word (m := ⟨0, 0⟩) (meth := k0m0) (c := k0c0) (by decide +kernel) rfl rfl rfl (by decide +kernel)
set_option maxRecDepth 65536 in
theorem w_c4 : (Jvm.Cond.code ({ cls := "com/example/convene/convene/server/ReplyBytes", name := "none", desc := "()Z" } : Jvm.MethodName) prog_62_method_2_code (1 : Nat) (Option.some Jvm.ClassFile.FieldType.boolean)).before args0 about1 = true := code_word (m := ⟨3, 1⟩) (meth := k3m1) (c := k3c1) (by decide +kernel) rfl rfl rfl (by decide +kernel)
set_option maxRecDepth 65536 in
theorem w_c5 : (Jvm.Cond.code ({ cls := "com/example/convene/convene/server/ReplyBytes", name := "copies", desc := "(J)Lcom/example/convene/convene/server/ReplyBytes;" } : Jvm.MethodName) prog_62_method_3_code (2 : Nat) (Option.some (Jvm.ClassFile.FieldType.object "com/example/convene/convene/server/ReplyBytes"))).before args0 about1 = true := code_word (m := ⟨3, 2⟩) (meth := k3m2) (c := k3c2) (by decide +kernel) rfl rfl rfl (by decide +kernel)
def codes1 : List Jvm.Cond := [Jvm.Cond.code x code maxLocals ret, Jvm.Cond.code ({ cls := "com/example/convene/convene/server/ReplyBytes", name := "<init>", desc := "(JJJ)V" } : Jvm.MethodName) prog_62_method_1_code (7 : Nat) (Option.none : Option Jvm.ClassFile.FieldType), Jvm.Cond.code ({ cls := "java/lang/Record", name := "<init>", desc := "()V" } : Jvm.MethodName) jdk_30_method_1_code (1 : Nat) (Option.none : Option Jvm.ClassFile.FieldType), Jvm.Cond.code ({ cls := "java/lang/Object", name := "<init>", desc := "()V" } : Jvm.MethodName) object_method_1_code (1 : Nat) (Option.none : Option Jvm.ClassFile.FieldType), Jvm.Cond.code ({ cls := "com/example/convene/convene/server/ReplyBytes", name := "none", desc := "()Z" } : Jvm.MethodName) prog_62_method_2_code (1 : Nat) (Option.some Jvm.ClassFile.FieldType.boolean), Jvm.Cond.code ({ cls := "com/example/convene/convene/server/ReplyBytes", name := "copies", desc := "(J)Lcom/example/convene/convene/server/ReplyBytes;" } : Jvm.MethodName) prog_62_method_3_code (2 : Nat) (Option.some (Jvm.ClassFile.FieldType.object "com/example/convene/convene/server/ReplyBytes"))]
set_option maxRecDepth 65536 in
theorem codes_eq : words1.filter isCode = codes1 := rfl
theorem w_codes : ∀ c ∈ words1.filter isCode, c.before args0 about1 = true := by
  rw [codes_eq]
  intro c hc
  simp only [codes1, List.mem_cons, List.not_mem_nil, or_false] at hc
  rcases hc with rfl | rfl | rfl | rfl | rfl | rfl
  · exact w_c0
  · exact w_c1
  · exact w_c2
  · exact w_c3
  · exact w_c4
  · exact w_c5
set_option maxRecDepth 65536 in
theorem w_t1 : (words1.take 24).all (fun c => isCode c || c.before args0 about1) = true := by decide +kernel
set_option maxRecDepth 65536 in
theorem w_t2 : (words1.drop 24).all (fun c => isCode c || c.before args0 about1) = true := by decide +kernel
theorem w_tables : (allAtoms (Jvm.Cond.code x code maxLocals ret :: tables_1)).before args0 about1 = true := by
  rw [allAtoms_all]
  show words1.all (fun c => c.before args0 about1) = true
  refine all_split ?_ w_codes
  rw [← List.take_append_drop 24 words1, List.all_append, w_t1, w_t2]
  rfl
set_option maxRecDepth 65536 in
theorem w_case : (Jvm.Cond.and given_1 narrow_1).before args0 about1 = true := by decide +kernel
theorem w_applies : (headSpec (Jvm.Cond.code x code maxLocals ret :: tables_1) room_1).applies x e0.platform about1 = true :=
  (Spec.applies_iff w_frames).mpr ⟨w_running, w_runnable, w_alone, w_named, w_hears, w_ripe, w_room, w_tables⟩
theorem atStart : AtStart classFile x code maxLocals ret World_1 tables_1 room_1 Calls_1 rest_1 Pre_1 launch0 p0 e0 about1 theMethod args0 below0 :=
  ⟨lists_1, trivial, launch0.admits_env _ _ _, launch0.least_env, fairChoices_fair.cas, fairChoices_fair.clock, w_frames, w_args, w_heap, w_applies, trivial, trivial, w_case⟩
end start1
theorem witness_1 : WitnessClaimed_1 := ⟨start1.p0, start1.e0, start1.about1, start1.theMethod, start1.args0, start1.below0, start1.atStart⟩
end Jvm.Pilot.@@N@@
