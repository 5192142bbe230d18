import JvmDerived
import JvmDerived.Pilot.@@N@@Statement
import JvmDerived.Pilot.@@N@@Code
set_option linter.unusedVariables false
set_option linter.unusedSimpArgs false
namespace Jvm.RoadKit
open Sem ClassFile Op Lib Jvm.Stand Jvm.Free Jvm.LawKit
section New
variable {p : Program} {l : Launch} {e : Env} {R : Room} {s : State} {m : MethodId} {args : Array Value} {below : List Frame} {meth : Method} {c : Code} {T : State} {locs : List Loc} {cells slots : Nat}
theorem retI (X : Stand p l e R s m args below meth c T locs cells slots) (hx : p.tables.exec = Jvm.exec) {pc : Nat} {Ls : Array Slot} {z : Int32} {rest : List Value} (hret : meth.sig.returnType = some .int) (hd : decode c.code pc = .ok (.ireturn, 1)) {fs : List Frame}
    (hl : ∀ (f : JFrame) (acts : List Action), f.method = m → f.locked = none → f.entered = [] → (doReturn e (T.setTop f) acts (some (.int z))).1 = T.setFrames fs) : Steps p.tables e below (T.setTop (mkF m pc Ls (.int z :: rest))) (T.setFrames fs) := by
  have hm' : T.vm.method? m = some meth := X.method'
  have hn : narrow .int (.int z) = .int z := rfl
  show Steps p.tables e below (T.setTop { method := m, pc := pc, locals := Ls, stack := _ :: rest, locked := none }) _
  jvm_step X.here [X.here.top, hx, hd, hm', hret, hn]
  first | (intro acts; rw [hl _ acts rfl rfl rfl]) | rw [hl _ _ rfl rfl rfl]
  exact Steps.refl _
end New
end Jvm.RoadKit
@@BLOCK:NumsL.lean.txt@@
namespace Jvm.Pilot.@@N@@
open Jvm Jvm.ClassFile Sem Op Lib Jvm.Free Jvm.Stand Jvm.LawKit Jvm.RoadKit Bundle Jvm.Pilot.@@N@@.Jvm.D
abbrev own_S (p : Program) (e : Env) (below : List Frame) (T : State) (g : JFrame) (t : State) : Prop := Steps p.tables e below (T.setTop g) t
abbrev own_K (p : Program) (e : Env) (below : List Frame) (S T : State) (g : JFrame) : Prop := ∀ t, Steps p.tables e below (T.setTop g) t → Steps p.tables e below S t
theorem own_ext {h h' : Heap} (K : Keep h h' []) : Ext h h' := ⟨K.1, fun a c q => K.2.1 a c q nin0⟩
theorem own_eqI {args : Array Value} {s : State} {t : Term} {n : Int32} (h : (Jvm.Cond.eq t (.int n)).value args s none s [] = some true) : t.eval args s none [] s = some (.int n) := by
  obtain ⟨x, y, h1, h2, h3, h4⟩ := cmp_v (Or.inl h)
  cases (Term.int_eval n (args := args) (s := s) (first := s) (o := none) (idx := [])).symm.trans h2
  obtain ⟨z, rfl⟩ : ∃ z, x = .int z := h4
  rw [h1]
  simp [Cond.value, h1, Term.eval] at h
  rw [h]
theorem own_eqJ {args : Array Value} {s : State} {t : Term} {n : Int64} (h : (Jvm.Cond.eq t (.long n)).value args s none s [] = some true) : t.eval args s none [] s = some (.long n) := by
  obtain ⟨x, y, h1, h2, h3, h4⟩ := cmp_v (Or.inl h)
  cases (long_at n (args := args) (s := s) (first := s) (o := none) (idx := [])).symm.trans h2
  obtain ⟨z, rfl⟩ : ∃ z, x = .long z := h4
  rw [h1]
  simp [Cond.value, h1, Term.eval] at h
  rw [h]
theorem own_eqR {args : Array Value} {s : State} {t u : Term} {x : Addr} (hu : u.eval args s none [] s = some (.ref x)) (h : (Jvm.Cond.eq t u).value args s none s [] = some true) : t.eval args s none [] s = some (.ref x) := by
  obtain ⟨z, y, h1, h2, h3, h4⟩ := cmp_v (Or.inl h)
  cases hu.symm.trans h2
  have hz : z.isRef = true := h4.2
  have e := gotT (eq_R h1 hu hz rfl) h
  rw [h1, e]
theorem own_wS {a0 : Array Value} {Z : State} (hw : ∀ d ∈ tables_1, d.before a0 Z = true) : ∀ a ∈ Bundle.stringAtoms, a.before a0 Z = true := by
  intro d hd
  simp only [Bundle.stringAtoms, Bundle.sN, List.mem_cons, List.not_mem_nil, or_false] at hd
  rcases hd with rfl | rfl | rfl | rfl | rfl | rfl | rfl
  · exact (hw _ (List.mem_of_getElem? (i := 9) rfl))
  · exact (hw _ (List.mem_of_getElem? (i := 10) rfl))
  · exact (hw _ (List.mem_of_getElem? (i := 11) rfl))
  · exact (hw _ (List.mem_of_getElem? (i := 12) rfl))
  · exact (hw _ (List.mem_of_getElem? (i := 13) rfl))
  · exact (hw _ (List.mem_of_getElem? (i := 14) rfl))
  · exact (hw _ (List.mem_of_getElem? (i := 15) rfl))

theorem d1_0 : decode jdk_29_method_69_code 0 = .ok (.iload_n 0, 1) := by decide +kernel
theorem d1_1 : decode jdk_29_method_69_code 1 = .ok (.iload_n 1, 1) := by decide +kernel
theorem d1_2 : decode jdk_29_method_69_code 2 = .ok (.if_icmp .gt 7, 3) := by decide +kernel
theorem d1_5 : decode jdk_29_method_69_code 5 = .ok (.iload_n 0, 1) := by decide +kernel
theorem d1_6 : decode jdk_29_method_69_code 6 = .ok (.goto 4, 3) := by decide +kernel
theorem d1_9 : decode jdk_29_method_69_code 9 = .ok (.iload_n 1, 1) := by decide +kernel
theorem d1_10 : decode jdk_29_method_69_code 10 = .ok (.ireturn, 1) := by decide +kernel
theorem ef_min (m : MethodId) (p0 : Int32) (p1 : Int32) : entryFrame m #[(.int p0), (.int p1)] 2 = mkF m 0 #[.val (.int p0), .val (.int p1)] [] := by first | (simp [entryFrame, mkF, argsToLocals, Value.category]; done) | rfl
def Qmin (Z : State) (p0 : Int32) (p1 : Int32) (h0 : Heap) (n0 : Nat) (v : Option Value) (h : Heap) (L : List Loc) : Prop := v = some (.int (if p1 < p0 then p1 else p0)) ∧ Fr n0 L ∧ h = h0
set_option maxRecDepth 65536 in
set_option maxHeartbeats 40000000 in
theorem rmmin (l : Launch) (Z : State) (a0 : Array Value) (hw : ∀ d ∈ tables_1, d.before a0 Z = true) (ws : List Jvm.Cond) (p0 : Int32) (p1 : Int32) (h0 : Heap) (n0 : Nat) (Z0 : n0 ≤ h0.size) :
    MetFree l (⟨"java/lang/Math", "min", "(II)I"⟩ : MethodName) (head1 (Jvm.Cond.code (⟨"java/lang/Math", "min", "(II)I"⟩ : MethodName) jdk_29_method_69_code 2 (some .int) :: ws) ({ frames := 0, cells := 0, slots := 0, locals := 0 } : Room)) (fun a U => a = #[(.int p0), (.int p1)] ∧ Z.Warmed39 U.vm ∧ U.heap = h0) (fun _ _ _ _ _ => True) (fun _ U o U' => ∃ v L, o = .returned v ∧ Qmin Z p0 p1 h0 n0 v U'.heap L ∧ FrameEnd U o U' L ({ frames := 0, cells := 0, slots := 0, locals := 0 } : Room).cells ({ frames := 0, cells := 0, slots := 0, locals := 0 } : Room).slots) := by
  refine MetFree.of_bodySF (Jvm.Free.JP.mathPlain rfl (by decide +kernel)) hisR ?_
  intro p e s m args below meth c s₁ Bd hml0 hP hK
  obtain ⟨rfl, hZ, hh⟩ := hP
  have hx := Bd.exec
  have hby := Bd.bytes
  have hml : c.maxLocals = 2 := hml0
  have hown : s.vm.findClass "java/lang/Math" = some m.cls := findClass_of_methodNamed Bd.named
  have hnm := (name_of_methodNamed Bd.named Bd.method).1
  have X0 : Stand p l e ({ frames := 0, cells := 0, slots := 0, locals := 0 } : Room) s m #[(.int p0), (.int p1)] below meth c s₁ [] 0 0 := Stand.of_body Bd
  have e0 : s₁.heap = h0 := by rw [← hh, Bd.state]; rfl
  have N0 := Fr.nil n0
  have K0 : ∀ t, Steps p.tables e below (s₁.setTop (mkF m 0 #[.val (.int p0), .val (.int p1)] [])) t → Steps p.tables e below (s₁.setTop (entryFrame m #[(.int p0), (.int p1)] 2)) t := fun t k => castTop (ef_min m p0 p1) k
  generalize s₁.setTop (entryFrame m #[(.int p0), (.int p1)] 2) = SE at K0 ⊢
  have K2 : own_K p e below SE s₁ (mkF m 2 #[.val (.int p0), .val (.int p1)] [(.int p1), (.int p0)]) := by
    intro t k
    refine K0 _ ?_
    refine XS.iloadN X0.here hx rfl (hb hby d1_0) rfl ?_
    show own_S p e below s₁ (mkF m 1 #[.val (.int p0), .val (.int p1)] [(.int p0)]) _
    refine XS.iloadN X0.here hx rfl (hb hby d1_1) rfl ?_
    exact k
  by_cases c2_1 : p1 < p0
  · skip
    have K3 : own_K p e below SE s₁ (mkF m 10 #[.val (.int p0), .val (.int p1)] [(.int p1)]) := by
      intro t k
      refine K2 _ ?_
      refine XS.icmpYes X0.here hx rfl (pc0 := 2) (pc' := 9) rfl (hb hby d1_2) rfl (XT.ii_gt_t c2_1) (by decide) (by decide) ?_
      show own_S p e below s₁ (mkF m 9 #[.val (.int p0), .val (.int p1)] []) _
      refine XS.iloadN X0.here hx rfl (hb hby d1_9) rfl ?_
      exact k
    obtain ⟨fs, hr, hrun, hended, hW, hsame⟩ := X0.leave (v := some (.int p1)) (fun h => by rw [Bd.returns] at h; cases h)
    refine ⟨_, _, K3 _ ?_, hrun, hended, _, _, rfl, ?_, ⟨_, rfl⟩, hW, hsame.mono (by decide) (by decide)⟩
    · exact retI X0 hx Bd.returns (hb hby d1_10) hr
    · show Qmin Z p0 p1 h0 n0 _ s₁.heap _
      rw [e0]
      exact ⟨(by simp only [if_pos c2_1]), N0, rfl⟩
  · skip
    have K4 : own_K p e below SE s₁ (mkF m 10 #[.val (.int p0), .val (.int p1)] [(.int p0)]) := by
      intro t k
      refine K2 _ ?_
      refine XS.icmpNo X0.here hx rfl (hb hby d1_2) rfl (XT.ii_gt_f c2_1) ?_
      show own_S p e below s₁ (mkF m 5 #[.val (.int p0), .val (.int p1)] []) _
      refine XS.iloadN X0.here hx rfl (hb hby d1_5) rfl ?_
      show own_S p e below s₁ (mkF m 6 #[.val (.int p0), .val (.int p1)] [(.int p0)]) _
      refine XS.goto X0.here hx rfl (pc0 := 6) (pc' := 10) rfl (hb hby d1_6) (by decide) (by decide) ?_
      exact k
    obtain ⟨fs, hr, hrun, hended, hW, hsame⟩ := X0.leave (v := some (.int p0)) (fun h => by rw [Bd.returns] at h; cases h)
    refine ⟨_, _, K4 _ ?_, hrun, hended, _, _, rfl, ?_, ⟨_, rfl⟩, hW, hsame.mono (by decide) (by decide)⟩
    · exact retI X0 hx Bd.returns (hb hby d1_10) hr
    · show Qmin Z p0 p1 h0 n0 _ s₁.heap _
      rw [e0]
      exact ⟨(by simp only [if_neg c2_1]), N0, rfl⟩
theorem d14_0 : decode jdk_43_method_3_code 0 = .ok (.iload_n 0, 1) := by decide +kernel
theorem d14_1 : decode jdk_43_method_3_code 1 = .ok (.sipush 255, 3) := by decide +kernel
theorem d14_4 : decode jdk_43_method_3_code 4 = .ok (.if_icmp .gt 7, 3) := by decide +kernel
theorem d14_7 : decode jdk_43_method_3_code 7 = .ok (.iconst 1, 1) := by decide +kernel
theorem d14_8 : decode jdk_43_method_3_code 8 = .ok (.goto 4, 3) := by decide +kernel
theorem d14_12 : decode jdk_43_method_3_code 12 = .ok (.ireturn, 1) := by decide +kernel
theorem pn_14 : plainName "java/lang/StringLatin1" = true := by first | (simp [plainName, overriddenIn]; done) | decide +kernel
theorem ef_ce (m : MethodId) (p0 : Int32) : entryFrame m #[(.int p0)] 1 = mkF m 0 #[.val (.int p0)] [] := by first | (simp [entryFrame, mkF, argsToLocals, Value.category]; done) | rfl
def Qce (Z : State) (p0 : Int32) (h0 : Heap) (n0 : Nat) (v : Option Value) (h : Heap) (L : List Loc) : Prop := v = some (.int (1 : Int32)) ∧ Fr n0 L ∧ h = h0
set_option maxRecDepth 65536 in
set_option maxHeartbeats 40000000 in
theorem rmce (l : Launch) (Z : State) (a0 : Array Value) (hw : ∀ d ∈ tables_1, d.before a0 Z = true) (ws : List Jvm.Cond) (p0 : Int32) (h0 : Heap) (n0 : Nat) (Z0 : n0 ≤ h0.size) (hl : ¬ (255 : Int32) < p0) :
    MetFree l (⟨"java/lang/StringLatin1", "canEncode", "(C)Z"⟩ : MethodName) (head1 (Jvm.Cond.code (⟨"java/lang/StringLatin1", "canEncode", "(C)Z"⟩ : MethodName) jdk_43_method_3_code 1 (some .boolean) :: ws) ({ frames := 0, cells := 0, slots := 0, locals := 0 } : Room)) (fun a U => a = #[(.int p0)] ∧ Z.Warmed39 U.vm ∧ U.heap = h0) (fun _ _ _ _ _ => True) (fun _ U o U' => ∃ v L, o = .returned v ∧ Qce Z p0 h0 n0 v U'.heap L ∧ FrameEnd U o U' L ({ frames := 0, cells := 0, slots := 0, locals := 0 } : Room).cells ({ frames := 0, cells := 0, slots := 0, locals := 0 } : Room).slots) := by
  refine MetFree.of_bodySF (plainFor_of_name pn_14) hisR ?_
  intro p e s m args below meth c s₁ Bd hml0 hP hK
  obtain ⟨rfl, hZ, hh⟩ := hP
  have hx := Bd.exec
  have hby := Bd.bytes
  have hml : c.maxLocals = 1 := hml0
  have hown : s.vm.findClass "java/lang/StringLatin1" = some m.cls := findClass_of_methodNamed Bd.named
  have hnm := (name_of_methodNamed Bd.named Bd.method).1
  have X0 : Stand p l e ({ frames := 0, cells := 0, slots := 0, locals := 0 } : Room) s m #[(.int p0)] below meth c s₁ [] 0 0 := Stand.of_body Bd
  have e0 : s₁.heap = h0 := by rw [← hh, Bd.state]; rfl
  have N0 := Fr.nil n0
  have K0 : ∀ t, Steps p.tables e below (s₁.setTop (mkF m 0 #[.val (.int p0)] [])) t → Steps p.tables e below (s₁.setTop (entryFrame m #[(.int p0)] 1)) t := fun t k => castTop (ef_ce m p0) k
  generalize s₁.setTop (entryFrame m #[(.int p0)] 1) = SE at K0 ⊢
  have K1 : own_K p e below SE s₁ (mkF m 12 #[.val (.int p0)] [(.int (1 : Int32))]) := by
    intro t k
    refine K0 _ ?_
    refine XS.iloadN X0.here hx rfl (hb hby d14_0) rfl ?_
    show own_S p e below s₁ (mkF m 1 #[.val (.int p0)] [(.int p0)]) _
    refine XS.sipush X0.here hx rfl (hb hby d14_1) ?_
    show own_S p e below s₁ (mkF m 4 #[.val (.int p0)] [(.int (255 : Int32)), (.int p0)]) _
    refine XS.icmpNo X0.here hx rfl (hb hby d14_4) rfl (XT.ii_gt_f hl) ?_
    show own_S p e below s₁ (mkF m 7 #[.val (.int p0)] []) _
    refine XS.iconst X0.here hx rfl (hb hby d14_7) ?_
    show own_S p e below s₁ (mkF m 8 #[.val (.int p0)] [(.int (1 : Int32))]) _
    refine XS.goto X0.here hx rfl (pc0 := 8) (pc' := 12) rfl (hb hby d14_8) (by decide) (by decide) ?_
    exact k
  obtain ⟨fs, hr, hrun, hended, hW, hsame⟩ := X0.leave (v := some (.int (1 : Int32))) (fun h => by rw [Bd.returns] at h; cases h)
  refine ⟨_, _, K1 _ ?_, hrun, hended, _, _, rfl, ?_, ⟨_, rfl⟩, hW, hsame.mono (by decide) (by decide)⟩
  · exact retN X0 hx (t := .boolean) Bd.returns (by simp) (hb hby d14_12) hr
  · show Qce Z p0 h0 n0 _ s₁.heap _
    rw [e0]
    exact ⟨rfl, N0, rfl⟩
theorem d15_0 : decode jdk_43_method_46_code 0 = .ok (.iconst 1, 1) := by decide +kernel
theorem d15_1 : decode jdk_43_method_46_code 1 = .ok (.newarray .byte, 2) := by decide +kernel
theorem d15_3 : decode jdk_43_method_46_code 3 = .ok (.dup, 1) := by decide +kernel
theorem d15_4 : decode jdk_43_method_46_code 4 = .ok (.iconst 0, 1) := by decide +kernel
theorem d15_5 : decode jdk_43_method_46_code 5 = .ok (.iload_n 0, 1) := by decide +kernel
theorem d15_6 : decode jdk_43_method_46_code 6 = .ok (.i2b, 1) := by decide +kernel
theorem d15_7 : decode jdk_43_method_46_code 7 = .ok (.bastore, 1) := by decide +kernel
theorem d15_8 : decode jdk_43_method_46_code 8 = .ok (.areturn, 1) := by decide +kernel
theorem ef_tb (m : MethodId) (p0 : Int32) : entryFrame m #[(.int p0)] 1 = mkF m 0 #[.val (.int p0)] [] := by first | (simp [entryFrame, mkF, argsToLocals, Value.category]; done) | rfl
def Qtb (Z : State) (p0 : Int32) (h0 : Heap) (n0 : Nat) (v : Option Value) (h : Heap) (L : List Loc) : Prop := v = some (.ref h0.size) ∧ Fr n0 L ∧ Keep h0 h [] ∧ ∃ kB, Arv Z h h0.size kB .byte (1 : Int32) [(.int ((p0).toInt8.toInt32).toInt8.toInt32)] (.int (0 : Int32))
set_option maxRecDepth 65536 in
set_option maxHeartbeats 40000000 in
theorem rmtb (l : Launch) (Z : State) (a0 : Array Value) (hw : ∀ d ∈ tables_1, d.before a0 Z = true) (ws : List Jvm.Cond) (p0 : Int32) (h0 : Heap) (n0 : Nat) (Z0 : n0 ≤ h0.size) :
    MetFree l (⟨"java/lang/StringLatin1", "toBytes", "(C)[B"⟩ : MethodName) (head1 (Jvm.Cond.code (⟨"java/lang/StringLatin1", "toBytes", "(C)[B"⟩ : MethodName) jdk_43_method_46_code 1 (some (.array .byte)) :: ws) ({ frames := 0, cells := 1, slots := 1, locals := 0 } : Room)) (fun a U => a = #[(.int p0)] ∧ Z.Warmed39 U.vm ∧ U.heap = h0) (fun _ _ _ _ _ => True) (fun _ U o U' => ∃ v L, o = .returned v ∧ Qtb Z p0 h0 n0 v U'.heap L ∧ FrameEnd U o U' L ({ frames := 0, cells := 1, slots := 1, locals := 0 } : Room).cells ({ frames := 0, cells := 1, slots := 1, locals := 0 } : Room).slots) := by
  refine MetFree.of_bodySF (plainFor_of_name pn_14) hisR ?_
  intro p e s m args below meth c s₁ Bd hml0 hP hK
  obtain ⟨rfl, hZ, hh⟩ := hP
  have hx := Bd.exec
  have hby := Bd.bytes
  have hml : c.maxLocals = 1 := hml0
  have hown : s.vm.findClass "java/lang/StringLatin1" = some m.cls := findClass_of_methodNamed Bd.named
  have hnm := (name_of_methodNamed Bd.named Bd.method).1
  have X0 : Stand p l e ({ frames := 0, cells := 1, slots := 1, locals := 0 } : Room) s m #[(.int p0)] below meth c s₁ [] 0 0 := Stand.of_body Bd
  have e0 : s₁.heap = h0 := by rw [← hh, Bd.state]; rfl
  have N0 := Fr.nil n0
  have K0 : ∀ t, Steps p.tables e below (s₁.setTop (mkF m 0 #[.val (.int p0)] [])) t → Steps p.tables e below (s₁.setTop (entryFrame m #[(.int p0)] 1)) t := fun t k => castTop (ef_tb m p0) k
  generalize s₁.setTop (entryFrame m #[(.int p0)] 1) = SE at K0 ⊢
  have K1 : own_K p e below SE s₁ (mkF m 1 #[.val (.int p0)] [(.int (1 : Int32))]) := by
    intro t k
    refine K0 _ ?_
    refine XS.iconst X0.here hx rfl (hb hby d15_0) ?_
    exact k
  obtain ⟨T2, h2, k2, X2, e2, E2, A2, st2⟩ := newP X0 hx hZ (hw _ (List.mem_of_getElem? (i := 11) rfl)) e0 (g := (mkF m 1 #[.val (.int p0)] [(.int (1 : Int32))])) rfl (hb hby d15_1) rfl (by decide) (cap := 1) (by decide) (by decide) (by decide) (by decide)
  obtain ⟨b2, g2⟩ : ∃ z, z = h0.size := ⟨_, rfl⟩
  rw [← g2] at A2 st2
  have g_b2 : n0 ≤ b2 := Nat.le_trans Z0 (Nat.le_of_eq g2.symm)
  have sz_b2 : h0.size ≤ b2 := Nat.le_trans (Nat.le_refl _) (Nat.le_of_eq g2.symm)
  have Kp2 : Keep h0 h2 [] := Keep.ext (Keep.refl h0 []) E2
  have V2 : Arv Z h2 b2 k2 .byte (1 : Int32) [(.int (0 : Int32))] (.int (0 : Int32)) := (Arv.new A2 (by decide)).pad (pad_rep [] (.int (0 : Int32)) 1)
  have K2 : own_K p e below SE T2 (mkF m 3 #[.val (.int p0)] [(.ref b2)]) := fun t k => K1 _ (st2 _ k)
  have K3 : own_K p e below SE T2 (mkF m 7 #[.val (.int p0)] [(.int ((p0).toInt8.toInt32)), (.int (0 : Int32)), (.ref b2), (.ref b2)]) := by
    intro t k
    refine K2 _ ?_
    refine XS.dup X2.here hx rfl (hb hby d15_3) rfl rfl ?_
    show own_S p e below T2 (mkF m 4 #[.val (.int p0)] [(.ref b2), (.ref b2)]) _
    refine XS.iconst X2.here hx rfl (hb hby d15_4) ?_
    show own_S p e below T2 (mkF m 5 #[.val (.int p0)] [(.int (0 : Int32)), (.ref b2), (.ref b2)]) _
    refine XS.iloadN X2.here hx rfl (hb hby d15_5) rfl ?_
    show own_S p e below T2 (mkF m 6 #[.val (.int p0)] [(.int p0), (.int (0 : Int32)), (.ref b2), (.ref b2)]) _
    refine XS.i2b X2.here hx rfl (hb hby d15_6) rfl ?_
    exact k
  obtain ⟨cl4, Ar4, qk4, S4, Ng4, Hh4, Gg4⟩ := id V2
  have hin4 : ¬ ((0 : Int32) < 0 ∨ cl4.slots.size ≤ ((0 : Int32)).toNatClampNeg) := inb_of S4 ⟨by decide, by decide⟩
  obtain ⟨T5, h5, X5, e5, W5, st5⟩ := stB X2 hx hZ e2 Ar4 (j := (0 : Int32)) hin4 (g := (mkF m 7 #[.val (.int p0)] [(.int ((p0).toInt8.toInt32)), (.int (0 : Int32)), (.ref b2), (.ref b2)])) rfl rfl (hb hby d15_7)
  have V5 : Arv Z h5 b2 k2 .byte (1 : Int32) [(.int (((p0).toInt8.toInt32)).toInt8.toInt32)] (.int (0 : Int32)) := Arv.set Ar4 qk4 S4 Ng4 Hh4 Gg4 (fits_nar_byte _) W5 0 rfl (Nat.le_of_ble_eq_true rfl)
  have N5 := Fr.snoc X5 N0 g_b2
  have Kp5 : Keep h0 h5 [] := Keep.wr Kp2 W5 (Or.inr sz_b2)
  have K5 : own_K p e below SE T5 (mkF m 8 #[.val (.int p0)] [(.ref b2)]) := fun t k => K3 _ (st5 _ k)
  obtain ⟨fs, hr, hrun, hended, hW, hsame⟩ := X5.leave (v := some (.ref b2)) (fun h => by rw [Bd.returns] at h; cases h)
  refine ⟨_, _, K5 _ ?_, hrun, hended, _, _, rfl, ?_, ⟨_, rfl⟩, hW, hsame.mono (by decide) (by decide)⟩
  · show Steps p.tables e below (T5.setTop (mkF m 8 #[.val (.int p0)] [(.ref b2)])) _
    jvm_step X5.here [X5.here.top, hx, (hb hby d15_8), X5.method', Bd.returns, Value.isRef, FieldType.isReference]
    first | (intro acts; rw [hr _ acts rfl rfl rfl]) | rw [hr _ _ rfl rfl rfl]
    exact Steps.refl _
  · show Qtb Z p0 h0 n0 _ T5.heap _
    rw [e5]
    exact ⟨congrArg (fun z => some (Value.ref z)) g2, N5, Kp5, _, (g2 ▸ V5)⟩
theorem d16_0 : decode jdk_42_method_151_code 0 = .ok (.aload_n 0, 1) := by decide +kernel
theorem d16_1 : decode jdk_42_method_151_code 1 = .ok (.invokespecial 1, 3) := by decide +kernel
theorem d16_4 : decode jdk_42_method_151_code 4 = .ok (.aload_n 0, 1) := by decide +kernel
theorem d16_5 : decode jdk_42_method_151_code 5 = .ok (.aload_n 1, 1) := by decide +kernel
theorem d16_6 : decode jdk_42_method_151_code 6 = .ok (.putfield 9, 3) := by decide +kernel
theorem d16_9 : decode jdk_42_method_151_code 9 = .ok (.aload_n 0, 1) := by decide +kernel
theorem d16_10 : decode jdk_42_method_151_code 10 = .ok (.iload_n 2, 1) := by decide +kernel
theorem d16_11 : decode jdk_42_method_151_code 11 = .ok (.putfield 15, 3) := by decide +kernel
theorem d16_14 : decode jdk_42_method_151_code 14 = .ok (.return_, 1) := by decide +kernel
theorem pn_16 : plainName "java/lang/String" = true := by first | (simp [plainName, overriddenIn]; done) | decide +kernel
theorem ef_ib (m : MethodId) (r0 : Addr) (r1 : Addr) : entryFrame m #[(.ref r0), (.ref r1), (.int (0 : Int32))] 3 = mkF m 0 #[.val (.ref r0), .val (.ref r1), .val (.int (0 : Int32))] [] := by first | (simp [entryFrame, mkF, argsToLocals, Value.category]; done) | rfl
def Qib (Z : State) (r0 : Addr) (r1 : Addr) (h0 : Heap) (n0 : Nat) (v : Option Value) (h : Heap) (L : List Loc) : Prop := v = none ∧ Fr n0 L ∧ Keep h0 h [r0] ∧ Exa Z h r0 "java/lang/String" ∧ Fld Z h r0 "java/lang/String" "coder" "B" (.int (0 : Int32)) ∧ Fld Z h r0 "java/lang/String" "value" "[B" (.ref r1)
set_option maxRecDepth 65536 in
set_option maxHeartbeats 40000000 in
theorem rmib (l : Launch) (Z : State) (a0 : Array Value) (hw : ∀ d ∈ tables_1, d.before a0 Z = true) (ws : List Jvm.Cond) (r0 : Addr) (r1 : Addr) (h0 : Heap) (n0 : Nat) (Z0 : n0 ≤ h0.size) (E_r0 : Exa Z h0 r0 "java/lang/String") (F_c : Fld Z h0 r0 "java/lang/String" "coder" "B" (.int (0 : Int32))) (F_v : Fld Z h0 r0 "java/lang/String" "value" "[B" .null) (g_r0 : n0 ≤ r0) :
    MetFree l (⟨"java/lang/String", "<init>", "([BB)V"⟩ : MethodName) (head1 (Jvm.Cond.code (⟨"java/lang/String", "<init>", "([BB)V"⟩ : MethodName) jdk_42_method_151_code 3 none :: ws) ({ frames := 1, cells := 0, slots := 0, locals := 12 } : Room)) (fun a U => a = #[(.ref r0), (.ref r1), (.int (0 : Int32))] ∧ Z.Warmed39 U.vm ∧ U.heap = h0) (fun _ _ _ _ _ => True) (fun _ U o U' => ∃ v L, o = .returned v ∧ Qib Z r0 r1 h0 n0 v U'.heap L ∧ FrameEnd U o U' L ({ frames := 1, cells := 0, slots := 0, locals := 12 } : Room).cells ({ frames := 1, cells := 0, slots := 0, locals := 12 } : Room).slots) := by
  refine MetFree.of_bodySF (plainFor_of_name pn_16) hisR ?_
  intro p e s m args below meth c s₁ Bd hml0 hP hK
  obtain ⟨rfl, hZ, hh⟩ := hP
  have hx := Bd.exec
  have hby := Bd.bytes
  have hml : c.maxLocals = 3 := hml0
  have hown : s.vm.findClass "java/lang/String" = some m.cls := findClass_of_methodNamed Bd.named
  have hnm := (name_of_methodNamed Bd.named Bd.method).1
  have X0 : Stand p l e ({ frames := 1, cells := 0, slots := 0, locals := 12 } : Room) s m #[(.ref r0), (.ref r1), (.int (0 : Int32))] below meth c s₁ [] 0 0 := Stand.of_body Bd
  have e0 : s₁.heap = h0 := by rw [← hh, Bd.state]; rfl
  have N0 := Fr.nil n0
  have K0 : ∀ t, Steps p.tables e below (s₁.setTop (mkF m 0 #[.val (.ref r0), .val (.ref r1), .val (.int (0 : Int32))] [])) t → Steps p.tables e below (s₁.setTop (entryFrame m #[(.ref r0), (.ref r1), (.int (0 : Int32))] 3)) t := fun t k => castTop (ef_ib m r0 r1) k
  generalize s₁.setTop (entryFrame m #[(.ref r0), (.ref r1), (.int (0 : Int32))] 3) = SE at K0 ⊢
  have K1 : own_K p e below SE s₁ (mkF m 1 #[.val (.ref r0), .val (.ref r1), .val (.int (0 : Int32))] [(.ref r0)]) := by
    intro t k
    refine K0 _ ?_
    refine XS.aloadN X0.here hx rfl (hb hby d16_0) rfl rfl ?_
    exact k
  obtain ⟨T2, X2, e2, st2⟩ := initO X0 hx hZ hown (hw _ (List.mem_of_getElem? (i := 54) rfl)) (hw _ (List.mem_of_getElem? (i := 23) rfl)) (hw _ (List.mem_of_getElem? (i := 24) rfl)) e0 (g := (mkF m 1 #[.val (.ref r0), .val (.ref r1), .val (.int (0 : Int32))] [(.ref r0)])) rfl (by rw [hml]; rfl) rfl (hb hby d16_1) (by decide) (W := 0) (by show 2 * 0 + _ ≤ _; exact Nat.le_of_eq rfl) (by decide)
  have K2 : own_K p e below SE T2 (mkF m 4 #[.val (.ref r0), .val (.ref r1), .val (.int (0 : Int32))] []) := fun t k => K1 _ (st2 _ k)
  have K3 : own_K p e below SE T2 (mkF m 6 #[.val (.ref r0), .val (.ref r1), .val (.int (0 : Int32))] [(.ref r1), (.ref r0)]) := by
    intro t k
    refine K2 _ ?_
    refine XS.aloadN X2.here hx rfl (hb hby d16_4) rfl rfl ?_
    show own_S p e below T2 (mkF m 5 #[.val (.ref r0), .val (.ref r1), .val (.int (0 : Int32))] [(.ref r0)]) _
    refine XS.aloadN X2.here hx rfl (hb hby d16_5) rfl rfl ?_
    exact k
  obtain ⟨T4, h4, X4, e4, W4, st4⟩ := putF X2 hx hZ hown (host := "") (Or.inl (hw _ (List.mem_of_getElem? (i := 67) rfl))) Via.refl e2 F_v E_r0 (Or.inr ⟨(hw _ (List.mem_of_getElem? (i := 12) rfl)), rfl, hnm⟩) (hw _ (List.mem_of_getElem? (i := 10) rfl)) (ty := (.array .byte)) (by decide) rfl rfl (g := (mkF m 6 #[.val (.ref r0), .val (.ref r1), .val (.int (0 : Int32))] [(.ref r1), (.ref r0)])) rfl rfl (hb hby d16_6)
  have Fw4 := Fld.same W4 F_v
  have N4 := Fr.snoc X4 N0 g_r0
  have Kp4 : Keep h0 h4 [r0] := Keep.wr (Keep.refl h0 [r0]) W4 (Or.inl (List.mem_of_getElem? (i := 0) rfl))
  have K4 : own_K p e below SE T4 (mkF m 9 #[.val (.ref r0), .val (.ref r1), .val (.int (0 : Int32))] []) := fun t k => K3 _ (st4 _ k)
  have K5 : own_K p e below SE T4 (mkF m 11 #[.val (.ref r0), .val (.ref r1), .val (.int (0 : Int32))] [(.int (0 : Int32)), (.ref r0)]) := by
    intro t k
    refine K4 _ ?_
    refine XS.aloadN X4.here hx rfl (hb hby d16_9) rfl rfl ?_
    show own_S p e below T4 (mkF m 10 #[.val (.ref r0), .val (.ref r1), .val (.int (0 : Int32))] [(.ref r0)]) _
    refine XS.iloadN X4.here hx rfl (hb hby d16_10) rfl ?_
    exact k
  obtain ⟨T6, h6, X6, e6, W6, st6⟩ := putFN X4 hx hZ hown (hw _ (List.mem_of_getElem? (i := 66) rfl)) Via.refl e4 (F_c.other W4 (Or.inr (slot_ne (Or.inr (hw _ (List.mem_of_getElem? (i := 13) rfl))) (Or.inr (hw _ (List.mem_of_getElem? (i := 12) rfl))) (by decide) (t := .byte) (t' := (.array .byte)) (by decide) (by decide)))) (E_r0.wr W4) (Or.inr ⟨(hw _ (List.mem_of_getElem? (i := 13) rfl)), rfl, hnm⟩) (hw _ (List.mem_of_getElem? (i := 10) rfl)) (ty := .byte) (v' := (.int ((0 : Int32)).toInt8.toInt32)) (by decide) rfl (fits_nar_byte _) (g := (mkF m 11 #[.val (.ref r0), .val (.ref r1), .val (.int (0 : Int32))] [(.int (0 : Int32)), (.ref r0)])) rfl rfl (hb hby d16_11)
  have Fw6 := Fld.same W6 (F_c.other W4 (Or.inr (slot_ne (Or.inr (hw _ (List.mem_of_getElem? (i := 13) rfl))) (Or.inr (hw _ (List.mem_of_getElem? (i := 12) rfl))) (by decide) (t := .byte) (t' := (.array .byte)) (by decide) (by decide))))
  have N6 := Fr.snoc X6 N4 g_r0
  have Kp6 : Keep h0 h6 [r0] := Keep.wr Kp4 W6 (Or.inl (List.mem_of_getElem? (i := 0) rfl))
  have K6 : own_K p e below SE T6 (mkF m 14 #[.val (.ref r0), .val (.ref r1), .val (.int (0 : Int32))] []) := fun t k => K5 _ (st6 _ k)
  obtain ⟨fs, hr, hrun, hended, hW, hsame⟩ := X6.leave (v := none) (fun _ => rfl)
  refine ⟨_, _, K6 _ ?_, hrun, hended, _, _, rfl, ?_, ⟨_, rfl⟩, hW, hsame.mono (by decide) (by decide)⟩
  · exact X6.returnOut hx Bd.returns (hb hby d16_14) hr
  · show Qib Z r0 r1 h0 n0 _ T6.heap _
    rw [e6]
    exact ⟨rfl, N6, Kp6, ((E_r0.wr W4).wr W6), Fw6, (Fw4.other W6 (Or.inr (slot_ne (Or.inr (hw _ (List.mem_of_getElem? (i := 12) rfl))) (Or.inr (hw _ (List.mem_of_getElem? (i := 13) rfl))) (by decide) (t := (.array .byte)) (t' := .byte) (by decide) (by decide))))⟩
theorem d13_0 : decode jdk_42_method_139_code 0 = .ok (.getstatic 38, 3) := by decide +kernel
theorem d13_3 : decode jdk_42_method_139_code 3 = .ok (.ifCond .eq 23, 3) := by decide +kernel
theorem d13_6 : decode jdk_42_method_139_code 6 = .ok (.iload_n 0, 1) := by decide +kernel
theorem d13_7 : decode jdk_42_method_139_code 7 = .ok (.invokestatic 1015, 3) := by decide +kernel
theorem d13_10 : decode jdk_42_method_139_code 10 = .ok (.ifCond .eq 16, 3) := by decide +kernel
theorem d13_13 : decode jdk_42_method_139_code 13 = .ok (.new 10, 3) := by decide +kernel
theorem d13_16 : decode jdk_42_method_139_code 16 = .ok (.dup, 1) := by decide +kernel
theorem d13_17 : decode jdk_42_method_139_code 17 = .ok (.iload_n 0, 1) := by decide +kernel
theorem d13_18 : decode jdk_42_method_139_code 18 = .ok (.invokestatic 1018, 3) := by decide +kernel
theorem d13_21 : decode jdk_42_method_139_code 21 = .ok (.iconst 0, 1) := by decide +kernel
theorem d13_22 : decode jdk_42_method_139_code 22 = .ok (.invokespecial 209, 3) := by decide +kernel
theorem d13_25 : decode jdk_42_method_139_code 25 = .ok (.areturn, 1) := by decide +kernel
theorem pd_vo_0 : parseMethodDescriptor "(C)Z" = some ⟨[.char], some .boolean⟩ := by decide +kernel
theorem pd_vo_1 : parseMethodDescriptor "(C)[B" = some ⟨[.char], some (.array .byte)⟩ := by decide +kernel
theorem pd_vo_2 : parseMethodDescriptor "([BB)V" = some ⟨[(.array .byte), .byte], none⟩ := by decide +kernel
theorem ef_vo (m : MethodId) (p0 : Int32) : entryFrame m #[(.int p0)] 1 = mkF m 0 #[.val (.int p0)] [] := by first | (simp [entryFrame, mkF, argsToLocals, Value.category]; done) | rfl
def Qvo (Z : State) (p0 : Int32) (G : Int32) (h0 : Heap) (n0 : Nat) (v : Option Value) (h : Heap) (L : List Loc) : Prop := v = some (.ref h0.size) ∧ Fr n0 L ∧ Keep h0 h [] ∧ Exa Z h h0.size "java/lang/String" ∧ Fld Z h h0.size "java/lang/String" "coder" "B" (.int (0 : Int32)) ∧ ∃ (b : Addr) (kB : ClassId), Fld Z h h0.size "java/lang/String" "value" "[B" (.ref b) ∧ Arv Z h b kB .byte (1 : Int32) [(.int ((p0).toInt8.toInt32).toInt8.toInt32)] (.int (0 : Int32))
set_option maxRecDepth 65536 in
set_option maxHeartbeats 40000000 in
theorem rmvo (l : Launch) (Z : State) (a0 : Array Value) (hw : ∀ d ∈ tables_1, d.before a0 Z = true) (ws : List Jvm.Cond) (p0 : Int32) (G : Int32) (h0 : Heap) (n0 : Nat) (Z0 : n0 ≤ h0.size) (S_cs : Sta Z h0 "java/lang/String" "COMPACT_STRINGS" "Z" (.int G)) (hG : ¬ G = 0) (hl : ¬ (255 : Int32) < p0) :
    MetFree l (⟨"java/lang/String", "valueOf", "(C)Ljava/lang/String;"⟩ : MethodName) (head1 (Jvm.Cond.code (⟨"java/lang/String", "valueOf", "(C)Ljava/lang/String;"⟩ : MethodName) jdk_42_method_139_code 1 (some (.object "java/lang/String")) :: ws) ({ frames := 2, cells := 2, slots := 5, locals := 27 } : Room)) (fun a U => a = #[(.int p0)] ∧ Z.Warmed39 U.vm ∧ U.heap = h0) (fun _ _ _ _ _ => True) (fun _ U o U' => ∃ v L, o = .returned v ∧ Qvo Z p0 G h0 n0 v U'.heap L ∧ FrameEnd U o U' L ({ frames := 2, cells := 2, slots := 5, locals := 27 } : Room).cells ({ frames := 2, cells := 2, slots := 5, locals := 27 } : Room).slots) := by
  refine MetFree.of_bodySF (plainFor_of_name pn_16) hisR ?_
  intro p e s m args below meth c s₁ Bd hml0 hP hK
  obtain ⟨rfl, hZ, hh⟩ := hP
  have hx := Bd.exec
  have hby := Bd.bytes
  have hml : c.maxLocals = 1 := hml0
  have hown : s.vm.findClass "java/lang/String" = some m.cls := findClass_of_methodNamed Bd.named
  have hnm := (name_of_methodNamed Bd.named Bd.method).1
  have X0 : Stand p l e ({ frames := 2, cells := 2, slots := 5, locals := 27 } : Room) s m #[(.int p0)] below meth c s₁ [] 0 0 := Stand.of_body Bd
  have e0 : s₁.heap = h0 := by rw [← hh, Bd.state]; rfl
  have N0 := Fr.nil n0
  have K0 : ∀ t, Steps p.tables e below (s₁.setTop (mkF m 0 #[.val (.int p0)] [])) t → Steps p.tables e below (s₁.setTop (entryFrame m #[(.int p0)] 1)) t := fun t k => castTop (ef_vo m p0) k
  generalize s₁.setTop (entryFrame m #[(.int p0)] 1) = SE at K0 ⊢
  obtain ⟨T1, X1, e1, st1⟩ := getS2 X0 hx hZ hown (host := "") (Or.inl (hw _ (List.mem_of_getElem? (i := 55) rfl))) Via.refl e0 S_cs (g := (mkF m 0 #[.val (.int p0)] [])) rfl (hb hby d13_0)
  have K1 : own_K p e below SE T1 (mkF m 3 #[.val (.int p0)] [(.int G)]) := fun t k => K0 _ (st1 _ k)
  have K2 : own_K p e below SE T1 (mkF m 7 #[.val (.int p0)] [(.int p0)]) := by
    intro t k
    refine K1 _ ?_
    refine XS.ifNo X1.here hx rfl (hb hby d13_3) rfl (XT.i0_eq_f hG) ?_
    show own_S p e below T1 (mkF m 6 #[.val (.int p0)] []) _
    refine XS.iloadN X1.here hx rfl (hb hby d13_6) rfl ?_
    exact k
  obtain ⟨_, _, ⟨T3, L3, k3, n3⟩, -, X3, ⟨Lc3, hQ3, l3, y3, z3⟩, st3⟩ := Jvm.LawKit.callS X1 hx (y := (⟨"java/lang/StringLatin1", "canEncode", "(C)Z"⟩ : MethodName)) hown (mvT hZ (hw _ (List.mem_of_getElem? (i := 76) rfl))) (mvT hZ (hw _ (List.mem_of_getElem? (i := 77) rfl))) (mvT hZ (hw _ (List.mem_of_getElem? (i := 71) rfl))) (mvT hZ (hw _ (List.mem_of_getElem? (i := 78) rfl))) (by decide) (backOf (W := 0) (rmce l Z a0 hw [] p0 h0 n0 Z0 hl) hZ (hw _ (List.mem_of_getElem? (i := 78) rfl)) (hw _ (List.mem_of_getElem? (i := 71) rfl)) (by decide) (by decide)) (g := (mkF m 7 #[.val (.int p0)] [(.int p0)])) rfl (by rw [hml]; rfl) (argsL := [(.int p0)]) (rest := []) (lenOf pd_vo_0 rfl) rfl (by show 2 * 0 + _ ≤ _; exact Nat.le_of_eq rfl) (hb hby d13_7) (fun _ _ => ⟨rfl, e1, (by decide : 0 + 0 ≤ _), (by decide : 0 + 0 ≤ _)⟩)
  dsimp only [Pt.U, Pt.locs, Pt.cells, Pt.slots] at X3 l3 y3 z3 st3 hQ3
  rw [y3, z3] at X3
  obtain ⟨rfl, Nq3, e3⟩ := hQ3
  have N3 : Fr n0 L3 := by rw [l3]; exact Fr.app N0 Nq3
  have K3 : own_K p e below SE T3 (mkF m 10 #[.val (.int p0)] [(.int (1 : Int32))]) := fun t k => K2 _ (st3 _ k)
  have K4 : own_K p e below SE T3 (mkF m 13 #[.val (.int p0)] []) := by
    intro t k
    refine K3 _ ?_
    refine XS.ifNo X3.here hx rfl (hb hby d13_10) rfl (XT.i0_eq_f (by decide : ¬ ((1 : Int32) = 0))) ?_
    exact k
  obtain ⟨T5, h5, X5, e5, E5, A5, D5, -, st5⟩ := newO X3 hx hZ hown (hw _ (List.mem_of_getElem? (i := 68) rfl)) (hw _ (List.mem_of_getElem? (i := 10) rfl)) (hw _ (List.mem_of_getElem? (i := 9) rfl)) e3 (g := (mkF m 13 #[.val (.int p0)] [])) rfl (hb hby d13_13) (by decide) (by decide)
  obtain ⟨b5, g5⟩ : ∃ z, z = h0.size := ⟨_, rfl⟩
  rw [← g5] at A5 D5 st5
  have g_b5 : n0 ≤ b5 := Nat.le_trans Z0 (Nat.le_of_eq g5.symm)
  have sz_b5 : h0.size ≤ b5 := Nat.le_trans (Nat.le_refl _) (Nat.le_of_eq g5.symm)
  have Kp5 : Keep h0 h5 [] := Keep.ext (Keep.refl h0 []) E5
  have F_value_b5 : Fld Z h5 b5 "java/lang/String" "value" "[B" .null := D5 (Or.inr (hw _ (List.mem_of_getElem? (i := 12) rfl))) (ty := (.array .byte)) (by decide)
  have F_coder_b5 : Fld Z h5 b5 "java/lang/String" "coder" "B" (.int (0 : Int32)) := D5 (Or.inr (hw _ (List.mem_of_getElem? (i := 13) rfl))) (ty := .byte) (by decide)
  have K5 : own_K p e below SE T5 (mkF m 16 #[.val (.int p0)] [(.ref b5)]) := fun t k => K4 _ (st5 _ k)
  have K6 : own_K p e below SE T5 (mkF m 18 #[.val (.int p0)] [(.int p0), (.ref b5), (.ref b5)]) := by
    intro t k
    refine K5 _ ?_
    refine XS.dup X5.here hx rfl (hb hby d13_16) rfl rfl ?_
    show own_S p e below T5 (mkF m 17 #[.val (.int p0)] [(.ref b5), (.ref b5)]) _
    refine XS.iloadN X5.here hx rfl (hb hby d13_17) rfl ?_
    exact k
  obtain ⟨_, _, ⟨T7, L7, k7, n7⟩, -, X7, ⟨Lc7, hQ7, l7, y7, z7⟩, st7⟩ := Jvm.LawKit.callS X5 hx (y := (⟨"java/lang/StringLatin1", "toBytes", "(C)[B"⟩ : MethodName)) hown (mvT hZ (hw _ (List.mem_of_getElem? (i := 79) rfl))) (mvT hZ (hw _ (List.mem_of_getElem? (i := 80) rfl))) (mvT hZ (hw _ (List.mem_of_getElem? (i := 71) rfl))) (mvT hZ (hw _ (List.mem_of_getElem? (i := 81) rfl))) (by decide) (backOf (W := 2) (rmtb l Z a0 hw [] p0 h5 n0 (Nat.le_trans Z0 Kp5.1)) hZ (hw _ (List.mem_of_getElem? (i := 81) rfl)) (hw _ (List.mem_of_getElem? (i := 71) rfl)) (by decide) (by decide)) (g := (mkF m 18 #[.val (.int p0)] [(.int p0), (.ref b5), (.ref b5)])) rfl (by rw [hml]; rfl) (argsL := [(.int p0)]) (rest := [(.ref b5), (.ref b5)]) (lenOf pd_vo_1 rfl) rfl (by show 2 * 0 + _ ≤ _; exact Nat.le_of_eq rfl) (hb hby d13_18) (fun _ _ => ⟨rfl, e5, (by decide : 1 + 1 ≤ _), (by decide : 4 + 1 ≤ _)⟩)
  dsimp only [Pt.U, Pt.locs, Pt.cells, Pt.slots] at X7 l7 y7 z7 st7 hQ7
  rw [y7, z7] at X7
  obtain ⟨rfl, Nq7, Kq7, Vb7⟩ := hQ7
  have N7 : Fr n0 L7 := by rw [l7]; exact Fr.app N3 Nq7
  have Kp7 : Keep h0 T7.heap [] := Keep.trans Kp5 Kq7 all0
  have K7 : own_K p e below SE T7 (mkF m 21 #[.val (.int p0)] [(.ref h5.size), (.ref b5), (.ref b5)]) := fun t k => K6 _ (st7 _ k)
  obtain ⟨kB, Vb⟩ := Vb7
  obtain ⟨bb, gbb⟩ : ∃ z, z = h5.size := ⟨_, rfl⟩
  rw [← gbb] at K7 Vb
  have own_ne_b5_bb : b5 ≠ bb := Nat.ne_of_lt (Nat.lt_of_lt_of_le A5.lt (Nat.le_of_eq gbb.symm))
  have K8 : own_K p e below SE T7 (mkF m 22 #[.val (.int p0)] [(.int (0 : Int32)), (.ref bb), (.ref b5), (.ref b5)]) := by
    intro t k
    refine K7 _ ?_
    refine XS.iconst X7.here hx rfl (hb hby d13_21) ?_
    exact k
  obtain ⟨_, _, ⟨T9, L9, k9, n9⟩, -, X9, ⟨Lc9, hQ9, l9, y9, z9⟩, st9⟩ := X7.specialBack hx (y := (⟨"java/lang/String", "<init>", "([BB)V"⟩ : MethodName)) rfl hown (mvT hZ (hw _ (List.mem_of_getElem? (i := 82) rfl))) (mvT hZ (hw _ (List.mem_of_getElem? (i := 83) rfl))) (mvT hZ (hw _ (List.mem_of_getElem? (i := 84) rfl))) (by decide) (backOf (W := 1) (rmib l Z a0 hw [] b5 bb T7.heap n0 (Nat.le_trans Z0 Kp7.1) (A5.keep Kq7) (F_coder_b5.keep Kq7 nin0) (F_value_b5.keep Kq7 nin0) g_b5) hZ (hw _ (List.mem_of_getElem? (i := 84) rfl)) (hw _ (List.mem_of_getElem? (i := 9) rfl)) (by decide) (by decide)) (g := (mkF m 22 #[.val (.int p0)] [(.int (0 : Int32)), (.ref bb), (.ref b5), (.ref b5)])) rfl (by rw [hml]; rfl) (Steps.refl _) (a := b5) (argsL := [(.ref bb), (.int (0 : Int32))]) (rest := [(.ref b5)]) (lenOf pd_vo_2 rfl) rfl (by show 2 * 0 + _ ≤ _; exact Nat.le_of_eq rfl) (hb hby d13_22) (fun _ _ => ⟨rfl, rfl, (by decide : 2 + 0 ≤ _), (by decide : 5 + 0 ≤ _)⟩)
  dsimp only [Pt.U, Pt.locs, Pt.cells, Pt.slots] at X9 l9 y9 z9 st9 hQ9
  rw [y9, z9] at X9
  obtain ⟨rfl, Nq9, Kq9, Ex9, Fc9, Fv9⟩ := hQ9
  have N9 : Fr n0 L9 := by rw [l9]; exact Fr.app N7 Nq9
  have Kp9 : Keep h0 T9.heap [] := Keep.trans Kp7 Kq9 (allS (Or.inr sz_b5) all0)
  have K9 : own_K p e below SE T9 (mkF m 25 #[.val (.int p0)] [(.ref b5)]) := fun t k => K8 _ (st9.trans k)
  obtain ⟨fs, hr, hrun, hended, hW, hsame⟩ := X9.leave (v := some (.ref b5)) (fun h => by rw [Bd.returns] at h; cases h)
  refine ⟨_, _, K9 _ ?_, hrun, hended, _, _, rfl, ?_, ⟨_, rfl⟩, hW, hsame.mono (by decide) (by decide)⟩
  · show Steps p.tables e below (T9.setTop (mkF m 25 #[.val (.int p0)] [(.ref b5)])) _
    jvm_step X9.here [X9.here.top, hx, (hb hby d13_25), X9.method', Bd.returns, Value.isRef, FieldType.isReference]
    first | (intro acts; rw [hr _ acts rfl rfl rfl]) | rw [hr _ _ rfl rfl rfl]
    exact Steps.refl _
  · show Qvo Z p0 G h0 n0 _ T9.heap _
    exact ⟨congrArg (fun z => some (Value.ref z)) g5, N9, Kp9, (g5 ▸ Ex9), (g5 ▸ Fc9), bb, kB, (g5 ▸ Fv9), (Vb.keep Kq9 (ninS (Ne.symm (own_ne_b5_bb)) nin0))⟩
theorem d10_0 : decode jdk_52_method_21_code 0 = .ok (.iconst 0, 1) := by decide +kernel
theorem d10_1 : decode jdk_52_method_21_code 1 = .ok (.istore 5, 2) := by decide +kernel
theorem d10_3 : decode jdk_52_method_21_code 3 = .ok (.iload 5, 2) := by decide +kernel
theorem d10_5 : decode jdk_52_method_21_code 5 = .ok (.iload 4, 2) := by decide +kernel
theorem d10_7 : decode jdk_52_method_21_code 7 = .ok (.if_icmp .ge 37, 3) := by decide +kernel
theorem d10_10 : decode jdk_52_method_21_code 10 = .ok (.aload_n 0, 1) := by decide +kernel
theorem d10_11 : decode jdk_52_method_21_code 11 = .ok (.iload_n 1, 1) := by decide +kernel
theorem d10_12 : decode jdk_52_method_21_code 12 = .ok (.caload, 1) := by decide +kernel
theorem d10_13 : decode jdk_52_method_21_code 13 = .ok (.istore 6, 2) := by decide +kernel
theorem d10_15 : decode jdk_52_method_21_code 15 = .ok (.iload 6, 2) := by decide +kernel
theorem d10_17 : decode jdk_52_method_21_code 17 = .ok (.sipush 255, 3) := by decide +kernel
theorem d10_20 : decode jdk_52_method_21_code 20 = .ok (.if_icmp .le 6, 3) := by decide +kernel
theorem d10_26 : decode jdk_52_method_21_code 26 = .ok (.aload_n 2, 1) := by decide +kernel
theorem d10_27 : decode jdk_52_method_21_code 27 = .ok (.iload_n 3, 1) := by decide +kernel
theorem d10_28 : decode jdk_52_method_21_code 28 = .ok (.iload 6, 2) := by decide +kernel
theorem d10_30 : decode jdk_52_method_21_code 30 = .ok (.i2b, 1) := by decide +kernel
theorem d10_31 : decode jdk_52_method_21_code 31 = .ok (.bastore, 1) := by decide +kernel
theorem d10_32 : decode jdk_52_method_21_code 32 = .ok (.iinc 1 1, 3) := by decide +kernel
theorem d10_35 : decode jdk_52_method_21_code 35 = .ok (.iinc 3 1, 3) := by decide +kernel
theorem d10_38 : decode jdk_52_method_21_code 38 = .ok (.iinc 5 1, 3) := by decide +kernel
theorem d10_41 : decode jdk_52_method_21_code 41 = .ok (.goto (-38), 3) := by decide +kernel
theorem d10_44 : decode jdk_52_method_21_code 44 = .ok (.iload 4, 2) := by decide +kernel
theorem d10_46 : decode jdk_52_method_21_code 46 = .ok (.ireturn, 1) := by decide +kernel
theorem pn_10 : plainName "java/lang/StringUTF16" = true := by first | (simp [plainName, overriddenIn]; done) | decide +kernel
theorem ef_10_2 (m : MethodId) (r0 : Addr) (r2 : Addr) : entryFrame m #[(.ref r0), (.int (0 : Int32)), (.ref r2), (.int (0 : Int32)), (.int (2 : Int32))] 7 = mkF m 0 #[.val (.ref r0), .val (.int (0 : Int32)), .val (.ref r2), .val (.int (0 : Int32)), .val (.int (2 : Int32)), .unset, .unset] [] := by first | (simp [entryFrame, mkF, argsToLocals, Value.category]; done) | rfl
def Q10_2 (Z : State) (r0 : Addr) (r2 : Addr) (kC : ClassId) (kB : ClassId) (c0 : Int32) (c1 : Int32) (h0 : Heap) (n0 : Nat) (v : Option Value) (h : Heap) (L : List Loc) : Prop := v = some (.int (2 : Int32)) ∧ Fr n0 L ∧ Keep h0 h [r2] ∧ Arv Z h r2 kB .byte (2 : Int32) [(.int ((c0).toInt8.toInt32).toInt8.toInt32), (.int ((c1).toInt8.toInt32).toInt8.toInt32)] (.int (0 : Int32))
set_option maxRecDepth 65536 in
set_option maxHeartbeats 40000000 in
theorem rm10_2 (l : Launch) (Z : State) (a0 : Array Value) (hw : ∀ d ∈ tables_1, d.before a0 Z = true) (ws : List Jvm.Cond) (r0 : Addr) (r2 : Addr) (kC : ClassId) (kB : ClassId) (c0 : Int32) (c1 : Int32) (h0 : Heap) (n0 : Nat) (Z0 : n0 ≤ h0.size) (V_r0 : Arv Z h0 r0 kC .char (2 : Int32) [(.int c0), (.int c1)] (.int (0 : Int32))) (V_r2 : Arv Z h0 r2 kB .byte (2 : Int32) [(.int (0 : Int32)), (.int (0 : Int32))] (.int (0 : Int32))) (hne : r0 ≠ r2) (g_r2 : n0 ≤ r2) (hl0 : ¬ (255 : Int32) < c0) (hl1 : ¬ (255 : Int32) < c1) :
    MetFree l (⟨"java/lang/StringUTF16", "compress", "([CI[BII)I"⟩ : MethodName) (head1 (Jvm.Cond.code (⟨"java/lang/StringUTF16", "compress", "([CI[BII)I"⟩ : MethodName) jdk_52_method_21_code 7 (some .int) :: ws) ({ frames := 0, cells := 0, slots := 0, locals := 0 } : Room)) (fun a U => a = #[(.ref r0), (.int (0 : Int32)), (.ref r2), (.int (0 : Int32)), (.int (2 : Int32))] ∧ Z.Warmed39 U.vm ∧ U.heap = h0) (fun _ _ _ _ _ => True) (fun _ U o U' => ∃ v L, o = .returned v ∧ Q10_2 Z r0 r2 kC kB c0 c1 h0 n0 v U'.heap L ∧ FrameEnd U o U' L ({ frames := 0, cells := 0, slots := 0, locals := 0 } : Room).cells ({ frames := 0, cells := 0, slots := 0, locals := 0 } : Room).slots) := by
  refine MetFree.of_bodySF (plainFor_of_name pn_10) hisR ?_
  intro p e s m args below meth c s₁ Bd hml0 hP hK
  obtain ⟨rfl, hZ, hh⟩ := hP
  have hx := Bd.exec
  have hby := Bd.bytes
  have hml : c.maxLocals = 7 := hml0
  have hown : s.vm.findClass "java/lang/StringUTF16" = some m.cls := findClass_of_methodNamed Bd.named
  have hnm := (name_of_methodNamed Bd.named Bd.method).1
  have X0 : Stand p l e ({ frames := 0, cells := 0, slots := 0, locals := 0 } : Room) s m #[(.ref r0), (.int (0 : Int32)), (.ref r2), (.int (0 : Int32)), (.int (2 : Int32))] below meth c s₁ [] 0 0 := Stand.of_body Bd
  have e0 : s₁.heap = h0 := by rw [← hh, Bd.state]; rfl
  have N0 := Fr.nil n0
  have K0 : ∀ t, Steps p.tables e below (s₁.setTop (mkF m 0 #[.val (.ref r0), .val (.int (0 : Int32)), .val (.ref r2), .val (.int (0 : Int32)), .val (.int (2 : Int32)), .unset, .unset] [])) t → Steps p.tables e below (s₁.setTop (entryFrame m #[(.ref r0), (.int (0 : Int32)), (.ref r2), (.int (0 : Int32)), (.int (2 : Int32))] 7)) t := fun t k => castTop (ef_10_2 m r0 r2) k
  generalize s₁.setTop (entryFrame m #[(.ref r0), (.int (0 : Int32)), (.ref r2), (.int (0 : Int32)), (.int (2 : Int32))] 7) = SE at K0 ⊢
  have K1 : own_K p e below SE s₁ (mkF m 12 #[.val (.ref r0), .val (.int (0 : Int32)), .val (.ref r2), .val (.int (0 : Int32)), .val (.int (2 : Int32)), .val (.int (0 : Int32)), .unset] [(.int (0 : Int32)), (.ref r0)]) := by
    intro t k
    refine K0 _ ?_
    refine XS.iconst X0.here hx rfl (hb hby d10_0) ?_
    show own_S p e below s₁ (mkF m 1 #[.val (.ref r0), .val (.int (0 : Int32)), .val (.ref r2), .val (.int (0 : Int32)), .val (.int (2 : Int32)), .unset, .unset] [(.int (0 : Int32))]) _
    refine XS.istore X0.here hx rfl (hb hby d10_1) rfl (l' := #[.val (.ref r0), .val (.int (0 : Int32)), .val (.ref r2), .val (.int (0 : Int32)), .val (.int (2 : Int32)), .val (.int (0 : Int32)), .unset]) rfl ?_
    show own_S p e below s₁ (mkF m 3 #[.val (.ref r0), .val (.int (0 : Int32)), .val (.ref r2), .val (.int (0 : Int32)), .val (.int (2 : Int32)), .val (.int (0 : Int32)), .unset] []) _
    refine XS.iload X0.here hx rfl (hb hby d10_3) rfl ?_
    show own_S p e below s₁ (mkF m 5 #[.val (.ref r0), .val (.int (0 : Int32)), .val (.ref r2), .val (.int (0 : Int32)), .val (.int (2 : Int32)), .val (.int (0 : Int32)), .unset] [(.int (0 : Int32))]) _
    refine XS.iload X0.here hx rfl (hb hby d10_5) rfl ?_
    show own_S p e below s₁ (mkF m 7 #[.val (.ref r0), .val (.int (0 : Int32)), .val (.ref r2), .val (.int (0 : Int32)), .val (.int (2 : Int32)), .val (.int (0 : Int32)), .unset] [(.int (2 : Int32)), (.int (0 : Int32))]) _
    refine XS.icmpNo X0.here hx rfl (hb hby d10_7) rfl (XT.ii_ge_f (by decide : (0 : Int32) < (2 : Int32))) ?_
    show own_S p e below s₁ (mkF m 10 #[.val (.ref r0), .val (.int (0 : Int32)), .val (.ref r2), .val (.int (0 : Int32)), .val (.int (2 : Int32)), .val (.int (0 : Int32)), .unset] []) _
    refine XS.aloadN X0.here hx rfl (hb hby d10_10) rfl rfl ?_
    show own_S p e below s₁ (mkF m 11 #[.val (.ref r0), .val (.int (0 : Int32)), .val (.ref r2), .val (.int (0 : Int32)), .val (.int (2 : Int32)), .val (.int (0 : Int32)), .unset] [(.ref r0)]) _
    refine XS.iloadN X0.here hx rfl (hb hby d10_11) rfl ?_
    exact k
  obtain ⟨cl2, Ar2, qk2, S2, Ng2, Hh2, Gg2⟩ := id V_r0
  have hin2 : ¬ ((0 : Int32) < 0 ∨ cl2.slots.size ≤ ((0 : Int32)).toNatClampNeg) := inb_of S2 ⟨by decide, by decide⟩
  have hat2 : cl2.slots[((0 : Int32)).toNatClampNeg]? = some (.int c0) := Has.at Hh2 hin2 rfl
  have K3 : own_K p e below SE s₁ (mkF m 31 #[.val (.ref r0), .val (.int (0 : Int32)), .val (.ref r2), .val (.int (0 : Int32)), .val (.int (2 : Int32)), .val (.int (0 : Int32)), .val (.int c0)] [(.int ((c0).toInt8.toInt32)), (.int (0 : Int32)), (.ref r2)]) := by
    intro t k
    refine K1 _ ?_
    refine X0.caload hx (j := (0 : Int32)) (v := (.int c0)) (by rw [e0]; exact Ar2.1) (State.isArrayOf_alike hZ.alike Ar2.2.1) Ar2.2.2 hin2 hat2 (g := (mkF m 12 #[.val (.ref r0), .val (.int (0 : Int32)), .val (.ref r2), .val (.int (0 : Int32)), .val (.int (2 : Int32)), .val (.int (0 : Int32)), .unset] [(.int (0 : Int32)), (.ref r0)])) rfl rfl (hb hby d10_12) _ ?_
    show own_S p e below s₁ (mkF m 13 #[.val (.ref r0), .val (.int (0 : Int32)), .val (.ref r2), .val (.int (0 : Int32)), .val (.int (2 : Int32)), .val (.int (0 : Int32)), .unset] [(.int c0)]) _
    refine XS.istore X0.here hx rfl (hb hby d10_13) rfl (l' := #[.val (.ref r0), .val (.int (0 : Int32)), .val (.ref r2), .val (.int (0 : Int32)), .val (.int (2 : Int32)), .val (.int (0 : Int32)), .val (.int c0)]) rfl ?_
    show own_S p e below s₁ (mkF m 15 #[.val (.ref r0), .val (.int (0 : Int32)), .val (.ref r2), .val (.int (0 : Int32)), .val (.int (2 : Int32)), .val (.int (0 : Int32)), .val (.int c0)] []) _
    refine XS.iload X0.here hx rfl (hb hby d10_15) rfl ?_
    show own_S p e below s₁ (mkF m 17 #[.val (.ref r0), .val (.int (0 : Int32)), .val (.ref r2), .val (.int (0 : Int32)), .val (.int (2 : Int32)), .val (.int (0 : Int32)), .val (.int c0)] [(.int c0)]) _
    refine XS.sipush X0.here hx rfl (hb hby d10_17) ?_
    show own_S p e below s₁ (mkF m 20 #[.val (.ref r0), .val (.int (0 : Int32)), .val (.ref r2), .val (.int (0 : Int32)), .val (.int (2 : Int32)), .val (.int (0 : Int32)), .val (.int c0)] [(.int (255 : Int32)), (.int c0)]) _
    refine XS.icmpYes X0.here hx rfl (pc0 := 20) (pc' := 26) rfl (hb hby d10_20) rfl (XT.ii_le_t hl0) (by decide) (by decide) ?_
    show own_S p e below s₁ (mkF m 26 #[.val (.ref r0), .val (.int (0 : Int32)), .val (.ref r2), .val (.int (0 : Int32)), .val (.int (2 : Int32)), .val (.int (0 : Int32)), .val (.int c0)] []) _
    refine XS.aloadN X0.here hx rfl (hb hby d10_26) rfl rfl ?_
    show own_S p e below s₁ (mkF m 27 #[.val (.ref r0), .val (.int (0 : Int32)), .val (.ref r2), .val (.int (0 : Int32)), .val (.int (2 : Int32)), .val (.int (0 : Int32)), .val (.int c0)] [(.ref r2)]) _
    refine XS.iloadN X0.here hx rfl (hb hby d10_27) rfl ?_
    show own_S p e below s₁ (mkF m 28 #[.val (.ref r0), .val (.int (0 : Int32)), .val (.ref r2), .val (.int (0 : Int32)), .val (.int (2 : Int32)), .val (.int (0 : Int32)), .val (.int c0)] [(.int (0 : Int32)), (.ref r2)]) _
    refine XS.iload X0.here hx rfl (hb hby d10_28) rfl ?_
    show own_S p e below s₁ (mkF m 30 #[.val (.ref r0), .val (.int (0 : Int32)), .val (.ref r2), .val (.int (0 : Int32)), .val (.int (2 : Int32)), .val (.int (0 : Int32)), .val (.int c0)] [(.int c0), (.int (0 : Int32)), (.ref r2)]) _
    refine XS.i2b X0.here hx rfl (hb hby d10_30) rfl ?_
    exact k
  obtain ⟨cl4, Ar4, qk4, S4, Ng4, Hh4, Gg4⟩ := id V_r2
  have hin4 : ¬ ((0 : Int32) < 0 ∨ cl4.slots.size ≤ ((0 : Int32)).toNatClampNeg) := inb_of S4 ⟨by decide, by decide⟩
  obtain ⟨T5, h5, X5, e5, W5, st5⟩ := stB X0 hx hZ e0 Ar4 (j := (0 : Int32)) hin4 (g := (mkF m 31 #[.val (.ref r0), .val (.int (0 : Int32)), .val (.ref r2), .val (.int (0 : Int32)), .val (.int (2 : Int32)), .val (.int (0 : Int32)), .val (.int c0)] [(.int ((c0).toInt8.toInt32)), (.int (0 : Int32)), (.ref r2)])) rfl rfl (hb hby d10_31)
  have V5 : Arv Z h5 r2 kB .byte (2 : Int32) [(.int (((c0).toInt8.toInt32)).toInt8.toInt32), (.int (0 : Int32))] (.int (0 : Int32)) := Arv.set Ar4 qk4 S4 Ng4 Hh4 Gg4 (fits_nar_byte _) W5 0 rfl (Nat.le_of_ble_eq_true rfl)
  have N5 := Fr.snoc X5 N0 g_r2
  have Kp5 : Keep h0 h5 [r2] := Keep.wr (Keep.refl h0 [r2]) W5 (Or.inl (List.mem_of_getElem? (i := 0) rfl))
  have K5 : own_K p e below SE T5 (mkF m 32 #[.val (.ref r0), .val (.int (0 : Int32)), .val (.ref r2), .val (.int (0 : Int32)), .val (.int (2 : Int32)), .val (.int (0 : Int32)), .val (.int c0)] []) := fun t k => K3 _ (st5 _ k)
  have K6 : own_K p e below SE T5 (mkF m 12 #[.val (.ref r0), .val (.int (1 : Int32)), .val (.ref r2), .val (.int (1 : Int32)), .val (.int (2 : Int32)), .val (.int (1 : Int32)), .val (.int c0)] [(.int (1 : Int32)), (.ref r0)]) := by
    intro t k
    refine K5 _ ?_
    refine XS.iinc X5.here hx rfl (hb hby d10_32) rfl (l' := #[.val (.ref r0), .val (.int (1 : Int32)), .val (.ref r2), .val (.int (0 : Int32)), .val (.int (2 : Int32)), .val (.int (0 : Int32)), .val (.int c0)]) rfl ?_
    show own_S p e below T5 (mkF m 35 #[.val (.ref r0), .val (.int (1 : Int32)), .val (.ref r2), .val (.int (0 : Int32)), .val (.int (2 : Int32)), .val (.int (0 : Int32)), .val (.int c0)] []) _
    refine XS.iinc X5.here hx rfl (hb hby d10_35) rfl (l' := #[.val (.ref r0), .val (.int (1 : Int32)), .val (.ref r2), .val (.int (1 : Int32)), .val (.int (2 : Int32)), .val (.int (0 : Int32)), .val (.int c0)]) rfl ?_
    show own_S p e below T5 (mkF m 38 #[.val (.ref r0), .val (.int (1 : Int32)), .val (.ref r2), .val (.int (1 : Int32)), .val (.int (2 : Int32)), .val (.int (0 : Int32)), .val (.int c0)] []) _
    refine XS.iinc X5.here hx rfl (hb hby d10_38) rfl (l' := #[.val (.ref r0), .val (.int (1 : Int32)), .val (.ref r2), .val (.int (1 : Int32)), .val (.int (2 : Int32)), .val (.int (1 : Int32)), .val (.int c0)]) rfl ?_
    show own_S p e below T5 (mkF m 41 #[.val (.ref r0), .val (.int (1 : Int32)), .val (.ref r2), .val (.int (1 : Int32)), .val (.int (2 : Int32)), .val (.int (1 : Int32)), .val (.int c0)] []) _
    refine XS.goto X5.here hx rfl (pc0 := 41) (pc' := 3) rfl (hb hby d10_41) (by decide) (by decide) ?_
    show own_S p e below T5 (mkF m 3 #[.val (.ref r0), .val (.int (1 : Int32)), .val (.ref r2), .val (.int (1 : Int32)), .val (.int (2 : Int32)), .val (.int (1 : Int32)), .val (.int c0)] []) _
    refine XS.iload X5.here hx rfl (hb hby d10_3) rfl ?_
    show own_S p e below T5 (mkF m 5 #[.val (.ref r0), .val (.int (1 : Int32)), .val (.ref r2), .val (.int (1 : Int32)), .val (.int (2 : Int32)), .val (.int (1 : Int32)), .val (.int c0)] [(.int (1 : Int32))]) _
    refine XS.iload X5.here hx rfl (hb hby d10_5) rfl ?_
    show own_S p e below T5 (mkF m 7 #[.val (.ref r0), .val (.int (1 : Int32)), .val (.ref r2), .val (.int (1 : Int32)), .val (.int (2 : Int32)), .val (.int (1 : Int32)), .val (.int c0)] [(.int (2 : Int32)), (.int (1 : Int32))]) _
    refine XS.icmpNo X5.here hx rfl (hb hby d10_7) rfl (XT.ii_ge_f (by decide : (1 : Int32) < (2 : Int32))) ?_
    show own_S p e below T5 (mkF m 10 #[.val (.ref r0), .val (.int (1 : Int32)), .val (.ref r2), .val (.int (1 : Int32)), .val (.int (2 : Int32)), .val (.int (1 : Int32)), .val (.int c0)] []) _
    refine XS.aloadN X5.here hx rfl (hb hby d10_10) rfl rfl ?_
    show own_S p e below T5 (mkF m 11 #[.val (.ref r0), .val (.int (1 : Int32)), .val (.ref r2), .val (.int (1 : Int32)), .val (.int (2 : Int32)), .val (.int (1 : Int32)), .val (.int c0)] [(.ref r0)]) _
    refine XS.iloadN X5.here hx rfl (hb hby d10_11) rfl ?_
    exact k
  obtain ⟨cl7, Ar7, qk7, S7, Ng7, Hh7, Gg7⟩ := id (V_r0.other W5 hne)
  have hin7 : ¬ ((1 : Int32) < 0 ∨ cl7.slots.size ≤ ((1 : Int32)).toNatClampNeg) := inb_of S7 ⟨by decide, by decide⟩
  have hat7 : cl7.slots[((1 : Int32)).toNatClampNeg]? = some (.int c1) := Has.at Hh7 hin7 rfl
  have K8 : own_K p e below SE T5 (mkF m 31 #[.val (.ref r0), .val (.int (1 : Int32)), .val (.ref r2), .val (.int (1 : Int32)), .val (.int (2 : Int32)), .val (.int (1 : Int32)), .val (.int c1)] [(.int ((c1).toInt8.toInt32)), (.int (1 : Int32)), (.ref r2)]) := by
    intro t k
    refine K6 _ ?_
    refine X5.caload hx (j := (1 : Int32)) (v := (.int c1)) (by rw [e5]; exact Ar7.1) (State.isArrayOf_alike hZ.alike Ar7.2.1) Ar7.2.2 hin7 hat7 (g := (mkF m 12 #[.val (.ref r0), .val (.int (1 : Int32)), .val (.ref r2), .val (.int (1 : Int32)), .val (.int (2 : Int32)), .val (.int (1 : Int32)), .val (.int c0)] [(.int (1 : Int32)), (.ref r0)])) rfl rfl (hb hby d10_12) _ ?_
    show own_S p e below T5 (mkF m 13 #[.val (.ref r0), .val (.int (1 : Int32)), .val (.ref r2), .val (.int (1 : Int32)), .val (.int (2 : Int32)), .val (.int (1 : Int32)), .val (.int c0)] [(.int c1)]) _
    refine XS.istore X5.here hx rfl (hb hby d10_13) rfl (l' := #[.val (.ref r0), .val (.int (1 : Int32)), .val (.ref r2), .val (.int (1 : Int32)), .val (.int (2 : Int32)), .val (.int (1 : Int32)), .val (.int c1)]) rfl ?_
    show own_S p e below T5 (mkF m 15 #[.val (.ref r0), .val (.int (1 : Int32)), .val (.ref r2), .val (.int (1 : Int32)), .val (.int (2 : Int32)), .val (.int (1 : Int32)), .val (.int c1)] []) _
    refine XS.iload X5.here hx rfl (hb hby d10_15) rfl ?_
    show own_S p e below T5 (mkF m 17 #[.val (.ref r0), .val (.int (1 : Int32)), .val (.ref r2), .val (.int (1 : Int32)), .val (.int (2 : Int32)), .val (.int (1 : Int32)), .val (.int c1)] [(.int c1)]) _
    refine XS.sipush X5.here hx rfl (hb hby d10_17) ?_
    show own_S p e below T5 (mkF m 20 #[.val (.ref r0), .val (.int (1 : Int32)), .val (.ref r2), .val (.int (1 : Int32)), .val (.int (2 : Int32)), .val (.int (1 : Int32)), .val (.int c1)] [(.int (255 : Int32)), (.int c1)]) _
    refine XS.icmpYes X5.here hx rfl (pc0 := 20) (pc' := 26) rfl (hb hby d10_20) rfl (XT.ii_le_t hl1) (by decide) (by decide) ?_
    show own_S p e below T5 (mkF m 26 #[.val (.ref r0), .val (.int (1 : Int32)), .val (.ref r2), .val (.int (1 : Int32)), .val (.int (2 : Int32)), .val (.int (1 : Int32)), .val (.int c1)] []) _
    refine XS.aloadN X5.here hx rfl (hb hby d10_26) rfl rfl ?_
    show own_S p e below T5 (mkF m 27 #[.val (.ref r0), .val (.int (1 : Int32)), .val (.ref r2), .val (.int (1 : Int32)), .val (.int (2 : Int32)), .val (.int (1 : Int32)), .val (.int c1)] [(.ref r2)]) _
    refine XS.iloadN X5.here hx rfl (hb hby d10_27) rfl ?_
    show own_S p e below T5 (mkF m 28 #[.val (.ref r0), .val (.int (1 : Int32)), .val (.ref r2), .val (.int (1 : Int32)), .val (.int (2 : Int32)), .val (.int (1 : Int32)), .val (.int c1)] [(.int (1 : Int32)), (.ref r2)]) _
    refine XS.iload X5.here hx rfl (hb hby d10_28) rfl ?_
    show own_S p e below T5 (mkF m 30 #[.val (.ref r0), .val (.int (1 : Int32)), .val (.ref r2), .val (.int (1 : Int32)), .val (.int (2 : Int32)), .val (.int (1 : Int32)), .val (.int c1)] [(.int c1), (.int (1 : Int32)), (.ref r2)]) _
    refine XS.i2b X5.here hx rfl (hb hby d10_30) rfl ?_
    exact k
  obtain ⟨cl9, Ar9, qk9, S9, Ng9, Hh9, Gg9⟩ := id V5
  have hin9 : ¬ ((1 : Int32) < 0 ∨ cl9.slots.size ≤ ((1 : Int32)).toNatClampNeg) := inb_of S9 ⟨by decide, by decide⟩
  obtain ⟨T10, h10, X10, e10, W10, st10⟩ := stB X5 hx hZ e5 Ar9 (j := (1 : Int32)) hin9 (g := (mkF m 31 #[.val (.ref r0), .val (.int (1 : Int32)), .val (.ref r2), .val (.int (1 : Int32)), .val (.int (2 : Int32)), .val (.int (1 : Int32)), .val (.int c1)] [(.int ((c1).toInt8.toInt32)), (.int (1 : Int32)), (.ref r2)])) rfl rfl (hb hby d10_31)
  have V10 : Arv Z h10 r2 kB .byte (2 : Int32) [(.int (((c0).toInt8.toInt32)).toInt8.toInt32), (.int (((c1).toInt8.toInt32)).toInt8.toInt32)] (.int (0 : Int32)) := Arv.set Ar9 qk9 S9 Ng9 Hh9 Gg9 (fits_nar_byte _) W10 1 rfl (Nat.le_of_ble_eq_true rfl)
  have N10 := Fr.snoc X10 N5 g_r2
  have Kp10 : Keep h0 h10 [r2] := Keep.wr Kp5 W10 (Or.inl (List.mem_of_getElem? (i := 0) rfl))
  have K10 : own_K p e below SE T10 (mkF m 32 #[.val (.ref r0), .val (.int (1 : Int32)), .val (.ref r2), .val (.int (1 : Int32)), .val (.int (2 : Int32)), .val (.int (1 : Int32)), .val (.int c1)] []) := fun t k => K8 _ (st10 _ k)
  have K11 : own_K p e below SE T10 (mkF m 46 #[.val (.ref r0), .val (.int (2 : Int32)), .val (.ref r2), .val (.int (2 : Int32)), .val (.int (2 : Int32)), .val (.int (2 : Int32)), .val (.int c1)] [(.int (2 : Int32))]) := by
    intro t k
    refine K10 _ ?_
    refine XS.iinc X10.here hx rfl (hb hby d10_32) rfl (l' := #[.val (.ref r0), .val (.int (2 : Int32)), .val (.ref r2), .val (.int (1 : Int32)), .val (.int (2 : Int32)), .val (.int (1 : Int32)), .val (.int c1)]) rfl ?_
    show own_S p e below T10 (mkF m 35 #[.val (.ref r0), .val (.int (2 : Int32)), .val (.ref r2), .val (.int (1 : Int32)), .val (.int (2 : Int32)), .val (.int (1 : Int32)), .val (.int c1)] []) _
    refine XS.iinc X10.here hx rfl (hb hby d10_35) rfl (l' := #[.val (.ref r0), .val (.int (2 : Int32)), .val (.ref r2), .val (.int (2 : Int32)), .val (.int (2 : Int32)), .val (.int (1 : Int32)), .val (.int c1)]) rfl ?_
    show own_S p e below T10 (mkF m 38 #[.val (.ref r0), .val (.int (2 : Int32)), .val (.ref r2), .val (.int (2 : Int32)), .val (.int (2 : Int32)), .val (.int (1 : Int32)), .val (.int c1)] []) _
    refine XS.iinc X10.here hx rfl (hb hby d10_38) rfl (l' := #[.val (.ref r0), .val (.int (2 : Int32)), .val (.ref r2), .val (.int (2 : Int32)), .val (.int (2 : Int32)), .val (.int (2 : Int32)), .val (.int c1)]) rfl ?_
    show own_S p e below T10 (mkF m 41 #[.val (.ref r0), .val (.int (2 : Int32)), .val (.ref r2), .val (.int (2 : Int32)), .val (.int (2 : Int32)), .val (.int (2 : Int32)), .val (.int c1)] []) _
    refine XS.goto X10.here hx rfl (pc0 := 41) (pc' := 3) rfl (hb hby d10_41) (by decide) (by decide) ?_
    show own_S p e below T10 (mkF m 3 #[.val (.ref r0), .val (.int (2 : Int32)), .val (.ref r2), .val (.int (2 : Int32)), .val (.int (2 : Int32)), .val (.int (2 : Int32)), .val (.int c1)] []) _
    refine XS.iload X10.here hx rfl (hb hby d10_3) rfl ?_
    show own_S p e below T10 (mkF m 5 #[.val (.ref r0), .val (.int (2 : Int32)), .val (.ref r2), .val (.int (2 : Int32)), .val (.int (2 : Int32)), .val (.int (2 : Int32)), .val (.int c1)] [(.int (2 : Int32))]) _
    refine XS.iload X10.here hx rfl (hb hby d10_5) rfl ?_
    show own_S p e below T10 (mkF m 7 #[.val (.ref r0), .val (.int (2 : Int32)), .val (.ref r2), .val (.int (2 : Int32)), .val (.int (2 : Int32)), .val (.int (2 : Int32)), .val (.int c1)] [(.int (2 : Int32)), (.int (2 : Int32))]) _
    refine XS.icmpYes X10.here hx rfl (pc0 := 7) (pc' := 44) rfl (hb hby d10_7) rfl (XT.ii_ge_t (by decide : ¬ ((2 : Int32) < (2 : Int32)))) (by decide) (by decide) ?_
    show own_S p e below T10 (mkF m 44 #[.val (.ref r0), .val (.int (2 : Int32)), .val (.ref r2), .val (.int (2 : Int32)), .val (.int (2 : Int32)), .val (.int (2 : Int32)), .val (.int c1)] []) _
    refine XS.iload X10.here hx rfl (hb hby d10_44) rfl ?_
    exact k
  obtain ⟨fs, hr, hrun, hended, hW, hsame⟩ := X10.leave (v := some (.int (2 : Int32))) (fun h => by rw [Bd.returns] at h; cases h)
  refine ⟨_, _, K11 _ ?_, hrun, hended, _, _, rfl, ?_, ⟨_, rfl⟩, hW, hsame.mono (by decide) (by decide)⟩
  · exact retI X10 hx Bd.returns (hb hby d10_46) hr
  · show Q10_2 Z r0 r2 kC kB c0 c1 h0 n0 _ T10.heap _
    rw [e10]
    exact ⟨rfl, N10, Kp10, V10⟩
theorem d9_0 : decode jdk_52_method_16_code 0 = .ok (.iload_n 2, 1) := by decide +kernel
theorem d9_1 : decode jdk_52_method_16_code 1 = .ok (.newarray .byte, 2) := by decide +kernel
theorem d9_3 : decode jdk_52_method_16_code 3 = .ok (.astore_n 3, 1) := by decide +kernel
theorem d9_4 : decode jdk_52_method_16_code 4 = .ok (.aload_n 0, 1) := by decide +kernel
theorem d9_5 : decode jdk_52_method_16_code 5 = .ok (.iload_n 1, 1) := by decide +kernel
theorem d9_6 : decode jdk_52_method_16_code 6 = .ok (.aload_n 3, 1) := by decide +kernel
theorem d9_7 : decode jdk_52_method_16_code 7 = .ok (.iconst 0, 1) := by decide +kernel
theorem d9_8 : decode jdk_52_method_16_code 8 = .ok (.iload_n 2, 1) := by decide +kernel
theorem d9_9 : decode jdk_52_method_16_code 9 = .ok (.invokestatic 115, 3) := by decide +kernel
theorem d9_12 : decode jdk_52_method_16_code 12 = .ok (.istore 4, 2) := by decide +kernel
theorem d9_14 : decode jdk_52_method_16_code 14 = .ok (.iload 4, 2) := by decide +kernel
theorem d9_16 : decode jdk_52_method_16_code 16 = .ok (.iload_n 2, 1) := by decide +kernel
theorem d9_17 : decode jdk_52_method_16_code 17 = .ok (.if_icmp .eq 40, 3) := by decide +kernel
theorem d9_57 : decode jdk_52_method_16_code 57 = .ok (.aload_n 3, 1) := by decide +kernel
theorem d9_58 : decode jdk_52_method_16_code 58 = .ok (.areturn, 1) := by decide +kernel
theorem pd_9_2_0 : parseMethodDescriptor "([CI[BII)I" = some ⟨[(.array .char), .int, (.array .byte), .int, .int], some .int⟩ := by decide +kernel
theorem ef_9_2 (m : MethodId) (r0 : Addr) : entryFrame m #[(.ref r0), (.int (0 : Int32)), (.int (2 : Int32))] 6 = mkF m 0 #[.val (.ref r0), .val (.int (0 : Int32)), .val (.int (2 : Int32)), .unset, .unset, .unset] [] := by first | (simp [entryFrame, mkF, argsToLocals, Value.category]; done) | rfl
def Q9_2 (Z : State) (r0 : Addr) (kC : ClassId) (c0 : Int32) (c1 : Int32) (h0 : Heap) (n0 : Nat) (v : Option Value) (h : Heap) (L : List Loc) : Prop := v = some (.ref h0.size) ∧ Fr n0 L ∧ Keep h0 h [] ∧ ∃ kB, Arv Z h h0.size kB .byte (2 : Int32) [(.int ((c0).toInt8.toInt32).toInt8.toInt32), (.int ((c1).toInt8.toInt32).toInt8.toInt32)] (.int (0 : Int32))
set_option maxRecDepth 65536 in
set_option maxHeartbeats 40000000 in
theorem rm9_2 (l : Launch) (Z : State) (a0 : Array Value) (hw : ∀ d ∈ tables_1, d.before a0 Z = true) (ws : List Jvm.Cond) (r0 : Addr) (kC : ClassId) (c0 : Int32) (c1 : Int32) (h0 : Heap) (n0 : Nat) (Z0 : n0 ≤ h0.size) (V_r0 : Arv Z h0 r0 kC .char (2 : Int32) [(.int c0), (.int c1)] (.int (0 : Int32))) (hl0 : ¬ (255 : Int32) < c0) (hl1 : ¬ (255 : Int32) < c1) :
    MetFree l (⟨"java/lang/StringUTF16", "compress", "([CII)[B"⟩ : MethodName) (head1 (Jvm.Cond.code (⟨"java/lang/StringUTF16", "compress", "([CII)[B"⟩ : MethodName) jdk_52_method_16_code 6 (some (.array .byte)) :: ws) ({ frames := 1, cells := 1, slots := 2, locals := 18 } : Room)) (fun a U => a = #[(.ref r0), (.int (0 : Int32)), (.int (2 : Int32))] ∧ Z.Warmed39 U.vm ∧ U.heap = h0) (fun _ _ _ _ _ => True) (fun _ U o U' => ∃ v L, o = .returned v ∧ Q9_2 Z r0 kC c0 c1 h0 n0 v U'.heap L ∧ FrameEnd U o U' L ({ frames := 1, cells := 1, slots := 2, locals := 18 } : Room).cells ({ frames := 1, cells := 1, slots := 2, locals := 18 } : Room).slots) := by
  refine MetFree.of_bodySF (plainFor_of_name pn_10) hisR ?_
  intro p e s m args below meth c s₁ Bd hml0 hP hK
  obtain ⟨rfl, hZ, hh⟩ := hP
  have hx := Bd.exec
  have hby := Bd.bytes
  have hml : c.maxLocals = 6 := hml0
  have hown : s.vm.findClass "java/lang/StringUTF16" = some m.cls := findClass_of_methodNamed Bd.named
  have hnm := (name_of_methodNamed Bd.named Bd.method).1
  have X0 : Stand p l e ({ frames := 1, cells := 1, slots := 2, locals := 18 } : Room) s m #[(.ref r0), (.int (0 : Int32)), (.int (2 : Int32))] below meth c s₁ [] 0 0 := Stand.of_body Bd
  have e0 : s₁.heap = h0 := by rw [← hh, Bd.state]; rfl
  have N0 := Fr.nil n0
  have K0 : ∀ t, Steps p.tables e below (s₁.setTop (mkF m 0 #[.val (.ref r0), .val (.int (0 : Int32)), .val (.int (2 : Int32)), .unset, .unset, .unset] [])) t → Steps p.tables e below (s₁.setTop (entryFrame m #[(.ref r0), (.int (0 : Int32)), (.int (2 : Int32))] 6)) t := fun t k => castTop (ef_9_2 m r0) k
  generalize s₁.setTop (entryFrame m #[(.ref r0), (.int (0 : Int32)), (.int (2 : Int32))] 6) = SE at K0 ⊢
  have K1 : own_K p e below SE s₁ (mkF m 1 #[.val (.ref r0), .val (.int (0 : Int32)), .val (.int (2 : Int32)), .unset, .unset, .unset] [(.int (2 : Int32))]) := by
    intro t k
    refine K0 _ ?_
    refine XS.iloadN X0.here hx rfl (hb hby d9_0) rfl ?_
    exact k
  obtain ⟨T2, h2, k2, X2, e2, E2, A2, st2⟩ := newP X0 hx hZ (hw _ (List.mem_of_getElem? (i := 11) rfl)) e0 (g := (mkF m 1 #[.val (.ref r0), .val (.int (0 : Int32)), .val (.int (2 : Int32)), .unset, .unset, .unset] [(.int (2 : Int32))])) rfl (hb hby d9_1) rfl (by decide) (cap := 2) (by decide) (by decide) (by decide) (by decide)
  obtain ⟨b2, g2⟩ : ∃ z, z = h0.size := ⟨_, rfl⟩
  rw [← g2] at A2 st2
  have g_b2 : n0 ≤ b2 := Nat.le_trans Z0 (Nat.le_of_eq g2.symm)
  have sz_b2 : h0.size ≤ b2 := Nat.le_trans (Nat.le_refl _) (Nat.le_of_eq g2.symm)
  have own_ne_r0_b2 : r0 ≠ b2 := Nat.ne_of_lt (Nat.lt_of_lt_of_le V_r0.lt (Nat.le_of_eq g2.symm))
  have Kp2 : Keep h0 h2 [] := Keep.ext (Keep.refl h0 []) E2
  have V2 : Arv Z h2 b2 k2 .byte (2 : Int32) [(.int (0 : Int32)), (.int (0 : Int32))] (.int (0 : Int32)) := (Arv.new A2 (by decide)).pad (pad_rep [] (.int (0 : Int32)) 2)
  have K2 : own_K p e below SE T2 (mkF m 3 #[.val (.ref r0), .val (.int (0 : Int32)), .val (.int (2 : Int32)), .unset, .unset, .unset] [(.ref b2)]) := fun t k => K1 _ (st2 _ k)
  have K3 : own_K p e below SE T2 (mkF m 9 #[.val (.ref r0), .val (.int (0 : Int32)), .val (.int (2 : Int32)), .val (.ref b2), .unset, .unset] [(.int (2 : Int32)), (.int (0 : Int32)), (.ref b2), (.int (0 : Int32)), (.ref r0)]) := by
    intro t k
    refine K2 _ ?_
    refine XS.astoreN X2.here hx rfl (hb hby d9_3) rfl rfl (l' := #[.val (.ref r0), .val (.int (0 : Int32)), .val (.int (2 : Int32)), .val (.ref b2), .unset, .unset]) rfl ?_
    show own_S p e below T2 (mkF m 4 #[.val (.ref r0), .val (.int (0 : Int32)), .val (.int (2 : Int32)), .val (.ref b2), .unset, .unset] []) _
    refine XS.aloadN X2.here hx rfl (hb hby d9_4) rfl rfl ?_
    show own_S p e below T2 (mkF m 5 #[.val (.ref r0), .val (.int (0 : Int32)), .val (.int (2 : Int32)), .val (.ref b2), .unset, .unset] [(.ref r0)]) _
    refine XS.iloadN X2.here hx rfl (hb hby d9_5) rfl ?_
    show own_S p e below T2 (mkF m 6 #[.val (.ref r0), .val (.int (0 : Int32)), .val (.int (2 : Int32)), .val (.ref b2), .unset, .unset] [(.int (0 : Int32)), (.ref r0)]) _
    refine XS.aloadN X2.here hx rfl (hb hby d9_6) rfl rfl ?_
    show own_S p e below T2 (mkF m 7 #[.val (.ref r0), .val (.int (0 : Int32)), .val (.int (2 : Int32)), .val (.ref b2), .unset, .unset] [(.ref b2), (.int (0 : Int32)), (.ref r0)]) _
    refine XS.iconst X2.here hx rfl (hb hby d9_7) ?_
    show own_S p e below T2 (mkF m 8 #[.val (.ref r0), .val (.int (0 : Int32)), .val (.int (2 : Int32)), .val (.ref b2), .unset, .unset] [(.int (0 : Int32)), (.ref b2), (.int (0 : Int32)), (.ref r0)]) _
    refine XS.iloadN X2.here hx rfl (hb hby d9_8) rfl ?_
    exact k
  obtain ⟨_, _, ⟨T4, L4, k4, n4⟩, -, X4, ⟨Lc4, hQ4, l4, y4, z4⟩, st4⟩ := Jvm.LawKit.callS X2 hx (y := (⟨"java/lang/StringUTF16", "compress", "([CI[BII)I"⟩ : MethodName)) hown (mvT hZ (hw _ (List.mem_of_getElem? (i := 60) rfl))) (mvT hZ (hw _ (List.mem_of_getElem? (i := 61) rfl))) (mvT hZ (hw _ (List.mem_of_getElem? (i := 58) rfl))) (mvT hZ (hw _ (List.mem_of_getElem? (i := 62) rfl))) (by decide) (backOf (W := 0) (rm10_2 l Z a0 hw [] r0 b2 kC k2 c0 c1 h2 n0 (Nat.le_trans Z0 Kp2.1) (V_r0.ext (own_ext Kp2)) V2 own_ne_r0_b2 g_b2 hl0 hl1) hZ (hw _ (List.mem_of_getElem? (i := 62) rfl)) (hw _ (List.mem_of_getElem? (i := 58) rfl)) (by decide) (by decide)) (g := (mkF m 9 #[.val (.ref r0), .val (.int (0 : Int32)), .val (.int (2 : Int32)), .val (.ref b2), .unset, .unset] [(.int (2 : Int32)), (.int (0 : Int32)), (.ref b2), (.int (0 : Int32)), (.ref r0)])) rfl (by rw [hml]; rfl) (argsL := [(.ref r0), (.int (0 : Int32)), (.ref b2), (.int (0 : Int32)), (.int (2 : Int32))]) (rest := []) (lenOf pd_9_2_0 rfl) rfl (by show 2 * 0 + _ ≤ _; exact Nat.le_of_eq rfl) (hb hby d9_9) (fun _ _ => ⟨rfl, e2, (by decide : 1 + 0 ≤ _), (by decide : 2 + 0 ≤ _)⟩)
  dsimp only [Pt.U, Pt.locs, Pt.cells, Pt.slots] at X4 l4 y4 z4 st4 hQ4
  rw [y4, z4] at X4
  obtain ⟨rfl, Nq4, Kq4, Vq4⟩ := hQ4
  have N4 : Fr n0 L4 := by rw [l4]; exact Fr.app N0 Nq4
  have Kp4 : Keep h0 T4.heap [] := Keep.trans Kp2 Kq4 (allS (Or.inr sz_b2) all0)
  have K4 : own_K p e below SE T4 (mkF m 12 #[.val (.ref r0), .val (.int (0 : Int32)), .val (.int (2 : Int32)), .val (.ref b2), .unset, .unset] [(.int (2 : Int32))]) := fun t k => K3 _ (st4 _ k)
  have K5 : own_K p e below SE T4 (mkF m 58 #[.val (.ref r0), .val (.int (0 : Int32)), .val (.int (2 : Int32)), .val (.ref b2), .val (.int (2 : Int32)), .unset] [(.ref b2)]) := by
    intro t k
    refine K4 _ ?_
    refine XS.istore X4.here hx rfl (hb hby d9_12) rfl (l' := #[.val (.ref r0), .val (.int (0 : Int32)), .val (.int (2 : Int32)), .val (.ref b2), .val (.int (2 : Int32)), .unset]) rfl ?_
    show own_S p e below T4 (mkF m 14 #[.val (.ref r0), .val (.int (0 : Int32)), .val (.int (2 : Int32)), .val (.ref b2), .val (.int (2 : Int32)), .unset] []) _
    refine XS.iload X4.here hx rfl (hb hby d9_14) rfl ?_
    show own_S p e below T4 (mkF m 16 #[.val (.ref r0), .val (.int (0 : Int32)), .val (.int (2 : Int32)), .val (.ref b2), .val (.int (2 : Int32)), .unset] [(.int (2 : Int32))]) _
    refine XS.iloadN X4.here hx rfl (hb hby d9_16) rfl ?_
    show own_S p e below T4 (mkF m 17 #[.val (.ref r0), .val (.int (0 : Int32)), .val (.int (2 : Int32)), .val (.ref b2), .val (.int (2 : Int32)), .unset] [(.int (2 : Int32)), (.int (2 : Int32))]) _
    refine XS.icmpYes X4.here hx rfl (pc0 := 17) (pc' := 57) rfl (hb hby d9_17) rfl (XT.ii_eq_t (by decide : (2 : Int32) = (2 : Int32))) (by decide) (by decide) ?_
    show own_S p e below T4 (mkF m 57 #[.val (.ref r0), .val (.int (0 : Int32)), .val (.int (2 : Int32)), .val (.ref b2), .val (.int (2 : Int32)), .unset] []) _
    refine XS.aloadN X4.here hx rfl (hb hby d9_57) rfl rfl ?_
    exact k
  obtain ⟨fs, hr, hrun, hended, hW, hsame⟩ := X4.leave (v := some (.ref b2)) (fun h => by rw [Bd.returns] at h; cases h)
  refine ⟨_, _, K5 _ ?_, hrun, hended, _, _, rfl, ?_, ⟨_, rfl⟩, hW, hsame.mono (by decide) (by decide)⟩
  · show Steps p.tables e below (T4.setTop (mkF m 58 #[.val (.ref r0), .val (.int (0 : Int32)), .val (.int (2 : Int32)), .val (.ref b2), .val (.int (2 : Int32)), .unset] [(.ref b2)])) _
    jvm_step X4.here [X4.here.top, hx, (hb hby d9_58), X4.method', Bd.returns, Value.isRef, FieldType.isReference]
    first | (intro acts; rw [hr _ acts rfl rfl rfl]) | rw [hr _ _ rfl rfl rfl]
    exact Steps.refl _
  · show Q9_2 Z r0 kC c0 c1 h0 n0 _ T4.heap _
    exact ⟨congrArg (fun z => some (Value.ref z)) g2, N4, Kp4, _, (g2 ▸ Vq4)⟩
theorem d11_0 : decode jdk_52_method_15_code 0 = .ok (.iload_n 1, 1) := by decide +kernel
theorem d11_1 : decode jdk_52_method_15_code 1 = .ok (.aload_n 0, 1) := by decide +kernel
theorem d11_2 : decode jdk_52_method_15_code 2 = .ok (.arraylength, 1) := by decide +kernel
theorem d11_3 : decode jdk_52_method_15_code 3 = .ok (.isub, 1) := by decide +kernel
theorem d11_4 : decode jdk_52_method_15_code 4 = .ok (.bipush 31, 2) := by decide +kernel
theorem d11_6 : decode jdk_52_method_15_code 6 = .ok (.iushr, 1) := by decide +kernel
theorem d11_7 : decode jdk_52_method_15_code 7 = .ok (.i2b, 1) := by decide +kernel
theorem d11_8 : decode jdk_52_method_15_code 8 = .ok (.ireturn, 1) := by decide +kernel
theorem ef_11_2 (m : MethodId) (r0 : Addr) : entryFrame m #[(.ref r0), (.int (2 : Int32))] 2 = mkF m 0 #[.val (.ref r0), .val (.int (2 : Int32))] [] := by first | (simp [entryFrame, mkF, argsToLocals, Value.category]; done) | rfl
def Q11_2 (Z : State) (r0 : Addr) (kB : ClassId) (vs : List Value) (h0 : Heap) (n0 : Nat) (v : Option Value) (h : Heap) (L : List Loc) : Prop := v = some (.int (0 : Int32)) ∧ Fr n0 L ∧ h = h0
set_option maxRecDepth 65536 in
set_option maxHeartbeats 40000000 in
theorem rm11_2 (l : Launch) (Z : State) (a0 : Array Value) (hw : ∀ d ∈ tables_1, d.before a0 Z = true) (ws : List Jvm.Cond) (r0 : Addr) (kB : ClassId) (vs : List Value) (h0 : Heap) (n0 : Nat) (Z0 : n0 ≤ h0.size) (V_r0 : Arv Z h0 r0 kB .byte (2 : Int32) vs (.int (0 : Int32))) :
    MetFree l (⟨"java/lang/StringUTF16", "coderFromArrayLen", "([BI)B"⟩ : MethodName) (head1 (Jvm.Cond.code (⟨"java/lang/StringUTF16", "coderFromArrayLen", "([BI)B"⟩ : MethodName) jdk_52_method_15_code 2 (some .byte) :: ws) ({ frames := 0, cells := 0, slots := 0, locals := 0 } : Room)) (fun a U => a = #[(.ref r0), (.int (2 : Int32))] ∧ Z.Warmed39 U.vm ∧ U.heap = h0) (fun _ _ _ _ _ => True) (fun _ U o U' => ∃ v L, o = .returned v ∧ Q11_2 Z r0 kB vs h0 n0 v U'.heap L ∧ FrameEnd U o U' L ({ frames := 0, cells := 0, slots := 0, locals := 0 } : Room).cells ({ frames := 0, cells := 0, slots := 0, locals := 0 } : Room).slots) := by
  refine MetFree.of_bodySF (plainFor_of_name pn_10) hisR ?_
  intro p e s m args below meth c s₁ Bd hml0 hP hK
  obtain ⟨rfl, hZ, hh⟩ := hP
  have hx := Bd.exec
  have hby := Bd.bytes
  have hml : c.maxLocals = 2 := hml0
  have hown : s.vm.findClass "java/lang/StringUTF16" = some m.cls := findClass_of_methodNamed Bd.named
  have hnm := (name_of_methodNamed Bd.named Bd.method).1
  have X0 : Stand p l e ({ frames := 0, cells := 0, slots := 0, locals := 0 } : Room) s m #[(.ref r0), (.int (2 : Int32))] below meth c s₁ [] 0 0 := Stand.of_body Bd
  have e0 : s₁.heap = h0 := by rw [← hh, Bd.state]; rfl
  have N0 := Fr.nil n0
  have K0 : ∀ t, Steps p.tables e below (s₁.setTop (mkF m 0 #[.val (.ref r0), .val (.int (2 : Int32))] [])) t → Steps p.tables e below (s₁.setTop (entryFrame m #[(.ref r0), (.int (2 : Int32))] 2)) t := fun t k => castTop (ef_11_2 m r0) k
  generalize s₁.setTop (entryFrame m #[(.ref r0), (.int (2 : Int32))] 2) = SE at K0 ⊢
  have K1 : own_K p e below SE s₁ (mkF m 2 #[.val (.ref r0), .val (.int (2 : Int32))] [(.ref r0), (.int (2 : Int32))]) := by
    intro t k
    refine K0 _ ?_
    refine XS.iloadN X0.here hx rfl (hb hby d11_0) rfl ?_
    show own_S p e below s₁ (mkF m 1 #[.val (.ref r0), .val (.int (2 : Int32))] [(.int (2 : Int32))]) _
    refine XS.aloadN X0.here hx rfl (hb hby d11_1) rfl rfl ?_
    exact k
  obtain ⟨cl2, Ar2, -, S2, Ng2, -, -⟩ := id V_r0
  have K3 : own_K p e below SE s₁ (mkF m 7 #[.val (.ref r0), .val (.int (2 : Int32))] [(.int (((0 : Int32).toUInt32 >>> ((31 : Int32) &&& 31).toUInt32).toInt32))]) := by
    intro t k
    refine K1 _ ?_
    refine X0.arraylength hx (by rw [e0]; exact Ar2.1) (State.isArrayOf_alike hZ.alike Ar2.2.1) (g := (mkF m 2 #[.val (.ref r0), .val (.int (2 : Int32))] [(.ref r0), (.int (2 : Int32))])) rfl rfl (hb hby d11_2) _ ?_
    rw [len_of S2 Ng2]
    show own_S p e below s₁ (mkF m 3 #[.val (.ref r0), .val (.int (2 : Int32))] [(.int (2 : Int32)), (.int (2 : Int32))]) _
    refine XS.isub X0.here hx rfl (hb hby d11_3) rfl ?_
    show own_S p e below s₁ (mkF m 4 #[.val (.ref r0), .val (.int (2 : Int32))] [(.int (0 : Int32))]) _
    refine XS.bipush X0.here hx rfl (hb hby d11_4) ?_
    show own_S p e below s₁ (mkF m 6 #[.val (.ref r0), .val (.int (2 : Int32))] [(.int (31 : Int32)), (.int (0 : Int32))]) _
    refine XS.iushr X0.here hx rfl (hb hby d11_6) rfl ?_
    exact k
  rw [(by decide : (((0 : Int32).toUInt32 >>> ((31 : Int32) &&& 31).toUInt32).toInt32) = (0 : Int32))] at K3
  have K4 : own_K p e below SE s₁ (mkF m 8 #[.val (.ref r0), .val (.int (2 : Int32))] [(.int (((0 : Int32)).toInt8.toInt32))]) := by
    intro t k
    refine K3 _ ?_
    refine XS.i2b X0.here hx rfl (hb hby d11_7) rfl ?_
    exact k
  rw [(by decide : (((0 : Int32)).toInt8.toInt32) = (0 : Int32))] at K4
  obtain ⟨fs, hr, hrun, hended, hW, hsame⟩ := X0.leave (v := some (.int (0 : Int32))) (fun h => by rw [Bd.returns] at h; cases h)
  refine ⟨_, _, K4 _ ?_, hrun, hended, _, _, rfl, ?_, ⟨_, rfl⟩, hW, hsame.mono (by decide) (by decide)⟩
  · exact retN X0 hx (t := .byte) Bd.returns (by simp) (hb hby d11_8) hr
  · show Q11_2 Z r0 kB vs h0 n0 _ s₁.heap _
    rw [e0]
    exact ⟨rfl, N0, rfl⟩
theorem d8_0 : decode jdk_42_method_149_code 0 = .ok (.aload_n 0, 1) := by decide +kernel
theorem d8_1 : decode jdk_42_method_149_code 1 = .ok (.invokespecial 1, 3) := by decide +kernel
theorem d8_4 : decode jdk_42_method_149_code 4 = .ok (.iload_n 3, 1) := by decide +kernel
theorem d8_5 : decode jdk_42_method_149_code 5 = .ok (.ifCond .ne 22, 3) := by decide +kernel
theorem d8_27 : decode jdk_42_method_149_code 27 = .ok (.getstatic 38, 3) := by decide +kernel
theorem d8_30 : decode jdk_42_method_149_code 30 = .ok (.ifCond .eq 28, 3) := by decide +kernel
theorem d8_33 : decode jdk_42_method_149_code 33 = .ok (.aload_n 1, 1) := by decide +kernel
theorem d8_34 : decode jdk_42_method_149_code 34 = .ok (.iload_n 2, 1) := by decide +kernel
theorem d8_35 : decode jdk_42_method_149_code 35 = .ok (.iload_n 3, 1) := by decide +kernel
theorem d8_36 : decode jdk_42_method_149_code 36 = .ok (.invokestatic 177, 3) := by decide +kernel
theorem d8_39 : decode jdk_42_method_149_code 39 = .ok (.astore 5, 2) := by decide +kernel
theorem d8_41 : decode jdk_42_method_149_code 41 = .ok (.aload_n 0, 1) := by decide +kernel
theorem d8_42 : decode jdk_42_method_149_code 42 = .ok (.aload 5, 2) := by decide +kernel
theorem d8_44 : decode jdk_42_method_149_code 44 = .ok (.iload_n 3, 1) := by decide +kernel
theorem d8_45 : decode jdk_42_method_149_code 45 = .ok (.invokestatic 47, 3) := by decide +kernel
theorem d8_48 : decode jdk_42_method_149_code 48 = .ok (.putfield 15, 3) := by decide +kernel
theorem d8_51 : decode jdk_42_method_149_code 51 = .ok (.aload_n 0, 1) := by decide +kernel
theorem d8_52 : decode jdk_42_method_149_code 52 = .ok (.aload 5, 2) := by decide +kernel
theorem d8_54 : decode jdk_42_method_149_code 54 = .ok (.putfield 9, 3) := by decide +kernel
theorem d8_57 : decode jdk_42_method_149_code 57 = .ok (.return_, 1) := by decide +kernel
theorem pd_8_2_0 : parseMethodDescriptor "([CII)[B" = some ⟨[(.array .char), .int, .int], some (.array .byte)⟩ := by decide +kernel
theorem pd_8_2_1 : parseMethodDescriptor "([BI)B" = some ⟨[(.array .byte), .int], some .byte⟩ := by decide +kernel
theorem ef_8_2 (m : MethodId) (r0 : Addr) (r1 : Addr) : entryFrame m #[(.ref r0), (.ref r1), (.int (0 : Int32)), (.int (2 : Int32)), .null] 6 = mkF m 0 #[.val (.ref r0), .val (.ref r1), .val (.int (0 : Int32)), .val (.int (2 : Int32)), .val .null, .unset] [] := by first | (simp [entryFrame, mkF, argsToLocals, Value.category]; done) | rfl
def Q8_2 (Z : State) (r0 : Addr) (r1 : Addr) (kC : ClassId) (G : Int32) (c0 : Int32) (c1 : Int32) (h0 : Heap) (n0 : Nat) (v : Option Value) (h : Heap) (L : List Loc) : Prop := v = none ∧ Fr n0 L ∧ Keep h0 h [r0] ∧ Exa Z h r0 "java/lang/String" ∧ Fld Z h r0 "java/lang/String" "coder" "B" (.int (0 : Int32)) ∧ ∃ (b : Addr) (kB : ClassId), h0.size ≤ b ∧ Fld Z h r0 "java/lang/String" "value" "[B" (.ref b) ∧ Arv Z h b kB .byte (2 : Int32) [(.int ((c0).toInt8.toInt32).toInt8.toInt32), (.int ((c1).toInt8.toInt32).toInt8.toInt32)] (.int (0 : Int32))
set_option maxRecDepth 65536 in
set_option maxHeartbeats 40000000 in
theorem rm8_2 (l : Launch) (Z : State) (a0 : Array Value) (hw : ∀ d ∈ tables_1, d.before a0 Z = true) (ws : List Jvm.Cond) (r0 : Addr) (r1 : Addr) (kC : ClassId) (G : Int32) (c0 : Int32) (c1 : Int32) (h0 : Heap) (n0 : Nat) (Z0 : n0 ≤ h0.size) (E_r0 : Exa Z h0 r0 "java/lang/String") (F_c : Fld Z h0 r0 "java/lang/String" "coder" "B" (.int (0 : Int32))) (F_v : Fld Z h0 r0 "java/lang/String" "value" "[B" .null) (g_r0 : n0 ≤ r0) (V_r1 : Arv Z h0 r1 kC .char (2 : Int32) [(.int c0), (.int c1)] (.int (0 : Int32))) (S_cs : Sta Z h0 "java/lang/String" "COMPACT_STRINGS" "Z" (.int G)) (hG : ¬ G = 0) (hl0 : ¬ (255 : Int32) < c0) (hl1 : ¬ (255 : Int32) < c1) :
    MetFree l (⟨"java/lang/String", "<init>", "([CIILjava/lang/Void;)V"⟩ : MethodName) (head1 (Jvm.Cond.code (⟨"java/lang/String", "<init>", "([CIILjava/lang/Void;)V"⟩ : MethodName) jdk_42_method_149_code 6 none :: ws) ({ frames := 2, cells := 1, slots := 2, locals := 35 } : Room)) (fun a U => a = #[(.ref r0), (.ref r1), (.int (0 : Int32)), (.int (2 : Int32)), .null] ∧ Z.Warmed39 U.vm ∧ U.heap = h0) (fun _ _ _ _ _ => True) (fun _ U o U' => ∃ v L, o = .returned v ∧ Q8_2 Z r0 r1 kC G c0 c1 h0 n0 v U'.heap L ∧ FrameEnd U o U' L ({ frames := 2, cells := 1, slots := 2, locals := 35 } : Room).cells ({ frames := 2, cells := 1, slots := 2, locals := 35 } : Room).slots) := by
  refine MetFree.of_bodySF (plainFor_of_name pn_16) hisR ?_
  intro p e s m args below meth c s₁ Bd hml0 hP hK
  obtain ⟨rfl, hZ, hh⟩ := hP
  have hx := Bd.exec
  have hby := Bd.bytes
  have hml : c.maxLocals = 6 := hml0
  have hown : s.vm.findClass "java/lang/String" = some m.cls := findClass_of_methodNamed Bd.named
  have hnm := (name_of_methodNamed Bd.named Bd.method).1
  have X0 : Stand p l e ({ frames := 2, cells := 1, slots := 2, locals := 35 } : Room) s m #[(.ref r0), (.ref r1), (.int (0 : Int32)), (.int (2 : Int32)), .null] below meth c s₁ [] 0 0 := Stand.of_body Bd
  have e0 : s₁.heap = h0 := by rw [← hh, Bd.state]; rfl
  have N0 := Fr.nil n0
  have K0 : ∀ t, Steps p.tables e below (s₁.setTop (mkF m 0 #[.val (.ref r0), .val (.ref r1), .val (.int (0 : Int32)), .val (.int (2 : Int32)), .val .null, .unset] [])) t → Steps p.tables e below (s₁.setTop (entryFrame m #[(.ref r0), (.ref r1), (.int (0 : Int32)), (.int (2 : Int32)), .null] 6)) t := fun t k => castTop (ef_8_2 m r0 r1) k
  generalize s₁.setTop (entryFrame m #[(.ref r0), (.ref r1), (.int (0 : Int32)), (.int (2 : Int32)), .null] 6) = SE at K0 ⊢
  have K1 : own_K p e below SE s₁ (mkF m 1 #[.val (.ref r0), .val (.ref r1), .val (.int (0 : Int32)), .val (.int (2 : Int32)), .val .null, .unset] [(.ref r0)]) := by
    intro t k
    refine K0 _ ?_
    refine XS.aloadN X0.here hx rfl (hb hby d8_0) rfl rfl ?_
    exact k
  obtain ⟨T2, X2, e2, st2⟩ := initO X0 hx hZ hown (hw _ (List.mem_of_getElem? (i := 54) rfl)) (hw _ (List.mem_of_getElem? (i := 23) rfl)) (hw _ (List.mem_of_getElem? (i := 24) rfl)) e0 (g := (mkF m 1 #[.val (.ref r0), .val (.ref r1), .val (.int (0 : Int32)), .val (.int (2 : Int32)), .val .null, .unset] [(.ref r0)])) rfl (by rw [hml]; rfl) rfl (hb hby d8_1) (by decide) (W := 0) (by show 2 * 0 + _ ≤ _; exact Nat.le_of_eq rfl) (by decide)
  have K2 : own_K p e below SE T2 (mkF m 4 #[.val (.ref r0), .val (.ref r1), .val (.int (0 : Int32)), .val (.int (2 : Int32)), .val .null, .unset] []) := fun t k => K1 _ (st2 _ k)
  have K3 : own_K p e below SE T2 (mkF m 27 #[.val (.ref r0), .val (.ref r1), .val (.int (0 : Int32)), .val (.int (2 : Int32)), .val .null, .unset] []) := by
    intro t k
    refine K2 _ ?_
    refine XS.iloadN X2.here hx rfl (hb hby d8_4) rfl ?_
    show own_S p e below T2 (mkF m 5 #[.val (.ref r0), .val (.ref r1), .val (.int (0 : Int32)), .val (.int (2 : Int32)), .val .null, .unset] [(.int (2 : Int32))]) _
    refine XS.ifYes X2.here hx rfl (pc0 := 5) (pc' := 27) rfl (hb hby d8_5) rfl (XT.i0_ne_t (by decide : ¬ ((2 : Int32) = 0))) (by decide) (by decide) ?_
    exact k
  obtain ⟨T4, X4, e4, st4⟩ := getS2 X2 hx hZ hown (host := "") (Or.inl (hw _ (List.mem_of_getElem? (i := 55) rfl))) Via.refl e2 S_cs (g := (mkF m 27 #[.val (.ref r0), .val (.ref r1), .val (.int (0 : Int32)), .val (.int (2 : Int32)), .val .null, .unset] [])) rfl (hb hby d8_27)
  have K4 : own_K p e below SE T4 (mkF m 30 #[.val (.ref r0), .val (.ref r1), .val (.int (0 : Int32)), .val (.int (2 : Int32)), .val .null, .unset] [(.int G)]) := fun t k => K3 _ (st4 _ k)
  have K5 : own_K p e below SE T4 (mkF m 36 #[.val (.ref r0), .val (.ref r1), .val (.int (0 : Int32)), .val (.int (2 : Int32)), .val .null, .unset] [(.int (2 : Int32)), (.int (0 : Int32)), (.ref r1)]) := by
    intro t k
    refine K4 _ ?_
    refine XS.ifNo X4.here hx rfl (hb hby d8_30) rfl (XT.i0_eq_f hG) ?_
    show own_S p e below T4 (mkF m 33 #[.val (.ref r0), .val (.ref r1), .val (.int (0 : Int32)), .val (.int (2 : Int32)), .val .null, .unset] []) _
    refine XS.aloadN X4.here hx rfl (hb hby d8_33) rfl rfl ?_
    show own_S p e below T4 (mkF m 34 #[.val (.ref r0), .val (.ref r1), .val (.int (0 : Int32)), .val (.int (2 : Int32)), .val .null, .unset] [(.ref r1)]) _
    refine XS.iloadN X4.here hx rfl (hb hby d8_34) rfl ?_
    show own_S p e below T4 (mkF m 35 #[.val (.ref r0), .val (.ref r1), .val (.int (0 : Int32)), .val (.int (2 : Int32)), .val .null, .unset] [(.int (0 : Int32)), (.ref r1)]) _
    refine XS.iloadN X4.here hx rfl (hb hby d8_35) rfl ?_
    exact k
  obtain ⟨_, _, ⟨T6, L6, k6, n6⟩, -, X6, ⟨Lc6, hQ6, l6, y6, z6⟩, st6⟩ := Jvm.LawKit.callS X4 hx (y := (⟨"java/lang/StringUTF16", "compress", "([CII)[B"⟩ : MethodName)) hown (mvT hZ (hw _ (List.mem_of_getElem? (i := 56) rfl))) (mvT hZ (hw _ (List.mem_of_getElem? (i := 57) rfl))) (mvT hZ (hw _ (List.mem_of_getElem? (i := 58) rfl))) (mvT hZ (hw _ (List.mem_of_getElem? (i := 59) rfl))) (by decide) (backOf (W := 0) (rm9_2 l Z a0 hw [] r1 kC c0 c1 h0 n0 Z0 V_r1 hl0 hl1) hZ (hw _ (List.mem_of_getElem? (i := 59) rfl)) (hw _ (List.mem_of_getElem? (i := 58) rfl)) (by decide) (by decide)) (g := (mkF m 36 #[.val (.ref r0), .val (.ref r1), .val (.int (0 : Int32)), .val (.int (2 : Int32)), .val .null, .unset] [(.int (2 : Int32)), (.int (0 : Int32)), (.ref r1)])) rfl (by rw [hml]; rfl) (argsL := [(.ref r1), (.int (0 : Int32)), (.int (2 : Int32))]) (rest := []) (lenOf pd_8_2_0 rfl) rfl (by show 2 * 0 + _ ≤ _; exact Nat.le_of_eq rfl) (hb hby d8_36) (fun _ _ => ⟨rfl, e4, (by decide : 0 + 1 ≤ _), (by decide : 0 + 2 ≤ _)⟩)
  dsimp only [Pt.U, Pt.locs, Pt.cells, Pt.slots] at X6 l6 y6 z6 st6 hQ6
  rw [y6, z6] at X6
  obtain ⟨rfl, Nq6, Kq6, Vb6⟩ := hQ6
  have N6 : Fr n0 L6 := by rw [l6]; exact Fr.app N0 Nq6
  have Kp6 : Keep h0 T6.heap [r0] := Keep.trans (Keep.refl h0 [r0]) Kq6 all0
  have K6 : own_K p e below SE T6 (mkF m 39 #[.val (.ref r0), .val (.ref r1), .val (.int (0 : Int32)), .val (.int (2 : Int32)), .val .null, .unset] [(.ref h0.size)]) := fun t k => K5 _ (st6 _ k)
  obtain ⟨kB, Vb⟩ := Vb6
  obtain ⟨bb, gbb⟩ : ∃ z, z = h0.size := ⟨_, rfl⟩
  rw [← gbb] at K6 Vb
  have own_ne_r0_bb : r0 ≠ bb := Nat.ne_of_lt (Nat.lt_of_lt_of_le E_r0.lt (Nat.le_of_eq gbb.symm))
  have K7 : own_K p e below SE T6 (mkF m 45 #[.val (.ref r0), .val (.ref r1), .val (.int (0 : Int32)), .val (.int (2 : Int32)), .val .null, .val (.ref bb)] [(.int (2 : Int32)), (.ref bb), (.ref r0)]) := by
    intro t k
    refine K6 _ ?_
    refine XS.astore X6.here hx rfl (hb hby d8_39) rfl rfl (l' := #[.val (.ref r0), .val (.ref r1), .val (.int (0 : Int32)), .val (.int (2 : Int32)), .val .null, .val (.ref bb)]) rfl ?_
    show own_S p e below T6 (mkF m 41 #[.val (.ref r0), .val (.ref r1), .val (.int (0 : Int32)), .val (.int (2 : Int32)), .val .null, .val (.ref bb)] []) _
    refine XS.aloadN X6.here hx rfl (hb hby d8_41) rfl rfl ?_
    show own_S p e below T6 (mkF m 42 #[.val (.ref r0), .val (.ref r1), .val (.int (0 : Int32)), .val (.int (2 : Int32)), .val .null, .val (.ref bb)] [(.ref r0)]) _
    refine XS.aload X6.here hx rfl (hb hby d8_42) rfl rfl ?_
    show own_S p e below T6 (mkF m 44 #[.val (.ref r0), .val (.ref r1), .val (.int (0 : Int32)), .val (.int (2 : Int32)), .val .null, .val (.ref bb)] [(.ref bb), (.ref r0)]) _
    refine XS.iloadN X6.here hx rfl (hb hby d8_44) rfl ?_
    exact k
  obtain ⟨_, _, ⟨T8, L8, k8, n8⟩, -, X8, ⟨Lc8, hQ8, l8, y8, z8⟩, st8⟩ := Jvm.LawKit.callS X6 hx (y := (⟨"java/lang/StringUTF16", "coderFromArrayLen", "([BI)B"⟩ : MethodName)) hown (mvT hZ (hw _ (List.mem_of_getElem? (i := 63) rfl))) (mvT hZ (hw _ (List.mem_of_getElem? (i := 64) rfl))) (mvT hZ (hw _ (List.mem_of_getElem? (i := 58) rfl))) (mvT hZ (hw _ (List.mem_of_getElem? (i := 65) rfl))) (by decide) (backOf (W := 1) (rm11_2 l Z a0 hw [] bb kB _ T6.heap n0 (Nat.le_trans Z0 Kp6.1) Vb) hZ (hw _ (List.mem_of_getElem? (i := 65) rfl)) (hw _ (List.mem_of_getElem? (i := 58) rfl)) (by decide) (by decide)) (g := (mkF m 45 #[.val (.ref r0), .val (.ref r1), .val (.int (0 : Int32)), .val (.int (2 : Int32)), .val .null, .val (.ref bb)] [(.int (2 : Int32)), (.ref bb), (.ref r0)])) rfl (by rw [hml]; rfl) (argsL := [(.ref bb), (.int (2 : Int32))]) (rest := [(.ref r0)]) (lenOf pd_8_2_1 rfl) rfl (by show 2 * 0 + _ ≤ _; exact Nat.le_of_eq rfl) (hb hby d8_45) (fun _ _ => ⟨rfl, rfl, (by decide : 1 + 0 ≤ _), (by decide : 2 + 0 ≤ _)⟩)
  dsimp only [Pt.U, Pt.locs, Pt.cells, Pt.slots] at X8 l8 y8 z8 st8 hQ8
  rw [y8, z8] at X8
  obtain ⟨rfl, Nq8, e8⟩ := hQ8
  have N8 : Fr n0 L8 := by rw [l8]; exact Fr.app N6 Nq8
  have K8 : own_K p e below SE T8 (mkF m 48 #[.val (.ref r0), .val (.ref r1), .val (.int (0 : Int32)), .val (.int (2 : Int32)), .val .null, .val (.ref bb)] [(.int (0 : Int32)), (.ref r0)]) := fun t k => K7 _ (st8 _ k)
  obtain ⟨T9, h9, X9, e9, W9, st9⟩ := putFN X8 hx hZ hown (hw _ (List.mem_of_getElem? (i := 66) rfl)) Via.refl e8 (F_c.keep Kq6 nin0) (E_r0.keep Kq6) (Or.inr ⟨(hw _ (List.mem_of_getElem? (i := 13) rfl)), rfl, hnm⟩) (hw _ (List.mem_of_getElem? (i := 10) rfl)) (ty := .byte) (v' := (.int ((0 : Int32)).toInt8.toInt32)) (by decide) rfl (fits_nar_byte _) (g := (mkF m 48 #[.val (.ref r0), .val (.ref r1), .val (.int (0 : Int32)), .val (.int (2 : Int32)), .val .null, .val (.ref bb)] [(.int (0 : Int32)), (.ref r0)])) rfl rfl (hb hby d8_48)
  have Fw9 := Fld.same W9 (F_c.keep Kq6 nin0)
  have N9 := Fr.snoc X9 N8 g_r0
  have Kp9 : Keep h0 h9 [r0] := Keep.wr Kp6 W9 (Or.inl (List.mem_of_getElem? (i := 0) rfl))
  have K9 : own_K p e below SE T9 (mkF m 51 #[.val (.ref r0), .val (.ref r1), .val (.int (0 : Int32)), .val (.int (2 : Int32)), .val .null, .val (.ref bb)] []) := fun t k => K8 _ (st9 _ k)
  have K10 : own_K p e below SE T9 (mkF m 54 #[.val (.ref r0), .val (.ref r1), .val (.int (0 : Int32)), .val (.int (2 : Int32)), .val .null, .val (.ref bb)] [(.ref bb), (.ref r0)]) := by
    intro t k
    refine K9 _ ?_
    refine XS.aloadN X9.here hx rfl (hb hby d8_51) rfl rfl ?_
    show own_S p e below T9 (mkF m 52 #[.val (.ref r0), .val (.ref r1), .val (.int (0 : Int32)), .val (.int (2 : Int32)), .val .null, .val (.ref bb)] [(.ref r0)]) _
    refine XS.aload X9.here hx rfl (hb hby d8_52) rfl rfl ?_
    exact k
  obtain ⟨T11, h11, X11, e11, W11, st11⟩ := putF X9 hx hZ hown (host := "") (Or.inl (hw _ (List.mem_of_getElem? (i := 67) rfl))) Via.refl e9 ((F_v.keep Kq6 nin0).other W9 (Or.inr (slot_ne (Or.inr (hw _ (List.mem_of_getElem? (i := 12) rfl))) (Or.inr (hw _ (List.mem_of_getElem? (i := 13) rfl))) (by decide) (t := (.array .byte)) (t' := .byte) (by decide) (by decide)))) ((E_r0.keep Kq6).wr W9) (Or.inr ⟨(hw _ (List.mem_of_getElem? (i := 12) rfl)), rfl, hnm⟩) (hw _ (List.mem_of_getElem? (i := 10) rfl)) (ty := (.array .byte)) (by decide) rfl rfl (g := (mkF m 54 #[.val (.ref r0), .val (.ref r1), .val (.int (0 : Int32)), .val (.int (2 : Int32)), .val .null, .val (.ref bb)] [(.ref bb), (.ref r0)])) rfl rfl (hb hby d8_54)
  have Fw11 := Fld.same W11 ((F_v.keep Kq6 nin0).other W9 (Or.inr (slot_ne (Or.inr (hw _ (List.mem_of_getElem? (i := 12) rfl))) (Or.inr (hw _ (List.mem_of_getElem? (i := 13) rfl))) (by decide) (t := (.array .byte)) (t' := .byte) (by decide) (by decide))))
  have N11 := Fr.snoc X11 N9 g_r0
  have Kp11 : Keep h0 h11 [r0] := Keep.wr Kp9 W11 (Or.inl (List.mem_of_getElem? (i := 0) rfl))
  have K11 : own_K p e below SE T11 (mkF m 57 #[.val (.ref r0), .val (.ref r1), .val (.int (0 : Int32)), .val (.int (2 : Int32)), .val .null, .val (.ref bb)] []) := fun t k => K10 _ (st11 _ k)
  obtain ⟨fs, hr, hrun, hended, hW, hsame⟩ := X11.leave (v := none) (fun _ => rfl)
  refine ⟨_, _, K11 _ ?_, hrun, hended, _, _, rfl, ?_, ⟨_, rfl⟩, hW, hsame.mono (by decide) (by decide)⟩
  · exact X11.returnOut hx Bd.returns (hb hby d8_57) hr
  · show Q8_2 Z r0 r1 kC G c0 c1 h0 n0 _ T11.heap _
    rw [e11]
    exact ⟨rfl, N11, Kp11, (((E_r0.keep Kq6).wr W9).wr W11), (Fw9.other W11 (Or.inr (slot_ne (Or.inr (hw _ (List.mem_of_getElem? (i := 13) rfl))) (Or.inr (hw _ (List.mem_of_getElem? (i := 12) rfl))) (by decide) (t := .byte) (t' := (.array .byte)) (by decide) (by decide)))), bb, kB, Nat.le_of_eq gbb.symm, Fw11, ((Vb.other W9 (Ne.symm (own_ne_r0_bb))).other W11 (Ne.symm (own_ne_r0_bb)))⟩
theorem d7_0 : decode jdk_42_method_3_code 0 = .ok (.aload_n 0, 1) := by decide +kernel
theorem d7_1 : decode jdk_42_method_3_code 1 = .ok (.aload_n 1, 1) := by decide +kernel
theorem d7_2 : decode jdk_42_method_3_code 2 = .ok (.iconst 0, 1) := by decide +kernel
theorem d7_3 : decode jdk_42_method_3_code 3 = .ok (.aload_n 1, 1) := by decide +kernel
theorem d7_4 : decode jdk_42_method_3_code 4 = .ok (.arraylength, 1) := by decide +kernel
theorem d7_5 : decode jdk_42_method_3_code 5 = .ok (.aconst_null, 1) := by decide +kernel
theorem d7_6 : decode jdk_42_method_3_code 6 = .ok (.invokespecial 27, 3) := by decide +kernel
theorem d7_9 : decode jdk_42_method_3_code 9 = .ok (.return_, 1) := by decide +kernel
theorem pd_7_2_0 : parseMethodDescriptor "([CIILjava/lang/Void;)V" = some ⟨[(.array .char), .int, .int, (.object "java/lang/Void")], none⟩ := by decide +kernel
theorem ef_7_2 (m : MethodId) (r0 : Addr) (r1 : Addr) : entryFrame m #[(.ref r0), (.ref r1)] 2 = mkF m 0 #[.val (.ref r0), .val (.ref r1)] [] := by first | (simp [entryFrame, mkF, argsToLocals, Value.category]; done) | rfl
def Q7_2 (Z : State) (r0 : Addr) (r1 : Addr) (kC : ClassId) (G : Int32) (c0 : Int32) (c1 : Int32) (h0 : Heap) (n0 : Nat) (v : Option Value) (h : Heap) (L : List Loc) : Prop := v = none ∧ Fr n0 L ∧ Keep h0 h [r0] ∧ Exa Z h r0 "java/lang/String" ∧ Fld Z h r0 "java/lang/String" "coder" "B" (.int (0 : Int32)) ∧ ∃ (b : Addr) (kB : ClassId), h0.size ≤ b ∧ Fld Z h r0 "java/lang/String" "value" "[B" (.ref b) ∧ Arv Z h b kB .byte (2 : Int32) [(.int ((c0).toInt8.toInt32).toInt8.toInt32), (.int ((c1).toInt8.toInt32).toInt8.toInt32)] (.int (0 : Int32))
set_option maxRecDepth 65536 in
set_option maxHeartbeats 40000000 in
theorem rm7_2 (l : Launch) (Z : State) (a0 : Array Value) (hw : ∀ d ∈ tables_1, d.before a0 Z = true) (ws : List Jvm.Cond) (r0 : Addr) (r1 : Addr) (kC : ClassId) (G : Int32) (c0 : Int32) (c1 : Int32) (h0 : Heap) (n0 : Nat) (Z0 : n0 ≤ h0.size) (E_r0 : Exa Z h0 r0 "java/lang/String") (F_c : Fld Z h0 r0 "java/lang/String" "coder" "B" (.int (0 : Int32))) (F_v : Fld Z h0 r0 "java/lang/String" "value" "[B" .null) (g_r0 : n0 ≤ r0) (V_r1 : Arv Z h0 r1 kC .char (2 : Int32) [(.int c0), (.int c1)] (.int (0 : Int32))) (S_cs : Sta Z h0 "java/lang/String" "COMPACT_STRINGS" "Z" (.int G)) (hG : ¬ G = 0) (hl0 : ¬ (255 : Int32) < c0) (hl1 : ¬ (255 : Int32) < c1) :
    MetFree l (⟨"java/lang/String", "<init>", "([C)V"⟩ : MethodName) (head1 (Jvm.Cond.code (⟨"java/lang/String", "<init>", "([C)V"⟩ : MethodName) jdk_42_method_3_code 2 none :: ws) ({ frames := 3, cells := 1, slots := 2, locals := 52 } : Room)) (fun a U => a = #[(.ref r0), (.ref r1)] ∧ Z.Warmed39 U.vm ∧ U.heap = h0) (fun _ _ _ _ _ => True) (fun _ U o U' => ∃ v L, o = .returned v ∧ Q7_2 Z r0 r1 kC G c0 c1 h0 n0 v U'.heap L ∧ FrameEnd U o U' L ({ frames := 3, cells := 1, slots := 2, locals := 52 } : Room).cells ({ frames := 3, cells := 1, slots := 2, locals := 52 } : Room).slots) := by
  refine MetFree.of_bodySF (plainFor_of_name pn_16) hisR ?_
  intro p e s m args below meth c s₁ Bd hml0 hP hK
  obtain ⟨rfl, hZ, hh⟩ := hP
  have hx := Bd.exec
  have hby := Bd.bytes
  have hml : c.maxLocals = 2 := hml0
  have hown : s.vm.findClass "java/lang/String" = some m.cls := findClass_of_methodNamed Bd.named
  have hnm := (name_of_methodNamed Bd.named Bd.method).1
  have X0 : Stand p l e ({ frames := 3, cells := 1, slots := 2, locals := 52 } : Room) s m #[(.ref r0), (.ref r1)] below meth c s₁ [] 0 0 := Stand.of_body Bd
  have e0 : s₁.heap = h0 := by rw [← hh, Bd.state]; rfl
  have N0 := Fr.nil n0
  have K0 : ∀ t, Steps p.tables e below (s₁.setTop (mkF m 0 #[.val (.ref r0), .val (.ref r1)] [])) t → Steps p.tables e below (s₁.setTop (entryFrame m #[(.ref r0), (.ref r1)] 2)) t := fun t k => castTop (ef_7_2 m r0 r1) k
  generalize s₁.setTop (entryFrame m #[(.ref r0), (.ref r1)] 2) = SE at K0 ⊢
  have K1 : own_K p e below SE s₁ (mkF m 4 #[.val (.ref r0), .val (.ref r1)] [(.ref r1), (.int (0 : Int32)), (.ref r1), (.ref r0)]) := by
    intro t k
    refine K0 _ ?_
    refine XS.aloadN X0.here hx rfl (hb hby d7_0) rfl rfl ?_
    show own_S p e below s₁ (mkF m 1 #[.val (.ref r0), .val (.ref r1)] [(.ref r0)]) _
    refine XS.aloadN X0.here hx rfl (hb hby d7_1) rfl rfl ?_
    show own_S p e below s₁ (mkF m 2 #[.val (.ref r0), .val (.ref r1)] [(.ref r1), (.ref r0)]) _
    refine XS.iconst X0.here hx rfl (hb hby d7_2) ?_
    show own_S p e below s₁ (mkF m 3 #[.val (.ref r0), .val (.ref r1)] [(.int (0 : Int32)), (.ref r1), (.ref r0)]) _
    refine XS.aloadN X0.here hx rfl (hb hby d7_3) rfl rfl ?_
    exact k
  obtain ⟨cl2, Ar2, -, S2, Ng2, -, -⟩ := id V_r1
  have K3 : own_K p e below SE s₁ (mkF m 6 #[.val (.ref r0), .val (.ref r1)] [.null, (.int (2 : Int32)), (.int (0 : Int32)), (.ref r1), (.ref r0)]) := by
    intro t k
    refine K1 _ ?_
    refine X0.arraylength hx (by rw [e0]; exact Ar2.1) (State.isArrayOf_alike hZ.alike Ar2.2.1) (g := (mkF m 4 #[.val (.ref r0), .val (.ref r1)] [(.ref r1), (.int (0 : Int32)), (.ref r1), (.ref r0)])) rfl rfl (hb hby d7_4) _ ?_
    rw [len_of S2 Ng2]
    show own_S p e below s₁ (mkF m 5 #[.val (.ref r0), .val (.ref r1)] [(.int (2 : Int32)), (.int (0 : Int32)), (.ref r1), (.ref r0)]) _
    refine XS.aconstNull X0.here hx rfl (hb hby d7_5) ?_
    exact k
  obtain ⟨_, _, ⟨T4, L4, k4, n4⟩, -, X4, ⟨Lc4, hQ4, l4, y4, z4⟩, st4⟩ := X0.specialBack hx (y := (⟨"java/lang/String", "<init>", "([CIILjava/lang/Void;)V"⟩ : MethodName)) rfl hown (mvT hZ (hw _ (List.mem_of_getElem? (i := 50) rfl))) (mvT hZ (hw _ (List.mem_of_getElem? (i := 51) rfl))) (mvT hZ (hw _ (List.mem_of_getElem? (i := 53) rfl))) (by decide) (backOf (W := 0) (rm8_2 l Z a0 hw [] r0 r1 kC G c0 c1 h0 n0 Z0 E_r0 F_c F_v g_r0 V_r1 S_cs hG hl0 hl1) hZ (hw _ (List.mem_of_getElem? (i := 53) rfl)) (hw _ (List.mem_of_getElem? (i := 9) rfl)) (by decide) (by decide)) (g := (mkF m 6 #[.val (.ref r0), .val (.ref r1)] [.null, (.int (2 : Int32)), (.int (0 : Int32)), (.ref r1), (.ref r0)])) rfl (by rw [hml]; rfl) (Steps.refl _) (a := r0) (argsL := [(.ref r1), (.int (0 : Int32)), (.int (2 : Int32)), .null]) (rest := []) (lenOf pd_7_2_0 rfl) rfl (by show 2 * 0 + _ ≤ _; exact Nat.le_of_eq rfl) (hb hby d7_6) (fun _ _ => ⟨rfl, e0, (by decide : 0 + 1 ≤ _), (by decide : 0 + 2 ≤ _)⟩)
  dsimp only [Pt.U, Pt.locs, Pt.cells, Pt.slots] at X4 l4 y4 z4 st4 hQ4
  rw [y4, z4] at X4
  obtain ⟨rfl, Nq4, Kq4, rest4⟩ := hQ4
  have N4 : Fr n0 L4 := by rw [l4]; exact Fr.app N0 Nq4
  have Kp4 : Keep h0 T4.heap [r0] := Keep.trans (Keep.refl h0 [r0]) Kq4 (allS (Or.inl (List.mem_of_getElem? (i := 0) rfl)) all0)
  have K4 : own_K p e below SE T4 (mkF m 9 #[.val (.ref r0), .val (.ref r1)] []) := fun t k => K3 _ (st4.trans k)
  obtain ⟨fs, hr, hrun, hended, hW, hsame⟩ := X4.leave (v := none) (fun _ => rfl)
  refine ⟨_, _, K4 _ ?_, hrun, hended, _, _, rfl, ?_, ⟨_, rfl⟩, hW, hsame.mono (by decide) (by decide)⟩
  · exact X4.returnOut hx Bd.returns (hb hby d7_9) hr
  · show Q7_2 Z r0 r1 kC G c0 c1 h0 n0 _ T4.heap _
    exact ⟨rfl, N4, Kp4, rest4⟩
theorem d2_0 : decode method_3_code 0 = .ok (.iload_n 0, 1) := by decide +kernel
theorem d2_1 : decode method_3_code 1 = .ok (.ifCond .ne 6, 3) := by decide +kernel
theorem d2_7 : decode method_3_code 7 = .ok (.iload_n 0, 1) := by decide +kernel
theorem d2_8 : decode method_3_code 8 = .ok (.iconst 1, 1) := by decide +kernel
theorem d2_9 : decode method_3_code 9 = .ok (.if_icmp .ne 8, 3) := by decide +kernel
theorem d2_12 : decode method_3_code 12 = .ok (.iload_n 1, 1) := by decide +kernel
theorem d2_13 : decode method_3_code 13 = .ok (.invokestatic 30, 3) := by decide +kernel
theorem d2_16 : decode method_3_code 16 = .ok (.areturn, 1) := by decide +kernel
theorem pn_2 : plainName "com/example/enact/enact/model/RunKeyEqualsPinLaw" = true := by first | (simp [plainName, overriddenIn]; done) | decide +kernel
theorem pd_mk1_0 : parseMethodDescriptor "(C)Ljava/lang/String;" = some ⟨[.char], some (.object "java/lang/String")⟩ := by decide +kernel
theorem ef_mk1 (m : MethodId) (p1 : Int32) (p2 : Int32) : entryFrame m #[(.int (1 : Int32)), (.int p1), (.int p2)] 3 = mkF m 0 #[.val (.int (1 : Int32)), .val (.int p1), .val (.int p2)] [] := by first | (simp [entryFrame, mkF, argsToLocals, Value.category]; done) | rfl
def Qmk1 (Z : State) (p1 : Int32) (p2 : Int32) (G : Int32) (h0 : Heap) (n0 : Nat) (v : Option Value) (h : Heap) (L : List Loc) : Prop := v = some (.ref h0.size) ∧ Fr n0 L ∧ Keep h0 h [] ∧ Exa Z h h0.size "java/lang/String" ∧ Fld Z h h0.size "java/lang/String" "coder" "B" (.int (0 : Int32)) ∧ ∃ (b : Addr) (kB : ClassId), Fld Z h h0.size "java/lang/String" "value" "[B" (.ref b) ∧ Arv Z h b kB .byte (1 : Int32) [(.int ((p1).toInt8.toInt32).toInt8.toInt32)] (.int (0 : Int32))
set_option maxRecDepth 65536 in
set_option maxHeartbeats 40000000 in
theorem rmmk1 (l : Launch) (Z : State) (a0 : Array Value) (hw : ∀ d ∈ tables_1, d.before a0 Z = true) (ws : List Jvm.Cond) (p1 : Int32) (p2 : Int32) (G : Int32) (h0 : Heap) (n0 : Nat) (Z0 : n0 ≤ h0.size) (S_cs : Sta Z h0 "java/lang/String" "COMPACT_STRINGS" "Z" (.int G)) (hG : ¬ G = 0) (hl : ¬ (255 : Int32) < p1) :
    MetFree l (⟨"com/example/enact/enact/model/RunKeyEqualsPinLaw", "mk", "(ICC)Ljava/lang/String;"⟩ : MethodName) (head1 (Jvm.Cond.code (⟨"com/example/enact/enact/model/RunKeyEqualsPinLaw", "mk", "(ICC)Ljava/lang/String;"⟩ : MethodName) method_3_code 3 (some (.object "java/lang/String")) :: ws) ({ frames := 3, cells := 2, slots := 5, locals := 39 } : Room)) (fun a U => a = #[(.int (1 : Int32)), (.int p1), (.int p2)] ∧ Z.Warmed39 U.vm ∧ U.heap = h0) (fun _ _ _ _ _ => True) (fun _ U o U' => ∃ v L, o = .returned v ∧ Qmk1 Z p1 p2 G h0 n0 v U'.heap L ∧ FrameEnd U o U' L ({ frames := 3, cells := 2, slots := 5, locals := 39 } : Room).cells ({ frames := 3, cells := 2, slots := 5, locals := 39 } : Room).slots) := by
  refine MetFree.of_bodySF (plainFor_of_name pn_2) hisR ?_
  intro p e s m args below meth c s₁ Bd hml0 hP hK
  obtain ⟨rfl, hZ, hh⟩ := hP
  have hx := Bd.exec
  have hby := Bd.bytes
  have hml : c.maxLocals = 3 := hml0
  have hown : s.vm.findClass "com/example/enact/enact/model/RunKeyEqualsPinLaw" = some m.cls := findClass_of_methodNamed Bd.named
  have hnm := (name_of_methodNamed Bd.named Bd.method).1
  have X0 : Stand p l e ({ frames := 3, cells := 2, slots := 5, locals := 39 } : Room) s m #[(.int (1 : Int32)), (.int p1), (.int p2)] below meth c s₁ [] 0 0 := Stand.of_body Bd
  have e0 : s₁.heap = h0 := by rw [← hh, Bd.state]; rfl
  have N0 := Fr.nil n0
  have K0 : ∀ t, Steps p.tables e below (s₁.setTop (mkF m 0 #[.val (.int (1 : Int32)), .val (.int p1), .val (.int p2)] [])) t → Steps p.tables e below (s₁.setTop (entryFrame m #[(.int (1 : Int32)), (.int p1), (.int p2)] 3)) t := fun t k => castTop (ef_mk1 m p1 p2) k
  generalize s₁.setTop (entryFrame m #[(.int (1 : Int32)), (.int p1), (.int p2)] 3) = SE at K0 ⊢
  have K1 : own_K p e below SE s₁ (mkF m 13 #[.val (.int (1 : Int32)), .val (.int p1), .val (.int p2)] [(.int p1)]) := by
    intro t k
    refine K0 _ ?_
    refine XS.iloadN X0.here hx rfl (hb hby d2_0) rfl ?_
    show own_S p e below s₁ (mkF m 1 #[.val (.int (1 : Int32)), .val (.int p1), .val (.int p2)] [(.int (1 : Int32))]) _
    refine XS.ifYes X0.here hx rfl (pc0 := 1) (pc' := 7) rfl (hb hby d2_1) rfl (XT.i0_ne_t (by decide : ¬ ((1 : Int32) = 0))) (by decide) (by decide) ?_
    show own_S p e below s₁ (mkF m 7 #[.val (.int (1 : Int32)), .val (.int p1), .val (.int p2)] []) _
    refine XS.iloadN X0.here hx rfl (hb hby d2_7) rfl ?_
    show own_S p e below s₁ (mkF m 8 #[.val (.int (1 : Int32)), .val (.int p1), .val (.int p2)] [(.int (1 : Int32))]) _
    refine XS.iconst X0.here hx rfl (hb hby d2_8) ?_
    show own_S p e below s₁ (mkF m 9 #[.val (.int (1 : Int32)), .val (.int p1), .val (.int p2)] [(.int (1 : Int32)), (.int (1 : Int32))]) _
    refine XS.icmpNo X0.here hx rfl (hb hby d2_9) rfl (XT.ii_ne_f (by decide : (1 : Int32) = (1 : Int32))) ?_
    show own_S p e below s₁ (mkF m 12 #[.val (.int (1 : Int32)), .val (.int p1), .val (.int p2)] []) _
    refine XS.iloadN X0.here hx rfl (hb hby d2_12) rfl ?_
    exact k
  obtain ⟨_, _, ⟨T2, L2, k2, n2⟩, -, X2, ⟨Lc2, hQ2, l2, y2, z2⟩, st2⟩ := Jvm.LawKit.callS X0 hx (y := (⟨"java/lang/String", "valueOf", "(C)Ljava/lang/String;"⟩ : MethodName)) hown (mvT hZ (hw _ (List.mem_of_getElem? (i := 73) rfl))) (mvT hZ (hw _ (List.mem_of_getElem? (i := 74) rfl))) (mvT hZ (hw _ (List.mem_of_getElem? (i := 9) rfl))) (mvT hZ (hw _ (List.mem_of_getElem? (i := 75) rfl))) (by decide) (backOf (W := 0) (rmvo l Z a0 hw [] p1 G h0 n0 Z0 S_cs hG hl) hZ (hw _ (List.mem_of_getElem? (i := 75) rfl)) (hw _ (List.mem_of_getElem? (i := 9) rfl)) (by decide) (by decide)) (g := (mkF m 13 #[.val (.int (1 : Int32)), .val (.int p1), .val (.int p2)] [(.int p1)])) rfl (by rw [hml]; rfl) (argsL := [(.int p1)]) (rest := []) (lenOf pd_mk1_0 rfl) rfl (by show 2 * 0 + _ ≤ _; exact Nat.le_of_eq rfl) (hb hby d2_13) (fun _ _ => ⟨rfl, e0, (by decide : 0 + 2 ≤ _), (by decide : 0 + 5 ≤ _)⟩)
  dsimp only [Pt.U, Pt.locs, Pt.cells, Pt.slots] at X2 l2 y2 z2 st2 hQ2
  rw [y2, z2] at X2
  obtain ⟨rfl, Nq2, Kq2, rs2⟩ := hQ2
  have N2 : Fr n0 L2 := by rw [l2]; exact Fr.app N0 Nq2
  have Kp2 : Keep h0 T2.heap [] := Keep.trans (Keep.refl h0 []) Kq2 all0
  have K2 : own_K p e below SE T2 (mkF m 16 #[.val (.int (1 : Int32)), .val (.int p1), .val (.int p2)] [(.ref h0.size)]) := fun t k => K1 _ (st2 _ k)
  obtain ⟨fs, hr, hrun, hended, hW, hsame⟩ := X2.leave (v := some (.ref h0.size)) (fun h => by rw [Bd.returns] at h; cases h)
  refine ⟨_, _, K2 _ ?_, hrun, hended, _, _, rfl, ?_, ⟨_, rfl⟩, hW, hsame.mono (by decide) (by decide)⟩
  · show Steps p.tables e below (T2.setTop (mkF m 16 #[.val (.int (1 : Int32)), .val (.int p1), .val (.int p2)] [(.ref h0.size)])) _
    jvm_step X2.here [X2.here.top, hx, (hb hby d2_16), X2.method', Bd.returns, Value.isRef, FieldType.isReference]
    first | (intro acts; rw [hr _ acts rfl rfl rfl]) | rw [hr _ _ rfl rfl rfl]
    exact Steps.refl _
  · show Qmk1 Z p1 p2 G h0 n0 _ T2.heap _
    exact ⟨rfl, N2, Kp2, rs2⟩
theorem d2_17 : decode method_3_code 17 = .ok (.new 31, 3) := by decide +kernel
theorem d2_20 : decode method_3_code 20 = .ok (.dup, 1) := by decide +kernel
theorem d2_21 : decode method_3_code 21 = .ok (.iconst 2, 1) := by decide +kernel
theorem d2_22 : decode method_3_code 22 = .ok (.newarray .char, 2) := by decide +kernel
theorem d2_24 : decode method_3_code 24 = .ok (.dup, 1) := by decide +kernel
theorem d2_25 : decode method_3_code 25 = .ok (.iconst 0, 1) := by decide +kernel
theorem d2_26 : decode method_3_code 26 = .ok (.iload_n 1, 1) := by decide +kernel
theorem d2_27 : decode method_3_code 27 = .ok (.castore, 1) := by decide +kernel
theorem d2_28 : decode method_3_code 28 = .ok (.dup, 1) := by decide +kernel
theorem d2_29 : decode method_3_code 29 = .ok (.iconst 1, 1) := by decide +kernel
theorem d2_30 : decode method_3_code 30 = .ok (.iload_n 2, 1) := by decide +kernel
theorem d2_31 : decode method_3_code 31 = .ok (.castore, 1) := by decide +kernel
theorem d2_32 : decode method_3_code 32 = .ok (.invokespecial 36, 3) := by decide +kernel
theorem d2_35 : decode method_3_code 35 = .ok (.areturn, 1) := by decide +kernel
theorem pd_mk2_0 : parseMethodDescriptor "([C)V" = some ⟨[(.array .char)], none⟩ := by decide +kernel
theorem ef_mk2 (m : MethodId) (p1 : Int32) (p2 : Int32) : entryFrame m #[(.int (2 : Int32)), (.int p1), (.int p2)] 3 = mkF m 0 #[.val (.int (2 : Int32)), .val (.int p1), .val (.int p2)] [] := by first | (simp [entryFrame, mkF, argsToLocals, Value.category]; done) | rfl
def Qmk2 (Z : State) (p1 : Int32) (p2 : Int32) (G : Int32) (h0 : Heap) (n0 : Nat) (v : Option Value) (h : Heap) (L : List Loc) : Prop := v = some (.ref h0.size) ∧ Fr n0 L ∧ Keep h0 h [] ∧ Exa Z h h0.size "java/lang/String" ∧ Fld Z h h0.size "java/lang/String" "coder" "B" (.int (0 : Int32)) ∧ ∃ (b : Addr) (kB : ClassId), Fld Z h h0.size "java/lang/String" "value" "[B" (.ref b) ∧ Arv Z h b kB .byte (2 : Int32) [(.int ((p1).toInt8.toInt32).toInt8.toInt32), (.int ((p2).toInt8.toInt32).toInt8.toInt32)] (.int (0 : Int32))
set_option maxRecDepth 65536 in
set_option maxHeartbeats 40000000 in
theorem rmmk2 (l : Launch) (Z : State) (a0 : Array Value) (hw : ∀ d ∈ tables_1, d.before a0 Z = true) (ws : List Jvm.Cond) (p1 : Int32) (p2 : Int32) (G : Int32) (h0 : Heap) (n0 : Nat) (Z0 : n0 ≤ h0.size) (S_cs : Sta Z h0 "java/lang/String" "COMPACT_STRINGS" "Z" (.int G)) (hG : ¬ G = 0) (hl1 : ¬ (255 : Int32) < p1) (hl2 : ¬ (255 : Int32) < p2) (hn1 : nar .char p1 = p1) (hn2 : nar .char p2 = p2) :
    MetFree l (⟨"com/example/enact/enact/model/RunKeyEqualsPinLaw", "mk", "(ICC)Ljava/lang/String;"⟩ : MethodName) (head1 (Jvm.Cond.code (⟨"com/example/enact/enact/model/RunKeyEqualsPinLaw", "mk", "(ICC)Ljava/lang/String;"⟩ : MethodName) method_3_code 3 (some (.object "java/lang/String")) :: ws) ({ frames := 4, cells := 3, slots := 8, locals := 66 } : Room)) (fun a U => a = #[(.int (2 : Int32)), (.int p1), (.int p2)] ∧ Z.Warmed39 U.vm ∧ U.heap = h0) (fun _ _ _ _ _ => True) (fun _ U o U' => ∃ v L, o = .returned v ∧ Qmk2 Z p1 p2 G h0 n0 v U'.heap L ∧ FrameEnd U o U' L ({ frames := 4, cells := 3, slots := 8, locals := 66 } : Room).cells ({ frames := 4, cells := 3, slots := 8, locals := 66 } : Room).slots) := by
  refine MetFree.of_bodySF (plainFor_of_name pn_2) hisR ?_
  intro p e s m args below meth c s₁ Bd hml0 hP hK
  obtain ⟨rfl, hZ, hh⟩ := hP
  have hx := Bd.exec
  have hby := Bd.bytes
  have hml : c.maxLocals = 3 := hml0
  have hown : s.vm.findClass "com/example/enact/enact/model/RunKeyEqualsPinLaw" = some m.cls := findClass_of_methodNamed Bd.named
  have hnm := (name_of_methodNamed Bd.named Bd.method).1
  have X0 : Stand p l e ({ frames := 4, cells := 3, slots := 8, locals := 66 } : Room) s m #[(.int (2 : Int32)), (.int p1), (.int p2)] below meth c s₁ [] 0 0 := Stand.of_body Bd
  have e0 : s₁.heap = h0 := by rw [← hh, Bd.state]; rfl
  have N0 := Fr.nil n0
  have K0 : ∀ t, Steps p.tables e below (s₁.setTop (mkF m 0 #[.val (.int (2 : Int32)), .val (.int p1), .val (.int p2)] [])) t → Steps p.tables e below (s₁.setTop (entryFrame m #[(.int (2 : Int32)), (.int p1), (.int p2)] 3)) t := fun t k => castTop (ef_mk2 m p1 p2) k
  generalize s₁.setTop (entryFrame m #[(.int (2 : Int32)), (.int p1), (.int p2)] 3) = SE at K0 ⊢
  have K1 : own_K p e below SE s₁ (mkF m 17 #[.val (.int (2 : Int32)), .val (.int p1), .val (.int p2)] []) := by
    intro t k
    refine K0 _ ?_
    refine XS.iloadN X0.here hx rfl (hb hby d2_0) rfl ?_
    show own_S p e below s₁ (mkF m 1 #[.val (.int (2 : Int32)), .val (.int p1), .val (.int p2)] [(.int (2 : Int32))]) _
    refine XS.ifYes X0.here hx rfl (pc0 := 1) (pc' := 7) rfl (hb hby d2_1) rfl (XT.i0_ne_t (by decide : ¬ ((2 : Int32) = 0))) (by decide) (by decide) ?_
    show own_S p e below s₁ (mkF m 7 #[.val (.int (2 : Int32)), .val (.int p1), .val (.int p2)] []) _
    refine XS.iloadN X0.here hx rfl (hb hby d2_7) rfl ?_
    show own_S p e below s₁ (mkF m 8 #[.val (.int (2 : Int32)), .val (.int p1), .val (.int p2)] [(.int (2 : Int32))]) _
    refine XS.iconst X0.here hx rfl (hb hby d2_8) ?_
    show own_S p e below s₁ (mkF m 9 #[.val (.int (2 : Int32)), .val (.int p1), .val (.int p2)] [(.int (1 : Int32)), (.int (2 : Int32))]) _
    refine XS.icmpYes X0.here hx rfl (pc0 := 9) (pc' := 17) rfl (hb hby d2_9) rfl (XT.ii_ne_t (by decide : ¬ ((2 : Int32) = (1 : Int32)))) (by decide) (by decide) ?_
    exact k
  obtain ⟨T2, h2, X2, e2, E2, A2, D2, -, st2⟩ := newO X0 hx hZ hown (hw _ (List.mem_of_getElem? (i := 45) rfl)) (hw _ (List.mem_of_getElem? (i := 10) rfl)) (hw _ (List.mem_of_getElem? (i := 9) rfl)) e0 (g := (mkF m 17 #[.val (.int (2 : Int32)), .val (.int p1), .val (.int p2)] [])) rfl (hb hby d2_17) (by decide) (by decide)
  obtain ⟨b2, g2⟩ : ∃ z, z = h0.size := ⟨_, rfl⟩
  rw [← g2] at A2 D2 st2
  have g_b2 : n0 ≤ b2 := Nat.le_trans Z0 (Nat.le_of_eq g2.symm)
  have sz_b2 : h0.size ≤ b2 := Nat.le_trans (Nat.le_refl _) (Nat.le_of_eq g2.symm)
  have Kp2 : Keep h0 h2 [] := Keep.ext (Keep.refl h0 []) E2
  have F_value_b2 : Fld Z h2 b2 "java/lang/String" "value" "[B" .null := D2 (Or.inr (hw _ (List.mem_of_getElem? (i := 12) rfl))) (ty := (.array .byte)) (by decide)
  have F_coder_b2 : Fld Z h2 b2 "java/lang/String" "coder" "B" (.int (0 : Int32)) := D2 (Or.inr (hw _ (List.mem_of_getElem? (i := 13) rfl))) (ty := .byte) (by decide)
  have K2 : own_K p e below SE T2 (mkF m 20 #[.val (.int (2 : Int32)), .val (.int p1), .val (.int p2)] [(.ref b2)]) := fun t k => K1 _ (st2 _ k)
  have K3 : own_K p e below SE T2 (mkF m 22 #[.val (.int (2 : Int32)), .val (.int p1), .val (.int p2)] [(.int (2 : Int32)), (.ref b2), (.ref b2)]) := by
    intro t k
    refine K2 _ ?_
    refine XS.dup X2.here hx rfl (hb hby d2_20) rfl rfl ?_
    show own_S p e below T2 (mkF m 21 #[.val (.int (2 : Int32)), .val (.int p1), .val (.int p2)] [(.ref b2), (.ref b2)]) _
    refine XS.iconst X2.here hx rfl (hb hby d2_21) ?_
    exact k
  obtain ⟨T4, h4, k4, X4, e4, E4, A4, st4⟩ := newP X2 hx hZ (hw _ (List.mem_of_getElem? (i := 46) rfl)) e2 (g := (mkF m 22 #[.val (.int (2 : Int32)), .val (.int p1), .val (.int p2)] [(.int (2 : Int32)), (.ref b2), (.ref b2)])) rfl (hb hby d2_22) rfl (by decide) (cap := 2) (by decide) (by decide) (by decide) (by decide)
  obtain ⟨b4, g4⟩ : ∃ z, z = h2.size := ⟨_, rfl⟩
  rw [← g4] at A4 st4
  have g_b4 : n0 ≤ b4 := Nat.le_trans (Nat.le_trans Z0 Kp2.1) (Nat.le_of_eq g4.symm)
  have sz_b4 : h0.size ≤ b4 := Nat.le_trans Kp2.1 (Nat.le_of_eq g4.symm)
  have own_ne_b2_b4 : b2 ≠ b4 := Nat.ne_of_lt (Nat.lt_of_lt_of_le A2.lt (Nat.le_of_eq g4.symm))
  have Kp4 : Keep h0 h4 [] := Keep.ext Kp2 E4
  have V4 : Arv Z h4 b4 k4 .char (2 : Int32) [(.int (0 : Int32)), (.int (0 : Int32))] (.int (0 : Int32)) := (Arv.new A4 (by decide)).pad (pad_rep [] (.int (0 : Int32)) 2)
  have K4 : own_K p e below SE T4 (mkF m 24 #[.val (.int (2 : Int32)), .val (.int p1), .val (.int p2)] [(.ref b4), (.ref b2), (.ref b2)]) := fun t k => K3 _ (st4 _ k)
  have K5 : own_K p e below SE T4 (mkF m 27 #[.val (.int (2 : Int32)), .val (.int p1), .val (.int p2)] [(.int p1), (.int (0 : Int32)), (.ref b4), (.ref b4), (.ref b2), (.ref b2)]) := by
    intro t k
    refine K4 _ ?_
    refine XS.dup X4.here hx rfl (hb hby d2_24) rfl rfl ?_
    show own_S p e below T4 (mkF m 25 #[.val (.int (2 : Int32)), .val (.int p1), .val (.int p2)] [(.ref b4), (.ref b4), (.ref b2), (.ref b2)]) _
    refine XS.iconst X4.here hx rfl (hb hby d2_25) ?_
    show own_S p e below T4 (mkF m 26 #[.val (.int (2 : Int32)), .val (.int p1), .val (.int p2)] [(.int (0 : Int32)), (.ref b4), (.ref b4), (.ref b2), (.ref b2)]) _
    refine XS.iloadN X4.here hx rfl (hb hby d2_26) rfl ?_
    exact k
  obtain ⟨cl6, Ar6, qk6, S6, Ng6, Hh6, Gg6⟩ := id V4
  have hin6 : ¬ ((0 : Int32) < 0 ∨ cl6.slots.size ≤ ((0 : Int32)).toNatClampNeg) := inb_of S6 ⟨by decide, by decide⟩
  obtain ⟨T7, h7, X7, e7, W7, st7⟩ := stC X4 hx hZ e4 Ar6 (j := (0 : Int32)) hin6 (g := (mkF m 27 #[.val (.int (2 : Int32)), .val (.int p1), .val (.int p2)] [(.int p1), (.int (0 : Int32)), (.ref b4), (.ref b4), (.ref b2), (.ref b2)])) rfl rfl (hb hby d2_27)
  have V7 : Arv Z h7 b4 k4 .char (2 : Int32) [(.int (nar .char p1)), (.int (0 : Int32))] (.int (0 : Int32)) := Arv.set Ar6 qk6 S6 Ng6 Hh6 Gg6 (fits_nar_char _) W7 0 rfl (Nat.le_of_ble_eq_true rfl)
  have N7 := Fr.snoc X7 N0 g_b4
  have Kp7 : Keep h0 h7 [] := Keep.wr Kp4 W7 (Or.inr sz_b4)
  have K7 : own_K p e below SE T7 (mkF m 28 #[.val (.int (2 : Int32)), .val (.int p1), .val (.int p2)] [(.ref b4), (.ref b2), (.ref b2)]) := fun t k => K5 _ (st7 _ k)
  have K8 : own_K p e below SE T7 (mkF m 31 #[.val (.int (2 : Int32)), .val (.int p1), .val (.int p2)] [(.int p2), (.int (1 : Int32)), (.ref b4), (.ref b4), (.ref b2), (.ref b2)]) := by
    intro t k
    refine K7 _ ?_
    refine XS.dup X7.here hx rfl (hb hby d2_28) rfl rfl ?_
    show own_S p e below T7 (mkF m 29 #[.val (.int (2 : Int32)), .val (.int p1), .val (.int p2)] [(.ref b4), (.ref b4), (.ref b2), (.ref b2)]) _
    refine XS.iconst X7.here hx rfl (hb hby d2_29) ?_
    show own_S p e below T7 (mkF m 30 #[.val (.int (2 : Int32)), .val (.int p1), .val (.int p2)] [(.int (1 : Int32)), (.ref b4), (.ref b4), (.ref b2), (.ref b2)]) _
    refine XS.iloadN X7.here hx rfl (hb hby d2_30) rfl ?_
    exact k
  obtain ⟨cl9, Ar9, qk9, S9, Ng9, Hh9, Gg9⟩ := id V7
  have hin9 : ¬ ((1 : Int32) < 0 ∨ cl9.slots.size ≤ ((1 : Int32)).toNatClampNeg) := inb_of S9 ⟨by decide, by decide⟩
  obtain ⟨T10, h10, X10, e10, W10, st10⟩ := stC X7 hx hZ e7 Ar9 (j := (1 : Int32)) hin9 (g := (mkF m 31 #[.val (.int (2 : Int32)), .val (.int p1), .val (.int p2)] [(.int p2), (.int (1 : Int32)), (.ref b4), (.ref b4), (.ref b2), (.ref b2)])) rfl rfl (hb hby d2_31)
  have V10 : Arv Z h10 b4 k4 .char (2 : Int32) [(.int (nar .char p1)), (.int (nar .char p2))] (.int (0 : Int32)) := Arv.set Ar9 qk9 S9 Ng9 Hh9 Gg9 (fits_nar_char _) W10 1 rfl (Nat.le_of_ble_eq_true rfl)
  have N10 := Fr.snoc X10 N7 g_b4
  have Kp10 : Keep h0 h10 [] := Keep.wr Kp7 W10 (Or.inr sz_b4)
  have K10 : own_K p e below SE T10 (mkF m 32 #[.val (.int (2 : Int32)), .val (.int p1), .val (.int p2)] [(.ref b4), (.ref b2), (.ref b2)]) := fun t k => K8 _ (st10 _ k)
  have Vc : Arv Z h10 b4 k4 .char (2 : Int32) [(.int p1), (.int p2)] (.int (0 : Int32)) := by
    have w := V10
    rw [hn1, hn2] at w
    exact w
  obtain ⟨_, _, ⟨T11, L11, k11, n11⟩, -, X11, ⟨Lc11, hQ11, l11, y11, z11⟩, st11⟩ := X10.specialBack hx (y := (⟨"java/lang/String", "<init>", "([C)V"⟩ : MethodName)) rfl hown (mvT hZ (hw _ (List.mem_of_getElem? (i := 47) rfl))) (mvT hZ (hw _ (List.mem_of_getElem? (i := 48) rfl))) (mvT hZ (hw _ (List.mem_of_getElem? (i := 49) rfl))) (by decide) (backOf (W := 1) (rm7_2 l Z a0 hw [] b2 b4 k4 G p1 p2 h10 n0 (Nat.le_trans Z0 Kp10.1) (((A2.ext E4).wr W7).wr W10) (((F_coder_b2.ext E4).other W7 (Or.inl (own_ne_b2_b4))).other W10 (Or.inl (own_ne_b2_b4))) (((F_value_b2.ext E4).other W7 (Or.inl (own_ne_b2_b4))).other W10 (Or.inl (own_ne_b2_b4))) g_b2 Vc (S_cs.ext (own_ext Kp10)) hG hl1 hl2) hZ (hw _ (List.mem_of_getElem? (i := 49) rfl)) (hw _ (List.mem_of_getElem? (i := 9) rfl)) (by decide) (by decide)) (g := (mkF m 32 #[.val (.int (2 : Int32)), .val (.int p1), .val (.int p2)] [(.ref b4), (.ref b2), (.ref b2)])) rfl (by rw [hml]; rfl) (Steps.refl _) (a := b2) (argsL := [(.ref b4)]) (rest := [(.ref b2)]) (lenOf pd_mk2_0 rfl) rfl (by show 2 * 0 + _ ≤ _; exact Nat.le_of_eq rfl) (hb hby d2_32) (fun _ _ => ⟨rfl, e10, (by decide : 2 + 1 ≤ _), (by decide : 6 + 2 ≤ _)⟩)
  dsimp only [Pt.U, Pt.locs, Pt.cells, Pt.slots] at X11 l11 y11 z11 st11 hQ11
  rw [y11, z11] at X11
  obtain ⟨rfl, Nq11, Kq11, Ex11, Fc11, bb, kB, -, Fv11, Vb11⟩ := hQ11
  have N11 : Fr n0 L11 := by rw [l11]; exact Fr.app N10 Nq11
  have Kp11 : Keep h0 T11.heap [] := Keep.trans Kp10 Kq11 (allS (Or.inr sz_b2) all0)
  have K11 : own_K p e below SE T11 (mkF m 35 #[.val (.int (2 : Int32)), .val (.int p1), .val (.int p2)] [(.ref b2)]) := fun t k => K10 _ (st11.trans k)
  obtain ⟨fs, hr, hrun, hended, hW, hsame⟩ := X11.leave (v := some (.ref b2)) (fun h => by rw [Bd.returns] at h; cases h)
  refine ⟨_, _, K11 _ ?_, hrun, hended, _, _, rfl, ?_, ⟨_, rfl⟩, hW, hsame.mono (by decide) (by decide)⟩
  · show Steps p.tables e below (T11.setTop (mkF m 35 #[.val (.int (2 : Int32)), .val (.int p1), .val (.int p2)] [(.ref b2)])) _
    jvm_step X11.here [X11.here.top, hx, (hb hby d2_35), X11.method', Bd.returns, Value.isRef, FieldType.isReference]
    first | (intro acts; rw [hr _ acts rfl rfl rfl]) | rw [hr _ _ rfl rfl rfl]
    exact Steps.refl _
  · show Qmk2 Z p1 p2 G h0 n0 _ T11.heap _
    exact ⟨congrArg (fun z => some (Value.ref z)) g2, N11, Kp11, (g2 ▸ Ex11), (g2 ▸ Fc11), bb, kB, (g2 ▸ Fv11), Vb11⟩
abbrev own_EL : List (String × Nat) := [("com/example/enact/enact/model/RunKeyEqualsPinLaw", 28)]
theorem own_ew {Z : State} {a0 : Array Value} (hw : ∀ d ∈ tables_1, d.before a0 Z = true) : EW Z a0 own_EL := EW.cons (hw _ (List.mem_of_getElem? (i := 8) rfl)) (by simp) EW.nil
theorem d2_4 : decode method_3_code 4 = .ok (.ldc 28, 2) := by decide +kernel
theorem d2_6 : decode method_3_code 6 = .ok (.areturn, 1) := by decide +kernel
theorem ef_mk0 (m : MethodId) (p1 : Int32) (p2 : Int32) : entryFrame m #[(.int (0 : Int32)), (.int p1), (.int p2)] 3 = mkF m 0 #[.val (.int (0 : Int32)), .val (.int p1), .val (.int p2)] [] := by first | (simp [entryFrame, mkF, argsToLocals, Value.category]; done) | rfl
def Qmk0 (Z : State) (p1 : Int32) (p2 : Int32) (h0 : Heap) (n0 : Nat) (v : Option Value) (h : Heap) (L : List Loc) : Prop := ∃ sv, v = some (.ref sv) ∧ Fr n0 L ∧ Keep h0 h [] ∧ Exa Z h sv "java/lang/String" ∧ Fld Z h sv "java/lang/String" "coder" "B" (.int (0 : Int32)) ∧ ∃ (b : Addr) (kB : ClassId), Fld Z h sv "java/lang/String" "value" "[B" (.ref b) ∧ Arv Z h b kB .byte (0 : Int32) [] (.int (0 : Int32))
set_option maxRecDepth 65536 in
set_option maxHeartbeats 40000000 in
theorem rmmk0 (l : Launch) (Z : State) (a0 : Array Value) (hw : ∀ d ∈ tables_1, d.before a0 Z = true) (ws : List Jvm.Cond) (p1 : Int32) (p2 : Int32) (h0 : Heap) (n0 : Nat) (Z0 : n0 ≤ h0.size) :
    MetFree l (⟨"com/example/enact/enact/model/RunKeyEqualsPinLaw", "mk", "(ICC)Ljava/lang/String;"⟩ : MethodName) (head1 (Jvm.Cond.code (⟨"com/example/enact/enact/model/RunKeyEqualsPinLaw", "mk", "(ICC)Ljava/lang/String;"⟩ : MethodName) method_3_code 3 (some (.object "java/lang/String")) :: ws) ({ frames := 0, cells := 2, slots := 4, locals := 0 } : Room)) (fun a U => a = #[(.int (0 : Int32)), (.int p1), (.int p2)] ∧ Z.Warmed39 U.vm ∧ U.heap = h0 ∧ CHv Z own_EL U.vm h0) (fun _ _ _ _ _ => True) (fun _ U o U' => ∃ v L, o = .returned v ∧ Qmk0 Z p1 p2 h0 n0 v U'.heap L ∧ CHr Z own_EL U.vm U.heap U'.vm U'.heap ∧ ReturnedEndW U o U' L ({ frames := 0, cells := 2, slots := 4, locals := 0 } : Room).cells ({ frames := 0, cells := 2, slots := 4, locals := 0 } : Room).slots) := by
  refine MetFree.of_bodySF (plainFor_of_name pn_2) hisR ?_
  intro p e s m args below meth c s₁ Bd hml0 hP hK
  obtain ⟨rfl, hZ, hh, hCH⟩ := hP
  have hx := Bd.exec
  have hby := Bd.bytes
  have hml : c.maxLocals = 3 := hml0
  have hown : s.vm.findClass "com/example/enact/enact/model/RunKeyEqualsPinLaw" = some m.cls := findClass_of_methodNamed Bd.named
  have hnm := (name_of_methodNamed Bd.named Bd.method).1
  have X0 : Stand p l e ({ frames := 0, cells := 2, slots := 4, locals := 0 } : Room) (s.setVm s.vm) m #[(.int (0 : Int32)), (.int p1), (.int p2)] below meth c s₁ [] 0 0 := Stand.of_body Bd
  have e0 : s₁.heap = h0 := by rw [← hh, Bd.state]; rfl
  have N0 := Fr.nil n0
  have K0 : ∀ t, Steps p.tables e below (s₁.setTop (mkF m 0 #[.val (.int (0 : Int32)), .val (.int p1), .val (.int p2)] [])) t → Steps p.tables e below (s₁.setTop (entryFrame m #[(.int (0 : Int32)), (.int p1), (.int p2)] 3)) t := fun t k => castTop (ef_mk0 m p1 p2) k
  generalize s₁.setTop (entryFrame m #[(.int (0 : Int32)), (.int p1), (.int p2)] 3) = SE at K0 ⊢
  have hS : s.Since s.vm h0.size := State.WarmedH.since (State.WarmedH.refl s) _
  have hk : h0.size ≤ h0.size := Nat.le_refl _
  have K1 : own_K p e below SE s₁ (mkF m 4 #[.val (.int (0 : Int32)), .val (.int p1), .val (.int p2)] []) := by
    intro t k
    refine K0 _ ?_
    refine XS.iloadN X0.here hx rfl (hb hby d2_0) rfl ?_
    show own_S p e below s₁ (mkF m 1 #[.val (.int (0 : Int32)), .val (.int p1), .val (.int p2)] [(.int (0 : Int32))]) _
    refine XS.ifNo X0.here hx rfl (hb hby d2_1) rfl (XT.i0_ne_f (by decide : (0 : Int32) = 0)) ?_
    exact k
  obtain ⟨b2, T2, h2, k1_2, d2, kd2, X2, e2, E2, hS, hk, hZ, hown, Ex2, Fc2, Fv2, Va2, -, -, hCr2, -, -, st2⟩ := ldcCH X0 hx hZ hown (hw _ (List.mem_of_getElem? (i := 8) rfl)) (own_wS hw) e0 hS hk (own_ew hw) (by simp) hCH (vs := []) (z := (0 : Int32)) ⟨by simp, by simp⟩ (by decide) rfl (g := (mkF m 4 #[.val (.int (0 : Int32)), .val (.int p1), .val (.int p2)] [])) rfl (hb hby d2_4) (n := 0) (by decide +kernel) (by decide) (by decide) (by decide)
  have Kp2 : Keep h0 h2 [] := Keep.ext (Keep.refl h0 []) E2
  have K2 : own_K p e below SE T2 (mkF m 6 #[.val (.int (0 : Int32)), .val (.int p1), .val (.int p2)] [(.ref b2)]) := fun t k => K1 _ (st2 _ k)
  obtain ⟨fs, hr, hrun, hended, hRW⟩ := X2.leaveW hS (by rw [e2]; exact hk) (v := some (.ref b2)) (fun h => by rw [Bd.returns] at h; cases h)
  refine ⟨_, _, K2 _ ?_, hrun, hended, _, _, rfl, ?_, (by rw [hh]; show CHr Z own_EL s.vm h0 T2.vm T2.heap; rw [e2]; exact hCr2), hRW.1, hRW.2.1, hRW.2.2.1, hRW.2.2.2.mono (by decide) (by decide)⟩
  · show Steps p.tables e below (T2.setTop (mkF m 6 #[.val (.int (0 : Int32)), .val (.int p1), .val (.int p2)] [(.ref b2)])) _
    jvm_step X2.here [X2.here.top, hx, (hb hby d2_6), X2.method', Bd.returns, Value.isRef, FieldType.isReference]
    first | (intro acts; rw [hr _ acts rfl rfl rfl]) | rw [hr _ _ rfl rfl rfl]
    exact Steps.refl _
  · show Qmk0 Z p1 p2 h0 n0 _ T2.heap _
    rw [e2]
    exact ⟨_, rfl, N0, Kp2, Ex2, Fc2, d2, kd2, Fv2, Va2⟩
theorem d12_0 : decode jdk_43_method_13_code 0 = .ok (.aload_n 0, 1) := by decide +kernel
theorem d12_1 : decode jdk_43_method_13_code 1 = .ok (.arraylength, 1) := by decide +kernel
theorem d12_2 : decode jdk_43_method_13_code 2 = .ok (.aload_n 1, 1) := by decide +kernel
theorem d12_3 : decode jdk_43_method_13_code 3 = .ok (.arraylength, 1) := by decide +kernel
theorem d12_4 : decode jdk_43_method_13_code 4 = .ok (.if_icmp .ne 30, 3) := by decide +kernel
theorem d12_7 : decode jdk_43_method_13_code 7 = .ok (.iconst 0, 1) := by decide +kernel
theorem d12_8 : decode jdk_43_method_13_code 8 = .ok (.istore_n 2, 1) := by decide +kernel
theorem d12_9 : decode jdk_43_method_13_code 9 = .ok (.iload_n 2, 1) := by decide +kernel
theorem d12_10 : decode jdk_43_method_13_code 10 = .ok (.aload_n 0, 1) := by decide +kernel
theorem d12_11 : decode jdk_43_method_13_code 11 = .ok (.arraylength, 1) := by decide +kernel
theorem d12_12 : decode jdk_43_method_13_code 12 = .ok (.if_icmp .ge 20, 3) := by decide +kernel
theorem d12_32 : decode jdk_43_method_13_code 32 = .ok (.iconst 1, 1) := by decide +kernel
theorem d12_33 : decode jdk_43_method_13_code 33 = .ok (.ireturn, 1) := by decide +kernel
theorem ef_leq00 (m : MethodId) (r0 : Addr) (r1 : Addr) : entryFrame m #[(.ref r0), (.ref r1)] 3 = mkF m 0 #[.val (.ref r0), .val (.ref r1), .unset] [] := by first | (simp [entryFrame, mkF, argsToLocals, Value.category]; done) | rfl
def Qleq00 (Z : State) (r0 : Addr) (r1 : Addr) (kA : ClassId) (kB : ClassId) (h0 : Heap) (n0 : Nat) (v : Option Value) (h : Heap) (L : List Loc) : Prop := v = some (.int (1 : Int32)) ∧ Fr n0 L ∧ h = h0
set_option maxRecDepth 65536 in
set_option maxHeartbeats 40000000 in
theorem rmleq00 (l : Launch) (Z : State) (a0 : Array Value) (hw : ∀ d ∈ tables_1, d.before a0 Z = true) (ws : List Jvm.Cond) (r0 : Addr) (r1 : Addr) (kA : ClassId) (kB : ClassId) (h0 : Heap) (n0 : Nat) (Z0 : n0 ≤ h0.size) (V0 : Arv Z h0 r0 kA .byte (0 : Int32) [] (.int (0 : Int32))) (V1 : Arv Z h0 r1 kB .byte (0 : Int32) [] (.int (0 : Int32))) :
    MetFree l (⟨"java/lang/StringLatin1", "equals", "([B[B)Z"⟩ : MethodName) (head1 (Jvm.Cond.code (⟨"java/lang/StringLatin1", "equals", "([B[B)Z"⟩ : MethodName) jdk_43_method_13_code 3 (some .boolean) :: ws) ({ frames := 0, cells := 0, slots := 0, locals := 0 } : Room)) (fun a U => a = #[(.ref r0), (.ref r1)] ∧ Z.Warmed39 U.vm ∧ U.heap = h0) (fun _ _ _ _ _ => True) (fun _ U o U' => ∃ v L, o = .returned v ∧ Qleq00 Z r0 r1 kA kB h0 n0 v U'.heap L ∧ FrameEnd U o U' L ({ frames := 0, cells := 0, slots := 0, locals := 0 } : Room).cells ({ frames := 0, cells := 0, slots := 0, locals := 0 } : Room).slots) := by
  refine MetFree.of_bodySF (plainFor_of_name pn_14) hisR ?_
  intro p e s m args below meth c s₁ Bd hml0 hP hK
  obtain ⟨rfl, hZ, hh⟩ := hP
  have hx := Bd.exec
  have hby := Bd.bytes
  have hml : c.maxLocals = 3 := hml0
  have hown : s.vm.findClass "java/lang/StringLatin1" = some m.cls := findClass_of_methodNamed Bd.named
  have hnm := (name_of_methodNamed Bd.named Bd.method).1
  have X0 : Stand p l e ({ frames := 0, cells := 0, slots := 0, locals := 0 } : Room) s m #[(.ref r0), (.ref r1)] below meth c s₁ [] 0 0 := Stand.of_body Bd
  have e0 : s₁.heap = h0 := by rw [← hh, Bd.state]; rfl
  have N0 := Fr.nil n0
  have K0 : ∀ t, Steps p.tables e below (s₁.setTop (mkF m 0 #[.val (.ref r0), .val (.ref r1), .unset] [])) t → Steps p.tables e below (s₁.setTop (entryFrame m #[(.ref r0), (.ref r1)] 3)) t := fun t k => castTop (ef_leq00 m r0 r1) k
  generalize s₁.setTop (entryFrame m #[(.ref r0), (.ref r1)] 3) = SE at K0 ⊢
  have K1 : own_K p e below SE s₁ (mkF m 1 #[.val (.ref r0), .val (.ref r1), .unset] [(.ref r0)]) := by
    intro t k
    refine K0 _ ?_
    refine XS.aloadN X0.here hx rfl (hb hby d12_0) rfl rfl ?_
    exact k
  obtain ⟨cl2, Ar2, -, S2, Ng2, -, -⟩ := id V0
  have K3 : own_K p e below SE s₁ (mkF m 3 #[.val (.ref r0), .val (.ref r1), .unset] [(.ref r1), (.int (0 : Int32))]) := by
    intro t k
    refine K1 _ ?_
    refine X0.arraylength hx (by rw [e0]; exact Ar2.1) (State.isArrayOf_alike hZ.alike Ar2.2.1) (g := (mkF m 1 #[.val (.ref r0), .val (.ref r1), .unset] [(.ref r0)])) rfl rfl (hb hby d12_1) _ ?_
    rw [len_of S2 Ng2]
    show own_S p e below s₁ (mkF m 2 #[.val (.ref r0), .val (.ref r1), .unset] [(.int (0 : Int32))]) _
    refine XS.aloadN X0.here hx rfl (hb hby d12_2) rfl rfl ?_
    exact k
  obtain ⟨cl4, Ar4, -, S4, Ng4, -, -⟩ := id V1
  have K5 : own_K p e below SE s₁ (mkF m 11 #[.val (.ref r0), .val (.ref r1), .val (.int (0 : Int32))] [(.ref r0), (.int (0 : Int32))]) := by
    intro t k
    refine K3 _ ?_
    refine X0.arraylength hx (by rw [e0]; exact Ar4.1) (State.isArrayOf_alike hZ.alike Ar4.2.1) (g := (mkF m 3 #[.val (.ref r0), .val (.ref r1), .unset] [(.ref r1), (.int (0 : Int32))])) rfl rfl (hb hby d12_3) _ ?_
    rw [len_of S4 Ng4]
    show own_S p e below s₁ (mkF m 4 #[.val (.ref r0), .val (.ref r1), .unset] [(.int (0 : Int32)), (.int (0 : Int32))]) _
    refine XS.icmpNo X0.here hx rfl (hb hby d12_4) rfl (XT.ii_ne_f (by decide : (0 : Int32) = (0 : Int32))) ?_
    show own_S p e below s₁ (mkF m 7 #[.val (.ref r0), .val (.ref r1), .unset] []) _
    refine XS.iconst X0.here hx rfl (hb hby d12_7) ?_
    show own_S p e below s₁ (mkF m 8 #[.val (.ref r0), .val (.ref r1), .unset] [(.int (0 : Int32))]) _
    refine XS.istoreN X0.here hx rfl (hb hby d12_8) rfl (l' := #[.val (.ref r0), .val (.ref r1), .val (.int (0 : Int32))]) rfl ?_
    show own_S p e below s₁ (mkF m 9 #[.val (.ref r0), .val (.ref r1), .val (.int (0 : Int32))] []) _
    refine XS.iloadN X0.here hx rfl (hb hby d12_9) rfl ?_
    show own_S p e below s₁ (mkF m 10 #[.val (.ref r0), .val (.ref r1), .val (.int (0 : Int32))] [(.int (0 : Int32))]) _
    refine XS.aloadN X0.here hx rfl (hb hby d12_10) rfl rfl ?_
    exact k
  obtain ⟨cl6, Ar6, -, S6, Ng6, -, -⟩ := id V0
  have K7 : own_K p e below SE s₁ (mkF m 33 #[.val (.ref r0), .val (.ref r1), .val (.int (0 : Int32))] [(.int (1 : Int32))]) := by
    intro t k
    refine K5 _ ?_
    refine X0.arraylength hx (by rw [e0]; exact Ar6.1) (State.isArrayOf_alike hZ.alike Ar6.2.1) (g := (mkF m 11 #[.val (.ref r0), .val (.ref r1), .val (.int (0 : Int32))] [(.ref r0), (.int (0 : Int32))])) rfl rfl (hb hby d12_11) _ ?_
    rw [len_of S6 Ng6]
    show own_S p e below s₁ (mkF m 12 #[.val (.ref r0), .val (.ref r1), .val (.int (0 : Int32))] [(.int (0 : Int32)), (.int (0 : Int32))]) _
    refine XS.icmpYes X0.here hx rfl (pc0 := 12) (pc' := 32) rfl (hb hby d12_12) rfl (XT.ii_ge_t (by decide : ¬ ((0 : Int32) < (0 : Int32)))) (by decide) (by decide) ?_
    show own_S p e below s₁ (mkF m 32 #[.val (.ref r0), .val (.ref r1), .val (.int (0 : Int32))] []) _
    refine XS.iconst X0.here hx rfl (hb hby d12_32) ?_
    exact k
  obtain ⟨fs, hr, hrun, hended, hW, hsame⟩ := X0.leave (v := some (.int (1 : Int32))) (fun h => by rw [Bd.returns] at h; cases h)
  refine ⟨_, _, K7 _ ?_, hrun, hended, _, _, rfl, ?_, ⟨_, rfl⟩, hW, hsame.mono (by decide) (by decide)⟩
  · exact retN X0 hx (t := .boolean) Bd.returns (by simp) (hb hby d12_33) hr
  · show Qleq00 Z r0 r1 kA kB h0 n0 _ s₁.heap _
    rw [e0]
    exact ⟨rfl, N0, rfl⟩
theorem d12_34 : decode jdk_43_method_13_code 34 = .ok (.iconst 0, 1) := by decide +kernel
theorem d12_35 : decode jdk_43_method_13_code 35 = .ok (.ireturn, 1) := by decide +kernel
theorem ef_leq01 (m : MethodId) (r0 : Addr) (r1 : Addr) : entryFrame m #[(.ref r0), (.ref r1)] 3 = mkF m 0 #[.val (.ref r0), .val (.ref r1), .unset] [] := by first | (simp [entryFrame, mkF, argsToLocals, Value.category]; done) | rfl
def Qleq01 (Z : State) (r0 : Addr) (r1 : Addr) (kA : ClassId) (kB : ClassId) (z0 : Int32) (h0 : Heap) (n0 : Nat) (v : Option Value) (h : Heap) (L : List Loc) : Prop := v = some (.int (0 : Int32)) ∧ Fr n0 L ∧ h = h0
set_option maxRecDepth 65536 in
set_option maxHeartbeats 40000000 in
theorem rmleq01 (l : Launch) (Z : State) (a0 : Array Value) (hw : ∀ d ∈ tables_1, d.before a0 Z = true) (ws : List Jvm.Cond) (r0 : Addr) (r1 : Addr) (kA : ClassId) (kB : ClassId) (z0 : Int32) (h0 : Heap) (n0 : Nat) (Z0 : n0 ≤ h0.size) (V0 : Arv Z h0 r0 kA .byte (0 : Int32) [] (.int (0 : Int32))) (V1 : Arv Z h0 r1 kB .byte (1 : Int32) [(.int z0)] (.int (0 : Int32))) :
    MetFree l (⟨"java/lang/StringLatin1", "equals", "([B[B)Z"⟩ : MethodName) (head1 (Jvm.Cond.code (⟨"java/lang/StringLatin1", "equals", "([B[B)Z"⟩ : MethodName) jdk_43_method_13_code 3 (some .boolean) :: ws) ({ frames := 0, cells := 0, slots := 0, locals := 0 } : Room)) (fun a U => a = #[(.ref r0), (.ref r1)] ∧ Z.Warmed39 U.vm ∧ U.heap = h0) (fun _ _ _ _ _ => True) (fun _ U o U' => ∃ v L, o = .returned v ∧ Qleq01 Z r0 r1 kA kB z0 h0 n0 v U'.heap L ∧ FrameEnd U o U' L ({ frames := 0, cells := 0, slots := 0, locals := 0 } : Room).cells ({ frames := 0, cells := 0, slots := 0, locals := 0 } : Room).slots) := by
  refine MetFree.of_bodySF (plainFor_of_name pn_14) hisR ?_
  intro p e s m args below meth c s₁ Bd hml0 hP hK
  obtain ⟨rfl, hZ, hh⟩ := hP
  have hx := Bd.exec
  have hby := Bd.bytes
  have hml : c.maxLocals = 3 := hml0
  have hown : s.vm.findClass "java/lang/StringLatin1" = some m.cls := findClass_of_methodNamed Bd.named
  have hnm := (name_of_methodNamed Bd.named Bd.method).1
  have X0 : Stand p l e ({ frames := 0, cells := 0, slots := 0, locals := 0 } : Room) s m #[(.ref r0), (.ref r1)] below meth c s₁ [] 0 0 := Stand.of_body Bd
  have e0 : s₁.heap = h0 := by rw [← hh, Bd.state]; rfl
  have N0 := Fr.nil n0
  have K0 : ∀ t, Steps p.tables e below (s₁.setTop (mkF m 0 #[.val (.ref r0), .val (.ref r1), .unset] [])) t → Steps p.tables e below (s₁.setTop (entryFrame m #[(.ref r0), (.ref r1)] 3)) t := fun t k => castTop (ef_leq01 m r0 r1) k
  generalize s₁.setTop (entryFrame m #[(.ref r0), (.ref r1)] 3) = SE at K0 ⊢
  have K1 : own_K p e below SE s₁ (mkF m 1 #[.val (.ref r0), .val (.ref r1), .unset] [(.ref r0)]) := by
    intro t k
    refine K0 _ ?_
    refine XS.aloadN X0.here hx rfl (hb hby d12_0) rfl rfl ?_
    exact k
  obtain ⟨cl2, Ar2, -, S2, Ng2, -, -⟩ := id V0
  have K3 : own_K p e below SE s₁ (mkF m 3 #[.val (.ref r0), .val (.ref r1), .unset] [(.ref r1), (.int (0 : Int32))]) := by
    intro t k
    refine K1 _ ?_
    refine X0.arraylength hx (by rw [e0]; exact Ar2.1) (State.isArrayOf_alike hZ.alike Ar2.2.1) (g := (mkF m 1 #[.val (.ref r0), .val (.ref r1), .unset] [(.ref r0)])) rfl rfl (hb hby d12_1) _ ?_
    rw [len_of S2 Ng2]
    show own_S p e below s₁ (mkF m 2 #[.val (.ref r0), .val (.ref r1), .unset] [(.int (0 : Int32))]) _
    refine XS.aloadN X0.here hx rfl (hb hby d12_2) rfl rfl ?_
    exact k
  obtain ⟨cl4, Ar4, -, S4, Ng4, -, -⟩ := id V1
  have K5 : own_K p e below SE s₁ (mkF m 35 #[.val (.ref r0), .val (.ref r1), .unset] [(.int (0 : Int32))]) := by
    intro t k
    refine K3 _ ?_
    refine X0.arraylength hx (by rw [e0]; exact Ar4.1) (State.isArrayOf_alike hZ.alike Ar4.2.1) (g := (mkF m 3 #[.val (.ref r0), .val (.ref r1), .unset] [(.ref r1), (.int (0 : Int32))])) rfl rfl (hb hby d12_3) _ ?_
    rw [len_of S4 Ng4]
    show own_S p e below s₁ (mkF m 4 #[.val (.ref r0), .val (.ref r1), .unset] [(.int (1 : Int32)), (.int (0 : Int32))]) _
    refine XS.icmpYes X0.here hx rfl (pc0 := 4) (pc' := 34) rfl (hb hby d12_4) rfl (XT.ii_ne_t (by decide : ¬ ((0 : Int32) = (1 : Int32)))) (by decide) (by decide) ?_
    show own_S p e below s₁ (mkF m 34 #[.val (.ref r0), .val (.ref r1), .unset] []) _
    refine XS.iconst X0.here hx rfl (hb hby d12_34) ?_
    exact k
  obtain ⟨fs, hr, hrun, hended, hW, hsame⟩ := X0.leave (v := some (.int (0 : Int32))) (fun h => by rw [Bd.returns] at h; cases h)
  refine ⟨_, _, K5 _ ?_, hrun, hended, _, _, rfl, ?_, ⟨_, rfl⟩, hW, hsame.mono (by decide) (by decide)⟩
  · exact retN X0 hx (t := .boolean) Bd.returns (by simp) (hb hby d12_35) hr
  · show Qleq01 Z r0 r1 kA kB z0 h0 n0 _ s₁.heap _
    rw [e0]
    exact ⟨rfl, N0, rfl⟩
theorem ef_leq02 (m : MethodId) (r0 : Addr) (r1 : Addr) : entryFrame m #[(.ref r0), (.ref r1)] 3 = mkF m 0 #[.val (.ref r0), .val (.ref r1), .unset] [] := by first | (simp [entryFrame, mkF, argsToLocals, Value.category]; done) | rfl
def Qleq02 (Z : State) (r0 : Addr) (r1 : Addr) (kA : ClassId) (kB : ClassId) (z0 : Int32) (z1 : Int32) (h0 : Heap) (n0 : Nat) (v : Option Value) (h : Heap) (L : List Loc) : Prop := v = some (.int (0 : Int32)) ∧ Fr n0 L ∧ h = h0
set_option maxRecDepth 65536 in
set_option maxHeartbeats 40000000 in
theorem rmleq02 (l : Launch) (Z : State) (a0 : Array Value) (hw : ∀ d ∈ tables_1, d.before a0 Z = true) (ws : List Jvm.Cond) (r0 : Addr) (r1 : Addr) (kA : ClassId) (kB : ClassId) (z0 : Int32) (z1 : Int32) (h0 : Heap) (n0 : Nat) (Z0 : n0 ≤ h0.size) (V0 : Arv Z h0 r0 kA .byte (0 : Int32) [] (.int (0 : Int32))) (V1 : Arv Z h0 r1 kB .byte (2 : Int32) [(.int z0), (.int z1)] (.int (0 : Int32))) :
    MetFree l (⟨"java/lang/StringLatin1", "equals", "([B[B)Z"⟩ : MethodName) (head1 (Jvm.Cond.code (⟨"java/lang/StringLatin1", "equals", "([B[B)Z"⟩ : MethodName) jdk_43_method_13_code 3 (some .boolean) :: ws) ({ frames := 0, cells := 0, slots := 0, locals := 0 } : Room)) (fun a U => a = #[(.ref r0), (.ref r1)] ∧ Z.Warmed39 U.vm ∧ U.heap = h0) (fun _ _ _ _ _ => True) (fun _ U o U' => ∃ v L, o = .returned v ∧ Qleq02 Z r0 r1 kA kB z0 z1 h0 n0 v U'.heap L ∧ FrameEnd U o U' L ({ frames := 0, cells := 0, slots := 0, locals := 0 } : Room).cells ({ frames := 0, cells := 0, slots := 0, locals := 0 } : Room).slots) := by
  refine MetFree.of_bodySF (plainFor_of_name pn_14) hisR ?_
  intro p e s m args below meth c s₁ Bd hml0 hP hK
  obtain ⟨rfl, hZ, hh⟩ := hP
  have hx := Bd.exec
  have hby := Bd.bytes
  have hml : c.maxLocals = 3 := hml0
  have hown : s.vm.findClass "java/lang/StringLatin1" = some m.cls := findClass_of_methodNamed Bd.named
  have hnm := (name_of_methodNamed Bd.named Bd.method).1
  have X0 : Stand p l e ({ frames := 0, cells := 0, slots := 0, locals := 0 } : Room) s m #[(.ref r0), (.ref r1)] below meth c s₁ [] 0 0 := Stand.of_body Bd
  have e0 : s₁.heap = h0 := by rw [← hh, Bd.state]; rfl
  have N0 := Fr.nil n0
  have K0 : ∀ t, Steps p.tables e below (s₁.setTop (mkF m 0 #[.val (.ref r0), .val (.ref r1), .unset] [])) t → Steps p.tables e below (s₁.setTop (entryFrame m #[(.ref r0), (.ref r1)] 3)) t := fun t k => castTop (ef_leq02 m r0 r1) k
  generalize s₁.setTop (entryFrame m #[(.ref r0), (.ref r1)] 3) = SE at K0 ⊢
  have K1 : own_K p e below SE s₁ (mkF m 1 #[.val (.ref r0), .val (.ref r1), .unset] [(.ref r0)]) := by
    intro t k
    refine K0 _ ?_
    refine XS.aloadN X0.here hx rfl (hb hby d12_0) rfl rfl ?_
    exact k
  obtain ⟨cl2, Ar2, -, S2, Ng2, -, -⟩ := id V0
  have K3 : own_K p e below SE s₁ (mkF m 3 #[.val (.ref r0), .val (.ref r1), .unset] [(.ref r1), (.int (0 : Int32))]) := by
    intro t k
    refine K1 _ ?_
    refine X0.arraylength hx (by rw [e0]; exact Ar2.1) (State.isArrayOf_alike hZ.alike Ar2.2.1) (g := (mkF m 1 #[.val (.ref r0), .val (.ref r1), .unset] [(.ref r0)])) rfl rfl (hb hby d12_1) _ ?_
    rw [len_of S2 Ng2]
    show own_S p e below s₁ (mkF m 2 #[.val (.ref r0), .val (.ref r1), .unset] [(.int (0 : Int32))]) _
    refine XS.aloadN X0.here hx rfl (hb hby d12_2) rfl rfl ?_
    exact k
  obtain ⟨cl4, Ar4, -, S4, Ng4, -, -⟩ := id V1
  have K5 : own_K p e below SE s₁ (mkF m 35 #[.val (.ref r0), .val (.ref r1), .unset] [(.int (0 : Int32))]) := by
    intro t k
    refine K3 _ ?_
    refine X0.arraylength hx (by rw [e0]; exact Ar4.1) (State.isArrayOf_alike hZ.alike Ar4.2.1) (g := (mkF m 3 #[.val (.ref r0), .val (.ref r1), .unset] [(.ref r1), (.int (0 : Int32))])) rfl rfl (hb hby d12_3) _ ?_
    rw [len_of S4 Ng4]
    show own_S p e below s₁ (mkF m 4 #[.val (.ref r0), .val (.ref r1), .unset] [(.int (2 : Int32)), (.int (0 : Int32))]) _
    refine XS.icmpYes X0.here hx rfl (pc0 := 4) (pc' := 34) rfl (hb hby d12_4) rfl (XT.ii_ne_t (by decide : ¬ ((0 : Int32) = (2 : Int32)))) (by decide) (by decide) ?_
    show own_S p e below s₁ (mkF m 34 #[.val (.ref r0), .val (.ref r1), .unset] []) _
    refine XS.iconst X0.here hx rfl (hb hby d12_34) ?_
    exact k
  obtain ⟨fs, hr, hrun, hended, hW, hsame⟩ := X0.leave (v := some (.int (0 : Int32))) (fun h => by rw [Bd.returns] at h; cases h)
  refine ⟨_, _, K5 _ ?_, hrun, hended, _, _, rfl, ?_, ⟨_, rfl⟩, hW, hsame.mono (by decide) (by decide)⟩
  · exact retN X0 hx (t := .boolean) Bd.returns (by simp) (hb hby d12_35) hr
  · show Qleq02 Z r0 r1 kA kB z0 z1 h0 n0 _ s₁.heap _
    rw [e0]
    exact ⟨rfl, N0, rfl⟩
theorem ef_leq10 (m : MethodId) (r0 : Addr) (r1 : Addr) : entryFrame m #[(.ref r0), (.ref r1)] 3 = mkF m 0 #[.val (.ref r0), .val (.ref r1), .unset] [] := by first | (simp [entryFrame, mkF, argsToLocals, Value.category]; done) | rfl
def Qleq10 (Z : State) (r0 : Addr) (r1 : Addr) (kA : ClassId) (kB : ClassId) (x0 : Int32) (h0 : Heap) (n0 : Nat) (v : Option Value) (h : Heap) (L : List Loc) : Prop := v = some (.int (0 : Int32)) ∧ Fr n0 L ∧ h = h0
set_option maxRecDepth 65536 in
set_option maxHeartbeats 40000000 in
theorem rmleq10 (l : Launch) (Z : State) (a0 : Array Value) (hw : ∀ d ∈ tables_1, d.before a0 Z = true) (ws : List Jvm.Cond) (r0 : Addr) (r1 : Addr) (kA : ClassId) (kB : ClassId) (x0 : Int32) (h0 : Heap) (n0 : Nat) (Z0 : n0 ≤ h0.size) (V0 : Arv Z h0 r0 kA .byte (1 : Int32) [(.int x0)] (.int (0 : Int32))) (V1 : Arv Z h0 r1 kB .byte (0 : Int32) [] (.int (0 : Int32))) :
    MetFree l (⟨"java/lang/StringLatin1", "equals", "([B[B)Z"⟩ : MethodName) (head1 (Jvm.Cond.code (⟨"java/lang/StringLatin1", "equals", "([B[B)Z"⟩ : MethodName) jdk_43_method_13_code 3 (some .boolean) :: ws) ({ frames := 0, cells := 0, slots := 0, locals := 0 } : Room)) (fun a U => a = #[(.ref r0), (.ref r1)] ∧ Z.Warmed39 U.vm ∧ U.heap = h0) (fun _ _ _ _ _ => True) (fun _ U o U' => ∃ v L, o = .returned v ∧ Qleq10 Z r0 r1 kA kB x0 h0 n0 v U'.heap L ∧ FrameEnd U o U' L ({ frames := 0, cells := 0, slots := 0, locals := 0 } : Room).cells ({ frames := 0, cells := 0, slots := 0, locals := 0 } : Room).slots) := by
  refine MetFree.of_bodySF (plainFor_of_name pn_14) hisR ?_
  intro p e s m args below meth c s₁ Bd hml0 hP hK
  obtain ⟨rfl, hZ, hh⟩ := hP
  have hx := Bd.exec
  have hby := Bd.bytes
  have hml : c.maxLocals = 3 := hml0
  have hown : s.vm.findClass "java/lang/StringLatin1" = some m.cls := findClass_of_methodNamed Bd.named
  have hnm := (name_of_methodNamed Bd.named Bd.method).1
  have X0 : Stand p l e ({ frames := 0, cells := 0, slots := 0, locals := 0 } : Room) s m #[(.ref r0), (.ref r1)] below meth c s₁ [] 0 0 := Stand.of_body Bd
  have e0 : s₁.heap = h0 := by rw [← hh, Bd.state]; rfl
  have N0 := Fr.nil n0
  have K0 : ∀ t, Steps p.tables e below (s₁.setTop (mkF m 0 #[.val (.ref r0), .val (.ref r1), .unset] [])) t → Steps p.tables e below (s₁.setTop (entryFrame m #[(.ref r0), (.ref r1)] 3)) t := fun t k => castTop (ef_leq10 m r0 r1) k
  generalize s₁.setTop (entryFrame m #[(.ref r0), (.ref r1)] 3) = SE at K0 ⊢
  have K1 : own_K p e below SE s₁ (mkF m 1 #[.val (.ref r0), .val (.ref r1), .unset] [(.ref r0)]) := by
    intro t k
    refine K0 _ ?_
    refine XS.aloadN X0.here hx rfl (hb hby d12_0) rfl rfl ?_
    exact k
  obtain ⟨cl2, Ar2, -, S2, Ng2, -, -⟩ := id V0
  have K3 : own_K p e below SE s₁ (mkF m 3 #[.val (.ref r0), .val (.ref r1), .unset] [(.ref r1), (.int (1 : Int32))]) := by
    intro t k
    refine K1 _ ?_
    refine X0.arraylength hx (by rw [e0]; exact Ar2.1) (State.isArrayOf_alike hZ.alike Ar2.2.1) (g := (mkF m 1 #[.val (.ref r0), .val (.ref r1), .unset] [(.ref r0)])) rfl rfl (hb hby d12_1) _ ?_
    rw [len_of S2 Ng2]
    show own_S p e below s₁ (mkF m 2 #[.val (.ref r0), .val (.ref r1), .unset] [(.int (1 : Int32))]) _
    refine XS.aloadN X0.here hx rfl (hb hby d12_2) rfl rfl ?_
    exact k
  obtain ⟨cl4, Ar4, -, S4, Ng4, -, -⟩ := id V1
  have K5 : own_K p e below SE s₁ (mkF m 35 #[.val (.ref r0), .val (.ref r1), .unset] [(.int (0 : Int32))]) := by
    intro t k
    refine K3 _ ?_
    refine X0.arraylength hx (by rw [e0]; exact Ar4.1) (State.isArrayOf_alike hZ.alike Ar4.2.1) (g := (mkF m 3 #[.val (.ref r0), .val (.ref r1), .unset] [(.ref r1), (.int (1 : Int32))])) rfl rfl (hb hby d12_3) _ ?_
    rw [len_of S4 Ng4]
    show own_S p e below s₁ (mkF m 4 #[.val (.ref r0), .val (.ref r1), .unset] [(.int (0 : Int32)), (.int (1 : Int32))]) _
    refine XS.icmpYes X0.here hx rfl (pc0 := 4) (pc' := 34) rfl (hb hby d12_4) rfl (XT.ii_ne_t (by decide : ¬ ((1 : Int32) = (0 : Int32)))) (by decide) (by decide) ?_
    show own_S p e below s₁ (mkF m 34 #[.val (.ref r0), .val (.ref r1), .unset] []) _
    refine XS.iconst X0.here hx rfl (hb hby d12_34) ?_
    exact k
  obtain ⟨fs, hr, hrun, hended, hW, hsame⟩ := X0.leave (v := some (.int (0 : Int32))) (fun h => by rw [Bd.returns] at h; cases h)
  refine ⟨_, _, K5 _ ?_, hrun, hended, _, _, rfl, ?_, ⟨_, rfl⟩, hW, hsame.mono (by decide) (by decide)⟩
  · exact retN X0 hx (t := .boolean) Bd.returns (by simp) (hb hby d12_35) hr
  · show Qleq10 Z r0 r1 kA kB x0 h0 n0 _ s₁.heap _
    rw [e0]
    exact ⟨rfl, N0, rfl⟩
theorem d12_15 : decode jdk_43_method_13_code 15 = .ok (.aload_n 0, 1) := by decide +kernel
theorem d12_16 : decode jdk_43_method_13_code 16 = .ok (.iload_n 2, 1) := by decide +kernel
theorem d12_17 : decode jdk_43_method_13_code 17 = .ok (.baload, 1) := by decide +kernel
theorem d12_18 : decode jdk_43_method_13_code 18 = .ok (.aload_n 1, 1) := by decide +kernel
theorem d12_19 : decode jdk_43_method_13_code 19 = .ok (.iload_n 2, 1) := by decide +kernel
theorem d12_20 : decode jdk_43_method_13_code 20 = .ok (.baload, 1) := by decide +kernel
theorem d12_21 : decode jdk_43_method_13_code 21 = .ok (.if_icmp .eq 5, 3) := by decide +kernel
theorem d12_24 : decode jdk_43_method_13_code 24 = .ok (.iconst 0, 1) := by decide +kernel
theorem d12_25 : decode jdk_43_method_13_code 25 = .ok (.ireturn, 1) := by decide +kernel
theorem d12_26 : decode jdk_43_method_13_code 26 = .ok (.iinc 2 1, 3) := by decide +kernel
theorem d12_29 : decode jdk_43_method_13_code 29 = .ok (.goto (-20), 3) := by decide +kernel
theorem ef_leq11 (m : MethodId) (r0 : Addr) (r1 : Addr) : entryFrame m #[(.ref r0), (.ref r1)] 3 = mkF m 0 #[.val (.ref r0), .val (.ref r1), .unset] [] := by first | (simp [entryFrame, mkF, argsToLocals, Value.category]; done) | rfl
def Qleq11 (Z : State) (r0 : Addr) (r1 : Addr) (kA : ClassId) (kB : ClassId) (x0 : Int32) (z0 : Int32) (h0 : Heap) (n0 : Nat) (v : Option Value) (h : Heap) (L : List Loc) : Prop := v = some (.int (if x0 = z0 then (1 : Int32) else (0 : Int32))) ∧ Fr n0 L ∧ h = h0
set_option maxRecDepth 65536 in
set_option maxHeartbeats 40000000 in
theorem rmleq11 (l : Launch) (Z : State) (a0 : Array Value) (hw : ∀ d ∈ tables_1, d.before a0 Z = true) (ws : List Jvm.Cond) (r0 : Addr) (r1 : Addr) (kA : ClassId) (kB : ClassId) (x0 : Int32) (z0 : Int32) (h0 : Heap) (n0 : Nat) (Z0 : n0 ≤ h0.size) (V0 : Arv Z h0 r0 kA .byte (1 : Int32) [(.int x0)] (.int (0 : Int32))) (V1 : Arv Z h0 r1 kB .byte (1 : Int32) [(.int z0)] (.int (0 : Int32))) :
    MetFree l (⟨"java/lang/StringLatin1", "equals", "([B[B)Z"⟩ : MethodName) (head1 (Jvm.Cond.code (⟨"java/lang/StringLatin1", "equals", "([B[B)Z"⟩ : MethodName) jdk_43_method_13_code 3 (some .boolean) :: ws) ({ frames := 0, cells := 0, slots := 0, locals := 0 } : Room)) (fun a U => a = #[(.ref r0), (.ref r1)] ∧ Z.Warmed39 U.vm ∧ U.heap = h0) (fun _ _ _ _ _ => True) (fun _ U o U' => ∃ v L, o = .returned v ∧ Qleq11 Z r0 r1 kA kB x0 z0 h0 n0 v U'.heap L ∧ FrameEnd U o U' L ({ frames := 0, cells := 0, slots := 0, locals := 0 } : Room).cells ({ frames := 0, cells := 0, slots := 0, locals := 0 } : Room).slots) := by
  refine MetFree.of_bodySF (plainFor_of_name pn_14) hisR ?_
  intro p e s m args below meth c s₁ Bd hml0 hP hK
  obtain ⟨rfl, hZ, hh⟩ := hP
  have hx := Bd.exec
  have hby := Bd.bytes
  have hml : c.maxLocals = 3 := hml0
  have hown : s.vm.findClass "java/lang/StringLatin1" = some m.cls := findClass_of_methodNamed Bd.named
  have hnm := (name_of_methodNamed Bd.named Bd.method).1
  have X0 : Stand p l e ({ frames := 0, cells := 0, slots := 0, locals := 0 } : Room) s m #[(.ref r0), (.ref r1)] below meth c s₁ [] 0 0 := Stand.of_body Bd
  have e0 : s₁.heap = h0 := by rw [← hh, Bd.state]; rfl
  have N0 := Fr.nil n0
  have K0 : ∀ t, Steps p.tables e below (s₁.setTop (mkF m 0 #[.val (.ref r0), .val (.ref r1), .unset] [])) t → Steps p.tables e below (s₁.setTop (entryFrame m #[(.ref r0), (.ref r1)] 3)) t := fun t k => castTop (ef_leq11 m r0 r1) k
  generalize s₁.setTop (entryFrame m #[(.ref r0), (.ref r1)] 3) = SE at K0 ⊢
  have K1 : own_K p e below SE s₁ (mkF m 1 #[.val (.ref r0), .val (.ref r1), .unset] [(.ref r0)]) := by
    intro t k
    refine K0 _ ?_
    refine XS.aloadN X0.here hx rfl (hb hby d12_0) rfl rfl ?_
    exact k
  obtain ⟨cl2, Ar2, -, S2, Ng2, -, -⟩ := id V0
  have K3 : own_K p e below SE s₁ (mkF m 3 #[.val (.ref r0), .val (.ref r1), .unset] [(.ref r1), (.int (1 : Int32))]) := by
    intro t k
    refine K1 _ ?_
    refine X0.arraylength hx (by rw [e0]; exact Ar2.1) (State.isArrayOf_alike hZ.alike Ar2.2.1) (g := (mkF m 1 #[.val (.ref r0), .val (.ref r1), .unset] [(.ref r0)])) rfl rfl (hb hby d12_1) _ ?_
    rw [len_of S2 Ng2]
    show own_S p e below s₁ (mkF m 2 #[.val (.ref r0), .val (.ref r1), .unset] [(.int (1 : Int32))]) _
    refine XS.aloadN X0.here hx rfl (hb hby d12_2) rfl rfl ?_
    exact k
  obtain ⟨cl4, Ar4, -, S4, Ng4, -, -⟩ := id V1
  have K5 : own_K p e below SE s₁ (mkF m 11 #[.val (.ref r0), .val (.ref r1), .val (.int (0 : Int32))] [(.ref r0), (.int (0 : Int32))]) := by
    intro t k
    refine K3 _ ?_
    refine X0.arraylength hx (by rw [e0]; exact Ar4.1) (State.isArrayOf_alike hZ.alike Ar4.2.1) (g := (mkF m 3 #[.val (.ref r0), .val (.ref r1), .unset] [(.ref r1), (.int (1 : Int32))])) rfl rfl (hb hby d12_3) _ ?_
    rw [len_of S4 Ng4]
    show own_S p e below s₁ (mkF m 4 #[.val (.ref r0), .val (.ref r1), .unset] [(.int (1 : Int32)), (.int (1 : Int32))]) _
    refine XS.icmpNo X0.here hx rfl (hb hby d12_4) rfl (XT.ii_ne_f (by decide : (1 : Int32) = (1 : Int32))) ?_
    show own_S p e below s₁ (mkF m 7 #[.val (.ref r0), .val (.ref r1), .unset] []) _
    refine XS.iconst X0.here hx rfl (hb hby d12_7) ?_
    show own_S p e below s₁ (mkF m 8 #[.val (.ref r0), .val (.ref r1), .unset] [(.int (0 : Int32))]) _
    refine XS.istoreN X0.here hx rfl (hb hby d12_8) rfl (l' := #[.val (.ref r0), .val (.ref r1), .val (.int (0 : Int32))]) rfl ?_
    show own_S p e below s₁ (mkF m 9 #[.val (.ref r0), .val (.ref r1), .val (.int (0 : Int32))] []) _
    refine XS.iloadN X0.here hx rfl (hb hby d12_9) rfl ?_
    show own_S p e below s₁ (mkF m 10 #[.val (.ref r0), .val (.ref r1), .val (.int (0 : Int32))] [(.int (0 : Int32))]) _
    refine XS.aloadN X0.here hx rfl (hb hby d12_10) rfl rfl ?_
    exact k
  obtain ⟨cl6, Ar6, -, S6, Ng6, -, -⟩ := id V0
  have K7 : own_K p e below SE s₁ (mkF m 17 #[.val (.ref r0), .val (.ref r1), .val (.int (0 : Int32))] [(.int (0 : Int32)), (.ref r0)]) := by
    intro t k
    refine K5 _ ?_
    refine X0.arraylength hx (by rw [e0]; exact Ar6.1) (State.isArrayOf_alike hZ.alike Ar6.2.1) (g := (mkF m 11 #[.val (.ref r0), .val (.ref r1), .val (.int (0 : Int32))] [(.ref r0), (.int (0 : Int32))])) rfl rfl (hb hby d12_11) _ ?_
    rw [len_of S6 Ng6]
    show own_S p e below s₁ (mkF m 12 #[.val (.ref r0), .val (.ref r1), .val (.int (0 : Int32))] [(.int (1 : Int32)), (.int (0 : Int32))]) _
    refine XS.icmpNo X0.here hx rfl (hb hby d12_12) rfl (XT.ii_ge_f (by decide : (0 : Int32) < (1 : Int32))) ?_
    show own_S p e below s₁ (mkF m 15 #[.val (.ref r0), .val (.ref r1), .val (.int (0 : Int32))] []) _
    refine XS.aloadN X0.here hx rfl (hb hby d12_15) rfl rfl ?_
    show own_S p e below s₁ (mkF m 16 #[.val (.ref r0), .val (.ref r1), .val (.int (0 : Int32))] [(.ref r0)]) _
    refine XS.iloadN X0.here hx rfl (hb hby d12_16) rfl ?_
    exact k
  obtain ⟨cl8, Ar8, qk8, S8, Ng8, Hh8, Gg8⟩ := id V0
  have hin8 : ¬ ((0 : Int32) < 0 ∨ cl8.slots.size ≤ ((0 : Int32)).toNatClampNeg) := inb_of S8 ⟨by decide, by decide⟩
  have hat8 : cl8.slots[((0 : Int32)).toNatClampNeg]? = some (.int x0) := Has.at Hh8 hin8 rfl
  have K9 : own_K p e below SE s₁ (mkF m 20 #[.val (.ref r0), .val (.ref r1), .val (.int (0 : Int32))] [(.int (0 : Int32)), (.ref r1), (.int x0)]) := by
    intro t k
    refine K7 _ ?_
    refine X0.baloadBytes hx (j := (0 : Int32)) (v := (.int x0)) (by rw [e0]; exact Ar8.1) (State.isArrayOf_alike hZ.alike Ar8.2.1) Ar8.2.2 hin8 hat8 (g := (mkF m 17 #[.val (.ref r0), .val (.ref r1), .val (.int (0 : Int32))] [(.int (0 : Int32)), (.ref r0)])) rfl rfl (hb hby d12_17) _ ?_
    show own_S p e below s₁ (mkF m 18 #[.val (.ref r0), .val (.ref r1), .val (.int (0 : Int32))] [(.int x0)]) _
    refine XS.aloadN X0.here hx rfl (hb hby d12_18) rfl rfl ?_
    show own_S p e below s₁ (mkF m 19 #[.val (.ref r0), .val (.ref r1), .val (.int (0 : Int32))] [(.ref r1), (.int x0)]) _
    refine XS.iloadN X0.here hx rfl (hb hby d12_19) rfl ?_
    exact k
  obtain ⟨cl10, Ar10, qk10, S10, Ng10, Hh10, Gg10⟩ := id V1
  have hin10 : ¬ ((0 : Int32) < 0 ∨ cl10.slots.size ≤ ((0 : Int32)).toNatClampNeg) := inb_of S10 ⟨by decide, by decide⟩
  have hat10 : cl10.slots[((0 : Int32)).toNatClampNeg]? = some (.int z0) := Has.at Hh10 hin10 rfl
  have K12 : own_K p e below SE s₁ (mkF m 21 #[.val (.ref r0), .val (.ref r1), .val (.int (0 : Int32))] [(.int z0), (.int x0)]) := by
    intro t k
    refine K9 _ ?_
    refine X0.baloadBytes hx (j := (0 : Int32)) (v := (.int z0)) (by rw [e0]; exact Ar10.1) (State.isArrayOf_alike hZ.alike Ar10.2.1) Ar10.2.2 hin10 hat10 (g := (mkF m 20 #[.val (.ref r0), .val (.ref r1), .val (.int (0 : Int32))] [(.int (0 : Int32)), (.ref r1), (.int x0)])) rfl rfl (hb hby d12_20) _ ?_
    exact k
  by_cases c21_11 : x0 = z0
  · skip
    have K13 : own_K p e below SE s₁ (mkF m 11 #[.val (.ref r0), .val (.ref r1), .val (.int (1 : Int32))] [(.ref r0), (.int (1 : Int32))]) := by
      intro t k
      refine K12 _ ?_
      refine XS.icmpYes X0.here hx rfl (pc0 := 21) (pc' := 26) rfl (hb hby d12_21) rfl (XT.ii_eq_t c21_11) (by decide) (by decide) ?_
      show own_S p e below s₁ (mkF m 26 #[.val (.ref r0), .val (.ref r1), .val (.int (0 : Int32))] []) _
      refine XS.iinc X0.here hx rfl (hb hby d12_26) rfl (l' := #[.val (.ref r0), .val (.ref r1), .val (.int (1 : Int32))]) rfl ?_
      show own_S p e below s₁ (mkF m 29 #[.val (.ref r0), .val (.ref r1), .val (.int (1 : Int32))] []) _
      refine XS.goto X0.here hx rfl (pc0 := 29) (pc' := 9) rfl (hb hby d12_29) (by decide) (by decide) ?_
      show own_S p e below s₁ (mkF m 9 #[.val (.ref r0), .val (.ref r1), .val (.int (1 : Int32))] []) _
      refine XS.iloadN X0.here hx rfl (hb hby d12_9) rfl ?_
      show own_S p e below s₁ (mkF m 10 #[.val (.ref r0), .val (.ref r1), .val (.int (1 : Int32))] [(.int (1 : Int32))]) _
      refine XS.aloadN X0.here hx rfl (hb hby d12_10) rfl rfl ?_
      exact k
    obtain ⟨cl14, Ar14, -, S14, Ng14, -, -⟩ := id V0
    have K15 : own_K p e below SE s₁ (mkF m 33 #[.val (.ref r0), .val (.ref r1), .val (.int (1 : Int32))] [(.int (1 : Int32))]) := by
      intro t k
      refine K13 _ ?_
      refine X0.arraylength hx (by rw [e0]; exact Ar14.1) (State.isArrayOf_alike hZ.alike Ar14.2.1) (g := (mkF m 11 #[.val (.ref r0), .val (.ref r1), .val (.int (1 : Int32))] [(.ref r0), (.int (1 : Int32))])) rfl rfl (hb hby d12_11) _ ?_
      rw [len_of S14 Ng14]
      show own_S p e below s₁ (mkF m 12 #[.val (.ref r0), .val (.ref r1), .val (.int (1 : Int32))] [(.int (1 : Int32)), (.int (1 : Int32))]) _
      refine XS.icmpYes X0.here hx rfl (pc0 := 12) (pc' := 32) rfl (hb hby d12_12) rfl (XT.ii_ge_t (by decide : ¬ ((1 : Int32) < (1 : Int32)))) (by decide) (by decide) ?_
      show own_S p e below s₁ (mkF m 32 #[.val (.ref r0), .val (.ref r1), .val (.int (1 : Int32))] []) _
      refine XS.iconst X0.here hx rfl (hb hby d12_32) ?_
      exact k
    obtain ⟨fs, hr, hrun, hended, hW, hsame⟩ := X0.leave (v := some (.int (1 : Int32))) (fun h => by rw [Bd.returns] at h; cases h)
    refine ⟨_, _, K15 _ ?_, hrun, hended, _, _, rfl, ?_, ⟨_, rfl⟩, hW, hsame.mono (by decide) (by decide)⟩
    · exact retN X0 hx (t := .boolean) Bd.returns (by simp) (hb hby d12_33) hr
    · show Qleq11 Z r0 r1 kA kB x0 z0 h0 n0 _ s₁.heap _
      rw [e0]
      exact ⟨(by simp only [if_pos c21_11]), N0, rfl⟩
  · skip
    have K16 : own_K p e below SE s₁ (mkF m 25 #[.val (.ref r0), .val (.ref r1), .val (.int (0 : Int32))] [(.int (0 : Int32))]) := by
      intro t k
      refine K12 _ ?_
      refine XS.icmpNo X0.here hx rfl (hb hby d12_21) rfl (XT.ii_eq_f c21_11) ?_
      show own_S p e below s₁ (mkF m 24 #[.val (.ref r0), .val (.ref r1), .val (.int (0 : Int32))] []) _
      refine XS.iconst X0.here hx rfl (hb hby d12_24) ?_
      exact k
    obtain ⟨fs, hr, hrun, hended, hW, hsame⟩ := X0.leave (v := some (.int (0 : Int32))) (fun h => by rw [Bd.returns] at h; cases h)
    refine ⟨_, _, K16 _ ?_, hrun, hended, _, _, rfl, ?_, ⟨_, rfl⟩, hW, hsame.mono (by decide) (by decide)⟩
    · exact retN X0 hx (t := .boolean) Bd.returns (by simp) (hb hby d12_25) hr
    · show Qleq11 Z r0 r1 kA kB x0 z0 h0 n0 _ s₁.heap _
      rw [e0]
      exact ⟨(by simp only [if_neg c21_11]), N0, rfl⟩
theorem ef_leq12 (m : MethodId) (r0 : Addr) (r1 : Addr) : entryFrame m #[(.ref r0), (.ref r1)] 3 = mkF m 0 #[.val (.ref r0), .val (.ref r1), .unset] [] := by first | (simp [entryFrame, mkF, argsToLocals, Value.category]; done) | rfl
def Qleq12 (Z : State) (r0 : Addr) (r1 : Addr) (kA : ClassId) (kB : ClassId) (x0 : Int32) (z0 : Int32) (z1 : Int32) (h0 : Heap) (n0 : Nat) (v : Option Value) (h : Heap) (L : List Loc) : Prop := v = some (.int (0 : Int32)) ∧ Fr n0 L ∧ h = h0
set_option maxRecDepth 65536 in
set_option maxHeartbeats 40000000 in
theorem rmleq12 (l : Launch) (Z : State) (a0 : Array Value) (hw : ∀ d ∈ tables_1, d.before a0 Z = true) (ws : List Jvm.Cond) (r0 : Addr) (r1 : Addr) (kA : ClassId) (kB : ClassId) (x0 : Int32) (z0 : Int32) (z1 : Int32) (h0 : Heap) (n0 : Nat) (Z0 : n0 ≤ h0.size) (V0 : Arv Z h0 r0 kA .byte (1 : Int32) [(.int x0)] (.int (0 : Int32))) (V1 : Arv Z h0 r1 kB .byte (2 : Int32) [(.int z0), (.int z1)] (.int (0 : Int32))) :
    MetFree l (⟨"java/lang/StringLatin1", "equals", "([B[B)Z"⟩ : MethodName) (head1 (Jvm.Cond.code (⟨"java/lang/StringLatin1", "equals", "([B[B)Z"⟩ : MethodName) jdk_43_method_13_code 3 (some .boolean) :: ws) ({ frames := 0, cells := 0, slots := 0, locals := 0 } : Room)) (fun a U => a = #[(.ref r0), (.ref r1)] ∧ Z.Warmed39 U.vm ∧ U.heap = h0) (fun _ _ _ _ _ => True) (fun _ U o U' => ∃ v L, o = .returned v ∧ Qleq12 Z r0 r1 kA kB x0 z0 z1 h0 n0 v U'.heap L ∧ FrameEnd U o U' L ({ frames := 0, cells := 0, slots := 0, locals := 0 } : Room).cells ({ frames := 0, cells := 0, slots := 0, locals := 0 } : Room).slots) := by
  refine MetFree.of_bodySF (plainFor_of_name pn_14) hisR ?_
  intro p e s m args below meth c s₁ Bd hml0 hP hK
  obtain ⟨rfl, hZ, hh⟩ := hP
  have hx := Bd.exec
  have hby := Bd.bytes
  have hml : c.maxLocals = 3 := hml0
  have hown : s.vm.findClass "java/lang/StringLatin1" = some m.cls := findClass_of_methodNamed Bd.named
  have hnm := (name_of_methodNamed Bd.named Bd.method).1
  have X0 : Stand p l e ({ frames := 0, cells := 0, slots := 0, locals := 0 } : Room) s m #[(.ref r0), (.ref r1)] below meth c s₁ [] 0 0 := Stand.of_body Bd
  have e0 : s₁.heap = h0 := by rw [← hh, Bd.state]; rfl
  have N0 := Fr.nil n0
  have K0 : ∀ t, Steps p.tables e below (s₁.setTop (mkF m 0 #[.val (.ref r0), .val (.ref r1), .unset] [])) t → Steps p.tables e below (s₁.setTop (entryFrame m #[(.ref r0), (.ref r1)] 3)) t := fun t k => castTop (ef_leq12 m r0 r1) k
  generalize s₁.setTop (entryFrame m #[(.ref r0), (.ref r1)] 3) = SE at K0 ⊢
  have K1 : own_K p e below SE s₁ (mkF m 1 #[.val (.ref r0), .val (.ref r1), .unset] [(.ref r0)]) := by
    intro t k
    refine K0 _ ?_
    refine XS.aloadN X0.here hx rfl (hb hby d12_0) rfl rfl ?_
    exact k
  obtain ⟨cl2, Ar2, -, S2, Ng2, -, -⟩ := id V0
  have K3 : own_K p e below SE s₁ (mkF m 3 #[.val (.ref r0), .val (.ref r1), .unset] [(.ref r1), (.int (1 : Int32))]) := by
    intro t k
    refine K1 _ ?_
    refine X0.arraylength hx (by rw [e0]; exact Ar2.1) (State.isArrayOf_alike hZ.alike Ar2.2.1) (g := (mkF m 1 #[.val (.ref r0), .val (.ref r1), .unset] [(.ref r0)])) rfl rfl (hb hby d12_1) _ ?_
    rw [len_of S2 Ng2]
    show own_S p e below s₁ (mkF m 2 #[.val (.ref r0), .val (.ref r1), .unset] [(.int (1 : Int32))]) _
    refine XS.aloadN X0.here hx rfl (hb hby d12_2) rfl rfl ?_
    exact k
  obtain ⟨cl4, Ar4, -, S4, Ng4, -, -⟩ := id V1
  have K5 : own_K p e below SE s₁ (mkF m 35 #[.val (.ref r0), .val (.ref r1), .unset] [(.int (0 : Int32))]) := by
    intro t k
    refine K3 _ ?_
    refine X0.arraylength hx (by rw [e0]; exact Ar4.1) (State.isArrayOf_alike hZ.alike Ar4.2.1) (g := (mkF m 3 #[.val (.ref r0), .val (.ref r1), .unset] [(.ref r1), (.int (1 : Int32))])) rfl rfl (hb hby d12_3) _ ?_
    rw [len_of S4 Ng4]
    show own_S p e below s₁ (mkF m 4 #[.val (.ref r0), .val (.ref r1), .unset] [(.int (2 : Int32)), (.int (1 : Int32))]) _
    refine XS.icmpYes X0.here hx rfl (pc0 := 4) (pc' := 34) rfl (hb hby d12_4) rfl (XT.ii_ne_t (by decide : ¬ ((1 : Int32) = (2 : Int32)))) (by decide) (by decide) ?_
    show own_S p e below s₁ (mkF m 34 #[.val (.ref r0), .val (.ref r1), .unset] []) _
    refine XS.iconst X0.here hx rfl (hb hby d12_34) ?_
    exact k
  obtain ⟨fs, hr, hrun, hended, hW, hsame⟩ := X0.leave (v := some (.int (0 : Int32))) (fun h => by rw [Bd.returns] at h; cases h)
  refine ⟨_, _, K5 _ ?_, hrun, hended, _, _, rfl, ?_, ⟨_, rfl⟩, hW, hsame.mono (by decide) (by decide)⟩
  · exact retN X0 hx (t := .boolean) Bd.returns (by simp) (hb hby d12_35) hr
  · show Qleq12 Z r0 r1 kA kB x0 z0 z1 h0 n0 _ s₁.heap _
    rw [e0]
    exact ⟨rfl, N0, rfl⟩
theorem ef_leq20 (m : MethodId) (r0 : Addr) (r1 : Addr) : entryFrame m #[(.ref r0), (.ref r1)] 3 = mkF m 0 #[.val (.ref r0), .val (.ref r1), .unset] [] := by first | (simp [entryFrame, mkF, argsToLocals, Value.category]; done) | rfl
def Qleq20 (Z : State) (r0 : Addr) (r1 : Addr) (kA : ClassId) (kB : ClassId) (x0 : Int32) (x1 : Int32) (h0 : Heap) (n0 : Nat) (v : Option Value) (h : Heap) (L : List Loc) : Prop := v = some (.int (0 : Int32)) ∧ Fr n0 L ∧ h = h0
set_option maxRecDepth 65536 in
set_option maxHeartbeats 40000000 in
theorem rmleq20 (l : Launch) (Z : State) (a0 : Array Value) (hw : ∀ d ∈ tables_1, d.before a0 Z = true) (ws : List Jvm.Cond) (r0 : Addr) (r1 : Addr) (kA : ClassId) (kB : ClassId) (x0 : Int32) (x1 : Int32) (h0 : Heap) (n0 : Nat) (Z0 : n0 ≤ h0.size) (V0 : Arv Z h0 r0 kA .byte (2 : Int32) [(.int x0), (.int x1)] (.int (0 : Int32))) (V1 : Arv Z h0 r1 kB .byte (0 : Int32) [] (.int (0 : Int32))) :
    MetFree l (⟨"java/lang/StringLatin1", "equals", "([B[B)Z"⟩ : MethodName) (head1 (Jvm.Cond.code (⟨"java/lang/StringLatin1", "equals", "([B[B)Z"⟩ : MethodName) jdk_43_method_13_code 3 (some .boolean) :: ws) ({ frames := 0, cells := 0, slots := 0, locals := 0 } : Room)) (fun a U => a = #[(.ref r0), (.ref r1)] ∧ Z.Warmed39 U.vm ∧ U.heap = h0) (fun _ _ _ _ _ => True) (fun _ U o U' => ∃ v L, o = .returned v ∧ Qleq20 Z r0 r1 kA kB x0 x1 h0 n0 v U'.heap L ∧ FrameEnd U o U' L ({ frames := 0, cells := 0, slots := 0, locals := 0 } : Room).cells ({ frames := 0, cells := 0, slots := 0, locals := 0 } : Room).slots) := by
  refine MetFree.of_bodySF (plainFor_of_name pn_14) hisR ?_
  intro p e s m args below meth c s₁ Bd hml0 hP hK
  obtain ⟨rfl, hZ, hh⟩ := hP
  have hx := Bd.exec
  have hby := Bd.bytes
  have hml : c.maxLocals = 3 := hml0
  have hown : s.vm.findClass "java/lang/StringLatin1" = some m.cls := findClass_of_methodNamed Bd.named
  have hnm := (name_of_methodNamed Bd.named Bd.method).1
  have X0 : Stand p l e ({ frames := 0, cells := 0, slots := 0, locals := 0 } : Room) s m #[(.ref r0), (.ref r1)] below meth c s₁ [] 0 0 := Stand.of_body Bd
  have e0 : s₁.heap = h0 := by rw [← hh, Bd.state]; rfl
  have N0 := Fr.nil n0
  have K0 : ∀ t, Steps p.tables e below (s₁.setTop (mkF m 0 #[.val (.ref r0), .val (.ref r1), .unset] [])) t → Steps p.tables e below (s₁.setTop (entryFrame m #[(.ref r0), (.ref r1)] 3)) t := fun t k => castTop (ef_leq20 m r0 r1) k
  generalize s₁.setTop (entryFrame m #[(.ref r0), (.ref r1)] 3) = SE at K0 ⊢
  have K1 : own_K p e below SE s₁ (mkF m 1 #[.val (.ref r0), .val (.ref r1), .unset] [(.ref r0)]) := by
    intro t k
    refine K0 _ ?_
    refine XS.aloadN X0.here hx rfl (hb hby d12_0) rfl rfl ?_
    exact k
  obtain ⟨cl2, Ar2, -, S2, Ng2, -, -⟩ := id V0
  have K3 : own_K p e below SE s₁ (mkF m 3 #[.val (.ref r0), .val (.ref r1), .unset] [(.ref r1), (.int (2 : Int32))]) := by
    intro t k
    refine K1 _ ?_
    refine X0.arraylength hx (by rw [e0]; exact Ar2.1) (State.isArrayOf_alike hZ.alike Ar2.2.1) (g := (mkF m 1 #[.val (.ref r0), .val (.ref r1), .unset] [(.ref r0)])) rfl rfl (hb hby d12_1) _ ?_
    rw [len_of S2 Ng2]
    show own_S p e below s₁ (mkF m 2 #[.val (.ref r0), .val (.ref r1), .unset] [(.int (2 : Int32))]) _
    refine XS.aloadN X0.here hx rfl (hb hby d12_2) rfl rfl ?_
    exact k
  obtain ⟨cl4, Ar4, -, S4, Ng4, -, -⟩ := id V1
  have K5 : own_K p e below SE s₁ (mkF m 35 #[.val (.ref r0), .val (.ref r1), .unset] [(.int (0 : Int32))]) := by
    intro t k
    refine K3 _ ?_
    refine X0.arraylength hx (by rw [e0]; exact Ar4.1) (State.isArrayOf_alike hZ.alike Ar4.2.1) (g := (mkF m 3 #[.val (.ref r0), .val (.ref r1), .unset] [(.ref r1), (.int (2 : Int32))])) rfl rfl (hb hby d12_3) _ ?_
    rw [len_of S4 Ng4]
    show own_S p e below s₁ (mkF m 4 #[.val (.ref r0), .val (.ref r1), .unset] [(.int (0 : Int32)), (.int (2 : Int32))]) _
    refine XS.icmpYes X0.here hx rfl (pc0 := 4) (pc' := 34) rfl (hb hby d12_4) rfl (XT.ii_ne_t (by decide : ¬ ((2 : Int32) = (0 : Int32)))) (by decide) (by decide) ?_
    show own_S p e below s₁ (mkF m 34 #[.val (.ref r0), .val (.ref r1), .unset] []) _
    refine XS.iconst X0.here hx rfl (hb hby d12_34) ?_
    exact k
  obtain ⟨fs, hr, hrun, hended, hW, hsame⟩ := X0.leave (v := some (.int (0 : Int32))) (fun h => by rw [Bd.returns] at h; cases h)
  refine ⟨_, _, K5 _ ?_, hrun, hended, _, _, rfl, ?_, ⟨_, rfl⟩, hW, hsame.mono (by decide) (by decide)⟩
  · exact retN X0 hx (t := .boolean) Bd.returns (by simp) (hb hby d12_35) hr
  · show Qleq20 Z r0 r1 kA kB x0 x1 h0 n0 _ s₁.heap _
    rw [e0]
    exact ⟨rfl, N0, rfl⟩
theorem ef_leq21 (m : MethodId) (r0 : Addr) (r1 : Addr) : entryFrame m #[(.ref r0), (.ref r1)] 3 = mkF m 0 #[.val (.ref r0), .val (.ref r1), .unset] [] := by first | (simp [entryFrame, mkF, argsToLocals, Value.category]; done) | rfl
def Qleq21 (Z : State) (r0 : Addr) (r1 : Addr) (kA : ClassId) (kB : ClassId) (x0 : Int32) (x1 : Int32) (z0 : Int32) (h0 : Heap) (n0 : Nat) (v : Option Value) (h : Heap) (L : List Loc) : Prop := v = some (.int (0 : Int32)) ∧ Fr n0 L ∧ h = h0
set_option maxRecDepth 65536 in
set_option maxHeartbeats 40000000 in
theorem rmleq21 (l : Launch) (Z : State) (a0 : Array Value) (hw : ∀ d ∈ tables_1, d.before a0 Z = true) (ws : List Jvm.Cond) (r0 : Addr) (r1 : Addr) (kA : ClassId) (kB : ClassId) (x0 : Int32) (x1 : Int32) (z0 : Int32) (h0 : Heap) (n0 : Nat) (Z0 : n0 ≤ h0.size) (V0 : Arv Z h0 r0 kA .byte (2 : Int32) [(.int x0), (.int x1)] (.int (0 : Int32))) (V1 : Arv Z h0 r1 kB .byte (1 : Int32) [(.int z0)] (.int (0 : Int32))) :
    MetFree l (⟨"java/lang/StringLatin1", "equals", "([B[B)Z"⟩ : MethodName) (head1 (Jvm.Cond.code (⟨"java/lang/StringLatin1", "equals", "([B[B)Z"⟩ : MethodName) jdk_43_method_13_code 3 (some .boolean) :: ws) ({ frames := 0, cells := 0, slots := 0, locals := 0 } : Room)) (fun a U => a = #[(.ref r0), (.ref r1)] ∧ Z.Warmed39 U.vm ∧ U.heap = h0) (fun _ _ _ _ _ => True) (fun _ U o U' => ∃ v L, o = .returned v ∧ Qleq21 Z r0 r1 kA kB x0 x1 z0 h0 n0 v U'.heap L ∧ FrameEnd U o U' L ({ frames := 0, cells := 0, slots := 0, locals := 0 } : Room).cells ({ frames := 0, cells := 0, slots := 0, locals := 0 } : Room).slots) := by
  refine MetFree.of_bodySF (plainFor_of_name pn_14) hisR ?_
  intro p e s m args below meth c s₁ Bd hml0 hP hK
  obtain ⟨rfl, hZ, hh⟩ := hP
  have hx := Bd.exec
  have hby := Bd.bytes
  have hml : c.maxLocals = 3 := hml0
  have hown : s.vm.findClass "java/lang/StringLatin1" = some m.cls := findClass_of_methodNamed Bd.named
  have hnm := (name_of_methodNamed Bd.named Bd.method).1
  have X0 : Stand p l e ({ frames := 0, cells := 0, slots := 0, locals := 0 } : Room) s m #[(.ref r0), (.ref r1)] below meth c s₁ [] 0 0 := Stand.of_body Bd
  have e0 : s₁.heap = h0 := by rw [← hh, Bd.state]; rfl
  have N0 := Fr.nil n0
  have K0 : ∀ t, Steps p.tables e below (s₁.setTop (mkF m 0 #[.val (.ref r0), .val (.ref r1), .unset] [])) t → Steps p.tables e below (s₁.setTop (entryFrame m #[(.ref r0), (.ref r1)] 3)) t := fun t k => castTop (ef_leq21 m r0 r1) k
  generalize s₁.setTop (entryFrame m #[(.ref r0), (.ref r1)] 3) = SE at K0 ⊢
  have K1 : own_K p e below SE s₁ (mkF m 1 #[.val (.ref r0), .val (.ref r1), .unset] [(.ref r0)]) := by
    intro t k
    refine K0 _ ?_
    refine XS.aloadN X0.here hx rfl (hb hby d12_0) rfl rfl ?_
    exact k
  obtain ⟨cl2, Ar2, -, S2, Ng2, -, -⟩ := id V0
  have K3 : own_K p e below SE s₁ (mkF m 3 #[.val (.ref r0), .val (.ref r1), .unset] [(.ref r1), (.int (2 : Int32))]) := by
    intro t k
    refine K1 _ ?_
    refine X0.arraylength hx (by rw [e0]; exact Ar2.1) (State.isArrayOf_alike hZ.alike Ar2.2.1) (g := (mkF m 1 #[.val (.ref r0), .val (.ref r1), .unset] [(.ref r0)])) rfl rfl (hb hby d12_1) _ ?_
    rw [len_of S2 Ng2]
    show own_S p e below s₁ (mkF m 2 #[.val (.ref r0), .val (.ref r1), .unset] [(.int (2 : Int32))]) _
    refine XS.aloadN X0.here hx rfl (hb hby d12_2) rfl rfl ?_
    exact k
  obtain ⟨cl4, Ar4, -, S4, Ng4, -, -⟩ := id V1
  have K5 : own_K p e below SE s₁ (mkF m 35 #[.val (.ref r0), .val (.ref r1), .unset] [(.int (0 : Int32))]) := by
    intro t k
    refine K3 _ ?_
    refine X0.arraylength hx (by rw [e0]; exact Ar4.1) (State.isArrayOf_alike hZ.alike Ar4.2.1) (g := (mkF m 3 #[.val (.ref r0), .val (.ref r1), .unset] [(.ref r1), (.int (2 : Int32))])) rfl rfl (hb hby d12_3) _ ?_
    rw [len_of S4 Ng4]
    show own_S p e below s₁ (mkF m 4 #[.val (.ref r0), .val (.ref r1), .unset] [(.int (1 : Int32)), (.int (2 : Int32))]) _
    refine XS.icmpYes X0.here hx rfl (pc0 := 4) (pc' := 34) rfl (hb hby d12_4) rfl (XT.ii_ne_t (by decide : ¬ ((2 : Int32) = (1 : Int32)))) (by decide) (by decide) ?_
    show own_S p e below s₁ (mkF m 34 #[.val (.ref r0), .val (.ref r1), .unset] []) _
    refine XS.iconst X0.here hx rfl (hb hby d12_34) ?_
    exact k
  obtain ⟨fs, hr, hrun, hended, hW, hsame⟩ := X0.leave (v := some (.int (0 : Int32))) (fun h => by rw [Bd.returns] at h; cases h)
  refine ⟨_, _, K5 _ ?_, hrun, hended, _, _, rfl, ?_, ⟨_, rfl⟩, hW, hsame.mono (by decide) (by decide)⟩
  · exact retN X0 hx (t := .boolean) Bd.returns (by simp) (hb hby d12_35) hr
  · show Qleq21 Z r0 r1 kA kB x0 x1 z0 h0 n0 _ s₁.heap _
    rw [e0]
    exact ⟨rfl, N0, rfl⟩
theorem ef_leq22 (m : MethodId) (r0 : Addr) (r1 : Addr) : entryFrame m #[(.ref r0), (.ref r1)] 3 = mkF m 0 #[.val (.ref r0), .val (.ref r1), .unset] [] := by first | (simp [entryFrame, mkF, argsToLocals, Value.category]; done) | rfl
def Qleq22 (Z : State) (r0 : Addr) (r1 : Addr) (kA : ClassId) (kB : ClassId) (x0 : Int32) (x1 : Int32) (z0 : Int32) (z1 : Int32) (h0 : Heap) (n0 : Nat) (v : Option Value) (h : Heap) (L : List Loc) : Prop := v = some (.int (if x0 = z0 then (if x1 = z1 then (1 : Int32) else (0 : Int32)) else (0 : Int32))) ∧ Fr n0 L ∧ h = h0
set_option maxRecDepth 65536 in
set_option maxHeartbeats 40000000 in
theorem rmleq22 (l : Launch) (Z : State) (a0 : Array Value) (hw : ∀ d ∈ tables_1, d.before a0 Z = true) (ws : List Jvm.Cond) (r0 : Addr) (r1 : Addr) (kA : ClassId) (kB : ClassId) (x0 : Int32) (x1 : Int32) (z0 : Int32) (z1 : Int32) (h0 : Heap) (n0 : Nat) (Z0 : n0 ≤ h0.size) (V0 : Arv Z h0 r0 kA .byte (2 : Int32) [(.int x0), (.int x1)] (.int (0 : Int32))) (V1 : Arv Z h0 r1 kB .byte (2 : Int32) [(.int z0), (.int z1)] (.int (0 : Int32))) :
    MetFree l (⟨"java/lang/StringLatin1", "equals", "([B[B)Z"⟩ : MethodName) (head1 (Jvm.Cond.code (⟨"java/lang/StringLatin1", "equals", "([B[B)Z"⟩ : MethodName) jdk_43_method_13_code 3 (some .boolean) :: ws) ({ frames := 0, cells := 0, slots := 0, locals := 0 } : Room)) (fun a U => a = #[(.ref r0), (.ref r1)] ∧ Z.Warmed39 U.vm ∧ U.heap = h0) (fun _ _ _ _ _ => True) (fun _ U o U' => ∃ v L, o = .returned v ∧ Qleq22 Z r0 r1 kA kB x0 x1 z0 z1 h0 n0 v U'.heap L ∧ FrameEnd U o U' L ({ frames := 0, cells := 0, slots := 0, locals := 0 } : Room).cells ({ frames := 0, cells := 0, slots := 0, locals := 0 } : Room).slots) := by
  refine MetFree.of_bodySF (plainFor_of_name pn_14) hisR ?_
  intro p e s m args below meth c s₁ Bd hml0 hP hK
  obtain ⟨rfl, hZ, hh⟩ := hP
  have hx := Bd.exec
  have hby := Bd.bytes
  have hml : c.maxLocals = 3 := hml0
  have hown : s.vm.findClass "java/lang/StringLatin1" = some m.cls := findClass_of_methodNamed Bd.named
  have hnm := (name_of_methodNamed Bd.named Bd.method).1
  have X0 : Stand p l e ({ frames := 0, cells := 0, slots := 0, locals := 0 } : Room) s m #[(.ref r0), (.ref r1)] below meth c s₁ [] 0 0 := Stand.of_body Bd
  have e0 : s₁.heap = h0 := by rw [← hh, Bd.state]; rfl
  have N0 := Fr.nil n0
  have K0 : ∀ t, Steps p.tables e below (s₁.setTop (mkF m 0 #[.val (.ref r0), .val (.ref r1), .unset] [])) t → Steps p.tables e below (s₁.setTop (entryFrame m #[(.ref r0), (.ref r1)] 3)) t := fun t k => castTop (ef_leq22 m r0 r1) k
  generalize s₁.setTop (entryFrame m #[(.ref r0), (.ref r1)] 3) = SE at K0 ⊢
  have K1 : own_K p e below SE s₁ (mkF m 1 #[.val (.ref r0), .val (.ref r1), .unset] [(.ref r0)]) := by
    intro t k
    refine K0 _ ?_
    refine XS.aloadN X0.here hx rfl (hb hby d12_0) rfl rfl ?_
    exact k
  obtain ⟨cl2, Ar2, -, S2, Ng2, -, -⟩ := id V0
  have K3 : own_K p e below SE s₁ (mkF m 3 #[.val (.ref r0), .val (.ref r1), .unset] [(.ref r1), (.int (2 : Int32))]) := by
    intro t k
    refine K1 _ ?_
    refine X0.arraylength hx (by rw [e0]; exact Ar2.1) (State.isArrayOf_alike hZ.alike Ar2.2.1) (g := (mkF m 1 #[.val (.ref r0), .val (.ref r1), .unset] [(.ref r0)])) rfl rfl (hb hby d12_1) _ ?_
    rw [len_of S2 Ng2]
    show own_S p e below s₁ (mkF m 2 #[.val (.ref r0), .val (.ref r1), .unset] [(.int (2 : Int32))]) _
    refine XS.aloadN X0.here hx rfl (hb hby d12_2) rfl rfl ?_
    exact k
  obtain ⟨cl4, Ar4, -, S4, Ng4, -, -⟩ := id V1
  have K5 : own_K p e below SE s₁ (mkF m 11 #[.val (.ref r0), .val (.ref r1), .val (.int (0 : Int32))] [(.ref r0), (.int (0 : Int32))]) := by
    intro t k
    refine K3 _ ?_
    refine X0.arraylength hx (by rw [e0]; exact Ar4.1) (State.isArrayOf_alike hZ.alike Ar4.2.1) (g := (mkF m 3 #[.val (.ref r0), .val (.ref r1), .unset] [(.ref r1), (.int (2 : Int32))])) rfl rfl (hb hby d12_3) _ ?_
    rw [len_of S4 Ng4]
    show own_S p e below s₁ (mkF m 4 #[.val (.ref r0), .val (.ref r1), .unset] [(.int (2 : Int32)), (.int (2 : Int32))]) _
    refine XS.icmpNo X0.here hx rfl (hb hby d12_4) rfl (XT.ii_ne_f (by decide : (2 : Int32) = (2 : Int32))) ?_
    show own_S p e below s₁ (mkF m 7 #[.val (.ref r0), .val (.ref r1), .unset] []) _
    refine XS.iconst X0.here hx rfl (hb hby d12_7) ?_
    show own_S p e below s₁ (mkF m 8 #[.val (.ref r0), .val (.ref r1), .unset] [(.int (0 : Int32))]) _
    refine XS.istoreN X0.here hx rfl (hb hby d12_8) rfl (l' := #[.val (.ref r0), .val (.ref r1), .val (.int (0 : Int32))]) rfl ?_
    show own_S p e below s₁ (mkF m 9 #[.val (.ref r0), .val (.ref r1), .val (.int (0 : Int32))] []) _
    refine XS.iloadN X0.here hx rfl (hb hby d12_9) rfl ?_
    show own_S p e below s₁ (mkF m 10 #[.val (.ref r0), .val (.ref r1), .val (.int (0 : Int32))] [(.int (0 : Int32))]) _
    refine XS.aloadN X0.here hx rfl (hb hby d12_10) rfl rfl ?_
    exact k
  obtain ⟨cl6, Ar6, -, S6, Ng6, -, -⟩ := id V0
  have K7 : own_K p e below SE s₁ (mkF m 17 #[.val (.ref r0), .val (.ref r1), .val (.int (0 : Int32))] [(.int (0 : Int32)), (.ref r0)]) := by
    intro t k
    refine K5 _ ?_
    refine X0.arraylength hx (by rw [e0]; exact Ar6.1) (State.isArrayOf_alike hZ.alike Ar6.2.1) (g := (mkF m 11 #[.val (.ref r0), .val (.ref r1), .val (.int (0 : Int32))] [(.ref r0), (.int (0 : Int32))])) rfl rfl (hb hby d12_11) _ ?_
    rw [len_of S6 Ng6]
    show own_S p e below s₁ (mkF m 12 #[.val (.ref r0), .val (.ref r1), .val (.int (0 : Int32))] [(.int (2 : Int32)), (.int (0 : Int32))]) _
    refine XS.icmpNo X0.here hx rfl (hb hby d12_12) rfl (XT.ii_ge_f (by decide : (0 : Int32) < (2 : Int32))) ?_
    show own_S p e below s₁ (mkF m 15 #[.val (.ref r0), .val (.ref r1), .val (.int (0 : Int32))] []) _
    refine XS.aloadN X0.here hx rfl (hb hby d12_15) rfl rfl ?_
    show own_S p e below s₁ (mkF m 16 #[.val (.ref r0), .val (.ref r1), .val (.int (0 : Int32))] [(.ref r0)]) _
    refine XS.iloadN X0.here hx rfl (hb hby d12_16) rfl ?_
    exact k
  obtain ⟨cl8, Ar8, qk8, S8, Ng8, Hh8, Gg8⟩ := id V0
  have hin8 : ¬ ((0 : Int32) < 0 ∨ cl8.slots.size ≤ ((0 : Int32)).toNatClampNeg) := inb_of S8 ⟨by decide, by decide⟩
  have hat8 : cl8.slots[((0 : Int32)).toNatClampNeg]? = some (.int x0) := Has.at Hh8 hin8 rfl
  have K9 : own_K p e below SE s₁ (mkF m 20 #[.val (.ref r0), .val (.ref r1), .val (.int (0 : Int32))] [(.int (0 : Int32)), (.ref r1), (.int x0)]) := by
    intro t k
    refine K7 _ ?_
    refine X0.baloadBytes hx (j := (0 : Int32)) (v := (.int x0)) (by rw [e0]; exact Ar8.1) (State.isArrayOf_alike hZ.alike Ar8.2.1) Ar8.2.2 hin8 hat8 (g := (mkF m 17 #[.val (.ref r0), .val (.ref r1), .val (.int (0 : Int32))] [(.int (0 : Int32)), (.ref r0)])) rfl rfl (hb hby d12_17) _ ?_
    show own_S p e below s₁ (mkF m 18 #[.val (.ref r0), .val (.ref r1), .val (.int (0 : Int32))] [(.int x0)]) _
    refine XS.aloadN X0.here hx rfl (hb hby d12_18) rfl rfl ?_
    show own_S p e below s₁ (mkF m 19 #[.val (.ref r0), .val (.ref r1), .val (.int (0 : Int32))] [(.ref r1), (.int x0)]) _
    refine XS.iloadN X0.here hx rfl (hb hby d12_19) rfl ?_
    exact k
  obtain ⟨cl10, Ar10, qk10, S10, Ng10, Hh10, Gg10⟩ := id V1
  have hin10 : ¬ ((0 : Int32) < 0 ∨ cl10.slots.size ≤ ((0 : Int32)).toNatClampNeg) := inb_of S10 ⟨by decide, by decide⟩
  have hat10 : cl10.slots[((0 : Int32)).toNatClampNeg]? = some (.int z0) := Has.at Hh10 hin10 rfl
  have K12 : own_K p e below SE s₁ (mkF m 21 #[.val (.ref r0), .val (.ref r1), .val (.int (0 : Int32))] [(.int z0), (.int x0)]) := by
    intro t k
    refine K9 _ ?_
    refine X0.baloadBytes hx (j := (0 : Int32)) (v := (.int z0)) (by rw [e0]; exact Ar10.1) (State.isArrayOf_alike hZ.alike Ar10.2.1) Ar10.2.2 hin10 hat10 (g := (mkF m 20 #[.val (.ref r0), .val (.ref r1), .val (.int (0 : Int32))] [(.int (0 : Int32)), (.ref r1), (.int x0)])) rfl rfl (hb hby d12_20) _ ?_
    exact k
  by_cases c21_11 : x0 = z0
  · skip
    have K13 : own_K p e below SE s₁ (mkF m 11 #[.val (.ref r0), .val (.ref r1), .val (.int (1 : Int32))] [(.ref r0), (.int (1 : Int32))]) := by
      intro t k
      refine K12 _ ?_
      refine XS.icmpYes X0.here hx rfl (pc0 := 21) (pc' := 26) rfl (hb hby d12_21) rfl (XT.ii_eq_t c21_11) (by decide) (by decide) ?_
      show own_S p e below s₁ (mkF m 26 #[.val (.ref r0), .val (.ref r1), .val (.int (0 : Int32))] []) _
      refine XS.iinc X0.here hx rfl (hb hby d12_26) rfl (l' := #[.val (.ref r0), .val (.ref r1), .val (.int (1 : Int32))]) rfl ?_
      show own_S p e below s₁ (mkF m 29 #[.val (.ref r0), .val (.ref r1), .val (.int (1 : Int32))] []) _
      refine XS.goto X0.here hx rfl (pc0 := 29) (pc' := 9) rfl (hb hby d12_29) (by decide) (by decide) ?_
      show own_S p e below s₁ (mkF m 9 #[.val (.ref r0), .val (.ref r1), .val (.int (1 : Int32))] []) _
      refine XS.iloadN X0.here hx rfl (hb hby d12_9) rfl ?_
      show own_S p e below s₁ (mkF m 10 #[.val (.ref r0), .val (.ref r1), .val (.int (1 : Int32))] [(.int (1 : Int32))]) _
      refine XS.aloadN X0.here hx rfl (hb hby d12_10) rfl rfl ?_
      exact k
    obtain ⟨cl14, Ar14, -, S14, Ng14, -, -⟩ := id V0
    have K15 : own_K p e below SE s₁ (mkF m 17 #[.val (.ref r0), .val (.ref r1), .val (.int (1 : Int32))] [(.int (1 : Int32)), (.ref r0)]) := by
      intro t k
      refine K13 _ ?_
      refine X0.arraylength hx (by rw [e0]; exact Ar14.1) (State.isArrayOf_alike hZ.alike Ar14.2.1) (g := (mkF m 11 #[.val (.ref r0), .val (.ref r1), .val (.int (1 : Int32))] [(.ref r0), (.int (1 : Int32))])) rfl rfl (hb hby d12_11) _ ?_
      rw [len_of S14 Ng14]
      show own_S p e below s₁ (mkF m 12 #[.val (.ref r0), .val (.ref r1), .val (.int (1 : Int32))] [(.int (2 : Int32)), (.int (1 : Int32))]) _
      refine XS.icmpNo X0.here hx rfl (hb hby d12_12) rfl (XT.ii_ge_f (by decide : (1 : Int32) < (2 : Int32))) ?_
      show own_S p e below s₁ (mkF m 15 #[.val (.ref r0), .val (.ref r1), .val (.int (1 : Int32))] []) _
      refine XS.aloadN X0.here hx rfl (hb hby d12_15) rfl rfl ?_
      show own_S p e below s₁ (mkF m 16 #[.val (.ref r0), .val (.ref r1), .val (.int (1 : Int32))] [(.ref r0)]) _
      refine XS.iloadN X0.here hx rfl (hb hby d12_16) rfl ?_
      exact k
    obtain ⟨cl16, Ar16, qk16, S16, Ng16, Hh16, Gg16⟩ := id V0
    have hin16 : ¬ ((1 : Int32) < 0 ∨ cl16.slots.size ≤ ((1 : Int32)).toNatClampNeg) := inb_of S16 ⟨by decide, by decide⟩
    have hat16 : cl16.slots[((1 : Int32)).toNatClampNeg]? = some (.int x1) := Has.at Hh16 hin16 rfl
    have K17 : own_K p e below SE s₁ (mkF m 20 #[.val (.ref r0), .val (.ref r1), .val (.int (1 : Int32))] [(.int (1 : Int32)), (.ref r1), (.int x1)]) := by
      intro t k
      refine K15 _ ?_
      refine X0.baloadBytes hx (j := (1 : Int32)) (v := (.int x1)) (by rw [e0]; exact Ar16.1) (State.isArrayOf_alike hZ.alike Ar16.2.1) Ar16.2.2 hin16 hat16 (g := (mkF m 17 #[.val (.ref r0), .val (.ref r1), .val (.int (1 : Int32))] [(.int (1 : Int32)), (.ref r0)])) rfl rfl (hb hby d12_17) _ ?_
      show own_S p e below s₁ (mkF m 18 #[.val (.ref r0), .val (.ref r1), .val (.int (1 : Int32))] [(.int x1)]) _
      refine XS.aloadN X0.here hx rfl (hb hby d12_18) rfl rfl ?_
      show own_S p e below s₁ (mkF m 19 #[.val (.ref r0), .val (.ref r1), .val (.int (1 : Int32))] [(.ref r1), (.int x1)]) _
      refine XS.iloadN X0.here hx rfl (hb hby d12_19) rfl ?_
      exact k
    obtain ⟨cl18, Ar18, qk18, S18, Ng18, Hh18, Gg18⟩ := id V1
    have hin18 : ¬ ((1 : Int32) < 0 ∨ cl18.slots.size ≤ ((1 : Int32)).toNatClampNeg) := inb_of S18 ⟨by decide, by decide⟩
    have hat18 : cl18.slots[((1 : Int32)).toNatClampNeg]? = some (.int z1) := Has.at Hh18 hin18 rfl
    have K20 : own_K p e below SE s₁ (mkF m 21 #[.val (.ref r0), .val (.ref r1), .val (.int (1 : Int32))] [(.int z1), (.int x1)]) := by
      intro t k
      refine K17 _ ?_
      refine X0.baloadBytes hx (j := (1 : Int32)) (v := (.int z1)) (by rw [e0]; exact Ar18.1) (State.isArrayOf_alike hZ.alike Ar18.2.1) Ar18.2.2 hin18 hat18 (g := (mkF m 20 #[.val (.ref r0), .val (.ref r1), .val (.int (1 : Int32))] [(.int (1 : Int32)), (.ref r1), (.int x1)])) rfl rfl (hb hby d12_20) _ ?_
      exact k
    by_cases c21_19 : x1 = z1
    · skip
      have K21 : own_K p e below SE s₁ (mkF m 11 #[.val (.ref r0), .val (.ref r1), .val (.int (2 : Int32))] [(.ref r0), (.int (2 : Int32))]) := by
        intro t k
        refine K20 _ ?_
        refine XS.icmpYes X0.here hx rfl (pc0 := 21) (pc' := 26) rfl (hb hby d12_21) rfl (XT.ii_eq_t c21_19) (by decide) (by decide) ?_
        show own_S p e below s₁ (mkF m 26 #[.val (.ref r0), .val (.ref r1), .val (.int (1 : Int32))] []) _
        refine XS.iinc X0.here hx rfl (hb hby d12_26) rfl (l' := #[.val (.ref r0), .val (.ref r1), .val (.int (2 : Int32))]) rfl ?_
        show own_S p e below s₁ (mkF m 29 #[.val (.ref r0), .val (.ref r1), .val (.int (2 : Int32))] []) _
        refine XS.goto X0.here hx rfl (pc0 := 29) (pc' := 9) rfl (hb hby d12_29) (by decide) (by decide) ?_
        show own_S p e below s₁ (mkF m 9 #[.val (.ref r0), .val (.ref r1), .val (.int (2 : Int32))] []) _
        refine XS.iloadN X0.here hx rfl (hb hby d12_9) rfl ?_
        show own_S p e below s₁ (mkF m 10 #[.val (.ref r0), .val (.ref r1), .val (.int (2 : Int32))] [(.int (2 : Int32))]) _
        refine XS.aloadN X0.here hx rfl (hb hby d12_10) rfl rfl ?_
        exact k
      obtain ⟨cl22, Ar22, -, S22, Ng22, -, -⟩ := id V0
      have K23 : own_K p e below SE s₁ (mkF m 33 #[.val (.ref r0), .val (.ref r1), .val (.int (2 : Int32))] [(.int (1 : Int32))]) := by
        intro t k
        refine K21 _ ?_
        refine X0.arraylength hx (by rw [e0]; exact Ar22.1) (State.isArrayOf_alike hZ.alike Ar22.2.1) (g := (mkF m 11 #[.val (.ref r0), .val (.ref r1), .val (.int (2 : Int32))] [(.ref r0), (.int (2 : Int32))])) rfl rfl (hb hby d12_11) _ ?_
        rw [len_of S22 Ng22]
        show own_S p e below s₁ (mkF m 12 #[.val (.ref r0), .val (.ref r1), .val (.int (2 : Int32))] [(.int (2 : Int32)), (.int (2 : Int32))]) _
        refine XS.icmpYes X0.here hx rfl (pc0 := 12) (pc' := 32) rfl (hb hby d12_12) rfl (XT.ii_ge_t (by decide : ¬ ((2 : Int32) < (2 : Int32)))) (by decide) (by decide) ?_
        show own_S p e below s₁ (mkF m 32 #[.val (.ref r0), .val (.ref r1), .val (.int (2 : Int32))] []) _
        refine XS.iconst X0.here hx rfl (hb hby d12_32) ?_
        exact k
      obtain ⟨fs, hr, hrun, hended, hW, hsame⟩ := X0.leave (v := some (.int (1 : Int32))) (fun h => by rw [Bd.returns] at h; cases h)
      refine ⟨_, _, K23 _ ?_, hrun, hended, _, _, rfl, ?_, ⟨_, rfl⟩, hW, hsame.mono (by decide) (by decide)⟩
      · exact retN X0 hx (t := .boolean) Bd.returns (by simp) (hb hby d12_33) hr
      · show Qleq22 Z r0 r1 kA kB x0 x1 z0 z1 h0 n0 _ s₁.heap _
        rw [e0]
        exact ⟨(by simp only [if_pos c21_11, if_pos c21_19]), N0, rfl⟩
    · skip
      have K24 : own_K p e below SE s₁ (mkF m 25 #[.val (.ref r0), .val (.ref r1), .val (.int (1 : Int32))] [(.int (0 : Int32))]) := by
        intro t k
        refine K20 _ ?_
        refine XS.icmpNo X0.here hx rfl (hb hby d12_21) rfl (XT.ii_eq_f c21_19) ?_
        show own_S p e below s₁ (mkF m 24 #[.val (.ref r0), .val (.ref r1), .val (.int (1 : Int32))] []) _
        refine XS.iconst X0.here hx rfl (hb hby d12_24) ?_
        exact k
      obtain ⟨fs, hr, hrun, hended, hW, hsame⟩ := X0.leave (v := some (.int (0 : Int32))) (fun h => by rw [Bd.returns] at h; cases h)
      refine ⟨_, _, K24 _ ?_, hrun, hended, _, _, rfl, ?_, ⟨_, rfl⟩, hW, hsame.mono (by decide) (by decide)⟩
      · exact retN X0 hx (t := .boolean) Bd.returns (by simp) (hb hby d12_25) hr
      · show Qleq22 Z r0 r1 kA kB x0 x1 z0 z1 h0 n0 _ s₁.heap _
        rw [e0]
        exact ⟨(by simp only [if_pos c21_11, if_neg c21_19]), N0, rfl⟩
  · skip
    have K25 : own_K p e below SE s₁ (mkF m 25 #[.val (.ref r0), .val (.ref r1), .val (.int (0 : Int32))] [(.int (0 : Int32))]) := by
      intro t k
      refine K12 _ ?_
      refine XS.icmpNo X0.here hx rfl (hb hby d12_21) rfl (XT.ii_eq_f c21_11) ?_
      show own_S p e below s₁ (mkF m 24 #[.val (.ref r0), .val (.ref r1), .val (.int (0 : Int32))] []) _
      refine XS.iconst X0.here hx rfl (hb hby d12_24) ?_
      exact k
    obtain ⟨fs, hr, hrun, hended, hW, hsame⟩ := X0.leave (v := some (.int (0 : Int32))) (fun h => by rw [Bd.returns] at h; cases h)
    refine ⟨_, _, K25 _ ?_, hrun, hended, _, _, rfl, ?_, ⟨_, rfl⟩, hW, hsame.mono (by decide) (by decide)⟩
    · exact retN X0 hx (t := .boolean) Bd.returns (by simp) (hb hby d12_25) hr
    · show Qleq22 Z r0 r1 kA kB x0 x1 z0 z1 h0 n0 _ s₁.heap _
      rw [e0]
      exact ⟨(by simp only [if_neg c21_11]), N0, rfl⟩
def own_bl (n x y : Int32) : List Value := if n = (0 : Int32) then [] else if n = (1 : Int32) then [(.int ((x).toInt8.toInt32).toInt8.toInt32)] else [(.int ((x).toInt8.toInt32).toInt8.toInt32), (.int ((y).toInt8.toInt32).toInt8.toInt32)]
theorem own_bl0 (x y : Int32) : own_bl (0 : Int32) x y = [] := by unfold own_bl; rw [if_pos rfl]
theorem own_bl1 (x y : Int32) : own_bl (1 : Int32) x y = [(.int ((x).toInt8.toInt32).toInt8.toInt32)] := by unfold own_bl; rw [if_neg (by decide), if_pos rfl]
theorem own_bl2 (x y : Int32) : own_bl (2 : Int32) x y = [(.int ((x).toInt8.toInt32).toInt8.toInt32), (.int ((y).toInt8.toInt32).toInt8.toInt32)] := by unfold own_bl; rw [if_neg (by decide), if_neg (by decide)]
def own_Str (Z : State) (h : Heap) (o : Addr) (n x y : Int32) : Prop := Exa Z h o "java/lang/String" ∧ Fld Z h o "java/lang/String" "coder" "B" (.int (0 : Int32)) ∧ ∃ (b : Addr) (kB : ClassId), Fld Z h o "java/lang/String" "value" "[B" (.ref b) ∧ Arv Z h b kB .byte n (own_bl n x y) (.int (0 : Int32))
def own_eqs (n x y m u v : Int32) : Int32 := if n = m then (if n = (0 : Int32) then (1 : Int32) else if ((x).toInt8.toInt32).toInt8.toInt32 = ((u).toInt8.toInt32).toInt8.toInt32 then (if n = (1 : Int32) then (1 : Int32) else if ((y).toInt8.toInt32).toInt8.toInt32 = ((v).toInt8.toInt32).toInt8.toInt32 then (1 : Int32) else (0 : Int32)) else (0 : Int32)) else (0 : Int32)
theorem own_Str.ext {Z : State} {h h' : Heap} {o : Addr} {n x y : Int32} (F : own_Str Z h o n x y) (E : Ext h h') : own_Str Z h' o n x y := by
  obtain ⟨a, b, c, k, d, e⟩ := F
  exact ⟨a.ext E, b.ext E, c, k, d.ext E, e.ext E⟩
theorem own_Str.keep {Z : State} {h h' : Heap} {o : Addr} {n x y : Int32} {ws : List Addr} (F : own_Str Z h o n x y) (K : Keep h h' ws) (hws : ∀ w ∈ ws, ∃ C, Exa Z h w C ∧ C ≠ "java/lang/String" ∧ ∃ kk, (Jvm.Cond.instantiable C kk).before #[] Z = true ∨ True) (h1 : o ∉ ws) (h2 : ∀ b, Fld Z h o "java/lang/String" "value" "[B" (.ref b) → b ∉ ws) : own_Str Z h' o n x y := by
  obtain ⟨a, b, c, k, d, e⟩ := F
  exact ⟨a.keep K, b.keep K h1, c, k, d.keep K h1, e.keep K (h2 c d)⟩
theorem own_fldfun {Z : State} {h : Heap} {a : Addr} {C n d : String} {v w : Value} (F : Fld Z h a C n d v) (G : Fld Z h a C n d w) : v = w := by
  by_cases q : v = w
  · exact q
  · exact absurd rfl (Fld.ne F G q)
theorem own_arvfun {Z : State} {h : Heap} {a : Addr} {k k' : ClassId} {ty ty' : FieldType} {z z' : Int32} {vs vs' : List Value} {d d' : Value} (F : Arv Z h a k ty z vs d) (G : Arv Z h a k' ty' z' vs' d') : z = z' ∧ ∀ i, i < z.toNatClampNeg → vs.getD i d = vs'.getD i d' := by
  obtain ⟨c, A, -, S, N, H, -⟩ := F
  obtain ⟨c', A', -, S', N', H', -⟩ := G
  cases A.1.symm.trans A'.1
  have e : z.toNatClampNeg = z'.toNatClampNeg := S.symm.trans S'
  refine ⟨?_, fun i hi => ?_⟩
  · have b1 := (back32 N).1
    have b2 := (back32 N').1
    rw [← b1, ← b2, e]
  · have q := H i (by rw [S]; exact hi)
    have q' := H' i (by rw [S]; exact hi)
    exact Option.some.inj (q.symm.trans q')
theorem own_fin00 (x y u v : Int32) : some (Value.int (1 : Int32)) = some (Value.int (own_eqs (0 : Int32) x y (0 : Int32) u v)) := by
  unfold own_eqs
  rw [if_pos rfl, if_pos rfl]
theorem own_fin01 (x y u v : Int32) : some (Value.int (0 : Int32)) = some (Value.int (own_eqs (0 : Int32) x y (1 : Int32) u v)) := by
  unfold own_eqs
  rw [if_neg (by decide)]
theorem own_fin02 (x y u v : Int32) : some (Value.int (0 : Int32)) = some (Value.int (own_eqs (0 : Int32) x y (2 : Int32) u v)) := by
  unfold own_eqs
  rw [if_neg (by decide)]
theorem own_fin10 (x y u v : Int32) : some (Value.int (0 : Int32)) = some (Value.int (own_eqs (1 : Int32) x y (0 : Int32) u v)) := by
  unfold own_eqs
  rw [if_neg (by decide)]
theorem own_val1 (x y u v : Int32) : own_eqs (1 : Int32) x y (1 : Int32) u v = (if ((x).toInt8.toInt32).toInt8.toInt32 = ((u).toInt8.toInt32).toInt8.toInt32 then (1 : Int32) else (0 : Int32)) := by
  unfold own_eqs
  rw [if_pos rfl, if_neg (by decide)]
  rw [if_pos rfl]
theorem own_01_1 (x y u v : Int32) : (if ((x).toInt8.toInt32).toInt8.toInt32 = ((u).toInt8.toInt32).toInt8.toInt32 then (1 : Int32) else (0 : Int32)) = (0 : Int32) ∨ (if ((x).toInt8.toInt32).toInt8.toInt32 = ((u).toInt8.toInt32).toInt8.toInt32 then (1 : Int32) else (0 : Int32)) = (1 : Int32) := by
  by_cases q0 : ((x).toInt8.toInt32).toInt8.toInt32 = ((u).toInt8.toInt32).toInt8.toInt32
  · rw [if_pos q0]; exact Or.inr rfl
  · rw [if_neg q0]; exact Or.inl rfl
theorem own_fin12 (x y u v : Int32) : some (Value.int (0 : Int32)) = some (Value.int (own_eqs (1 : Int32) x y (2 : Int32) u v)) := by
  unfold own_eqs
  rw [if_neg (by decide)]
theorem own_fin20 (x y u v : Int32) : some (Value.int (0 : Int32)) = some (Value.int (own_eqs (2 : Int32) x y (0 : Int32) u v)) := by
  unfold own_eqs
  rw [if_neg (by decide)]
theorem own_fin21 (x y u v : Int32) : some (Value.int (0 : Int32)) = some (Value.int (own_eqs (2 : Int32) x y (1 : Int32) u v)) := by
  unfold own_eqs
  rw [if_neg (by decide)]
theorem own_val2 (x y u v : Int32) : own_eqs (2 : Int32) x y (2 : Int32) u v = (if ((x).toInt8.toInt32).toInt8.toInt32 = ((u).toInt8.toInt32).toInt8.toInt32 then (if ((y).toInt8.toInt32).toInt8.toInt32 = ((v).toInt8.toInt32).toInt8.toInt32 then (1 : Int32) else (0 : Int32)) else (0 : Int32)) := by
  unfold own_eqs
  rw [if_pos rfl, if_neg (by decide)]
  rw [if_neg (show ¬ (2 : Int32) = (1 : Int32) by decide)]
theorem own_01_2 (x y u v : Int32) : (if ((x).toInt8.toInt32).toInt8.toInt32 = ((u).toInt8.toInt32).toInt8.toInt32 then (if ((y).toInt8.toInt32).toInt8.toInt32 = ((v).toInt8.toInt32).toInt8.toInt32 then (1 : Int32) else (0 : Int32)) else (0 : Int32)) = (0 : Int32) ∨ (if ((x).toInt8.toInt32).toInt8.toInt32 = ((u).toInt8.toInt32).toInt8.toInt32 then (if ((y).toInt8.toInt32).toInt8.toInt32 = ((v).toInt8.toInt32).toInt8.toInt32 then (1 : Int32) else (0 : Int32)) else (0 : Int32)) = (1 : Int32) := by
  by_cases q0 : ((x).toInt8.toInt32).toInt8.toInt32 = ((u).toInt8.toInt32).toInt8.toInt32
  · rw [if_pos q0]
    by_cases q1 : ((y).toInt8.toInt32).toInt8.toInt32 = ((v).toInt8.toInt32).toInt8.toInt32
    · rw [if_pos q1]; exact Or.inr rfl
    · rw [if_neg q1]; exact Or.inl rfl
  · rw [if_neg q0]; exact Or.inl rfl
theorem d6_0 : decode jdk_42_method_66_code 0 = .ok (.aload_n 0, 1) := by decide +kernel
theorem d6_1 : decode jdk_42_method_66_code 1 = .ok (.aload_n 1, 1) := by decide +kernel
theorem d6_2 : decode jdk_42_method_66_code 2 = .ok (.if_acmp .ne 5, 3) := by decide +kernel
theorem d6_5 : decode jdk_42_method_66_code 5 = .ok (.iconst 1, 1) := by decide +kernel
theorem d6_6 : decode jdk_42_method_66_code 6 = .ok (.ireturn, 1) := by decide +kernel
theorem d6_7 : decode jdk_42_method_66_code 7 = .ok (.aload_n 1, 1) := by decide +kernel
theorem d6_8 : decode jdk_42_method_66_code 8 = .ok (.instanceof 10, 3) := by decide +kernel
theorem d6_11 : decode jdk_42_method_66_code 11 = .ok (.ifCond .eq 43, 3) := by decide +kernel
theorem d6_14 : decode jdk_42_method_66_code 14 = .ok (.aload_n 1, 1) := by decide +kernel
theorem d6_15 : decode jdk_42_method_66_code 15 = .ok (.checkcast 10, 3) := by decide +kernel
theorem d6_18 : decode jdk_42_method_66_code 18 = .ok (.astore_n 2, 1) := by decide +kernel
theorem d6_19 : decode jdk_42_method_66_code 19 = .ok (.getstatic 38, 3) := by decide +kernel
theorem d6_22 : decode jdk_42_method_66_code 22 = .ok (.ifCond .eq 14, 3) := by decide +kernel
theorem d6_25 : decode jdk_42_method_66_code 25 = .ok (.aload_n 0, 1) := by decide +kernel
theorem d6_26 : decode jdk_42_method_66_code 26 = .ok (.getfield 15, 3) := by decide +kernel
theorem d6_29 : decode jdk_42_method_66_code 29 = .ok (.aload_n 2, 1) := by decide +kernel
theorem d6_30 : decode jdk_42_method_66_code 30 = .ok (.getfield 15, 3) := by decide +kernel
theorem d6_33 : decode jdk_42_method_66_code 33 = .ok (.if_icmp .ne 21, 3) := by decide +kernel
theorem d6_36 : decode jdk_42_method_66_code 36 = .ok (.aload_n 0, 1) := by decide +kernel
theorem d6_37 : decode jdk_42_method_66_code 37 = .ok (.getfield 9, 3) := by decide +kernel
theorem d6_40 : decode jdk_42_method_66_code 40 = .ok (.aload_n 2, 1) := by decide +kernel
theorem d6_41 : decode jdk_42_method_66_code 41 = .ok (.getfield 9, 3) := by decide +kernel
theorem d6_44 : decode jdk_42_method_66_code 44 = .ok (.invokestatic 541, 3) := by decide +kernel
theorem d6_47 : decode jdk_42_method_66_code 47 = .ok (.ifCond .eq 7, 3) := by decide +kernel
theorem d6_50 : decode jdk_42_method_66_code 50 = .ok (.iconst 1, 1) := by decide +kernel
theorem d6_51 : decode jdk_42_method_66_code 51 = .ok (.goto 4, 3) := by decide +kernel
theorem d6_54 : decode jdk_42_method_66_code 54 = .ok (.iconst 0, 1) := by decide +kernel
theorem d6_55 : decode jdk_42_method_66_code 55 = .ok (.ireturn, 1) := by decide +kernel
theorem pd_seq_0 : parseMethodDescriptor "([B[B)Z" = some ⟨[(.array .byte), (.array .byte)], some .boolean⟩ := by decide +kernel
theorem ef_seq (m : MethodId) (r0 : Addr) (r1 : Addr) : entryFrame m #[(.ref r0), (.ref r1)] 3 = mkF m 0 #[.val (.ref r0), .val (.ref r1), .unset] [] := by first | (simp [entryFrame, mkF, argsToLocals, Value.category]; done) | rfl
def Qseq (Z : State) (r0 : Addr) (r1 : Addr) (G : Int32) (cn : Int32) (cx : Int32) (cy : Int32) (dn : Int32) (dx : Int32) (dy : Int32) (h0 : Heap) (n0 : Nat) (v : Option Value) (h : Heap) (L : List Loc) : Prop := v = some (.int (own_eqs cn cx cy dn dx dy)) ∧ Fr n0 L ∧ h = h0
set_option maxRecDepth 65536 in
set_option maxHeartbeats 40000000 in
theorem rmseq (l : Launch) (Z : State) (a0 : Array Value) (hw : ∀ d ∈ tables_1, d.before a0 Z = true) (ws : List Jvm.Cond) (r0 : Addr) (r1 : Addr) (G : Int32) (cn : Int32) (cx : Int32) (cy : Int32) (dn : Int32) (dx : Int32) (dy : Int32) (h0 : Heap) (n0 : Nat) (Z0 : n0 ≤ h0.size) (S_cs : Sta Z h0 "java/lang/String" "COMPACT_STRINGS" "Z" (.int G)) (hG : ¬ G = 0) (hn : cn = (0 : Int32) ∨ cn = (1 : Int32) ∨ cn = (2 : Int32)) (hm : dn = (0 : Int32) ∨ dn = (1 : Int32) ∨ dn = (2 : Int32)) (Sa : own_Str Z h0 r0 cn cx cy) (Sb : own_Str Z h0 r1 dn dx dy) :
    MetFree l (⟨"java/lang/String", "equals", "(Ljava/lang/Object;)Z"⟩ : MethodName) (head1 (Jvm.Cond.code (⟨"java/lang/String", "equals", "(Ljava/lang/Object;)Z"⟩ : MethodName) jdk_42_method_66_code 3 (some .boolean) :: ws) ({ frames := 1, cells := 0, slots := 0, locals := 14 } : Room)) (fun a U => a = #[(.ref r0), (.ref r1)] ∧ Z.Warmed39 U.vm ∧ U.heap = h0) (fun _ _ _ _ _ => True) (fun _ U o U' => ∃ v L, o = .returned v ∧ Qseq Z r0 r1 G cn cx cy dn dx dy h0 n0 v U'.heap L ∧ FrameEnd U o U' L ({ frames := 1, cells := 0, slots := 0, locals := 14 } : Room).cells ({ frames := 1, cells := 0, slots := 0, locals := 14 } : Room).slots) := by
  refine MetFree.of_bodySF (plainFor_of_name pn_16) hisR ?_
  intro p e s m args below meth c s₁ Bd hml0 hP hK
  obtain ⟨rfl, hZ, hh⟩ := hP
  have hx := Bd.exec
  have hby := Bd.bytes
  have hml : c.maxLocals = 3 := hml0
  have hown : s.vm.findClass "java/lang/String" = some m.cls := findClass_of_methodNamed Bd.named
  have hnm := (name_of_methodNamed Bd.named Bd.method).1
  have X0 : Stand p l e ({ frames := 1, cells := 0, slots := 0, locals := 14 } : Room) s m #[(.ref r0), (.ref r1)] below meth c s₁ [] 0 0 := Stand.of_body Bd
  have e0 : s₁.heap = h0 := by rw [← hh, Bd.state]; rfl
  have N0 := Fr.nil n0
  have K0 : ∀ t, Steps p.tables e below (s₁.setTop (mkF m 0 #[.val (.ref r0), .val (.ref r1), .unset] [])) t → Steps p.tables e below (s₁.setTop (entryFrame m #[(.ref r0), (.ref r1)] 3)) t := fun t k => castTop (ef_seq m r0 r1) k
  generalize s₁.setTop (entryFrame m #[(.ref r0), (.ref r1)] 3) = SE at K0 ⊢
  obtain ⟨Ea, Ca, da, ka, Va, Aa⟩ := id Sa
  obtain ⟨Eb, Cb, db, kb, Vb, Ab⟩ := id Sb
  rcases hn with hn | hn | hn <;> rcases hm with hm | hm | hm
  · skip
    rw [hn, own_bl0] at Aa
    rw [hm, own_bl0] at Ab
    have K1 : own_K p e below SE s₁ (mkF m 2 #[.val (.ref r0), .val (.ref r1), .unset] [(.ref r1), (.ref r0)]) := by
      intro t k
      refine K0 _ ?_
      refine XS.aloadN X0.here hx rfl (hb hby d6_0) rfl rfl ?_
      show own_S p e below s₁ (mkF m 1 #[.val (.ref r0), .val (.ref r1), .unset] [(.ref r0)]) _
      refine XS.aloadN X0.here hx rfl (hb hby d6_1) rfl rfl ?_
      exact k
    by_cases cab : r0 = r1
    · skip
      have Vb' : Fld Z h0 r0 "java/lang/String" "value" "[B" (.ref db) := by rw [cab]; exact Vb
      have dd : da = db := Value.ref.inj (own_fldfun Va Vb')
      have Ab' : Arv Z h0 da kb .byte (0 : Int32) [] (.int (0 : Int32)) := by rw [dd]; exact Ab
      have af := own_arvfun Aa Ab'
      have K2 : own_K p e below SE s₁ (mkF m 6 #[.val (.ref r0), .val (.ref r1), .unset] [(.int (1 : Int32))]) := by
        intro t k
        refine K1 _ ?_
        refine Jvm.RoadKit.acmp (g := (mkF m 2 #[.val (.ref r0), .val (.ref r1), .unset] [(.ref r1), (.ref r0)])) X0 hx rfl rfl rfl (pc0 := 2) (pc' := 5) (same := true) rfl (hb hby d6_2) rfl (decide_eq_true (congrArg Value.ref cab)) (by decide) (by decide) ?_
        show own_S p e below s₁ (mkF m 5 #[.val (.ref r0), .val (.ref r1), .unset] []) _
        refine XS.iconst X0.here hx rfl (hb hby d6_5) ?_
        exact k
      obtain ⟨fs, hr, hrun, hended, hW, hsame⟩ := X0.leave (v := some (.int (1 : Int32))) (fun h => by rw [Bd.returns] at h; cases h)
      refine ⟨_, _, K2 _ ?_, hrun, hended, _, _, rfl, ?_, ⟨_, rfl⟩, hW, hsame.mono (by decide) (by decide)⟩
      · exact retN X0 hx (t := .boolean) Bd.returns (by simp) (hb hby d6_6) hr
      · show Qseq Z r0 r1 G cn cx cy dn dx dy h0 n0 _ s₁.heap _
        rw [e0]
        exact ⟨(by rw [hn, hm]; exact own_fin00 cx cy dx dy), N0, rfl⟩
    · skip
      have K3 : own_K p e below SE s₁ (mkF m 8 #[.val (.ref r0), .val (.ref r1), .unset] [(.ref r1)]) := by
        intro t k
        refine K1 _ ?_
        refine Jvm.RoadKit.acmp (g := (mkF m 2 #[.val (.ref r0), .val (.ref r1), .unset] [(.ref r1), (.ref r0)])) X0 hx rfl rfl rfl (pc0 := 2) (pc' := 7) (same := false) rfl (hb hby d6_2) rfl (decide_eq_false fun q => cab (Value.ref.inj q)) (by decide) (by decide) ?_
        show own_S p e below s₁ (mkF m 7 #[.val (.ref r0), .val (.ref r1), .unset] []) _
        refine XS.aloadN X0.here hx rfl (hb hby d6_7) rfl rfl ?_
        exact k
      obtain ⟨T4, X4, e4, st4⟩ := instY X0 hx hZ hown (hw _ (List.mem_of_getElem? (i := 68) rfl)) e0 (Ins.self Eb) (g := (mkF m 8 #[.val (.ref r0), .val (.ref r1), .unset] [(.ref r1)])) rfl rfl (hb hby d6_8)
      have K4 : own_K p e below SE T4 (mkF m 11 #[.val (.ref r0), .val (.ref r1), .unset] [(.int (1 : Int32))]) := fun t k => K3 _ (st4 _ k)
      have K5 : own_K p e below SE T4 (mkF m 15 #[.val (.ref r0), .val (.ref r1), .unset] [(.ref r1)]) := by
        intro t k
        refine K4 _ ?_
        refine XS.ifNo X4.here hx rfl (hb hby d6_11) rfl (XT.i0_eq_f (by decide : ¬ ((1 : Int32) = 0))) ?_
        show own_S p e below T4 (mkF m 14 #[.val (.ref r0), .val (.ref r1), .unset] []) _
        refine XS.aloadN X4.here hx rfl (hb hby d6_14) rfl rfl ?_
        exact k
      obtain ⟨T6, X6, e6, st6⟩ := castY X4 hx hZ hown (hw _ (List.mem_of_getElem? (i := 68) rfl)) e4 (Ins.self Eb) (g := (mkF m 15 #[.val (.ref r0), .val (.ref r1), .unset] [(.ref r1)])) rfl rfl (hb hby d6_15)
      have K6 : own_K p e below SE T6 (mkF m 18 #[.val (.ref r0), .val (.ref r1), .unset] [(.ref r1)]) := fun t k => K5 _ (st6 _ k)
      have K7 : own_K p e below SE T6 (mkF m 19 #[.val (.ref r0), .val (.ref r1), .val (.ref r1)] []) := by
        intro t k
        refine K6 _ ?_
        refine XS.astoreN X6.here hx rfl (hb hby d6_18) rfl rfl (l' := #[.val (.ref r0), .val (.ref r1), .val (.ref r1)]) rfl ?_
        exact k
      obtain ⟨T8, X8, e8, st8⟩ := getS2 X6 hx hZ hown (host := "") (Or.inl (hw _ (List.mem_of_getElem? (i := 55) rfl))) Via.refl e6 S_cs (g := (mkF m 19 #[.val (.ref r0), .val (.ref r1), .val (.ref r1)] [])) rfl (hb hby d6_19)
      have K8 : own_K p e below SE T8 (mkF m 22 #[.val (.ref r0), .val (.ref r1), .val (.ref r1)] [(.int G)]) := fun t k => K7 _ (st8 _ k)
      have K9 : own_K p e below SE T8 (mkF m 26 #[.val (.ref r0), .val (.ref r1), .val (.ref r1)] [(.ref r0)]) := by
        intro t k
        refine K8 _ ?_
        refine XS.ifNo X8.here hx rfl (hb hby d6_22) rfl (XT.i0_eq_f hG) ?_
        show own_S p e below T8 (mkF m 25 #[.val (.ref r0), .val (.ref r1), .val (.ref r1)] []) _
        refine XS.aloadN X8.here hx rfl (hb hby d6_25) rfl rfl ?_
        exact k
      obtain ⟨T10, X10, e10, st10⟩ := getF X8 hx hZ hown (host := "") (Or.inl (hw _ (List.mem_of_getElem? (i := 66) rfl))) Via.refl e8 Ca (g := (mkF m 26 #[.val (.ref r0), .val (.ref r1), .val (.ref r1)] [(.ref r0)])) rfl rfl (hb hby d6_26)
      have K10 : own_K p e below SE T10 (mkF m 29 #[.val (.ref r0), .val (.ref r1), .val (.ref r1)] [(.int (0 : Int32))]) := fun t k => K9 _ (st10 _ k)
      have K11 : own_K p e below SE T10 (mkF m 30 #[.val (.ref r0), .val (.ref r1), .val (.ref r1)] [(.ref r1), (.int (0 : Int32))]) := by
        intro t k
        refine K10 _ ?_
        refine XS.aloadN X10.here hx rfl (hb hby d6_29) rfl rfl ?_
        exact k
      obtain ⟨T12, X12, e12, st12⟩ := getF X10 hx hZ hown (host := "") (Or.inl (hw _ (List.mem_of_getElem? (i := 66) rfl))) Via.refl e10 Cb (g := (mkF m 30 #[.val (.ref r0), .val (.ref r1), .val (.ref r1)] [(.ref r1), (.int (0 : Int32))])) rfl rfl (hb hby d6_30)
      have K12 : own_K p e below SE T12 (mkF m 33 #[.val (.ref r0), .val (.ref r1), .val (.ref r1)] [(.int (0 : Int32)), (.int (0 : Int32))]) := fun t k => K11 _ (st12 _ k)
      have K13 : own_K p e below SE T12 (mkF m 37 #[.val (.ref r0), .val (.ref r1), .val (.ref r1)] [(.ref r0)]) := by
        intro t k
        refine K12 _ ?_
        refine XS.icmpNo X12.here hx rfl (hb hby d6_33) rfl (XT.ii_ne_f (by decide : (0 : Int32) = (0 : Int32))) ?_
        show own_S p e below T12 (mkF m 36 #[.val (.ref r0), .val (.ref r1), .val (.ref r1)] []) _
        refine XS.aloadN X12.here hx rfl (hb hby d6_36) rfl rfl ?_
        exact k
      obtain ⟨T14, X14, e14, st14⟩ := getF X12 hx hZ hown (host := "") (Or.inl (hw _ (List.mem_of_getElem? (i := 67) rfl))) Via.refl e12 Va (g := (mkF m 37 #[.val (.ref r0), .val (.ref r1), .val (.ref r1)] [(.ref r0)])) rfl rfl (hb hby d6_37)
      have K14 : own_K p e below SE T14 (mkF m 40 #[.val (.ref r0), .val (.ref r1), .val (.ref r1)] [(.ref da)]) := fun t k => K13 _ (st14 _ k)
      have K15 : own_K p e below SE T14 (mkF m 41 #[.val (.ref r0), .val (.ref r1), .val (.ref r1)] [(.ref r1), (.ref da)]) := by
        intro t k
        refine K14 _ ?_
        refine XS.aloadN X14.here hx rfl (hb hby d6_40) rfl rfl ?_
        exact k
      obtain ⟨T16, X16, e16, st16⟩ := getF X14 hx hZ hown (host := "") (Or.inl (hw _ (List.mem_of_getElem? (i := 67) rfl))) Via.refl e14 Vb (g := (mkF m 41 #[.val (.ref r0), .val (.ref r1), .val (.ref r1)] [(.ref r1), (.ref da)])) rfl rfl (hb hby d6_41)
      have K16 : own_K p e below SE T16 (mkF m 44 #[.val (.ref r0), .val (.ref r1), .val (.ref r1)] [(.ref db), (.ref da)]) := fun t k => K15 _ (st16 _ k)
      obtain ⟨_, _, ⟨T17, L17, k17, n17⟩, -, X17, ⟨Lc17, hQ17, l17, y17, z17⟩, st17⟩ := Jvm.LawKit.callS X16 hx (y := (⟨"java/lang/StringLatin1", "equals", "([B[B)Z"⟩ : MethodName)) hown (mvT hZ (hw _ (List.mem_of_getElem? (i := 69) rfl))) (mvT hZ (hw _ (List.mem_of_getElem? (i := 70) rfl))) (mvT hZ (hw _ (List.mem_of_getElem? (i := 71) rfl))) (mvT hZ (hw _ (List.mem_of_getElem? (i := 72) rfl))) (by decide) (backOf (W := 0) (rmleq00 l Z a0 hw [] da db ka kb  h0 n0 Z0 Aa Ab) hZ (hw _ (List.mem_of_getElem? (i := 72) rfl)) (hw _ (List.mem_of_getElem? (i := 71) rfl)) (by decide) (by decide)) (g := (mkF m 44 #[.val (.ref r0), .val (.ref r1), .val (.ref r1)] [(.ref db), (.ref da)])) rfl (by rw [hml]; rfl) (argsL := [(.ref da), (.ref db)]) (rest := []) (lenOf pd_seq_0 rfl) rfl (by show 2 * 0 + _ ≤ _; exact Nat.le_of_eq rfl) (hb hby d6_44) (fun _ _ => ⟨rfl, e16, (by decide : 0 + 0 ≤ _), (by decide : 0 + 0 ≤ _)⟩)
      dsimp only [Pt.U, Pt.locs, Pt.cells, Pt.slots] at X17 l17 y17 z17 st17 hQ17
      rw [y17, z17] at X17
      obtain ⟨rfl, Nq17, e17⟩ := hQ17
      have N17 : Fr n0 L17 := by rw [l17]; exact Fr.app N0 Nq17
      have K17 : own_K p e below SE T17 (mkF m 47 #[.val (.ref r0), .val (.ref r1), .val (.ref r1)] [(.int (1 : Int32))]) := fun t k => K16 _ (st17 _ k)
      have K18 : own_K p e below SE T17 (mkF m 55 #[.val (.ref r0), .val (.ref r1), .val (.ref r1)] [(.int (1 : Int32))]) := by
        intro t k
        refine K17 _ ?_
        refine XS.ifNo X17.here hx rfl (hb hby d6_47) rfl (XT.i0_eq_f (by decide : ¬ ((1 : Int32) = 0))) ?_
        show own_S p e below T17 (mkF m 50 #[.val (.ref r0), .val (.ref r1), .val (.ref r1)] []) _
        refine XS.iconst X17.here hx rfl (hb hby d6_50) ?_
        show own_S p e below T17 (mkF m 51 #[.val (.ref r0), .val (.ref r1), .val (.ref r1)] [(.int (1 : Int32))]) _
        refine XS.goto X17.here hx rfl (pc0 := 51) (pc' := 55) rfl (hb hby d6_51) (by decide) (by decide) ?_
        exact k
      obtain ⟨fs, hr, hrun, hended, hW, hsame⟩ := X17.leave (v := some (.int (1 : Int32))) (fun h => by rw [Bd.returns] at h; cases h)
      refine ⟨_, _, K18 _ ?_, hrun, hended, _, _, rfl, ?_, ⟨_, rfl⟩, hW, hsame.mono (by decide) (by decide)⟩
      · exact retN X17 hx (t := .boolean) Bd.returns (by simp) (hb hby d6_55) hr
      · show Qseq Z r0 r1 G cn cx cy dn dx dy h0 n0 _ T17.heap _
        rw [e17]
        exact ⟨(by rw [hn, hm]; exact own_fin00 cx cy dx dy), N17, rfl⟩
  · skip
    rw [hn, own_bl0] at Aa
    rw [hm, own_bl1] at Ab
    have K19 : own_K p e below SE s₁ (mkF m 2 #[.val (.ref r0), .val (.ref r1), .unset] [(.ref r1), (.ref r0)]) := by
      intro t k
      refine K0 _ ?_
      refine XS.aloadN X0.here hx rfl (hb hby d6_0) rfl rfl ?_
      show own_S p e below s₁ (mkF m 1 #[.val (.ref r0), .val (.ref r1), .unset] [(.ref r0)]) _
      refine XS.aloadN X0.here hx rfl (hb hby d6_1) rfl rfl ?_
      exact k
    by_cases cab : r0 = r1
    · skip
      have Vb' : Fld Z h0 r0 "java/lang/String" "value" "[B" (.ref db) := by rw [cab]; exact Vb
      have dd : da = db := Value.ref.inj (own_fldfun Va Vb')
      have Ab' : Arv Z h0 da kb .byte (1 : Int32) [(.int ((dx).toInt8.toInt32).toInt8.toInt32)] (.int (0 : Int32)) := by rw [dd]; exact Ab
      have af := own_arvfun Aa Ab'
      exact absurd af.1 (by decide)
    · skip
      have K20 : own_K p e below SE s₁ (mkF m 8 #[.val (.ref r0), .val (.ref r1), .unset] [(.ref r1)]) := by
        intro t k
        refine K19 _ ?_
        refine Jvm.RoadKit.acmp (g := (mkF m 2 #[.val (.ref r0), .val (.ref r1), .unset] [(.ref r1), (.ref r0)])) X0 hx rfl rfl rfl (pc0 := 2) (pc' := 7) (same := false) rfl (hb hby d6_2) rfl (decide_eq_false fun q => cab (Value.ref.inj q)) (by decide) (by decide) ?_
        show own_S p e below s₁ (mkF m 7 #[.val (.ref r0), .val (.ref r1), .unset] []) _
        refine XS.aloadN X0.here hx rfl (hb hby d6_7) rfl rfl ?_
        exact k
      obtain ⟨T21, X21, e21, st21⟩ := instY X0 hx hZ hown (hw _ (List.mem_of_getElem? (i := 68) rfl)) e0 (Ins.self Eb) (g := (mkF m 8 #[.val (.ref r0), .val (.ref r1), .unset] [(.ref r1)])) rfl rfl (hb hby d6_8)
      have K21 : own_K p e below SE T21 (mkF m 11 #[.val (.ref r0), .val (.ref r1), .unset] [(.int (1 : Int32))]) := fun t k => K20 _ (st21 _ k)
      have K22 : own_K p e below SE T21 (mkF m 15 #[.val (.ref r0), .val (.ref r1), .unset] [(.ref r1)]) := by
        intro t k
        refine K21 _ ?_
        refine XS.ifNo X21.here hx rfl (hb hby d6_11) rfl (XT.i0_eq_f (by decide : ¬ ((1 : Int32) = 0))) ?_
        show own_S p e below T21 (mkF m 14 #[.val (.ref r0), .val (.ref r1), .unset] []) _
        refine XS.aloadN X21.here hx rfl (hb hby d6_14) rfl rfl ?_
        exact k
      obtain ⟨T23, X23, e23, st23⟩ := castY X21 hx hZ hown (hw _ (List.mem_of_getElem? (i := 68) rfl)) e21 (Ins.self Eb) (g := (mkF m 15 #[.val (.ref r0), .val (.ref r1), .unset] [(.ref r1)])) rfl rfl (hb hby d6_15)
      have K23 : own_K p e below SE T23 (mkF m 18 #[.val (.ref r0), .val (.ref r1), .unset] [(.ref r1)]) := fun t k => K22 _ (st23 _ k)
      have K24 : own_K p e below SE T23 (mkF m 19 #[.val (.ref r0), .val (.ref r1), .val (.ref r1)] []) := by
        intro t k
        refine K23 _ ?_
        refine XS.astoreN X23.here hx rfl (hb hby d6_18) rfl rfl (l' := #[.val (.ref r0), .val (.ref r1), .val (.ref r1)]) rfl ?_
        exact k
      obtain ⟨T25, X25, e25, st25⟩ := getS2 X23 hx hZ hown (host := "") (Or.inl (hw _ (List.mem_of_getElem? (i := 55) rfl))) Via.refl e23 S_cs (g := (mkF m 19 #[.val (.ref r0), .val (.ref r1), .val (.ref r1)] [])) rfl (hb hby d6_19)
      have K25 : own_K p e below SE T25 (mkF m 22 #[.val (.ref r0), .val (.ref r1), .val (.ref r1)] [(.int G)]) := fun t k => K24 _ (st25 _ k)
      have K26 : own_K p e below SE T25 (mkF m 26 #[.val (.ref r0), .val (.ref r1), .val (.ref r1)] [(.ref r0)]) := by
        intro t k
        refine K25 _ ?_
        refine XS.ifNo X25.here hx rfl (hb hby d6_22) rfl (XT.i0_eq_f hG) ?_
        show own_S p e below T25 (mkF m 25 #[.val (.ref r0), .val (.ref r1), .val (.ref r1)] []) _
        refine XS.aloadN X25.here hx rfl (hb hby d6_25) rfl rfl ?_
        exact k
      obtain ⟨T27, X27, e27, st27⟩ := getF X25 hx hZ hown (host := "") (Or.inl (hw _ (List.mem_of_getElem? (i := 66) rfl))) Via.refl e25 Ca (g := (mkF m 26 #[.val (.ref r0), .val (.ref r1), .val (.ref r1)] [(.ref r0)])) rfl rfl (hb hby d6_26)
      have K27 : own_K p e below SE T27 (mkF m 29 #[.val (.ref r0), .val (.ref r1), .val (.ref r1)] [(.int (0 : Int32))]) := fun t k => K26 _ (st27 _ k)
      have K28 : own_K p e below SE T27 (mkF m 30 #[.val (.ref r0), .val (.ref r1), .val (.ref r1)] [(.ref r1), (.int (0 : Int32))]) := by
        intro t k
        refine K27 _ ?_
        refine XS.aloadN X27.here hx rfl (hb hby d6_29) rfl rfl ?_
        exact k
      obtain ⟨T29, X29, e29, st29⟩ := getF X27 hx hZ hown (host := "") (Or.inl (hw _ (List.mem_of_getElem? (i := 66) rfl))) Via.refl e27 Cb (g := (mkF m 30 #[.val (.ref r0), .val (.ref r1), .val (.ref r1)] [(.ref r1), (.int (0 : Int32))])) rfl rfl (hb hby d6_30)
      have K29 : own_K p e below SE T29 (mkF m 33 #[.val (.ref r0), .val (.ref r1), .val (.ref r1)] [(.int (0 : Int32)), (.int (0 : Int32))]) := fun t k => K28 _ (st29 _ k)
      have K30 : own_K p e below SE T29 (mkF m 37 #[.val (.ref r0), .val (.ref r1), .val (.ref r1)] [(.ref r0)]) := by
        intro t k
        refine K29 _ ?_
        refine XS.icmpNo X29.here hx rfl (hb hby d6_33) rfl (XT.ii_ne_f (by decide : (0 : Int32) = (0 : Int32))) ?_
        show own_S p e below T29 (mkF m 36 #[.val (.ref r0), .val (.ref r1), .val (.ref r1)] []) _
        refine XS.aloadN X29.here hx rfl (hb hby d6_36) rfl rfl ?_
        exact k
      obtain ⟨T31, X31, e31, st31⟩ := getF X29 hx hZ hown (host := "") (Or.inl (hw _ (List.mem_of_getElem? (i := 67) rfl))) Via.refl e29 Va (g := (mkF m 37 #[.val (.ref r0), .val (.ref r1), .val (.ref r1)] [(.ref r0)])) rfl rfl (hb hby d6_37)
      have K31 : own_K p e below SE T31 (mkF m 40 #[.val (.ref r0), .val (.ref r1), .val (.ref r1)] [(.ref da)]) := fun t k => K30 _ (st31 _ k)
      have K32 : own_K p e below SE T31 (mkF m 41 #[.val (.ref r0), .val (.ref r1), .val (.ref r1)] [(.ref r1), (.ref da)]) := by
        intro t k
        refine K31 _ ?_
        refine XS.aloadN X31.here hx rfl (hb hby d6_40) rfl rfl ?_
        exact k
      obtain ⟨T33, X33, e33, st33⟩ := getF X31 hx hZ hown (host := "") (Or.inl (hw _ (List.mem_of_getElem? (i := 67) rfl))) Via.refl e31 Vb (g := (mkF m 41 #[.val (.ref r0), .val (.ref r1), .val (.ref r1)] [(.ref r1), (.ref da)])) rfl rfl (hb hby d6_41)
      have K33 : own_K p e below SE T33 (mkF m 44 #[.val (.ref r0), .val (.ref r1), .val (.ref r1)] [(.ref db), (.ref da)]) := fun t k => K32 _ (st33 _ k)
      obtain ⟨_, _, ⟨T34, L34, k34, n34⟩, -, X34, ⟨Lc34, hQ34, l34, y34, z34⟩, st34⟩ := Jvm.LawKit.callS X33 hx (y := (⟨"java/lang/StringLatin1", "equals", "([B[B)Z"⟩ : MethodName)) hown (mvT hZ (hw _ (List.mem_of_getElem? (i := 69) rfl))) (mvT hZ (hw _ (List.mem_of_getElem? (i := 70) rfl))) (mvT hZ (hw _ (List.mem_of_getElem? (i := 71) rfl))) (mvT hZ (hw _ (List.mem_of_getElem? (i := 72) rfl))) (by decide) (backOf (W := 0) (rmleq01 l Z a0 hw [] da db ka kb (((dx).toInt8.toInt32).toInt8.toInt32) h0 n0 Z0 Aa Ab) hZ (hw _ (List.mem_of_getElem? (i := 72) rfl)) (hw _ (List.mem_of_getElem? (i := 71) rfl)) (by decide) (by decide)) (g := (mkF m 44 #[.val (.ref r0), .val (.ref r1), .val (.ref r1)] [(.ref db), (.ref da)])) rfl (by rw [hml]; rfl) (argsL := [(.ref da), (.ref db)]) (rest := []) (lenOf pd_seq_0 rfl) rfl (by show 2 * 0 + _ ≤ _; exact Nat.le_of_eq rfl) (hb hby d6_44) (fun _ _ => ⟨rfl, e33, (by decide : 0 + 0 ≤ _), (by decide : 0 + 0 ≤ _)⟩)
      dsimp only [Pt.U, Pt.locs, Pt.cells, Pt.slots] at X34 l34 y34 z34 st34 hQ34
      rw [y34, z34] at X34
      obtain ⟨rfl, Nq34, e34⟩ := hQ34
      have N34 : Fr n0 L34 := by rw [l34]; exact Fr.app N0 Nq34
      have K34 : own_K p e below SE T34 (mkF m 47 #[.val (.ref r0), .val (.ref r1), .val (.ref r1)] [(.int (0 : Int32))]) := fun t k => K33 _ (st34 _ k)
      have K35 : own_K p e below SE T34 (mkF m 55 #[.val (.ref r0), .val (.ref r1), .val (.ref r1)] [(.int (0 : Int32))]) := by
        intro t k
        refine K34 _ ?_
        refine XS.ifYes X34.here hx rfl (pc0 := 47) (pc' := 54) rfl (hb hby d6_47) rfl (XT.i0_eq_t (by decide : (0 : Int32) = 0)) (by decide) (by decide) ?_
        show own_S p e below T34 (mkF m 54 #[.val (.ref r0), .val (.ref r1), .val (.ref r1)] []) _
        refine XS.iconst X34.here hx rfl (hb hby d6_54) ?_
        exact k
      obtain ⟨fs, hr, hrun, hended, hW, hsame⟩ := X34.leave (v := some (.int (0 : Int32))) (fun h => by rw [Bd.returns] at h; cases h)
      refine ⟨_, _, K35 _ ?_, hrun, hended, _, _, rfl, ?_, ⟨_, rfl⟩, hW, hsame.mono (by decide) (by decide)⟩
      · exact retN X34 hx (t := .boolean) Bd.returns (by simp) (hb hby d6_55) hr
      · show Qseq Z r0 r1 G cn cx cy dn dx dy h0 n0 _ T34.heap _
        rw [e34]
        exact ⟨(by rw [hn, hm]; exact own_fin01 cx cy dx dy), N34, rfl⟩
  · skip
    rw [hn, own_bl0] at Aa
    rw [hm, own_bl2] at Ab
    have K36 : own_K p e below SE s₁ (mkF m 2 #[.val (.ref r0), .val (.ref r1), .unset] [(.ref r1), (.ref r0)]) := by
      intro t k
      refine K0 _ ?_
      refine XS.aloadN X0.here hx rfl (hb hby d6_0) rfl rfl ?_
      show own_S p e below s₁ (mkF m 1 #[.val (.ref r0), .val (.ref r1), .unset] [(.ref r0)]) _
      refine XS.aloadN X0.here hx rfl (hb hby d6_1) rfl rfl ?_
      exact k
    by_cases cab : r0 = r1
    · skip
      have Vb' : Fld Z h0 r0 "java/lang/String" "value" "[B" (.ref db) := by rw [cab]; exact Vb
      have dd : da = db := Value.ref.inj (own_fldfun Va Vb')
      have Ab' : Arv Z h0 da kb .byte (2 : Int32) [(.int ((dx).toInt8.toInt32).toInt8.toInt32), (.int ((dy).toInt8.toInt32).toInt8.toInt32)] (.int (0 : Int32)) := by rw [dd]; exact Ab
      have af := own_arvfun Aa Ab'
      exact absurd af.1 (by decide)
    · skip
      have K37 : own_K p e below SE s₁ (mkF m 8 #[.val (.ref r0), .val (.ref r1), .unset] [(.ref r1)]) := by
        intro t k
        refine K36 _ ?_
        refine Jvm.RoadKit.acmp (g := (mkF m 2 #[.val (.ref r0), .val (.ref r1), .unset] [(.ref r1), (.ref r0)])) X0 hx rfl rfl rfl (pc0 := 2) (pc' := 7) (same := false) rfl (hb hby d6_2) rfl (decide_eq_false fun q => cab (Value.ref.inj q)) (by decide) (by decide) ?_
        show own_S p e below s₁ (mkF m 7 #[.val (.ref r0), .val (.ref r1), .unset] []) _
        refine XS.aloadN X0.here hx rfl (hb hby d6_7) rfl rfl ?_
        exact k
      obtain ⟨T38, X38, e38, st38⟩ := instY X0 hx hZ hown (hw _ (List.mem_of_getElem? (i := 68) rfl)) e0 (Ins.self Eb) (g := (mkF m 8 #[.val (.ref r0), .val (.ref r1), .unset] [(.ref r1)])) rfl rfl (hb hby d6_8)
      have K38 : own_K p e below SE T38 (mkF m 11 #[.val (.ref r0), .val (.ref r1), .unset] [(.int (1 : Int32))]) := fun t k => K37 _ (st38 _ k)
      have K39 : own_K p e below SE T38 (mkF m 15 #[.val (.ref r0), .val (.ref r1), .unset] [(.ref r1)]) := by
        intro t k
        refine K38 _ ?_
        refine XS.ifNo X38.here hx rfl (hb hby d6_11) rfl (XT.i0_eq_f (by decide : ¬ ((1 : Int32) = 0))) ?_
        show own_S p e below T38 (mkF m 14 #[.val (.ref r0), .val (.ref r1), .unset] []) _
        refine XS.aloadN X38.here hx rfl (hb hby d6_14) rfl rfl ?_
        exact k
      obtain ⟨T40, X40, e40, st40⟩ := castY X38 hx hZ hown (hw _ (List.mem_of_getElem? (i := 68) rfl)) e38 (Ins.self Eb) (g := (mkF m 15 #[.val (.ref r0), .val (.ref r1), .unset] [(.ref r1)])) rfl rfl (hb hby d6_15)
      have K40 : own_K p e below SE T40 (mkF m 18 #[.val (.ref r0), .val (.ref r1), .unset] [(.ref r1)]) := fun t k => K39 _ (st40 _ k)
      have K41 : own_K p e below SE T40 (mkF m 19 #[.val (.ref r0), .val (.ref r1), .val (.ref r1)] []) := by
        intro t k
        refine K40 _ ?_
        refine XS.astoreN X40.here hx rfl (hb hby d6_18) rfl rfl (l' := #[.val (.ref r0), .val (.ref r1), .val (.ref r1)]) rfl ?_
        exact k
      obtain ⟨T42, X42, e42, st42⟩ := getS2 X40 hx hZ hown (host := "") (Or.inl (hw _ (List.mem_of_getElem? (i := 55) rfl))) Via.refl e40 S_cs (g := (mkF m 19 #[.val (.ref r0), .val (.ref r1), .val (.ref r1)] [])) rfl (hb hby d6_19)
      have K42 : own_K p e below SE T42 (mkF m 22 #[.val (.ref r0), .val (.ref r1), .val (.ref r1)] [(.int G)]) := fun t k => K41 _ (st42 _ k)
      have K43 : own_K p e below SE T42 (mkF m 26 #[.val (.ref r0), .val (.ref r1), .val (.ref r1)] [(.ref r0)]) := by
        intro t k
        refine K42 _ ?_
        refine XS.ifNo X42.here hx rfl (hb hby d6_22) rfl (XT.i0_eq_f hG) ?_
        show own_S p e below T42 (mkF m 25 #[.val (.ref r0), .val (.ref r1), .val (.ref r1)] []) _
        refine XS.aloadN X42.here hx rfl (hb hby d6_25) rfl rfl ?_
        exact k
      obtain ⟨T44, X44, e44, st44⟩ := getF X42 hx hZ hown (host := "") (Or.inl (hw _ (List.mem_of_getElem? (i := 66) rfl))) Via.refl e42 Ca (g := (mkF m 26 #[.val (.ref r0), .val (.ref r1), .val (.ref r1)] [(.ref r0)])) rfl rfl (hb hby d6_26)
      have K44 : own_K p e below SE T44 (mkF m 29 #[.val (.ref r0), .val (.ref r1), .val (.ref r1)] [(.int (0 : Int32))]) := fun t k => K43 _ (st44 _ k)
      have K45 : own_K p e below SE T44 (mkF m 30 #[.val (.ref r0), .val (.ref r1), .val (.ref r1)] [(.ref r1), (.int (0 : Int32))]) := by
        intro t k
        refine K44 _ ?_
        refine XS.aloadN X44.here hx rfl (hb hby d6_29) rfl rfl ?_
        exact k
      obtain ⟨T46, X46, e46, st46⟩ := getF X44 hx hZ hown (host := "") (Or.inl (hw _ (List.mem_of_getElem? (i := 66) rfl))) Via.refl e44 Cb (g := (mkF m 30 #[.val (.ref r0), .val (.ref r1), .val (.ref r1)] [(.ref r1), (.int (0 : Int32))])) rfl rfl (hb hby d6_30)
      have K46 : own_K p e below SE T46 (mkF m 33 #[.val (.ref r0), .val (.ref r1), .val (.ref r1)] [(.int (0 : Int32)), (.int (0 : Int32))]) := fun t k => K45 _ (st46 _ k)
      have K47 : own_K p e below SE T46 (mkF m 37 #[.val (.ref r0), .val (.ref r1), .val (.ref r1)] [(.ref r0)]) := by
        intro t k
        refine K46 _ ?_
        refine XS.icmpNo X46.here hx rfl (hb hby d6_33) rfl (XT.ii_ne_f (by decide : (0 : Int32) = (0 : Int32))) ?_
        show own_S p e below T46 (mkF m 36 #[.val (.ref r0), .val (.ref r1), .val (.ref r1)] []) _
        refine XS.aloadN X46.here hx rfl (hb hby d6_36) rfl rfl ?_
        exact k
      obtain ⟨T48, X48, e48, st48⟩ := getF X46 hx hZ hown (host := "") (Or.inl (hw _ (List.mem_of_getElem? (i := 67) rfl))) Via.refl e46 Va (g := (mkF m 37 #[.val (.ref r0), .val (.ref r1), .val (.ref r1)] [(.ref r0)])) rfl rfl (hb hby d6_37)
      have K48 : own_K p e below SE T48 (mkF m 40 #[.val (.ref r0), .val (.ref r1), .val (.ref r1)] [(.ref da)]) := fun t k => K47 _ (st48 _ k)
      have K49 : own_K p e below SE T48 (mkF m 41 #[.val (.ref r0), .val (.ref r1), .val (.ref r1)] [(.ref r1), (.ref da)]) := by
        intro t k
        refine K48 _ ?_
        refine XS.aloadN X48.here hx rfl (hb hby d6_40) rfl rfl ?_
        exact k
      obtain ⟨T50, X50, e50, st50⟩ := getF X48 hx hZ hown (host := "") (Or.inl (hw _ (List.mem_of_getElem? (i := 67) rfl))) Via.refl e48 Vb (g := (mkF m 41 #[.val (.ref r0), .val (.ref r1), .val (.ref r1)] [(.ref r1), (.ref da)])) rfl rfl (hb hby d6_41)
      have K50 : own_K p e below SE T50 (mkF m 44 #[.val (.ref r0), .val (.ref r1), .val (.ref r1)] [(.ref db), (.ref da)]) := fun t k => K49 _ (st50 _ k)
      obtain ⟨_, _, ⟨T51, L51, k51, n51⟩, -, X51, ⟨Lc51, hQ51, l51, y51, z51⟩, st51⟩ := Jvm.LawKit.callS X50 hx (y := (⟨"java/lang/StringLatin1", "equals", "([B[B)Z"⟩ : MethodName)) hown (mvT hZ (hw _ (List.mem_of_getElem? (i := 69) rfl))) (mvT hZ (hw _ (List.mem_of_getElem? (i := 70) rfl))) (mvT hZ (hw _ (List.mem_of_getElem? (i := 71) rfl))) (mvT hZ (hw _ (List.mem_of_getElem? (i := 72) rfl))) (by decide) (backOf (W := 0) (rmleq02 l Z a0 hw [] da db ka kb (((dx).toInt8.toInt32).toInt8.toInt32) (((dy).toInt8.toInt32).toInt8.toInt32) h0 n0 Z0 Aa Ab) hZ (hw _ (List.mem_of_getElem? (i := 72) rfl)) (hw _ (List.mem_of_getElem? (i := 71) rfl)) (by decide) (by decide)) (g := (mkF m 44 #[.val (.ref r0), .val (.ref r1), .val (.ref r1)] [(.ref db), (.ref da)])) rfl (by rw [hml]; rfl) (argsL := [(.ref da), (.ref db)]) (rest := []) (lenOf pd_seq_0 rfl) rfl (by show 2 * 0 + _ ≤ _; exact Nat.le_of_eq rfl) (hb hby d6_44) (fun _ _ => ⟨rfl, e50, (by decide : 0 + 0 ≤ _), (by decide : 0 + 0 ≤ _)⟩)
      dsimp only [Pt.U, Pt.locs, Pt.cells, Pt.slots] at X51 l51 y51 z51 st51 hQ51
      rw [y51, z51] at X51
      obtain ⟨rfl, Nq51, e51⟩ := hQ51
      have N51 : Fr n0 L51 := by rw [l51]; exact Fr.app N0 Nq51
      have K51 : own_K p e below SE T51 (mkF m 47 #[.val (.ref r0), .val (.ref r1), .val (.ref r1)] [(.int (0 : Int32))]) := fun t k => K50 _ (st51 _ k)
      have K52 : own_K p e below SE T51 (mkF m 55 #[.val (.ref r0), .val (.ref r1), .val (.ref r1)] [(.int (0 : Int32))]) := by
        intro t k
        refine K51 _ ?_
        refine XS.ifYes X51.here hx rfl (pc0 := 47) (pc' := 54) rfl (hb hby d6_47) rfl (XT.i0_eq_t (by decide : (0 : Int32) = 0)) (by decide) (by decide) ?_
        show own_S p e below T51 (mkF m 54 #[.val (.ref r0), .val (.ref r1), .val (.ref r1)] []) _
        refine XS.iconst X51.here hx rfl (hb hby d6_54) ?_
        exact k
      obtain ⟨fs, hr, hrun, hended, hW, hsame⟩ := X51.leave (v := some (.int (0 : Int32))) (fun h => by rw [Bd.returns] at h; cases h)
      refine ⟨_, _, K52 _ ?_, hrun, hended, _, _, rfl, ?_, ⟨_, rfl⟩, hW, hsame.mono (by decide) (by decide)⟩
      · exact retN X51 hx (t := .boolean) Bd.returns (by simp) (hb hby d6_55) hr
      · show Qseq Z r0 r1 G cn cx cy dn dx dy h0 n0 _ T51.heap _
        rw [e51]
        exact ⟨(by rw [hn, hm]; exact own_fin02 cx cy dx dy), N51, rfl⟩
  · skip
    rw [hn, own_bl1] at Aa
    rw [hm, own_bl0] at Ab
    have K53 : own_K p e below SE s₁ (mkF m 2 #[.val (.ref r0), .val (.ref r1), .unset] [(.ref r1), (.ref r0)]) := by
      intro t k
      refine K0 _ ?_
      refine XS.aloadN X0.here hx rfl (hb hby d6_0) rfl rfl ?_
      show own_S p e below s₁ (mkF m 1 #[.val (.ref r0), .val (.ref r1), .unset] [(.ref r0)]) _
      refine XS.aloadN X0.here hx rfl (hb hby d6_1) rfl rfl ?_
      exact k
    by_cases cab : r0 = r1
    · skip
      have Vb' : Fld Z h0 r0 "java/lang/String" "value" "[B" (.ref db) := by rw [cab]; exact Vb
      have dd : da = db := Value.ref.inj (own_fldfun Va Vb')
      have Ab' : Arv Z h0 da kb .byte (0 : Int32) [] (.int (0 : Int32)) := by rw [dd]; exact Ab
      have af := own_arvfun Aa Ab'
      exact absurd af.1 (by decide)
    · skip
      have K54 : own_K p e below SE s₁ (mkF m 8 #[.val (.ref r0), .val (.ref r1), .unset] [(.ref r1)]) := by
        intro t k
        refine K53 _ ?_
        refine Jvm.RoadKit.acmp (g := (mkF m 2 #[.val (.ref r0), .val (.ref r1), .unset] [(.ref r1), (.ref r0)])) X0 hx rfl rfl rfl (pc0 := 2) (pc' := 7) (same := false) rfl (hb hby d6_2) rfl (decide_eq_false fun q => cab (Value.ref.inj q)) (by decide) (by decide) ?_
        show own_S p e below s₁ (mkF m 7 #[.val (.ref r0), .val (.ref r1), .unset] []) _
        refine XS.aloadN X0.here hx rfl (hb hby d6_7) rfl rfl ?_
        exact k
      obtain ⟨T55, X55, e55, st55⟩ := instY X0 hx hZ hown (hw _ (List.mem_of_getElem? (i := 68) rfl)) e0 (Ins.self Eb) (g := (mkF m 8 #[.val (.ref r0), .val (.ref r1), .unset] [(.ref r1)])) rfl rfl (hb hby d6_8)
      have K55 : own_K p e below SE T55 (mkF m 11 #[.val (.ref r0), .val (.ref r1), .unset] [(.int (1 : Int32))]) := fun t k => K54 _ (st55 _ k)
      have K56 : own_K p e below SE T55 (mkF m 15 #[.val (.ref r0), .val (.ref r1), .unset] [(.ref r1)]) := by
        intro t k
        refine K55 _ ?_
        refine XS.ifNo X55.here hx rfl (hb hby d6_11) rfl (XT.i0_eq_f (by decide : ¬ ((1 : Int32) = 0))) ?_
        show own_S p e below T55 (mkF m 14 #[.val (.ref r0), .val (.ref r1), .unset] []) _
        refine XS.aloadN X55.here hx rfl (hb hby d6_14) rfl rfl ?_
        exact k
      obtain ⟨T57, X57, e57, st57⟩ := castY X55 hx hZ hown (hw _ (List.mem_of_getElem? (i := 68) rfl)) e55 (Ins.self Eb) (g := (mkF m 15 #[.val (.ref r0), .val (.ref r1), .unset] [(.ref r1)])) rfl rfl (hb hby d6_15)
      have K57 : own_K p e below SE T57 (mkF m 18 #[.val (.ref r0), .val (.ref r1), .unset] [(.ref r1)]) := fun t k => K56 _ (st57 _ k)
      have K58 : own_K p e below SE T57 (mkF m 19 #[.val (.ref r0), .val (.ref r1), .val (.ref r1)] []) := by
        intro t k
        refine K57 _ ?_
        refine XS.astoreN X57.here hx rfl (hb hby d6_18) rfl rfl (l' := #[.val (.ref r0), .val (.ref r1), .val (.ref r1)]) rfl ?_
        exact k
      obtain ⟨T59, X59, e59, st59⟩ := getS2 X57 hx hZ hown (host := "") (Or.inl (hw _ (List.mem_of_getElem? (i := 55) rfl))) Via.refl e57 S_cs (g := (mkF m 19 #[.val (.ref r0), .val (.ref r1), .val (.ref r1)] [])) rfl (hb hby d6_19)
      have K59 : own_K p e below SE T59 (mkF m 22 #[.val (.ref r0), .val (.ref r1), .val (.ref r1)] [(.int G)]) := fun t k => K58 _ (st59 _ k)
      have K60 : own_K p e below SE T59 (mkF m 26 #[.val (.ref r0), .val (.ref r1), .val (.ref r1)] [(.ref r0)]) := by
        intro t k
        refine K59 _ ?_
        refine XS.ifNo X59.here hx rfl (hb hby d6_22) rfl (XT.i0_eq_f hG) ?_
        show own_S p e below T59 (mkF m 25 #[.val (.ref r0), .val (.ref r1), .val (.ref r1)] []) _
        refine XS.aloadN X59.here hx rfl (hb hby d6_25) rfl rfl ?_
        exact k
      obtain ⟨T61, X61, e61, st61⟩ := getF X59 hx hZ hown (host := "") (Or.inl (hw _ (List.mem_of_getElem? (i := 66) rfl))) Via.refl e59 Ca (g := (mkF m 26 #[.val (.ref r0), .val (.ref r1), .val (.ref r1)] [(.ref r0)])) rfl rfl (hb hby d6_26)
      have K61 : own_K p e below SE T61 (mkF m 29 #[.val (.ref r0), .val (.ref r1), .val (.ref r1)] [(.int (0 : Int32))]) := fun t k => K60 _ (st61 _ k)
      have K62 : own_K p e below SE T61 (mkF m 30 #[.val (.ref r0), .val (.ref r1), .val (.ref r1)] [(.ref r1), (.int (0 : Int32))]) := by
        intro t k
        refine K61 _ ?_
        refine XS.aloadN X61.here hx rfl (hb hby d6_29) rfl rfl ?_
        exact k
      obtain ⟨T63, X63, e63, st63⟩ := getF X61 hx hZ hown (host := "") (Or.inl (hw _ (List.mem_of_getElem? (i := 66) rfl))) Via.refl e61 Cb (g := (mkF m 30 #[.val (.ref r0), .val (.ref r1), .val (.ref r1)] [(.ref r1), (.int (0 : Int32))])) rfl rfl (hb hby d6_30)
      have K63 : own_K p e below SE T63 (mkF m 33 #[.val (.ref r0), .val (.ref r1), .val (.ref r1)] [(.int (0 : Int32)), (.int (0 : Int32))]) := fun t k => K62 _ (st63 _ k)
      have K64 : own_K p e below SE T63 (mkF m 37 #[.val (.ref r0), .val (.ref r1), .val (.ref r1)] [(.ref r0)]) := by
        intro t k
        refine K63 _ ?_
        refine XS.icmpNo X63.here hx rfl (hb hby d6_33) rfl (XT.ii_ne_f (by decide : (0 : Int32) = (0 : Int32))) ?_
        show own_S p e below T63 (mkF m 36 #[.val (.ref r0), .val (.ref r1), .val (.ref r1)] []) _
        refine XS.aloadN X63.here hx rfl (hb hby d6_36) rfl rfl ?_
        exact k
      obtain ⟨T65, X65, e65, st65⟩ := getF X63 hx hZ hown (host := "") (Or.inl (hw _ (List.mem_of_getElem? (i := 67) rfl))) Via.refl e63 Va (g := (mkF m 37 #[.val (.ref r0), .val (.ref r1), .val (.ref r1)] [(.ref r0)])) rfl rfl (hb hby d6_37)
      have K65 : own_K p e below SE T65 (mkF m 40 #[.val (.ref r0), .val (.ref r1), .val (.ref r1)] [(.ref da)]) := fun t k => K64 _ (st65 _ k)
      have K66 : own_K p e below SE T65 (mkF m 41 #[.val (.ref r0), .val (.ref r1), .val (.ref r1)] [(.ref r1), (.ref da)]) := by
        intro t k
        refine K65 _ ?_
        refine XS.aloadN X65.here hx rfl (hb hby d6_40) rfl rfl ?_
        exact k
      obtain ⟨T67, X67, e67, st67⟩ := getF X65 hx hZ hown (host := "") (Or.inl (hw _ (List.mem_of_getElem? (i := 67) rfl))) Via.refl e65 Vb (g := (mkF m 41 #[.val (.ref r0), .val (.ref r1), .val (.ref r1)] [(.ref r1), (.ref da)])) rfl rfl (hb hby d6_41)
      have K67 : own_K p e below SE T67 (mkF m 44 #[.val (.ref r0), .val (.ref r1), .val (.ref r1)] [(.ref db), (.ref da)]) := fun t k => K66 _ (st67 _ k)
      obtain ⟨_, _, ⟨T68, L68, k68, n68⟩, -, X68, ⟨Lc68, hQ68, l68, y68, z68⟩, st68⟩ := Jvm.LawKit.callS X67 hx (y := (⟨"java/lang/StringLatin1", "equals", "([B[B)Z"⟩ : MethodName)) hown (mvT hZ (hw _ (List.mem_of_getElem? (i := 69) rfl))) (mvT hZ (hw _ (List.mem_of_getElem? (i := 70) rfl))) (mvT hZ (hw _ (List.mem_of_getElem? (i := 71) rfl))) (mvT hZ (hw _ (List.mem_of_getElem? (i := 72) rfl))) (by decide) (backOf (W := 0) (rmleq10 l Z a0 hw [] da db ka kb (((cx).toInt8.toInt32).toInt8.toInt32) h0 n0 Z0 Aa Ab) hZ (hw _ (List.mem_of_getElem? (i := 72) rfl)) (hw _ (List.mem_of_getElem? (i := 71) rfl)) (by decide) (by decide)) (g := (mkF m 44 #[.val (.ref r0), .val (.ref r1), .val (.ref r1)] [(.ref db), (.ref da)])) rfl (by rw [hml]; rfl) (argsL := [(.ref da), (.ref db)]) (rest := []) (lenOf pd_seq_0 rfl) rfl (by show 2 * 0 + _ ≤ _; exact Nat.le_of_eq rfl) (hb hby d6_44) (fun _ _ => ⟨rfl, e67, (by decide : 0 + 0 ≤ _), (by decide : 0 + 0 ≤ _)⟩)
      dsimp only [Pt.U, Pt.locs, Pt.cells, Pt.slots] at X68 l68 y68 z68 st68 hQ68
      rw [y68, z68] at X68
      obtain ⟨rfl, Nq68, e68⟩ := hQ68
      have N68 : Fr n0 L68 := by rw [l68]; exact Fr.app N0 Nq68
      have K68 : own_K p e below SE T68 (mkF m 47 #[.val (.ref r0), .val (.ref r1), .val (.ref r1)] [(.int (0 : Int32))]) := fun t k => K67 _ (st68 _ k)
      have K69 : own_K p e below SE T68 (mkF m 55 #[.val (.ref r0), .val (.ref r1), .val (.ref r1)] [(.int (0 : Int32))]) := by
        intro t k
        refine K68 _ ?_
        refine XS.ifYes X68.here hx rfl (pc0 := 47) (pc' := 54) rfl (hb hby d6_47) rfl (XT.i0_eq_t (by decide : (0 : Int32) = 0)) (by decide) (by decide) ?_
        show own_S p e below T68 (mkF m 54 #[.val (.ref r0), .val (.ref r1), .val (.ref r1)] []) _
        refine XS.iconst X68.here hx rfl (hb hby d6_54) ?_
        exact k
      obtain ⟨fs, hr, hrun, hended, hW, hsame⟩ := X68.leave (v := some (.int (0 : Int32))) (fun h => by rw [Bd.returns] at h; cases h)
      refine ⟨_, _, K69 _ ?_, hrun, hended, _, _, rfl, ?_, ⟨_, rfl⟩, hW, hsame.mono (by decide) (by decide)⟩
      · exact retN X68 hx (t := .boolean) Bd.returns (by simp) (hb hby d6_55) hr
      · show Qseq Z r0 r1 G cn cx cy dn dx dy h0 n0 _ T68.heap _
        rw [e68]
        exact ⟨(by rw [hn, hm]; exact own_fin10 cx cy dx dy), N68, rfl⟩
  · skip
    rw [hn, own_bl1] at Aa
    rw [hm, own_bl1] at Ab
    have K70 : own_K p e below SE s₁ (mkF m 2 #[.val (.ref r0), .val (.ref r1), .unset] [(.ref r1), (.ref r0)]) := by
      intro t k
      refine K0 _ ?_
      refine XS.aloadN X0.here hx rfl (hb hby d6_0) rfl rfl ?_
      show own_S p e below s₁ (mkF m 1 #[.val (.ref r0), .val (.ref r1), .unset] [(.ref r0)]) _
      refine XS.aloadN X0.here hx rfl (hb hby d6_1) rfl rfl ?_
      exact k
    by_cases cab : r0 = r1
    · skip
      have Vb' : Fld Z h0 r0 "java/lang/String" "value" "[B" (.ref db) := by rw [cab]; exact Vb
      have dd : da = db := Value.ref.inj (own_fldfun Va Vb')
      have Ab' : Arv Z h0 da kb .byte (1 : Int32) [(.int ((dx).toInt8.toInt32).toInt8.toInt32)] (.int (0 : Int32)) := by rw [dd]; exact Ab
      have af := own_arvfun Aa Ab'
      have ae0 : ((cx).toInt8.toInt32).toInt8.toInt32 = ((dx).toInt8.toInt32).toInt8.toInt32 := Value.int.inj (af.2 0 (by decide))
      have K71 : own_K p e below SE s₁ (mkF m 6 #[.val (.ref r0), .val (.ref r1), .unset] [(.int (1 : Int32))]) := by
        intro t k
        refine K70 _ ?_
        refine Jvm.RoadKit.acmp (g := (mkF m 2 #[.val (.ref r0), .val (.ref r1), .unset] [(.ref r1), (.ref r0)])) X0 hx rfl rfl rfl (pc0 := 2) (pc' := 5) (same := true) rfl (hb hby d6_2) rfl (decide_eq_true (congrArg Value.ref cab)) (by decide) (by decide) ?_
        show own_S p e below s₁ (mkF m 5 #[.val (.ref r0), .val (.ref r1), .unset] []) _
        refine XS.iconst X0.here hx rfl (hb hby d6_5) ?_
        exact k
      obtain ⟨fs, hr, hrun, hended, hW, hsame⟩ := X0.leave (v := some (.int (1 : Int32))) (fun h => by rw [Bd.returns] at h; cases h)
      refine ⟨_, _, K71 _ ?_, hrun, hended, _, _, rfl, ?_, ⟨_, rfl⟩, hW, hsame.mono (by decide) (by decide)⟩
      · exact retN X0 hx (t := .boolean) Bd.returns (by simp) (hb hby d6_6) hr
      · show Qseq Z r0 r1 G cn cx cy dn dx dy h0 n0 _ s₁.heap _
        rw [e0]
        exact ⟨(by rw [hn, hm]; rw [own_val1, if_pos ae0]), N0, rfl⟩
    · skip
      have K72 : own_K p e below SE s₁ (mkF m 8 #[.val (.ref r0), .val (.ref r1), .unset] [(.ref r1)]) := by
        intro t k
        refine K70 _ ?_
        refine Jvm.RoadKit.acmp (g := (mkF m 2 #[.val (.ref r0), .val (.ref r1), .unset] [(.ref r1), (.ref r0)])) X0 hx rfl rfl rfl (pc0 := 2) (pc' := 7) (same := false) rfl (hb hby d6_2) rfl (decide_eq_false fun q => cab (Value.ref.inj q)) (by decide) (by decide) ?_
        show own_S p e below s₁ (mkF m 7 #[.val (.ref r0), .val (.ref r1), .unset] []) _
        refine XS.aloadN X0.here hx rfl (hb hby d6_7) rfl rfl ?_
        exact k
      obtain ⟨T73, X73, e73, st73⟩ := instY X0 hx hZ hown (hw _ (List.mem_of_getElem? (i := 68) rfl)) e0 (Ins.self Eb) (g := (mkF m 8 #[.val (.ref r0), .val (.ref r1), .unset] [(.ref r1)])) rfl rfl (hb hby d6_8)
      have K73 : own_K p e below SE T73 (mkF m 11 #[.val (.ref r0), .val (.ref r1), .unset] [(.int (1 : Int32))]) := fun t k => K72 _ (st73 _ k)
      have K74 : own_K p e below SE T73 (mkF m 15 #[.val (.ref r0), .val (.ref r1), .unset] [(.ref r1)]) := by
        intro t k
        refine K73 _ ?_
        refine XS.ifNo X73.here hx rfl (hb hby d6_11) rfl (XT.i0_eq_f (by decide : ¬ ((1 : Int32) = 0))) ?_
        show own_S p e below T73 (mkF m 14 #[.val (.ref r0), .val (.ref r1), .unset] []) _
        refine XS.aloadN X73.here hx rfl (hb hby d6_14) rfl rfl ?_
        exact k
      obtain ⟨T75, X75, e75, st75⟩ := castY X73 hx hZ hown (hw _ (List.mem_of_getElem? (i := 68) rfl)) e73 (Ins.self Eb) (g := (mkF m 15 #[.val (.ref r0), .val (.ref r1), .unset] [(.ref r1)])) rfl rfl (hb hby d6_15)
      have K75 : own_K p e below SE T75 (mkF m 18 #[.val (.ref r0), .val (.ref r1), .unset] [(.ref r1)]) := fun t k => K74 _ (st75 _ k)
      have K76 : own_K p e below SE T75 (mkF m 19 #[.val (.ref r0), .val (.ref r1), .val (.ref r1)] []) := by
        intro t k
        refine K75 _ ?_
        refine XS.astoreN X75.here hx rfl (hb hby d6_18) rfl rfl (l' := #[.val (.ref r0), .val (.ref r1), .val (.ref r1)]) rfl ?_
        exact k
      obtain ⟨T77, X77, e77, st77⟩ := getS2 X75 hx hZ hown (host := "") (Or.inl (hw _ (List.mem_of_getElem? (i := 55) rfl))) Via.refl e75 S_cs (g := (mkF m 19 #[.val (.ref r0), .val (.ref r1), .val (.ref r1)] [])) rfl (hb hby d6_19)
      have K77 : own_K p e below SE T77 (mkF m 22 #[.val (.ref r0), .val (.ref r1), .val (.ref r1)] [(.int G)]) := fun t k => K76 _ (st77 _ k)
      have K78 : own_K p e below SE T77 (mkF m 26 #[.val (.ref r0), .val (.ref r1), .val (.ref r1)] [(.ref r0)]) := by
        intro t k
        refine K77 _ ?_
        refine XS.ifNo X77.here hx rfl (hb hby d6_22) rfl (XT.i0_eq_f hG) ?_
        show own_S p e below T77 (mkF m 25 #[.val (.ref r0), .val (.ref r1), .val (.ref r1)] []) _
        refine XS.aloadN X77.here hx rfl (hb hby d6_25) rfl rfl ?_
        exact k
      obtain ⟨T79, X79, e79, st79⟩ := getF X77 hx hZ hown (host := "") (Or.inl (hw _ (List.mem_of_getElem? (i := 66) rfl))) Via.refl e77 Ca (g := (mkF m 26 #[.val (.ref r0), .val (.ref r1), .val (.ref r1)] [(.ref r0)])) rfl rfl (hb hby d6_26)
      have K79 : own_K p e below SE T79 (mkF m 29 #[.val (.ref r0), .val (.ref r1), .val (.ref r1)] [(.int (0 : Int32))]) := fun t k => K78 _ (st79 _ k)
      have K80 : own_K p e below SE T79 (mkF m 30 #[.val (.ref r0), .val (.ref r1), .val (.ref r1)] [(.ref r1), (.int (0 : Int32))]) := by
        intro t k
        refine K79 _ ?_
        refine XS.aloadN X79.here hx rfl (hb hby d6_29) rfl rfl ?_
        exact k
      obtain ⟨T81, X81, e81, st81⟩ := getF X79 hx hZ hown (host := "") (Or.inl (hw _ (List.mem_of_getElem? (i := 66) rfl))) Via.refl e79 Cb (g := (mkF m 30 #[.val (.ref r0), .val (.ref r1), .val (.ref r1)] [(.ref r1), (.int (0 : Int32))])) rfl rfl (hb hby d6_30)
      have K81 : own_K p e below SE T81 (mkF m 33 #[.val (.ref r0), .val (.ref r1), .val (.ref r1)] [(.int (0 : Int32)), (.int (0 : Int32))]) := fun t k => K80 _ (st81 _ k)
      have K82 : own_K p e below SE T81 (mkF m 37 #[.val (.ref r0), .val (.ref r1), .val (.ref r1)] [(.ref r0)]) := by
        intro t k
        refine K81 _ ?_
        refine XS.icmpNo X81.here hx rfl (hb hby d6_33) rfl (XT.ii_ne_f (by decide : (0 : Int32) = (0 : Int32))) ?_
        show own_S p e below T81 (mkF m 36 #[.val (.ref r0), .val (.ref r1), .val (.ref r1)] []) _
        refine XS.aloadN X81.here hx rfl (hb hby d6_36) rfl rfl ?_
        exact k
      obtain ⟨T83, X83, e83, st83⟩ := getF X81 hx hZ hown (host := "") (Or.inl (hw _ (List.mem_of_getElem? (i := 67) rfl))) Via.refl e81 Va (g := (mkF m 37 #[.val (.ref r0), .val (.ref r1), .val (.ref r1)] [(.ref r0)])) rfl rfl (hb hby d6_37)
      have K83 : own_K p e below SE T83 (mkF m 40 #[.val (.ref r0), .val (.ref r1), .val (.ref r1)] [(.ref da)]) := fun t k => K82 _ (st83 _ k)
      have K84 : own_K p e below SE T83 (mkF m 41 #[.val (.ref r0), .val (.ref r1), .val (.ref r1)] [(.ref r1), (.ref da)]) := by
        intro t k
        refine K83 _ ?_
        refine XS.aloadN X83.here hx rfl (hb hby d6_40) rfl rfl ?_
        exact k
      obtain ⟨T85, X85, e85, st85⟩ := getF X83 hx hZ hown (host := "") (Or.inl (hw _ (List.mem_of_getElem? (i := 67) rfl))) Via.refl e83 Vb (g := (mkF m 41 #[.val (.ref r0), .val (.ref r1), .val (.ref r1)] [(.ref r1), (.ref da)])) rfl rfl (hb hby d6_41)
      have K85 : own_K p e below SE T85 (mkF m 44 #[.val (.ref r0), .val (.ref r1), .val (.ref r1)] [(.ref db), (.ref da)]) := fun t k => K84 _ (st85 _ k)
      obtain ⟨_, _, ⟨T86, L86, k86, n86⟩, -, X86, ⟨Lc86, hQ86, l86, y86, z86⟩, st86⟩ := Jvm.LawKit.callS X85 hx (y := (⟨"java/lang/StringLatin1", "equals", "([B[B)Z"⟩ : MethodName)) hown (mvT hZ (hw _ (List.mem_of_getElem? (i := 69) rfl))) (mvT hZ (hw _ (List.mem_of_getElem? (i := 70) rfl))) (mvT hZ (hw _ (List.mem_of_getElem? (i := 71) rfl))) (mvT hZ (hw _ (List.mem_of_getElem? (i := 72) rfl))) (by decide) (backOf (W := 0) (rmleq11 l Z a0 hw [] da db ka kb (((cx).toInt8.toInt32).toInt8.toInt32) (((dx).toInt8.toInt32).toInt8.toInt32) h0 n0 Z0 Aa Ab) hZ (hw _ (List.mem_of_getElem? (i := 72) rfl)) (hw _ (List.mem_of_getElem? (i := 71) rfl)) (by decide) (by decide)) (g := (mkF m 44 #[.val (.ref r0), .val (.ref r1), .val (.ref r1)] [(.ref db), (.ref da)])) rfl (by rw [hml]; rfl) (argsL := [(.ref da), (.ref db)]) (rest := []) (lenOf pd_seq_0 rfl) rfl (by show 2 * 0 + _ ≤ _; exact Nat.le_of_eq rfl) (hb hby d6_44) (fun _ _ => ⟨rfl, e85, (by decide : 0 + 0 ≤ _), (by decide : 0 + 0 ≤ _)⟩)
      dsimp only [Pt.U, Pt.locs, Pt.cells, Pt.slots] at X86 l86 y86 z86 st86 hQ86
      rw [y86, z86] at X86
      obtain ⟨rfl, Nq86, e86⟩ := hQ86
      have N86 : Fr n0 L86 := by rw [l86]; exact Fr.app N0 Nq86
      have K86 : own_K p e below SE T86 (mkF m 47 #[.val (.ref r0), .val (.ref r1), .val (.ref r1)] [(.int (if ((cx).toInt8.toInt32).toInt8.toInt32 = ((dx).toInt8.toInt32).toInt8.toInt32 then (1 : Int32) else (0 : Int32)))]) := fun t k => K85 _ (st86 _ k)
      by_cases c47_87 : (if ((cx).toInt8.toInt32).toInt8.toInt32 = ((dx).toInt8.toInt32).toInt8.toInt32 then (1 : Int32) else (0 : Int32)) = 0
      · skip
        have K88 : own_K p e below SE T86 (mkF m 55 #[.val (.ref r0), .val (.ref r1), .val (.ref r1)] [(.int (0 : Int32))]) := by
          intro t k
          refine K86 _ ?_
          refine XS.ifYes X86.here hx rfl (pc0 := 47) (pc' := 54) rfl (hb hby d6_47) rfl (XT.i0_eq_t c47_87) (by decide) (by decide) ?_
          show own_S p e below T86 (mkF m 54 #[.val (.ref r0), .val (.ref r1), .val (.ref r1)] []) _
          refine XS.iconst X86.here hx rfl (hb hby d6_54) ?_
          exact k
        obtain ⟨fs, hr, hrun, hended, hW, hsame⟩ := X86.leave (v := some (.int (0 : Int32))) (fun h => by rw [Bd.returns] at h; cases h)
        refine ⟨_, _, K88 _ ?_, hrun, hended, _, _, rfl, ?_, ⟨_, rfl⟩, hW, hsame.mono (by decide) (by decide)⟩
        · exact retN X86 hx (t := .boolean) Bd.returns (by simp) (hb hby d6_55) hr
        · show Qseq Z r0 r1 G cn cx cy dn dx dy h0 n0 _ T86.heap _
          rw [e86]
          exact ⟨(by rw [hn, hm, own_val1 cx cy dx dy, c47_87]), N86, rfl⟩
      · skip
        have K89 : own_K p e below SE T86 (mkF m 55 #[.val (.ref r0), .val (.ref r1), .val (.ref r1)] [(.int (1 : Int32))]) := by
          intro t k
          refine K86 _ ?_
          refine XS.ifNo X86.here hx rfl (hb hby d6_47) rfl (XT.i0_eq_f c47_87) ?_
          show own_S p e below T86 (mkF m 50 #[.val (.ref r0), .val (.ref r1), .val (.ref r1)] []) _
          refine XS.iconst X86.here hx rfl (hb hby d6_50) ?_
          show own_S p e below T86 (mkF m 51 #[.val (.ref r0), .val (.ref r1), .val (.ref r1)] [(.int (1 : Int32))]) _
          refine XS.goto X86.here hx rfl (pc0 := 51) (pc' := 55) rfl (hb hby d6_51) (by decide) (by decide) ?_
          exact k
        obtain ⟨fs, hr, hrun, hended, hW, hsame⟩ := X86.leave (v := some (.int (1 : Int32))) (fun h => by rw [Bd.returns] at h; cases h)
        refine ⟨_, _, K89 _ ?_, hrun, hended, _, _, rfl, ?_, ⟨_, rfl⟩, hW, hsame.mono (by decide) (by decide)⟩
        · exact retN X86 hx (t := .boolean) Bd.returns (by simp) (hb hby d6_55) hr
        · show Qseq Z r0 r1 G cn cx cy dn dx dy h0 n0 _ T86.heap _
          rw [e86]
          exact ⟨(by
              rw [hn, hm, own_val1 cx cy dx dy]
              rcases own_01_1 cx cy dx dy with w | w
              · exact absurd w c47_87
              · rw [w]), N86, rfl⟩
  · skip
    rw [hn, own_bl1] at Aa
    rw [hm, own_bl2] at Ab
    have K90 : own_K p e below SE s₁ (mkF m 2 #[.val (.ref r0), .val (.ref r1), .unset] [(.ref r1), (.ref r0)]) := by
      intro t k
      refine K0 _ ?_
      refine XS.aloadN X0.here hx rfl (hb hby d6_0) rfl rfl ?_
      show own_S p e below s₁ (mkF m 1 #[.val (.ref r0), .val (.ref r1), .unset] [(.ref r0)]) _
      refine XS.aloadN X0.here hx rfl (hb hby d6_1) rfl rfl ?_
      exact k
    by_cases cab : r0 = r1
    · skip
      have Vb' : Fld Z h0 r0 "java/lang/String" "value" "[B" (.ref db) := by rw [cab]; exact Vb
      have dd : da = db := Value.ref.inj (own_fldfun Va Vb')
      have Ab' : Arv Z h0 da kb .byte (2 : Int32) [(.int ((dx).toInt8.toInt32).toInt8.toInt32), (.int ((dy).toInt8.toInt32).toInt8.toInt32)] (.int (0 : Int32)) := by rw [dd]; exact Ab
      have af := own_arvfun Aa Ab'
      exact absurd af.1 (by decide)
    · skip
      have K91 : own_K p e below SE s₁ (mkF m 8 #[.val (.ref r0), .val (.ref r1), .unset] [(.ref r1)]) := by
        intro t k
        refine K90 _ ?_
        refine Jvm.RoadKit.acmp (g := (mkF m 2 #[.val (.ref r0), .val (.ref r1), .unset] [(.ref r1), (.ref r0)])) X0 hx rfl rfl rfl (pc0 := 2) (pc' := 7) (same := false) rfl (hb hby d6_2) rfl (decide_eq_false fun q => cab (Value.ref.inj q)) (by decide) (by decide) ?_
        show own_S p e below s₁ (mkF m 7 #[.val (.ref r0), .val (.ref r1), .unset] []) _
        refine XS.aloadN X0.here hx rfl (hb hby d6_7) rfl rfl ?_
        exact k
      obtain ⟨T92, X92, e92, st92⟩ := instY X0 hx hZ hown (hw _ (List.mem_of_getElem? (i := 68) rfl)) e0 (Ins.self Eb) (g := (mkF m 8 #[.val (.ref r0), .val (.ref r1), .unset] [(.ref r1)])) rfl rfl (hb hby d6_8)
      have K92 : own_K p e below SE T92 (mkF m 11 #[.val (.ref r0), .val (.ref r1), .unset] [(.int (1 : Int32))]) := fun t k => K91 _ (st92 _ k)
      have K93 : own_K p e below SE T92 (mkF m 15 #[.val (.ref r0), .val (.ref r1), .unset] [(.ref r1)]) := by
        intro t k
        refine K92 _ ?_
        refine XS.ifNo X92.here hx rfl (hb hby d6_11) rfl (XT.i0_eq_f (by decide : ¬ ((1 : Int32) = 0))) ?_
        show own_S p e below T92 (mkF m 14 #[.val (.ref r0), .val (.ref r1), .unset] []) _
        refine XS.aloadN X92.here hx rfl (hb hby d6_14) rfl rfl ?_
        exact k
      obtain ⟨T94, X94, e94, st94⟩ := castY X92 hx hZ hown (hw _ (List.mem_of_getElem? (i := 68) rfl)) e92 (Ins.self Eb) (g := (mkF m 15 #[.val (.ref r0), .val (.ref r1), .unset] [(.ref r1)])) rfl rfl (hb hby d6_15)
      have K94 : own_K p e below SE T94 (mkF m 18 #[.val (.ref r0), .val (.ref r1), .unset] [(.ref r1)]) := fun t k => K93 _ (st94 _ k)
      have K95 : own_K p e below SE T94 (mkF m 19 #[.val (.ref r0), .val (.ref r1), .val (.ref r1)] []) := by
        intro t k
        refine K94 _ ?_
        refine XS.astoreN X94.here hx rfl (hb hby d6_18) rfl rfl (l' := #[.val (.ref r0), .val (.ref r1), .val (.ref r1)]) rfl ?_
        exact k
      obtain ⟨T96, X96, e96, st96⟩ := getS2 X94 hx hZ hown (host := "") (Or.inl (hw _ (List.mem_of_getElem? (i := 55) rfl))) Via.refl e94 S_cs (g := (mkF m 19 #[.val (.ref r0), .val (.ref r1), .val (.ref r1)] [])) rfl (hb hby d6_19)
      have K96 : own_K p e below SE T96 (mkF m 22 #[.val (.ref r0), .val (.ref r1), .val (.ref r1)] [(.int G)]) := fun t k => K95 _ (st96 _ k)
      have K97 : own_K p e below SE T96 (mkF m 26 #[.val (.ref r0), .val (.ref r1), .val (.ref r1)] [(.ref r0)]) := by
        intro t k
        refine K96 _ ?_
        refine XS.ifNo X96.here hx rfl (hb hby d6_22) rfl (XT.i0_eq_f hG) ?_
        show own_S p e below T96 (mkF m 25 #[.val (.ref r0), .val (.ref r1), .val (.ref r1)] []) _
        refine XS.aloadN X96.here hx rfl (hb hby d6_25) rfl rfl ?_
        exact k
      obtain ⟨T98, X98, e98, st98⟩ := getF X96 hx hZ hown (host := "") (Or.inl (hw _ (List.mem_of_getElem? (i := 66) rfl))) Via.refl e96 Ca (g := (mkF m 26 #[.val (.ref r0), .val (.ref r1), .val (.ref r1)] [(.ref r0)])) rfl rfl (hb hby d6_26)
      have K98 : own_K p e below SE T98 (mkF m 29 #[.val (.ref r0), .val (.ref r1), .val (.ref r1)] [(.int (0 : Int32))]) := fun t k => K97 _ (st98 _ k)
      have K99 : own_K p e below SE T98 (mkF m 30 #[.val (.ref r0), .val (.ref r1), .val (.ref r1)] [(.ref r1), (.int (0 : Int32))]) := by
        intro t k
        refine K98 _ ?_
        refine XS.aloadN X98.here hx rfl (hb hby d6_29) rfl rfl ?_
        exact k
      obtain ⟨T100, X100, e100, st100⟩ := getF X98 hx hZ hown (host := "") (Or.inl (hw _ (List.mem_of_getElem? (i := 66) rfl))) Via.refl e98 Cb (g := (mkF m 30 #[.val (.ref r0), .val (.ref r1), .val (.ref r1)] [(.ref r1), (.int (0 : Int32))])) rfl rfl (hb hby d6_30)
      have K100 : own_K p e below SE T100 (mkF m 33 #[.val (.ref r0), .val (.ref r1), .val (.ref r1)] [(.int (0 : Int32)), (.int (0 : Int32))]) := fun t k => K99 _ (st100 _ k)
      have K101 : own_K p e below SE T100 (mkF m 37 #[.val (.ref r0), .val (.ref r1), .val (.ref r1)] [(.ref r0)]) := by
        intro t k
        refine K100 _ ?_
        refine XS.icmpNo X100.here hx rfl (hb hby d6_33) rfl (XT.ii_ne_f (by decide : (0 : Int32) = (0 : Int32))) ?_
        show own_S p e below T100 (mkF m 36 #[.val (.ref r0), .val (.ref r1), .val (.ref r1)] []) _
        refine XS.aloadN X100.here hx rfl (hb hby d6_36) rfl rfl ?_
        exact k
      obtain ⟨T102, X102, e102, st102⟩ := getF X100 hx hZ hown (host := "") (Or.inl (hw _ (List.mem_of_getElem? (i := 67) rfl))) Via.refl e100 Va (g := (mkF m 37 #[.val (.ref r0), .val (.ref r1), .val (.ref r1)] [(.ref r0)])) rfl rfl (hb hby d6_37)
      have K102 : own_K p e below SE T102 (mkF m 40 #[.val (.ref r0), .val (.ref r1), .val (.ref r1)] [(.ref da)]) := fun t k => K101 _ (st102 _ k)
      have K103 : own_K p e below SE T102 (mkF m 41 #[.val (.ref r0), .val (.ref r1), .val (.ref r1)] [(.ref r1), (.ref da)]) := by
        intro t k
        refine K102 _ ?_
        refine XS.aloadN X102.here hx rfl (hb hby d6_40) rfl rfl ?_
        exact k
      obtain ⟨T104, X104, e104, st104⟩ := getF X102 hx hZ hown (host := "") (Or.inl (hw _ (List.mem_of_getElem? (i := 67) rfl))) Via.refl e102 Vb (g := (mkF m 41 #[.val (.ref r0), .val (.ref r1), .val (.ref r1)] [(.ref r1), (.ref da)])) rfl rfl (hb hby d6_41)
      have K104 : own_K p e below SE T104 (mkF m 44 #[.val (.ref r0), .val (.ref r1), .val (.ref r1)] [(.ref db), (.ref da)]) := fun t k => K103 _ (st104 _ k)
      obtain ⟨_, _, ⟨T105, L105, k105, n105⟩, -, X105, ⟨Lc105, hQ105, l105, y105, z105⟩, st105⟩ := Jvm.LawKit.callS X104 hx (y := (⟨"java/lang/StringLatin1", "equals", "([B[B)Z"⟩ : MethodName)) hown (mvT hZ (hw _ (List.mem_of_getElem? (i := 69) rfl))) (mvT hZ (hw _ (List.mem_of_getElem? (i := 70) rfl))) (mvT hZ (hw _ (List.mem_of_getElem? (i := 71) rfl))) (mvT hZ (hw _ (List.mem_of_getElem? (i := 72) rfl))) (by decide) (backOf (W := 0) (rmleq12 l Z a0 hw [] da db ka kb (((cx).toInt8.toInt32).toInt8.toInt32) (((dx).toInt8.toInt32).toInt8.toInt32) (((dy).toInt8.toInt32).toInt8.toInt32) h0 n0 Z0 Aa Ab) hZ (hw _ (List.mem_of_getElem? (i := 72) rfl)) (hw _ (List.mem_of_getElem? (i := 71) rfl)) (by decide) (by decide)) (g := (mkF m 44 #[.val (.ref r0), .val (.ref r1), .val (.ref r1)] [(.ref db), (.ref da)])) rfl (by rw [hml]; rfl) (argsL := [(.ref da), (.ref db)]) (rest := []) (lenOf pd_seq_0 rfl) rfl (by show 2 * 0 + _ ≤ _; exact Nat.le_of_eq rfl) (hb hby d6_44) (fun _ _ => ⟨rfl, e104, (by decide : 0 + 0 ≤ _), (by decide : 0 + 0 ≤ _)⟩)
      dsimp only [Pt.U, Pt.locs, Pt.cells, Pt.slots] at X105 l105 y105 z105 st105 hQ105
      rw [y105, z105] at X105
      obtain ⟨rfl, Nq105, e105⟩ := hQ105
      have N105 : Fr n0 L105 := by rw [l105]; exact Fr.app N0 Nq105
      have K105 : own_K p e below SE T105 (mkF m 47 #[.val (.ref r0), .val (.ref r1), .val (.ref r1)] [(.int (0 : Int32))]) := fun t k => K104 _ (st105 _ k)
      have K106 : own_K p e below SE T105 (mkF m 55 #[.val (.ref r0), .val (.ref r1), .val (.ref r1)] [(.int (0 : Int32))]) := by
        intro t k
        refine K105 _ ?_
        refine XS.ifYes X105.here hx rfl (pc0 := 47) (pc' := 54) rfl (hb hby d6_47) rfl (XT.i0_eq_t (by decide : (0 : Int32) = 0)) (by decide) (by decide) ?_
        show own_S p e below T105 (mkF m 54 #[.val (.ref r0), .val (.ref r1), .val (.ref r1)] []) _
        refine XS.iconst X105.here hx rfl (hb hby d6_54) ?_
        exact k
      obtain ⟨fs, hr, hrun, hended, hW, hsame⟩ := X105.leave (v := some (.int (0 : Int32))) (fun h => by rw [Bd.returns] at h; cases h)
      refine ⟨_, _, K106 _ ?_, hrun, hended, _, _, rfl, ?_, ⟨_, rfl⟩, hW, hsame.mono (by decide) (by decide)⟩
      · exact retN X105 hx (t := .boolean) Bd.returns (by simp) (hb hby d6_55) hr
      · show Qseq Z r0 r1 G cn cx cy dn dx dy h0 n0 _ T105.heap _
        rw [e105]
        exact ⟨(by rw [hn, hm]; exact own_fin12 cx cy dx dy), N105, rfl⟩
  · skip
    rw [hn, own_bl2] at Aa
    rw [hm, own_bl0] at Ab
    have K107 : own_K p e below SE s₁ (mkF m 2 #[.val (.ref r0), .val (.ref r1), .unset] [(.ref r1), (.ref r0)]) := by
      intro t k
      refine K0 _ ?_
      refine XS.aloadN X0.here hx rfl (hb hby d6_0) rfl rfl ?_
      show own_S p e below s₁ (mkF m 1 #[.val (.ref r0), .val (.ref r1), .unset] [(.ref r0)]) _
      refine XS.aloadN X0.here hx rfl (hb hby d6_1) rfl rfl ?_
      exact k
    by_cases cab : r0 = r1
    · skip
      have Vb' : Fld Z h0 r0 "java/lang/String" "value" "[B" (.ref db) := by rw [cab]; exact Vb
      have dd : da = db := Value.ref.inj (own_fldfun Va Vb')
      have Ab' : Arv Z h0 da kb .byte (0 : Int32) [] (.int (0 : Int32)) := by rw [dd]; exact Ab
      have af := own_arvfun Aa Ab'
      exact absurd af.1 (by decide)
    · skip
      have K108 : own_K p e below SE s₁ (mkF m 8 #[.val (.ref r0), .val (.ref r1), .unset] [(.ref r1)]) := by
        intro t k
        refine K107 _ ?_
        refine Jvm.RoadKit.acmp (g := (mkF m 2 #[.val (.ref r0), .val (.ref r1), .unset] [(.ref r1), (.ref r0)])) X0 hx rfl rfl rfl (pc0 := 2) (pc' := 7) (same := false) rfl (hb hby d6_2) rfl (decide_eq_false fun q => cab (Value.ref.inj q)) (by decide) (by decide) ?_
        show own_S p e below s₁ (mkF m 7 #[.val (.ref r0), .val (.ref r1), .unset] []) _
        refine XS.aloadN X0.here hx rfl (hb hby d6_7) rfl rfl ?_
        exact k
      obtain ⟨T109, X109, e109, st109⟩ := instY X0 hx hZ hown (hw _ (List.mem_of_getElem? (i := 68) rfl)) e0 (Ins.self Eb) (g := (mkF m 8 #[.val (.ref r0), .val (.ref r1), .unset] [(.ref r1)])) rfl rfl (hb hby d6_8)
      have K109 : own_K p e below SE T109 (mkF m 11 #[.val (.ref r0), .val (.ref r1), .unset] [(.int (1 : Int32))]) := fun t k => K108 _ (st109 _ k)
      have K110 : own_K p e below SE T109 (mkF m 15 #[.val (.ref r0), .val (.ref r1), .unset] [(.ref r1)]) := by
        intro t k
        refine K109 _ ?_
        refine XS.ifNo X109.here hx rfl (hb hby d6_11) rfl (XT.i0_eq_f (by decide : ¬ ((1 : Int32) = 0))) ?_
        show own_S p e below T109 (mkF m 14 #[.val (.ref r0), .val (.ref r1), .unset] []) _
        refine XS.aloadN X109.here hx rfl (hb hby d6_14) rfl rfl ?_
        exact k
      obtain ⟨T111, X111, e111, st111⟩ := castY X109 hx hZ hown (hw _ (List.mem_of_getElem? (i := 68) rfl)) e109 (Ins.self Eb) (g := (mkF m 15 #[.val (.ref r0), .val (.ref r1), .unset] [(.ref r1)])) rfl rfl (hb hby d6_15)
      have K111 : own_K p e below SE T111 (mkF m 18 #[.val (.ref r0), .val (.ref r1), .unset] [(.ref r1)]) := fun t k => K110 _ (st111 _ k)
      have K112 : own_K p e below SE T111 (mkF m 19 #[.val (.ref r0), .val (.ref r1), .val (.ref r1)] []) := by
        intro t k
        refine K111 _ ?_
        refine XS.astoreN X111.here hx rfl (hb hby d6_18) rfl rfl (l' := #[.val (.ref r0), .val (.ref r1), .val (.ref r1)]) rfl ?_
        exact k
      obtain ⟨T113, X113, e113, st113⟩ := getS2 X111 hx hZ hown (host := "") (Or.inl (hw _ (List.mem_of_getElem? (i := 55) rfl))) Via.refl e111 S_cs (g := (mkF m 19 #[.val (.ref r0), .val (.ref r1), .val (.ref r1)] [])) rfl (hb hby d6_19)
      have K113 : own_K p e below SE T113 (mkF m 22 #[.val (.ref r0), .val (.ref r1), .val (.ref r1)] [(.int G)]) := fun t k => K112 _ (st113 _ k)
      have K114 : own_K p e below SE T113 (mkF m 26 #[.val (.ref r0), .val (.ref r1), .val (.ref r1)] [(.ref r0)]) := by
        intro t k
        refine K113 _ ?_
        refine XS.ifNo X113.here hx rfl (hb hby d6_22) rfl (XT.i0_eq_f hG) ?_
        show own_S p e below T113 (mkF m 25 #[.val (.ref r0), .val (.ref r1), .val (.ref r1)] []) _
        refine XS.aloadN X113.here hx rfl (hb hby d6_25) rfl rfl ?_
        exact k
      obtain ⟨T115, X115, e115, st115⟩ := getF X113 hx hZ hown (host := "") (Or.inl (hw _ (List.mem_of_getElem? (i := 66) rfl))) Via.refl e113 Ca (g := (mkF m 26 #[.val (.ref r0), .val (.ref r1), .val (.ref r1)] [(.ref r0)])) rfl rfl (hb hby d6_26)
      have K115 : own_K p e below SE T115 (mkF m 29 #[.val (.ref r0), .val (.ref r1), .val (.ref r1)] [(.int (0 : Int32))]) := fun t k => K114 _ (st115 _ k)
      have K116 : own_K p e below SE T115 (mkF m 30 #[.val (.ref r0), .val (.ref r1), .val (.ref r1)] [(.ref r1), (.int (0 : Int32))]) := by
        intro t k
        refine K115 _ ?_
        refine XS.aloadN X115.here hx rfl (hb hby d6_29) rfl rfl ?_
        exact k
      obtain ⟨T117, X117, e117, st117⟩ := getF X115 hx hZ hown (host := "") (Or.inl (hw _ (List.mem_of_getElem? (i := 66) rfl))) Via.refl e115 Cb (g := (mkF m 30 #[.val (.ref r0), .val (.ref r1), .val (.ref r1)] [(.ref r1), (.int (0 : Int32))])) rfl rfl (hb hby d6_30)
      have K117 : own_K p e below SE T117 (mkF m 33 #[.val (.ref r0), .val (.ref r1), .val (.ref r1)] [(.int (0 : Int32)), (.int (0 : Int32))]) := fun t k => K116 _ (st117 _ k)
      have K118 : own_K p e below SE T117 (mkF m 37 #[.val (.ref r0), .val (.ref r1), .val (.ref r1)] [(.ref r0)]) := by
        intro t k
        refine K117 _ ?_
        refine XS.icmpNo X117.here hx rfl (hb hby d6_33) rfl (XT.ii_ne_f (by decide : (0 : Int32) = (0 : Int32))) ?_
        show own_S p e below T117 (mkF m 36 #[.val (.ref r0), .val (.ref r1), .val (.ref r1)] []) _
        refine XS.aloadN X117.here hx rfl (hb hby d6_36) rfl rfl ?_
        exact k
      obtain ⟨T119, X119, e119, st119⟩ := getF X117 hx hZ hown (host := "") (Or.inl (hw _ (List.mem_of_getElem? (i := 67) rfl))) Via.refl e117 Va (g := (mkF m 37 #[.val (.ref r0), .val (.ref r1), .val (.ref r1)] [(.ref r0)])) rfl rfl (hb hby d6_37)
      have K119 : own_K p e below SE T119 (mkF m 40 #[.val (.ref r0), .val (.ref r1), .val (.ref r1)] [(.ref da)]) := fun t k => K118 _ (st119 _ k)
      have K120 : own_K p e below SE T119 (mkF m 41 #[.val (.ref r0), .val (.ref r1), .val (.ref r1)] [(.ref r1), (.ref da)]) := by
        intro t k
        refine K119 _ ?_
        refine XS.aloadN X119.here hx rfl (hb hby d6_40) rfl rfl ?_
        exact k
      obtain ⟨T121, X121, e121, st121⟩ := getF X119 hx hZ hown (host := "") (Or.inl (hw _ (List.mem_of_getElem? (i := 67) rfl))) Via.refl e119 Vb (g := (mkF m 41 #[.val (.ref r0), .val (.ref r1), .val (.ref r1)] [(.ref r1), (.ref da)])) rfl rfl (hb hby d6_41)
      have K121 : own_K p e below SE T121 (mkF m 44 #[.val (.ref r0), .val (.ref r1), .val (.ref r1)] [(.ref db), (.ref da)]) := fun t k => K120 _ (st121 _ k)
      obtain ⟨_, _, ⟨T122, L122, k122, n122⟩, -, X122, ⟨Lc122, hQ122, l122, y122, z122⟩, st122⟩ := Jvm.LawKit.callS X121 hx (y := (⟨"java/lang/StringLatin1", "equals", "([B[B)Z"⟩ : MethodName)) hown (mvT hZ (hw _ (List.mem_of_getElem? (i := 69) rfl))) (mvT hZ (hw _ (List.mem_of_getElem? (i := 70) rfl))) (mvT hZ (hw _ (List.mem_of_getElem? (i := 71) rfl))) (mvT hZ (hw _ (List.mem_of_getElem? (i := 72) rfl))) (by decide) (backOf (W := 0) (rmleq20 l Z a0 hw [] da db ka kb (((cx).toInt8.toInt32).toInt8.toInt32) (((cy).toInt8.toInt32).toInt8.toInt32) h0 n0 Z0 Aa Ab) hZ (hw _ (List.mem_of_getElem? (i := 72) rfl)) (hw _ (List.mem_of_getElem? (i := 71) rfl)) (by decide) (by decide)) (g := (mkF m 44 #[.val (.ref r0), .val (.ref r1), .val (.ref r1)] [(.ref db), (.ref da)])) rfl (by rw [hml]; rfl) (argsL := [(.ref da), (.ref db)]) (rest := []) (lenOf pd_seq_0 rfl) rfl (by show 2 * 0 + _ ≤ _; exact Nat.le_of_eq rfl) (hb hby d6_44) (fun _ _ => ⟨rfl, e121, (by decide : 0 + 0 ≤ _), (by decide : 0 + 0 ≤ _)⟩)
      dsimp only [Pt.U, Pt.locs, Pt.cells, Pt.slots] at X122 l122 y122 z122 st122 hQ122
      rw [y122, z122] at X122
      obtain ⟨rfl, Nq122, e122⟩ := hQ122
      have N122 : Fr n0 L122 := by rw [l122]; exact Fr.app N0 Nq122
      have K122 : own_K p e below SE T122 (mkF m 47 #[.val (.ref r0), .val (.ref r1), .val (.ref r1)] [(.int (0 : Int32))]) := fun t k => K121 _ (st122 _ k)
      have K123 : own_K p e below SE T122 (mkF m 55 #[.val (.ref r0), .val (.ref r1), .val (.ref r1)] [(.int (0 : Int32))]) := by
        intro t k
        refine K122 _ ?_
        refine XS.ifYes X122.here hx rfl (pc0 := 47) (pc' := 54) rfl (hb hby d6_47) rfl (XT.i0_eq_t (by decide : (0 : Int32) = 0)) (by decide) (by decide) ?_
        show own_S p e below T122 (mkF m 54 #[.val (.ref r0), .val (.ref r1), .val (.ref r1)] []) _
        refine XS.iconst X122.here hx rfl (hb hby d6_54) ?_
        exact k
      obtain ⟨fs, hr, hrun, hended, hW, hsame⟩ := X122.leave (v := some (.int (0 : Int32))) (fun h => by rw [Bd.returns] at h; cases h)
      refine ⟨_, _, K123 _ ?_, hrun, hended, _, _, rfl, ?_, ⟨_, rfl⟩, hW, hsame.mono (by decide) (by decide)⟩
      · exact retN X122 hx (t := .boolean) Bd.returns (by simp) (hb hby d6_55) hr
      · show Qseq Z r0 r1 G cn cx cy dn dx dy h0 n0 _ T122.heap _
        rw [e122]
        exact ⟨(by rw [hn, hm]; exact own_fin20 cx cy dx dy), N122, rfl⟩
  · skip
    rw [hn, own_bl2] at Aa
    rw [hm, own_bl1] at Ab
    have K124 : own_K p e below SE s₁ (mkF m 2 #[.val (.ref r0), .val (.ref r1), .unset] [(.ref r1), (.ref r0)]) := by
      intro t k
      refine K0 _ ?_
      refine XS.aloadN X0.here hx rfl (hb hby d6_0) rfl rfl ?_
      show own_S p e below s₁ (mkF m 1 #[.val (.ref r0), .val (.ref r1), .unset] [(.ref r0)]) _
      refine XS.aloadN X0.here hx rfl (hb hby d6_1) rfl rfl ?_
      exact k
    by_cases cab : r0 = r1
    · skip
      have Vb' : Fld Z h0 r0 "java/lang/String" "value" "[B" (.ref db) := by rw [cab]; exact Vb
      have dd : da = db := Value.ref.inj (own_fldfun Va Vb')
      have Ab' : Arv Z h0 da kb .byte (1 : Int32) [(.int ((dx).toInt8.toInt32).toInt8.toInt32)] (.int (0 : Int32)) := by rw [dd]; exact Ab
      have af := own_arvfun Aa Ab'
      exact absurd af.1 (by decide)
    · skip
      have K125 : own_K p e below SE s₁ (mkF m 8 #[.val (.ref r0), .val (.ref r1), .unset] [(.ref r1)]) := by
        intro t k
        refine K124 _ ?_
        refine Jvm.RoadKit.acmp (g := (mkF m 2 #[.val (.ref r0), .val (.ref r1), .unset] [(.ref r1), (.ref r0)])) X0 hx rfl rfl rfl (pc0 := 2) (pc' := 7) (same := false) rfl (hb hby d6_2) rfl (decide_eq_false fun q => cab (Value.ref.inj q)) (by decide) (by decide) ?_
        show own_S p e below s₁ (mkF m 7 #[.val (.ref r0), .val (.ref r1), .unset] []) _
        refine XS.aloadN X0.here hx rfl (hb hby d6_7) rfl rfl ?_
        exact k
      obtain ⟨T126, X126, e126, st126⟩ := instY X0 hx hZ hown (hw _ (List.mem_of_getElem? (i := 68) rfl)) e0 (Ins.self Eb) (g := (mkF m 8 #[.val (.ref r0), .val (.ref r1), .unset] [(.ref r1)])) rfl rfl (hb hby d6_8)
      have K126 : own_K p e below SE T126 (mkF m 11 #[.val (.ref r0), .val (.ref r1), .unset] [(.int (1 : Int32))]) := fun t k => K125 _ (st126 _ k)
      have K127 : own_K p e below SE T126 (mkF m 15 #[.val (.ref r0), .val (.ref r1), .unset] [(.ref r1)]) := by
        intro t k
        refine K126 _ ?_
        refine XS.ifNo X126.here hx rfl (hb hby d6_11) rfl (XT.i0_eq_f (by decide : ¬ ((1 : Int32) = 0))) ?_
        show own_S p e below T126 (mkF m 14 #[.val (.ref r0), .val (.ref r1), .unset] []) _
        refine XS.aloadN X126.here hx rfl (hb hby d6_14) rfl rfl ?_
        exact k
      obtain ⟨T128, X128, e128, st128⟩ := castY X126 hx hZ hown (hw _ (List.mem_of_getElem? (i := 68) rfl)) e126 (Ins.self Eb) (g := (mkF m 15 #[.val (.ref r0), .val (.ref r1), .unset] [(.ref r1)])) rfl rfl (hb hby d6_15)
      have K128 : own_K p e below SE T128 (mkF m 18 #[.val (.ref r0), .val (.ref r1), .unset] [(.ref r1)]) := fun t k => K127 _ (st128 _ k)
      have K129 : own_K p e below SE T128 (mkF m 19 #[.val (.ref r0), .val (.ref r1), .val (.ref r1)] []) := by
        intro t k
        refine K128 _ ?_
        refine XS.astoreN X128.here hx rfl (hb hby d6_18) rfl rfl (l' := #[.val (.ref r0), .val (.ref r1), .val (.ref r1)]) rfl ?_
        exact k
      obtain ⟨T130, X130, e130, st130⟩ := getS2 X128 hx hZ hown (host := "") (Or.inl (hw _ (List.mem_of_getElem? (i := 55) rfl))) Via.refl e128 S_cs (g := (mkF m 19 #[.val (.ref r0), .val (.ref r1), .val (.ref r1)] [])) rfl (hb hby d6_19)
      have K130 : own_K p e below SE T130 (mkF m 22 #[.val (.ref r0), .val (.ref r1), .val (.ref r1)] [(.int G)]) := fun t k => K129 _ (st130 _ k)
      have K131 : own_K p e below SE T130 (mkF m 26 #[.val (.ref r0), .val (.ref r1), .val (.ref r1)] [(.ref r0)]) := by
        intro t k
        refine K130 _ ?_
        refine XS.ifNo X130.here hx rfl (hb hby d6_22) rfl (XT.i0_eq_f hG) ?_
        show own_S p e below T130 (mkF m 25 #[.val (.ref r0), .val (.ref r1), .val (.ref r1)] []) _
        refine XS.aloadN X130.here hx rfl (hb hby d6_25) rfl rfl ?_
        exact k
      obtain ⟨T132, X132, e132, st132⟩ := getF X130 hx hZ hown (host := "") (Or.inl (hw _ (List.mem_of_getElem? (i := 66) rfl))) Via.refl e130 Ca (g := (mkF m 26 #[.val (.ref r0), .val (.ref r1), .val (.ref r1)] [(.ref r0)])) rfl rfl (hb hby d6_26)
      have K132 : own_K p e below SE T132 (mkF m 29 #[.val (.ref r0), .val (.ref r1), .val (.ref r1)] [(.int (0 : Int32))]) := fun t k => K131 _ (st132 _ k)
      have K133 : own_K p e below SE T132 (mkF m 30 #[.val (.ref r0), .val (.ref r1), .val (.ref r1)] [(.ref r1), (.int (0 : Int32))]) := by
        intro t k
        refine K132 _ ?_
        refine XS.aloadN X132.here hx rfl (hb hby d6_29) rfl rfl ?_
        exact k
      obtain ⟨T134, X134, e134, st134⟩ := getF X132 hx hZ hown (host := "") (Or.inl (hw _ (List.mem_of_getElem? (i := 66) rfl))) Via.refl e132 Cb (g := (mkF m 30 #[.val (.ref r0), .val (.ref r1), .val (.ref r1)] [(.ref r1), (.int (0 : Int32))])) rfl rfl (hb hby d6_30)
      have K134 : own_K p e below SE T134 (mkF m 33 #[.val (.ref r0), .val (.ref r1), .val (.ref r1)] [(.int (0 : Int32)), (.int (0 : Int32))]) := fun t k => K133 _ (st134 _ k)
      have K135 : own_K p e below SE T134 (mkF m 37 #[.val (.ref r0), .val (.ref r1), .val (.ref r1)] [(.ref r0)]) := by
        intro t k
        refine K134 _ ?_
        refine XS.icmpNo X134.here hx rfl (hb hby d6_33) rfl (XT.ii_ne_f (by decide : (0 : Int32) = (0 : Int32))) ?_
        show own_S p e below T134 (mkF m 36 #[.val (.ref r0), .val (.ref r1), .val (.ref r1)] []) _
        refine XS.aloadN X134.here hx rfl (hb hby d6_36) rfl rfl ?_
        exact k
      obtain ⟨T136, X136, e136, st136⟩ := getF X134 hx hZ hown (host := "") (Or.inl (hw _ (List.mem_of_getElem? (i := 67) rfl))) Via.refl e134 Va (g := (mkF m 37 #[.val (.ref r0), .val (.ref r1), .val (.ref r1)] [(.ref r0)])) rfl rfl (hb hby d6_37)
      have K136 : own_K p e below SE T136 (mkF m 40 #[.val (.ref r0), .val (.ref r1), .val (.ref r1)] [(.ref da)]) := fun t k => K135 _ (st136 _ k)
      have K137 : own_K p e below SE T136 (mkF m 41 #[.val (.ref r0), .val (.ref r1), .val (.ref r1)] [(.ref r1), (.ref da)]) := by
        intro t k
        refine K136 _ ?_
        refine XS.aloadN X136.here hx rfl (hb hby d6_40) rfl rfl ?_
        exact k
      obtain ⟨T138, X138, e138, st138⟩ := getF X136 hx hZ hown (host := "") (Or.inl (hw _ (List.mem_of_getElem? (i := 67) rfl))) Via.refl e136 Vb (g := (mkF m 41 #[.val (.ref r0), .val (.ref r1), .val (.ref r1)] [(.ref r1), (.ref da)])) rfl rfl (hb hby d6_41)
      have K138 : own_K p e below SE T138 (mkF m 44 #[.val (.ref r0), .val (.ref r1), .val (.ref r1)] [(.ref db), (.ref da)]) := fun t k => K137 _ (st138 _ k)
      obtain ⟨_, _, ⟨T139, L139, k139, n139⟩, -, X139, ⟨Lc139, hQ139, l139, y139, z139⟩, st139⟩ := Jvm.LawKit.callS X138 hx (y := (⟨"java/lang/StringLatin1", "equals", "([B[B)Z"⟩ : MethodName)) hown (mvT hZ (hw _ (List.mem_of_getElem? (i := 69) rfl))) (mvT hZ (hw _ (List.mem_of_getElem? (i := 70) rfl))) (mvT hZ (hw _ (List.mem_of_getElem? (i := 71) rfl))) (mvT hZ (hw _ (List.mem_of_getElem? (i := 72) rfl))) (by decide) (backOf (W := 0) (rmleq21 l Z a0 hw [] da db ka kb (((cx).toInt8.toInt32).toInt8.toInt32) (((cy).toInt8.toInt32).toInt8.toInt32) (((dx).toInt8.toInt32).toInt8.toInt32) h0 n0 Z0 Aa Ab) hZ (hw _ (List.mem_of_getElem? (i := 72) rfl)) (hw _ (List.mem_of_getElem? (i := 71) rfl)) (by decide) (by decide)) (g := (mkF m 44 #[.val (.ref r0), .val (.ref r1), .val (.ref r1)] [(.ref db), (.ref da)])) rfl (by rw [hml]; rfl) (argsL := [(.ref da), (.ref db)]) (rest := []) (lenOf pd_seq_0 rfl) rfl (by show 2 * 0 + _ ≤ _; exact Nat.le_of_eq rfl) (hb hby d6_44) (fun _ _ => ⟨rfl, e138, (by decide : 0 + 0 ≤ _), (by decide : 0 + 0 ≤ _)⟩)
      dsimp only [Pt.U, Pt.locs, Pt.cells, Pt.slots] at X139 l139 y139 z139 st139 hQ139
      rw [y139, z139] at X139
      obtain ⟨rfl, Nq139, e139⟩ := hQ139
      have N139 : Fr n0 L139 := by rw [l139]; exact Fr.app N0 Nq139
      have K139 : own_K p e below SE T139 (mkF m 47 #[.val (.ref r0), .val (.ref r1), .val (.ref r1)] [(.int (0 : Int32))]) := fun t k => K138 _ (st139 _ k)
      have K140 : own_K p e below SE T139 (mkF m 55 #[.val (.ref r0), .val (.ref r1), .val (.ref r1)] [(.int (0 : Int32))]) := by
        intro t k
        refine K139 _ ?_
        refine XS.ifYes X139.here hx rfl (pc0 := 47) (pc' := 54) rfl (hb hby d6_47) rfl (XT.i0_eq_t (by decide : (0 : Int32) = 0)) (by decide) (by decide) ?_
        show own_S p e below T139 (mkF m 54 #[.val (.ref r0), .val (.ref r1), .val (.ref r1)] []) _
        refine XS.iconst X139.here hx rfl (hb hby d6_54) ?_
        exact k
      obtain ⟨fs, hr, hrun, hended, hW, hsame⟩ := X139.leave (v := some (.int (0 : Int32))) (fun h => by rw [Bd.returns] at h; cases h)
      refine ⟨_, _, K140 _ ?_, hrun, hended, _, _, rfl, ?_, ⟨_, rfl⟩, hW, hsame.mono (by decide) (by decide)⟩
      · exact retN X139 hx (t := .boolean) Bd.returns (by simp) (hb hby d6_55) hr
      · show Qseq Z r0 r1 G cn cx cy dn dx dy h0 n0 _ T139.heap _
        rw [e139]
        exact ⟨(by rw [hn, hm]; exact own_fin21 cx cy dx dy), N139, rfl⟩
  · skip
    rw [hn, own_bl2] at Aa
    rw [hm, own_bl2] at Ab
    have K141 : own_K p e below SE s₁ (mkF m 2 #[.val (.ref r0), .val (.ref r1), .unset] [(.ref r1), (.ref r0)]) := by
      intro t k
      refine K0 _ ?_
      refine XS.aloadN X0.here hx rfl (hb hby d6_0) rfl rfl ?_
      show own_S p e below s₁ (mkF m 1 #[.val (.ref r0), .val (.ref r1), .unset] [(.ref r0)]) _
      refine XS.aloadN X0.here hx rfl (hb hby d6_1) rfl rfl ?_
      exact k
    by_cases cab : r0 = r1
    · skip
      have Vb' : Fld Z h0 r0 "java/lang/String" "value" "[B" (.ref db) := by rw [cab]; exact Vb
      have dd : da = db := Value.ref.inj (own_fldfun Va Vb')
      have Ab' : Arv Z h0 da kb .byte (2 : Int32) [(.int ((dx).toInt8.toInt32).toInt8.toInt32), (.int ((dy).toInt8.toInt32).toInt8.toInt32)] (.int (0 : Int32)) := by rw [dd]; exact Ab
      have af := own_arvfun Aa Ab'
      have ae0 : ((cx).toInt8.toInt32).toInt8.toInt32 = ((dx).toInt8.toInt32).toInt8.toInt32 := Value.int.inj (af.2 0 (by decide))
      have ae1 : ((cy).toInt8.toInt32).toInt8.toInt32 = ((dy).toInt8.toInt32).toInt8.toInt32 := Value.int.inj (af.2 1 (by decide))
      have K142 : own_K p e below SE s₁ (mkF m 6 #[.val (.ref r0), .val (.ref r1), .unset] [(.int (1 : Int32))]) := by
        intro t k
        refine K141 _ ?_
        refine Jvm.RoadKit.acmp (g := (mkF m 2 #[.val (.ref r0), .val (.ref r1), .unset] [(.ref r1), (.ref r0)])) X0 hx rfl rfl rfl (pc0 := 2) (pc' := 5) (same := true) rfl (hb hby d6_2) rfl (decide_eq_true (congrArg Value.ref cab)) (by decide) (by decide) ?_
        show own_S p e below s₁ (mkF m 5 #[.val (.ref r0), .val (.ref r1), .unset] []) _
        refine XS.iconst X0.here hx rfl (hb hby d6_5) ?_
        exact k
      obtain ⟨fs, hr, hrun, hended, hW, hsame⟩ := X0.leave (v := some (.int (1 : Int32))) (fun h => by rw [Bd.returns] at h; cases h)
      refine ⟨_, _, K142 _ ?_, hrun, hended, _, _, rfl, ?_, ⟨_, rfl⟩, hW, hsame.mono (by decide) (by decide)⟩
      · exact retN X0 hx (t := .boolean) Bd.returns (by simp) (hb hby d6_6) hr
      · show Qseq Z r0 r1 G cn cx cy dn dx dy h0 n0 _ s₁.heap _
        rw [e0]
        exact ⟨(by rw [hn, hm]; rw [own_val2, if_pos ae0, if_pos ae1]), N0, rfl⟩
    · skip
      have K143 : own_K p e below SE s₁ (mkF m 8 #[.val (.ref r0), .val (.ref r1), .unset] [(.ref r1)]) := by
        intro t k
        refine K141 _ ?_
        refine Jvm.RoadKit.acmp (g := (mkF m 2 #[.val (.ref r0), .val (.ref r1), .unset] [(.ref r1), (.ref r0)])) X0 hx rfl rfl rfl (pc0 := 2) (pc' := 7) (same := false) rfl (hb hby d6_2) rfl (decide_eq_false fun q => cab (Value.ref.inj q)) (by decide) (by decide) ?_
        show own_S p e below s₁ (mkF m 7 #[.val (.ref r0), .val (.ref r1), .unset] []) _
        refine XS.aloadN X0.here hx rfl (hb hby d6_7) rfl rfl ?_
        exact k
      obtain ⟨T144, X144, e144, st144⟩ := instY X0 hx hZ hown (hw _ (List.mem_of_getElem? (i := 68) rfl)) e0 (Ins.self Eb) (g := (mkF m 8 #[.val (.ref r0), .val (.ref r1), .unset] [(.ref r1)])) rfl rfl (hb hby d6_8)
      have K144 : own_K p e below SE T144 (mkF m 11 #[.val (.ref r0), .val (.ref r1), .unset] [(.int (1 : Int32))]) := fun t k => K143 _ (st144 _ k)
      have K145 : own_K p e below SE T144 (mkF m 15 #[.val (.ref r0), .val (.ref r1), .unset] [(.ref r1)]) := by
        intro t k
        refine K144 _ ?_
        refine XS.ifNo X144.here hx rfl (hb hby d6_11) rfl (XT.i0_eq_f (by decide : ¬ ((1 : Int32) = 0))) ?_
        show own_S p e below T144 (mkF m 14 #[.val (.ref r0), .val (.ref r1), .unset] []) _
        refine XS.aloadN X144.here hx rfl (hb hby d6_14) rfl rfl ?_
        exact k
      obtain ⟨T146, X146, e146, st146⟩ := castY X144 hx hZ hown (hw _ (List.mem_of_getElem? (i := 68) rfl)) e144 (Ins.self Eb) (g := (mkF m 15 #[.val (.ref r0), .val (.ref r1), .unset] [(.ref r1)])) rfl rfl (hb hby d6_15)
      have K146 : own_K p e below SE T146 (mkF m 18 #[.val (.ref r0), .val (.ref r1), .unset] [(.ref r1)]) := fun t k => K145 _ (st146 _ k)
      have K147 : own_K p e below SE T146 (mkF m 19 #[.val (.ref r0), .val (.ref r1), .val (.ref r1)] []) := by
        intro t k
        refine K146 _ ?_
        refine XS.astoreN X146.here hx rfl (hb hby d6_18) rfl rfl (l' := #[.val (.ref r0), .val (.ref r1), .val (.ref r1)]) rfl ?_
        exact k
      obtain ⟨T148, X148, e148, st148⟩ := getS2 X146 hx hZ hown (host := "") (Or.inl (hw _ (List.mem_of_getElem? (i := 55) rfl))) Via.refl e146 S_cs (g := (mkF m 19 #[.val (.ref r0), .val (.ref r1), .val (.ref r1)] [])) rfl (hb hby d6_19)
      have K148 : own_K p e below SE T148 (mkF m 22 #[.val (.ref r0), .val (.ref r1), .val (.ref r1)] [(.int G)]) := fun t k => K147 _ (st148 _ k)
      have K149 : own_K p e below SE T148 (mkF m 26 #[.val (.ref r0), .val (.ref r1), .val (.ref r1)] [(.ref r0)]) := by
        intro t k
        refine K148 _ ?_
        refine XS.ifNo X148.here hx rfl (hb hby d6_22) rfl (XT.i0_eq_f hG) ?_
        show own_S p e below T148 (mkF m 25 #[.val (.ref r0), .val (.ref r1), .val (.ref r1)] []) _
        refine XS.aloadN X148.here hx rfl (hb hby d6_25) rfl rfl ?_
        exact k
      obtain ⟨T150, X150, e150, st150⟩ := getF X148 hx hZ hown (host := "") (Or.inl (hw _ (List.mem_of_getElem? (i := 66) rfl))) Via.refl e148 Ca (g := (mkF m 26 #[.val (.ref r0), .val (.ref r1), .val (.ref r1)] [(.ref r0)])) rfl rfl (hb hby d6_26)
      have K150 : own_K p e below SE T150 (mkF m 29 #[.val (.ref r0), .val (.ref r1), .val (.ref r1)] [(.int (0 : Int32))]) := fun t k => K149 _ (st150 _ k)
      have K151 : own_K p e below SE T150 (mkF m 30 #[.val (.ref r0), .val (.ref r1), .val (.ref r1)] [(.ref r1), (.int (0 : Int32))]) := by
        intro t k
        refine K150 _ ?_
        refine XS.aloadN X150.here hx rfl (hb hby d6_29) rfl rfl ?_
        exact k
      obtain ⟨T152, X152, e152, st152⟩ := getF X150 hx hZ hown (host := "") (Or.inl (hw _ (List.mem_of_getElem? (i := 66) rfl))) Via.refl e150 Cb (g := (mkF m 30 #[.val (.ref r0), .val (.ref r1), .val (.ref r1)] [(.ref r1), (.int (0 : Int32))])) rfl rfl (hb hby d6_30)
      have K152 : own_K p e below SE T152 (mkF m 33 #[.val (.ref r0), .val (.ref r1), .val (.ref r1)] [(.int (0 : Int32)), (.int (0 : Int32))]) := fun t k => K151 _ (st152 _ k)
      have K153 : own_K p e below SE T152 (mkF m 37 #[.val (.ref r0), .val (.ref r1), .val (.ref r1)] [(.ref r0)]) := by
        intro t k
        refine K152 _ ?_
        refine XS.icmpNo X152.here hx rfl (hb hby d6_33) rfl (XT.ii_ne_f (by decide : (0 : Int32) = (0 : Int32))) ?_
        show own_S p e below T152 (mkF m 36 #[.val (.ref r0), .val (.ref r1), .val (.ref r1)] []) _
        refine XS.aloadN X152.here hx rfl (hb hby d6_36) rfl rfl ?_
        exact k
      obtain ⟨T154, X154, e154, st154⟩ := getF X152 hx hZ hown (host := "") (Or.inl (hw _ (List.mem_of_getElem? (i := 67) rfl))) Via.refl e152 Va (g := (mkF m 37 #[.val (.ref r0), .val (.ref r1), .val (.ref r1)] [(.ref r0)])) rfl rfl (hb hby d6_37)
      have K154 : own_K p e below SE T154 (mkF m 40 #[.val (.ref r0), .val (.ref r1), .val (.ref r1)] [(.ref da)]) := fun t k => K153 _ (st154 _ k)
      have K155 : own_K p e below SE T154 (mkF m 41 #[.val (.ref r0), .val (.ref r1), .val (.ref r1)] [(.ref r1), (.ref da)]) := by
        intro t k
        refine K154 _ ?_
        refine XS.aloadN X154.here hx rfl (hb hby d6_40) rfl rfl ?_
        exact k
      obtain ⟨T156, X156, e156, st156⟩ := getF X154 hx hZ hown (host := "") (Or.inl (hw _ (List.mem_of_getElem? (i := 67) rfl))) Via.refl e154 Vb (g := (mkF m 41 #[.val (.ref r0), .val (.ref r1), .val (.ref r1)] [(.ref r1), (.ref da)])) rfl rfl (hb hby d6_41)
      have K156 : own_K p e below SE T156 (mkF m 44 #[.val (.ref r0), .val (.ref r1), .val (.ref r1)] [(.ref db), (.ref da)]) := fun t k => K155 _ (st156 _ k)
      obtain ⟨_, _, ⟨T157, L157, k157, n157⟩, -, X157, ⟨Lc157, hQ157, l157, y157, z157⟩, st157⟩ := Jvm.LawKit.callS X156 hx (y := (⟨"java/lang/StringLatin1", "equals", "([B[B)Z"⟩ : MethodName)) hown (mvT hZ (hw _ (List.mem_of_getElem? (i := 69) rfl))) (mvT hZ (hw _ (List.mem_of_getElem? (i := 70) rfl))) (mvT hZ (hw _ (List.mem_of_getElem? (i := 71) rfl))) (mvT hZ (hw _ (List.mem_of_getElem? (i := 72) rfl))) (by decide) (backOf (W := 0) (rmleq22 l Z a0 hw [] da db ka kb (((cx).toInt8.toInt32).toInt8.toInt32) (((cy).toInt8.toInt32).toInt8.toInt32) (((dx).toInt8.toInt32).toInt8.toInt32) (((dy).toInt8.toInt32).toInt8.toInt32) h0 n0 Z0 Aa Ab) hZ (hw _ (List.mem_of_getElem? (i := 72) rfl)) (hw _ (List.mem_of_getElem? (i := 71) rfl)) (by decide) (by decide)) (g := (mkF m 44 #[.val (.ref r0), .val (.ref r1), .val (.ref r1)] [(.ref db), (.ref da)])) rfl (by rw [hml]; rfl) (argsL := [(.ref da), (.ref db)]) (rest := []) (lenOf pd_seq_0 rfl) rfl (by show 2 * 0 + _ ≤ _; exact Nat.le_of_eq rfl) (hb hby d6_44) (fun _ _ => ⟨rfl, e156, (by decide : 0 + 0 ≤ _), (by decide : 0 + 0 ≤ _)⟩)
      dsimp only [Pt.U, Pt.locs, Pt.cells, Pt.slots] at X157 l157 y157 z157 st157 hQ157
      rw [y157, z157] at X157
      obtain ⟨rfl, Nq157, e157⟩ := hQ157
      have N157 : Fr n0 L157 := by rw [l157]; exact Fr.app N0 Nq157
      have K157 : own_K p e below SE T157 (mkF m 47 #[.val (.ref r0), .val (.ref r1), .val (.ref r1)] [(.int (if ((cx).toInt8.toInt32).toInt8.toInt32 = ((dx).toInt8.toInt32).toInt8.toInt32 then (if ((cy).toInt8.toInt32).toInt8.toInt32 = ((dy).toInt8.toInt32).toInt8.toInt32 then (1 : Int32) else (0 : Int32)) else (0 : Int32)))]) := fun t k => K156 _ (st157 _ k)
      by_cases c47_158 : (if ((cx).toInt8.toInt32).toInt8.toInt32 = ((dx).toInt8.toInt32).toInt8.toInt32 then (if ((cy).toInt8.toInt32).toInt8.toInt32 = ((dy).toInt8.toInt32).toInt8.toInt32 then (1 : Int32) else (0 : Int32)) else (0 : Int32)) = 0
      · skip
        have K159 : own_K p e below SE T157 (mkF m 55 #[.val (.ref r0), .val (.ref r1), .val (.ref r1)] [(.int (0 : Int32))]) := by
          intro t k
          refine K157 _ ?_
          refine XS.ifYes X157.here hx rfl (pc0 := 47) (pc' := 54) rfl (hb hby d6_47) rfl (XT.i0_eq_t c47_158) (by decide) (by decide) ?_
          show own_S p e below T157 (mkF m 54 #[.val (.ref r0), .val (.ref r1), .val (.ref r1)] []) _
          refine XS.iconst X157.here hx rfl (hb hby d6_54) ?_
          exact k
        obtain ⟨fs, hr, hrun, hended, hW, hsame⟩ := X157.leave (v := some (.int (0 : Int32))) (fun h => by rw [Bd.returns] at h; cases h)
        refine ⟨_, _, K159 _ ?_, hrun, hended, _, _, rfl, ?_, ⟨_, rfl⟩, hW, hsame.mono (by decide) (by decide)⟩
        · exact retN X157 hx (t := .boolean) Bd.returns (by simp) (hb hby d6_55) hr
        · show Qseq Z r0 r1 G cn cx cy dn dx dy h0 n0 _ T157.heap _
          rw [e157]
          exact ⟨(by rw [hn, hm, own_val2 cx cy dx dy, c47_158]), N157, rfl⟩
      · skip
        have K160 : own_K p e below SE T157 (mkF m 55 #[.val (.ref r0), .val (.ref r1), .val (.ref r1)] [(.int (1 : Int32))]) := by
          intro t k
          refine K157 _ ?_
          refine XS.ifNo X157.here hx rfl (hb hby d6_47) rfl (XT.i0_eq_f c47_158) ?_
          show own_S p e below T157 (mkF m 50 #[.val (.ref r0), .val (.ref r1), .val (.ref r1)] []) _
          refine XS.iconst X157.here hx rfl (hb hby d6_50) ?_
          show own_S p e below T157 (mkF m 51 #[.val (.ref r0), .val (.ref r1), .val (.ref r1)] [(.int (1 : Int32))]) _
          refine XS.goto X157.here hx rfl (pc0 := 51) (pc' := 55) rfl (hb hby d6_51) (by decide) (by decide) ?_
          exact k
        obtain ⟨fs, hr, hrun, hended, hW, hsame⟩ := X157.leave (v := some (.int (1 : Int32))) (fun h => by rw [Bd.returns] at h; cases h)
        refine ⟨_, _, K160 _ ?_, hrun, hended, _, _, rfl, ?_, ⟨_, rfl⟩, hW, hsame.mono (by decide) (by decide)⟩
        · exact retN X157 hx (t := .boolean) Bd.returns (by simp) (hb hby d6_55) hr
        · show Qseq Z r0 r1 G cn cx cy dn dx dy h0 n0 _ T157.heap _
          rw [e157]
          exact ⟨(by
              rw [hn, hm, own_val2 cx cy dx dy]
              rcases own_01_2 cx cy dx dy with w | w
              · exact absurd w c47_158
              · rw [w]), N157, rfl⟩
theorem d3_0 : decode prog_98_method_1_code 0 = .ok (.aload_n 0, 1) := by decide +kernel
theorem d3_1 : decode prog_98_method_1_code 1 = .ok (.invokespecial 1, 3) := by decide +kernel
theorem d3_4 : decode prog_98_method_1_code 4 = .ok (.aload_n 0, 1) := by decide +kernel
theorem d3_5 : decode prog_98_method_1_code 5 = .ok (.aload_n 1, 1) := by decide +kernel
theorem d3_6 : decode prog_98_method_1_code 6 = .ok (.putfield 7, 3) := by decide +kernel
theorem d3_9 : decode prog_98_method_1_code 9 = .ok (.aload_n 0, 1) := by decide +kernel
theorem d3_10 : decode prog_98_method_1_code 10 = .ok (.lload_n 2, 1) := by decide +kernel
theorem d3_11 : decode prog_98_method_1_code 11 = .ok (.putfield 13, 3) := by decide +kernel
theorem d3_14 : decode prog_98_method_1_code 14 = .ok (.aload_n 0, 1) := by decide +kernel
theorem d3_15 : decode prog_98_method_1_code 15 = .ok (.lload 4, 2) := by decide +kernel
theorem d3_17 : decode prog_98_method_1_code 17 = .ok (.putfield 17, 3) := by decide +kernel
theorem d3_20 : decode prog_98_method_1_code 20 = .ok (.return_, 1) := by decide +kernel
theorem pn_3 : plainName "com/example/enact/enact/model/RunKey" = true := by first | (simp [plainName, overriddenIn]; done) | decide +kernel
theorem ef_ri (m : MethodId) (r0 : Addr) (r1 : Addr) (q2 : Int64) (q3 : Int64) : entryFrame m #[(.ref r0), (.ref r1), (.long q2), (.long q3)] 6 = mkF m 0 #[.val (.ref r0), .val (.ref r1), .val (.long q2), .second, .val (.long q3), .second] [] := by first | (simp [entryFrame, mkF, argsToLocals, Value.category]; done) | rfl
def Qri (Z : State) (r0 : Addr) (r1 : Addr) (q2 : Int64) (q3 : Int64) (h0 : Heap) (n0 : Nat) (v : Option Value) (h : Heap) (L : List Loc) : Prop := v = none ∧ Fr n0 L ∧ Keep h0 h [r0] ∧ Exa Z h r0 "com/example/enact/enact/model/RunKey" ∧ Fld Z h r0 "com/example/enact/enact/model/RunKey" "workflowId" "Ljava/lang/String;" (.ref r1) ∧ Fld Z h r0 "com/example/enact/enact/model/RunKey" "instanceId" "J" (.long q2) ∧ Fld Z h r0 "com/example/enact/enact/model/RunKey" "runId" "J" (.long q3)
set_option maxRecDepth 65536 in
set_option maxHeartbeats 40000000 in
theorem rmri (l : Launch) (Z : State) (a0 : Array Value) (hw : ∀ d ∈ tables_1, d.before a0 Z = true) (ws : List Jvm.Cond) (r0 : Addr) (r1 : Addr) (q2 : Int64) (q3 : Int64) (h0 : Heap) (n0 : Nat) (Z0 : n0 ≤ h0.size) (E_r0 : Exa Z h0 r0 "com/example/enact/enact/model/RunKey") (F0 : Fld Z h0 r0 "com/example/enact/enact/model/RunKey" "workflowId" "Ljava/lang/String;" .null) (F1 : Fld Z h0 r0 "com/example/enact/enact/model/RunKey" "instanceId" "J" (.long (0 : Int64))) (F2 : Fld Z h0 r0 "com/example/enact/enact/model/RunKey" "runId" "J" (.long (0 : Int64))) (g_r0 : n0 ≤ r0) :
    MetFree l (⟨"com/example/enact/enact/model/RunKey", "<init>", "(Ljava/lang/String;JJ)V"⟩ : MethodName) (head1 (Jvm.Cond.code (⟨"com/example/enact/enact/model/RunKey", "<init>", "(Ljava/lang/String;JJ)V"⟩ : MethodName) prog_98_method_1_code 6 none :: ws) ({ frames := 1, cells := 0, slots := 0, locals := 12 } : Room)) (fun a U => a = #[(.ref r0), (.ref r1), (.long q2), (.long q3)] ∧ Z.Warmed39 U.vm ∧ U.heap = h0) (fun _ _ _ _ _ => True) (fun _ U o U' => ∃ v L, o = .returned v ∧ Qri Z r0 r1 q2 q3 h0 n0 v U'.heap L ∧ FrameEnd U o U' L ({ frames := 1, cells := 0, slots := 0, locals := 12 } : Room).cells ({ frames := 1, cells := 0, slots := 0, locals := 12 } : Room).slots) := by
  refine MetFree.of_bodySF (plainFor_of_name pn_3) hisR ?_
  intro p e s m args below meth c s₁ Bd hml0 hP hK
  obtain ⟨rfl, hZ, hh⟩ := hP
  have hx := Bd.exec
  have hby := Bd.bytes
  have hml : c.maxLocals = 6 := hml0
  have hown : s.vm.findClass "com/example/enact/enact/model/RunKey" = some m.cls := findClass_of_methodNamed Bd.named
  have hnm := (name_of_methodNamed Bd.named Bd.method).1
  have X0 : Stand p l e ({ frames := 1, cells := 0, slots := 0, locals := 12 } : Room) s m #[(.ref r0), (.ref r1), (.long q2), (.long q3)] below meth c s₁ [] 0 0 := Stand.of_body Bd
  have e0 : s₁.heap = h0 := by rw [← hh, Bd.state]; rfl
  have N0 := Fr.nil n0
  have K0 : ∀ t, Steps p.tables e below (s₁.setTop (mkF m 0 #[.val (.ref r0), .val (.ref r1), .val (.long q2), .second, .val (.long q3), .second] [])) t → Steps p.tables e below (s₁.setTop (entryFrame m #[(.ref r0), (.ref r1), (.long q2), (.long q3)] 6)) t := fun t k => castTop (ef_ri m r0 r1 q2 q3) k
  generalize s₁.setTop (entryFrame m #[(.ref r0), (.ref r1), (.long q2), (.long q3)] 6) = SE at K0 ⊢
  have K1 : own_K p e below SE s₁ (mkF m 1 #[.val (.ref r0), .val (.ref r1), .val (.long q2), .second, .val (.long q3), .second] [(.ref r0)]) := by
    intro t k
    refine K0 _ ?_
    refine XS.aloadN X0.here hx rfl (hb hby d3_0) rfl rfl ?_
    exact k
  obtain ⟨T2, X2, e2, st2⟩ := initO X0 hx hZ hown (hw _ (List.mem_of_getElem? (i := 22) rfl)) (hw _ (List.mem_of_getElem? (i := 23) rfl)) (hw _ (List.mem_of_getElem? (i := 24) rfl)) e0 (g := (mkF m 1 #[.val (.ref r0), .val (.ref r1), .val (.long q2), .second, .val (.long q3), .second] [(.ref r0)])) rfl (by rw [hml]; rfl) rfl (hb hby d3_1) (by decide) (W := 0) (by show 2 * 0 + _ ≤ _; exact Nat.le_of_eq rfl) (by decide)
  have K2 : own_K p e below SE T2 (mkF m 4 #[.val (.ref r0), .val (.ref r1), .val (.long q2), .second, .val (.long q3), .second] []) := fun t k => K1 _ (st2 _ k)
  have K3 : own_K p e below SE T2 (mkF m 6 #[.val (.ref r0), .val (.ref r1), .val (.long q2), .second, .val (.long q3), .second] [(.ref r1), (.ref r0)]) := by
    intro t k
    refine K2 _ ?_
    refine XS.aloadN X2.here hx rfl (hb hby d3_4) rfl rfl ?_
    show own_S p e below T2 (mkF m 5 #[.val (.ref r0), .val (.ref r1), .val (.long q2), .second, .val (.long q3), .second] [(.ref r0)]) _
    refine XS.aloadN X2.here hx rfl (hb hby d3_5) rfl rfl ?_
    exact k
  obtain ⟨T4, h4, X4, e4, W4, st4⟩ := putF X2 hx hZ hown (host := "") (Or.inl (hw _ (List.mem_of_getElem? (i := 25) rfl))) Via.refl e2 F0 E_r0 (Or.inr ⟨(hw _ (List.mem_of_getElem? (i := 26) rfl)), rfl, hnm⟩) (hw _ (List.mem_of_getElem? (i := 17) rfl)) (ty := (.object "java/lang/String")) (by decide) rfl rfl (g := (mkF m 6 #[.val (.ref r0), .val (.ref r1), .val (.long q2), .second, .val (.long q3), .second] [(.ref r1), (.ref r0)])) rfl rfl (hb hby d3_6)
  have Fw4 := Fld.same W4 F0
  have N4 := Fr.snoc X4 N0 g_r0
  have Kp4 : Keep h0 h4 [r0] := Keep.wr (Keep.refl h0 [r0]) W4 (Or.inl (List.mem_of_getElem? (i := 0) rfl))
  have K4 : own_K p e below SE T4 (mkF m 9 #[.val (.ref r0), .val (.ref r1), .val (.long q2), .second, .val (.long q3), .second] []) := fun t k => K3 _ (st4 _ k)
  have K5 : own_K p e below SE T4 (mkF m 11 #[.val (.ref r0), .val (.ref r1), .val (.long q2), .second, .val (.long q3), .second] [(.long q2), (.ref r0)]) := by
    intro t k
    refine K4 _ ?_
    refine XS.aloadN X4.here hx rfl (hb hby d3_9) rfl rfl ?_
    show own_S p e below T4 (mkF m 10 #[.val (.ref r0), .val (.ref r1), .val (.long q2), .second, .val (.long q3), .second] [(.ref r0)]) _
    refine XS.lloadN X4.here hx rfl (hb hby d3_10) rfl ?_
    exact k
  obtain ⟨T6, h6, X6, e6, W6, st6⟩ := putF X4 hx hZ hown (host := "") (Or.inl (hw _ (List.mem_of_getElem? (i := 27) rfl))) Via.refl e4 (F1.other W4 (Or.inr (slot_ne (Or.inr (hw _ (List.mem_of_getElem? (i := 28) rfl))) (Or.inr (hw _ (List.mem_of_getElem? (i := 26) rfl))) (by decide) (t := .long) (t' := (.object "java/lang/String")) (by decide) (by decide)))) (E_r0.wr W4) (Or.inr ⟨(hw _ (List.mem_of_getElem? (i := 28) rfl)), rfl, hnm⟩) (hw _ (List.mem_of_getElem? (i := 17) rfl)) (ty := .long) (by decide) rfl rfl (g := (mkF m 11 #[.val (.ref r0), .val (.ref r1), .val (.long q2), .second, .val (.long q3), .second] [(.long q2), (.ref r0)])) rfl rfl (hb hby d3_11)
  have Fw6 := Fld.same W6 (F1.other W4 (Or.inr (slot_ne (Or.inr (hw _ (List.mem_of_getElem? (i := 28) rfl))) (Or.inr (hw _ (List.mem_of_getElem? (i := 26) rfl))) (by decide) (t := .long) (t' := (.object "java/lang/String")) (by decide) (by decide))))
  have N6 := Fr.snoc X6 N4 g_r0
  have Kp6 : Keep h0 h6 [r0] := Keep.wr Kp4 W6 (Or.inl (List.mem_of_getElem? (i := 0) rfl))
  have K6 : own_K p e below SE T6 (mkF m 14 #[.val (.ref r0), .val (.ref r1), .val (.long q2), .second, .val (.long q3), .second] []) := fun t k => K5 _ (st6 _ k)
  have K7 : own_K p e below SE T6 (mkF m 17 #[.val (.ref r0), .val (.ref r1), .val (.long q2), .second, .val (.long q3), .second] [(.long q3), (.ref r0)]) := by
    intro t k
    refine K6 _ ?_
    refine XS.aloadN X6.here hx rfl (hb hby d3_14) rfl rfl ?_
    show own_S p e below T6 (mkF m 15 #[.val (.ref r0), .val (.ref r1), .val (.long q2), .second, .val (.long q3), .second] [(.ref r0)]) _
    refine XS.lload X6.here hx rfl (hb hby d3_15) rfl ?_
    exact k
  obtain ⟨T8, h8, X8, e8, W8, st8⟩ := putF X6 hx hZ hown (host := "") (Or.inl (hw _ (List.mem_of_getElem? (i := 29) rfl))) Via.refl e6 ((F2.other W4 (Or.inr (slot_ne (Or.inr (hw _ (List.mem_of_getElem? (i := 30) rfl))) (Or.inr (hw _ (List.mem_of_getElem? (i := 26) rfl))) (by decide) (t := .long) (t' := (.object "java/lang/String")) (by decide) (by decide)))).other W6 (Or.inr (slot_ne (Or.inr (hw _ (List.mem_of_getElem? (i := 30) rfl))) (Or.inr (hw _ (List.mem_of_getElem? (i := 28) rfl))) (by decide) (t := .long) (t' := .long) (by decide) (by decide)))) ((E_r0.wr W4).wr W6) (Or.inr ⟨(hw _ (List.mem_of_getElem? (i := 30) rfl)), rfl, hnm⟩) (hw _ (List.mem_of_getElem? (i := 17) rfl)) (ty := .long) (by decide) rfl rfl (g := (mkF m 17 #[.val (.ref r0), .val (.ref r1), .val (.long q2), .second, .val (.long q3), .second] [(.long q3), (.ref r0)])) rfl rfl (hb hby d3_17)
  have Fw8 := Fld.same W8 ((F2.other W4 (Or.inr (slot_ne (Or.inr (hw _ (List.mem_of_getElem? (i := 30) rfl))) (Or.inr (hw _ (List.mem_of_getElem? (i := 26) rfl))) (by decide) (t := .long) (t' := (.object "java/lang/String")) (by decide) (by decide)))).other W6 (Or.inr (slot_ne (Or.inr (hw _ (List.mem_of_getElem? (i := 30) rfl))) (Or.inr (hw _ (List.mem_of_getElem? (i := 28) rfl))) (by decide) (t := .long) (t' := .long) (by decide) (by decide))))
  have N8 := Fr.snoc X8 N6 g_r0
  have Kp8 : Keep h0 h8 [r0] := Keep.wr Kp6 W8 (Or.inl (List.mem_of_getElem? (i := 0) rfl))
  have K8 : own_K p e below SE T8 (mkF m 20 #[.val (.ref r0), .val (.ref r1), .val (.long q2), .second, .val (.long q3), .second] []) := fun t k => K7 _ (st8 _ k)
  obtain ⟨fs, hr, hrun, hended, hW, hsame⟩ := X8.leave (v := none) (fun _ => rfl)
  refine ⟨_, _, K8 _ ?_, hrun, hended, _, _, rfl, ?_, ⟨_, rfl⟩, hW, hsame.mono (by decide) (by decide)⟩
  · exact X8.returnOut hx Bd.returns (hb hby d3_20) hr
  · show Qri Z r0 r1 q2 q3 h0 n0 _ T8.heap _
    rw [e8]
    exact ⟨rfl, N8, Kp8, (((E_r0.wr W4).wr W6).wr W8), ((Fw4.other W6 (Or.inr (slot_ne (Or.inr (hw _ (List.mem_of_getElem? (i := 26) rfl))) (Or.inr (hw _ (List.mem_of_getElem? (i := 28) rfl))) (by decide) (t := (.object "java/lang/String")) (t' := .long) (by decide) (by decide)))).other W8 (Or.inr (slot_ne (Or.inr (hw _ (List.mem_of_getElem? (i := 26) rfl))) (Or.inr (hw _ (List.mem_of_getElem? (i := 30) rfl))) (by decide) (t := (.object "java/lang/String")) (t' := .long) (by decide) (by decide)))), (Fw6.other W8 (Or.inr (slot_ne (Or.inr (hw _ (List.mem_of_getElem? (i := 28) rfl))) (Or.inr (hw _ (List.mem_of_getElem? (i := 30) rfl))) (by decide) (t := .long) (t' := .long) (by decide) (by decide)))), Fw8⟩
theorem d5_0 : decode prog_98_method_5_code 0 = .ok (.aload_n 1, 1) := by decide +kernel
theorem d5_1 : decode prog_98_method_5_code 1 = .ok (.instanceof 8, 3) := by decide +kernel
theorem d5_4 : decode prog_98_method_5_code 4 = .ok (.ifCond .eq 50, 3) := by decide +kernel
theorem d5_54 : decode prog_98_method_5_code 54 = .ok (.iconst 0, 1) := by decide +kernel
theorem d5_55 : decode prog_98_method_5_code 55 = .ok (.ireturn, 1) := by decide +kernel
theorem ef_ren (m : MethodId) (r0 : Addr) : entryFrame m #[(.ref r0), .null] 3 = mkF m 0 #[.val (.ref r0), .val .null, .unset] [] := by first | (simp [entryFrame, mkF, argsToLocals, Value.category]; done) | rfl
def Qren (Z : State) (r0 : Addr) (h0 : Heap) (n0 : Nat) (v : Option Value) (h : Heap) (L : List Loc) : Prop := v = some (.int (0 : Int32)) ∧ Fr n0 L ∧ h = h0
set_option maxRecDepth 65536 in
set_option maxHeartbeats 40000000 in
theorem rmren (l : Launch) (Z : State) (a0 : Array Value) (hw : ∀ d ∈ tables_1, d.before a0 Z = true) (ws : List Jvm.Cond) (r0 : Addr) (h0 : Heap) (n0 : Nat) (Z0 : n0 ≤ h0.size) :
    MetFree l (⟨"com/example/enact/enact/model/RunKey", "equals", "(Ljava/lang/Object;)Z"⟩ : MethodName) (head1 (Jvm.Cond.code (⟨"com/example/enact/enact/model/RunKey", "equals", "(Ljava/lang/Object;)Z"⟩ : MethodName) prog_98_method_5_code 3 (some .boolean) :: ws) ({ frames := 0, cells := 0, slots := 0, locals := 0 } : Room)) (fun a U => a = #[(.ref r0), .null] ∧ Z.Warmed39 U.vm ∧ U.heap = h0) (fun _ _ _ _ _ => True) (fun _ U o U' => ∃ v L, o = .returned v ∧ Qren Z r0 h0 n0 v U'.heap L ∧ FrameEnd U o U' L ({ frames := 0, cells := 0, slots := 0, locals := 0 } : Room).cells ({ frames := 0, cells := 0, slots := 0, locals := 0 } : Room).slots) := by
  refine MetFree.of_bodySF (plainFor_of_name pn_3) hisR ?_
  intro p e s m args below meth c s₁ Bd hml0 hP hK
  obtain ⟨rfl, hZ, hh⟩ := hP
  have hx := Bd.exec
  have hby := Bd.bytes
  have hml : c.maxLocals = 3 := hml0
  have hown : s.vm.findClass "com/example/enact/enact/model/RunKey" = some m.cls := findClass_of_methodNamed Bd.named
  have hnm := (name_of_methodNamed Bd.named Bd.method).1
  have X0 : Stand p l e ({ frames := 0, cells := 0, slots := 0, locals := 0 } : Room) s m #[(.ref r0), .null] below meth c s₁ [] 0 0 := Stand.of_body Bd
  have e0 : s₁.heap = h0 := by rw [← hh, Bd.state]; rfl
  have N0 := Fr.nil n0
  have K0 : ∀ t, Steps p.tables e below (s₁.setTop (mkF m 0 #[.val (.ref r0), .val .null, .unset] [])) t → Steps p.tables e below (s₁.setTop (entryFrame m #[(.ref r0), .null] 3)) t := fun t k => castTop (ef_ren m r0) k
  generalize s₁.setTop (entryFrame m #[(.ref r0), .null] 3) = SE at K0 ⊢
  have K1 : own_K p e below SE s₁ (mkF m 1 #[.val (.ref r0), .val .null, .unset] [.null]) := by
    intro t k
    refine K0 _ ?_
    refine XS.aloadN X0.here hx rfl (hb hby d5_0) rfl rfl ?_
    exact k
  have K2 : own_K p e below SE s₁ (mkF m 55 #[.val (.ref r0), .val .null, .unset] [(.int (0 : Int32))]) := by
    intro t k
    refine K1 _ ?_
    refine X0.instanceofNull hx (g := (mkF m 1 #[.val (.ref r0), .val .null, .unset] [.null])) rfl rfl (hb hby d5_1) _ ?_
    show own_S p e below s₁ (mkF m 4 #[.val (.ref r0), .val .null, .unset] [(.int (0 : Int32))]) _
    refine XS.ifYes X0.here hx rfl (pc0 := 4) (pc' := 54) rfl (hb hby d5_4) rfl (XT.i0_eq_t (by decide : (0 : Int32) = 0)) (by decide) (by decide) ?_
    show own_S p e below s₁ (mkF m 54 #[.val (.ref r0), .val .null, .unset] []) _
    refine XS.iconst X0.here hx rfl (hb hby d5_54) ?_
    exact k
  obtain ⟨fs, hr, hrun, hended, hW, hsame⟩ := X0.leave (v := some (.int (0 : Int32))) (fun h => by rw [Bd.returns] at h; cases h)
  refine ⟨_, _, K2 _ ?_, hrun, hended, _, _, rfl, ?_, ⟨_, rfl⟩, hW, hsame.mono (by decide) (by decide)⟩
  · exact retN X0 hx (t := .boolean) Bd.returns (by simp) (hb hby d5_55) hr
  · show Qren Z r0 h0 n0 _ s₁.heap _
    rw [e0]
    exact ⟨rfl, N0, rfl⟩
theorem own_no {Z : State} {a0 : Array Value} {O S K : String} {n : Nat} (wO : (Jvm.Cond.noSuperclass O).before a0 Z = true) (wS : (Jvm.Cond.superclass S O).before a0 Z = true) (wK : (Jvm.Cond.instantiable K n).before a0 Z = true) (n1 : O ≠ K) (n2 : S ≠ K) : ∃ c t, Z.vm.findClass S = some c ∧ Z.vm.findClass K = some t ∧ Z.vm.assignable c t = false := by
  obtain ⟨t, kt, t1, t2, t3, t4, -, -⟩ := Cond.instantiable_spec wK
  have hroot : NS Z O K := by
    obtain ⟨c, k, h1, h2, h3, -, -⟩ := Cond.noSuperclass_spec wO
    have ne := ids_ne h1 t1 n1
    refine ⟨c, t, h1, t1, fun fuel => ?_⟩
    cases fuel with
    | zero => rfl
    | succ f => simp [Vm.isSubclassAux, ne, h2, h3]
  obtain ⟨c, t', h0, g0, n4⟩ := NS.step wS hroot n2
  cases t1.symm.trans g0
  obtain ⟨p, k, kp, h1, h2, h3, h4, h5, -, h7⟩ := Cond.superclass_spec h0 wS
  have ne := ids_ne h0 t1 n2
  have t5 : kt.isInterface = false := by
    cases q : kt.isInterface
    · rfl
    · rw [q] at t4; simp at t4
  refine ⟨c, t, h0, t1, ?_⟩
  show Z.vm.assignableAux (255 + 1) c t = false
  simp [Vm.assignableAux, ne, h2, t2, h5, t3, t5, Vm.isSubclass, n4]
theorem ef_res (m : MethodId) (r0 : Addr) (r1 : Addr) : entryFrame m #[(.ref r0), (.ref r1)] 3 = mkF m 0 #[.val (.ref r0), .val (.ref r1), .unset] [] := by first | (simp [entryFrame, mkF, argsToLocals, Value.category]; done) | rfl
def Qres (Z : State) (r0 : Addr) (r1 : Addr) (h0 : Heap) (n0 : Nat) (v : Option Value) (h : Heap) (L : List Loc) : Prop := v = some (.int (0 : Int32)) ∧ Fr n0 L ∧ h = h0
set_option maxRecDepth 65536 in
set_option maxHeartbeats 40000000 in
theorem rmres (l : Launch) (Z : State) (a0 : Array Value) (hw : ∀ d ∈ tables_1, d.before a0 Z = true) (ws : List Jvm.Cond) (r0 : Addr) (r1 : Addr) (h0 : Heap) (n0 : Nat) (Z0 : n0 ≤ h0.size) (E_r1 : Exa Z h0 r1 "java/lang/String") :
    MetFree l (⟨"com/example/enact/enact/model/RunKey", "equals", "(Ljava/lang/Object;)Z"⟩ : MethodName) (head1 (Jvm.Cond.code (⟨"com/example/enact/enact/model/RunKey", "equals", "(Ljava/lang/Object;)Z"⟩ : MethodName) prog_98_method_5_code 3 (some .boolean) :: ws) ({ frames := 0, cells := 0, slots := 0, locals := 0 } : Room)) (fun a U => a = #[(.ref r0), (.ref r1)] ∧ Z.Warmed39 U.vm ∧ U.heap = h0) (fun _ _ _ _ _ => True) (fun _ U o U' => ∃ v L, o = .returned v ∧ Qres Z r0 r1 h0 n0 v U'.heap L ∧ FrameEnd U o U' L ({ frames := 0, cells := 0, slots := 0, locals := 0 } : Room).cells ({ frames := 0, cells := 0, slots := 0, locals := 0 } : Room).slots) := by
  refine MetFree.of_bodySF (plainFor_of_name pn_3) hisR ?_
  intro p e s m args below meth c s₁ Bd hml0 hP hK
  obtain ⟨rfl, hZ, hh⟩ := hP
  have hx := Bd.exec
  have hby := Bd.bytes
  have hml : c.maxLocals = 3 := hml0
  have hown : s.vm.findClass "com/example/enact/enact/model/RunKey" = some m.cls := findClass_of_methodNamed Bd.named
  have hnm := (name_of_methodNamed Bd.named Bd.method).1
  have X0 : Stand p l e ({ frames := 0, cells := 0, slots := 0, locals := 0 } : Room) s m #[(.ref r0), (.ref r1)] below meth c s₁ [] 0 0 := Stand.of_body Bd
  have e0 : s₁.heap = h0 := by rw [← hh, Bd.state]; rfl
  have N0 := Fr.nil n0
  have K0 : ∀ t, Steps p.tables e below (s₁.setTop (mkF m 0 #[.val (.ref r0), .val (.ref r1), .unset] [])) t → Steps p.tables e below (s₁.setTop (entryFrame m #[(.ref r0), (.ref r1)] 3)) t := fun t k => castTop (ef_res m r0 r1) k
  generalize s₁.setTop (entryFrame m #[(.ref r0), (.ref r1)] 3) = SE at K0 ⊢
  have K1 : own_K p e below SE s₁ (mkF m 1 #[.val (.ref r0), .val (.ref r1), .unset] [(.ref r1)]) := by
    intro t k
    refine K0 _ ?_
    refine XS.aloadN X0.here hx rfl (hb hby d5_0) rfl rfl ?_
    exact k
  obtain ⟨T2, X2, e2, st2⟩ := instNo X0 hx hZ hown (hw _ (List.mem_of_getElem? (i := 36) rfl)) e0 E_r1 (own_no (hw _ (List.mem_of_getElem? (i := 44) rfl)) (hw _ (List.mem_of_getElem? (i := 43) rfl)) (hw _ (List.mem_of_getElem? (i := 17) rfl)) (by decide) (by decide)) (g := (mkF m 1 #[.val (.ref r0), .val (.ref r1), .unset] [(.ref r1)])) rfl rfl (hb hby d5_1)
  have K2 : own_K p e below SE T2 (mkF m 4 #[.val (.ref r0), .val (.ref r1), .unset] [(.int (0 : Int32))]) := fun t k => K1 _ (st2 _ k)
  have K3 : own_K p e below SE T2 (mkF m 55 #[.val (.ref r0), .val (.ref r1), .unset] [(.int (0 : Int32))]) := by
    intro t k
    refine K2 _ ?_
    refine XS.ifYes X2.here hx rfl (pc0 := 4) (pc' := 54) rfl (hb hby d5_4) rfl (XT.i0_eq_t (by decide : (0 : Int32) = 0)) (by decide) (by decide) ?_
    show own_S p e below T2 (mkF m 54 #[.val (.ref r0), .val (.ref r1), .unset] []) _
    refine XS.iconst X2.here hx rfl (hb hby d5_54) ?_
    exact k
  obtain ⟨fs, hr, hrun, hended, hW, hsame⟩ := X2.leave (v := some (.int (0 : Int32))) (fun h => by rw [Bd.returns] at h; cases h)
  refine ⟨_, _, K3 _ ?_, hrun, hended, _, _, rfl, ?_, ⟨_, rfl⟩, hW, hsame.mono (by decide) (by decide)⟩
  · exact retN X2 hx (t := .boolean) Bd.returns (by simp) (hb hby d5_55) hr
  · show Qres Z r0 r1 h0 n0 _ T2.heap _
    rw [e2]
    exact ⟨rfl, N0, rfl⟩
theorem d5_7 : decode prog_98_method_5_code 7 = .ok (.aload_n 1, 1) := by decide +kernel
theorem d5_8 : decode prog_98_method_5_code 8 = .ok (.checkcast 8, 3) := by decide +kernel
theorem d5_11 : decode prog_98_method_5_code 11 = .ok (.astore_n 2, 1) := by decide +kernel
theorem d5_12 : decode prog_98_method_5_code 12 = .ok (.aload_n 2, 1) := by decide +kernel
theorem d5_13 : decode prog_98_method_5_code 13 = .ok (.getfield 7, 3) := by decide +kernel
theorem d5_16 : decode prog_98_method_5_code 16 = .ok (.aload_n 0, 1) := by decide +kernel
theorem d5_17 : decode prog_98_method_5_code 17 = .ok (.getfield 7, 3) := by decide +kernel
theorem d5_20 : decode prog_98_method_5_code 20 = .ok (.invokevirtual 20, 3) := by decide +kernel
theorem d5_23 : decode prog_98_method_5_code 23 = .ok (.ifCond .eq 31, 3) := by decide +kernel
theorem d5_26 : decode prog_98_method_5_code 26 = .ok (.aload_n 2, 1) := by decide +kernel
theorem d5_27 : decode prog_98_method_5_code 27 = .ok (.getfield 13, 3) := by decide +kernel
theorem d5_30 : decode prog_98_method_5_code 30 = .ok (.aload_n 0, 1) := by decide +kernel
theorem d5_31 : decode prog_98_method_5_code 31 = .ok (.getfield 13, 3) := by decide +kernel
theorem d5_34 : decode prog_98_method_5_code 34 = .ok (.lcmp, 1) := by decide +kernel
theorem d5_35 : decode prog_98_method_5_code 35 = .ok (.ifCond .ne 19, 3) := by decide +kernel
theorem d5_38 : decode prog_98_method_5_code 38 = .ok (.aload_n 2, 1) := by decide +kernel
theorem d5_39 : decode prog_98_method_5_code 39 = .ok (.getfield 17, 3) := by decide +kernel
theorem d5_42 : decode prog_98_method_5_code 42 = .ok (.aload_n 0, 1) := by decide +kernel
theorem d5_43 : decode prog_98_method_5_code 43 = .ok (.getfield 17, 3) := by decide +kernel
theorem d5_46 : decode prog_98_method_5_code 46 = .ok (.lcmp, 1) := by decide +kernel
theorem d5_47 : decode prog_98_method_5_code 47 = .ok (.ifCond .ne 7, 3) := by decide +kernel
theorem d5_50 : decode prog_98_method_5_code 50 = .ok (.iconst 1, 1) := by decide +kernel
theorem d5_51 : decode prog_98_method_5_code 51 = .ok (.goto 4, 3) := by decide +kernel
theorem pd_rek_0 : parseMethodDescriptor "(Ljava/lang/Object;)Z" = some ⟨[(.object "java/lang/Object")], some .boolean⟩ := by decide +kernel
theorem ef_rek (m : MethodId) (r0 : Addr) (r1 : Addr) : entryFrame m #[(.ref r0), (.ref r1)] 3 = mkF m 0 #[.val (.ref r0), .val (.ref r1), .unset] [] := by first | (simp [entryFrame, mkF, argsToLocals, Value.category]; done) | rfl
def Qrek (Z : State) (r0 : Addr) (r1 : Addr) (G : Int32) (cn : Int32) (cx : Int32) (cy : Int32) (dn : Int32) (dx : Int32) (dy : Int32) (sa : Addr) (sb : Addr) (ia : Int64) (ra : Int64) (ib : Int64) (rb : Int64) (h0 : Heap) (n0 : Nat) (v : Option Value) (h : Heap) (L : List Loc) : Prop := v = some (.int (if (own_eqs dn dx dy cn cx cy) = 0 then (0 : Int32) else (if ib = ia then (if rb = ra then (1 : Int32) else (0 : Int32)) else (0 : Int32)))) ∧ Fr n0 L ∧ h = h0
set_option maxRecDepth 65536 in
set_option maxHeartbeats 40000000 in
theorem rmrek (l : Launch) (Z : State) (a0 : Array Value) (hw : ∀ d ∈ tables_1, d.before a0 Z = true) (ws : List Jvm.Cond) (r0 : Addr) (r1 : Addr) (G : Int32) (cn : Int32) (cx : Int32) (cy : Int32) (dn : Int32) (dx : Int32) (dy : Int32) (sa : Addr) (sb : Addr) (ia : Int64) (ra : Int64) (ib : Int64) (rb : Int64) (h0 : Heap) (n0 : Nat) (Z0 : n0 ≤ h0.size) (S_cs : Sta Z h0 "java/lang/String" "COMPACT_STRINGS" "Z" (.int G)) (hG : ¬ G = 0) (hn : cn = (0 : Int32) ∨ cn = (1 : Int32) ∨ cn = (2 : Int32)) (hm : dn = (0 : Int32) ∨ dn = (1 : Int32) ∨ dn = (2 : Int32)) (Sa : own_Str Z h0 sa cn cx cy) (Sb : own_Str Z h0 sb dn dx dy) (E_r1 : Exa Z h0 r1 "com/example/enact/enact/model/RunKey") (F0 : Fld Z h0 r0 "com/example/enact/enact/model/RunKey" "workflowId" "Ljava/lang/String;" (.ref sa)) (F1 : Fld Z h0 r0 "com/example/enact/enact/model/RunKey" "instanceId" "J" (.long ia)) (F2 : Fld Z h0 r0 "com/example/enact/enact/model/RunKey" "runId" "J" (.long ra)) (G0 : Fld Z h0 r1 "com/example/enact/enact/model/RunKey" "workflowId" "Ljava/lang/String;" (.ref sb)) (G1 : Fld Z h0 r1 "com/example/enact/enact/model/RunKey" "instanceId" "J" (.long ib)) (G2 : Fld Z h0 r1 "com/example/enact/enact/model/RunKey" "runId" "J" (.long rb)) :
    MetFree l (⟨"com/example/enact/enact/model/RunKey", "equals", "(Ljava/lang/Object;)Z"⟩ : MethodName) (head1 (Jvm.Cond.code (⟨"com/example/enact/enact/model/RunKey", "equals", "(Ljava/lang/Object;)Z"⟩ : MethodName) prog_98_method_5_code 3 (some .boolean) :: ws) ({ frames := 2, cells := 0, slots := 0, locals := 28 } : Room)) (fun a U => a = #[(.ref r0), (.ref r1)] ∧ Z.Warmed39 U.vm ∧ U.heap = h0) (fun _ _ _ _ _ => True) (fun _ U o U' => ∃ v L, o = .returned v ∧ Qrek Z r0 r1 G cn cx cy dn dx dy sa sb ia ra ib rb h0 n0 v U'.heap L ∧ FrameEnd U o U' L ({ frames := 2, cells := 0, slots := 0, locals := 28 } : Room).cells ({ frames := 2, cells := 0, slots := 0, locals := 28 } : Room).slots) := by
  refine MetFree.of_bodySF (plainFor_of_name pn_3) hisR ?_
  intro p e s m args below meth c s₁ Bd hml0 hP hK
  obtain ⟨rfl, hZ, hh⟩ := hP
  have hx := Bd.exec
  have hby := Bd.bytes
  have hml : c.maxLocals = 3 := hml0
  have hown : s.vm.findClass "com/example/enact/enact/model/RunKey" = some m.cls := findClass_of_methodNamed Bd.named
  have hnm := (name_of_methodNamed Bd.named Bd.method).1
  have X0 : Stand p l e ({ frames := 2, cells := 0, slots := 0, locals := 28 } : Room) s m #[(.ref r0), (.ref r1)] below meth c s₁ [] 0 0 := Stand.of_body Bd
  have e0 : s₁.heap = h0 := by rw [← hh, Bd.state]; rfl
  have N0 := Fr.nil n0
  have K0 : ∀ t, Steps p.tables e below (s₁.setTop (mkF m 0 #[.val (.ref r0), .val (.ref r1), .unset] [])) t → Steps p.tables e below (s₁.setTop (entryFrame m #[(.ref r0), (.ref r1)] 3)) t := fun t k => castTop (ef_rek m r0 r1) k
  generalize s₁.setTop (entryFrame m #[(.ref r0), (.ref r1)] 3) = SE at K0 ⊢
  have K1 : own_K p e below SE s₁ (mkF m 1 #[.val (.ref r0), .val (.ref r1), .unset] [(.ref r1)]) := by
    intro t k
    refine K0 _ ?_
    refine XS.aloadN X0.here hx rfl (hb hby d5_0) rfl rfl ?_
    exact k
  obtain ⟨T2, X2, e2, st2⟩ := instY X0 hx hZ hown (hw _ (List.mem_of_getElem? (i := 36) rfl)) e0 (Ins.self E_r1) (g := (mkF m 1 #[.val (.ref r0), .val (.ref r1), .unset] [(.ref r1)])) rfl rfl (hb hby d5_1)
  have K2 : own_K p e below SE T2 (mkF m 4 #[.val (.ref r0), .val (.ref r1), .unset] [(.int (1 : Int32))]) := fun t k => K1 _ (st2 _ k)
  have K3 : own_K p e below SE T2 (mkF m 8 #[.val (.ref r0), .val (.ref r1), .unset] [(.ref r1)]) := by
    intro t k
    refine K2 _ ?_
    refine XS.ifNo X2.here hx rfl (hb hby d5_4) rfl (XT.i0_eq_f (by decide : ¬ ((1 : Int32) = 0))) ?_
    show own_S p e below T2 (mkF m 7 #[.val (.ref r0), .val (.ref r1), .unset] []) _
    refine XS.aloadN X2.here hx rfl (hb hby d5_7) rfl rfl ?_
    exact k
  obtain ⟨T4, X4, e4, st4⟩ := castY X2 hx hZ hown (hw _ (List.mem_of_getElem? (i := 36) rfl)) e2 (Ins.self E_r1) (g := (mkF m 8 #[.val (.ref r0), .val (.ref r1), .unset] [(.ref r1)])) rfl rfl (hb hby d5_8)
  have K4 : own_K p e below SE T4 (mkF m 11 #[.val (.ref r0), .val (.ref r1), .unset] [(.ref r1)]) := fun t k => K3 _ (st4 _ k)
  have K5 : own_K p e below SE T4 (mkF m 13 #[.val (.ref r0), .val (.ref r1), .val (.ref r1)] [(.ref r1)]) := by
    intro t k
    refine K4 _ ?_
    refine XS.astoreN X4.here hx rfl (hb hby d5_11) rfl rfl (l' := #[.val (.ref r0), .val (.ref r1), .val (.ref r1)]) rfl ?_
    show own_S p e below T4 (mkF m 12 #[.val (.ref r0), .val (.ref r1), .val (.ref r1)] []) _
    refine XS.aloadN X4.here hx rfl (hb hby d5_12) rfl rfl ?_
    exact k
  obtain ⟨T6, X6, e6, st6⟩ := getF X4 hx hZ hown (host := "") (Or.inl (hw _ (List.mem_of_getElem? (i := 25) rfl))) Via.refl e4 G0 (g := (mkF m 13 #[.val (.ref r0), .val (.ref r1), .val (.ref r1)] [(.ref r1)])) rfl rfl (hb hby d5_13)
  have K6 : own_K p e below SE T6 (mkF m 16 #[.val (.ref r0), .val (.ref r1), .val (.ref r1)] [(.ref sb)]) := fun t k => K5 _ (st6 _ k)
  have K7 : own_K p e below SE T6 (mkF m 17 #[.val (.ref r0), .val (.ref r1), .val (.ref r1)] [(.ref r0), (.ref sb)]) := by
    intro t k
    refine K6 _ ?_
    refine XS.aloadN X6.here hx rfl (hb hby d5_16) rfl rfl ?_
    exact k
  obtain ⟨T8, X8, e8, st8⟩ := getF X6 hx hZ hown (host := "") (Or.inl (hw _ (List.mem_of_getElem? (i := 25) rfl))) Via.refl e6 F0 (g := (mkF m 17 #[.val (.ref r0), .val (.ref r1), .val (.ref r1)] [(.ref r0), (.ref sb)])) rfl rfl (hb hby d5_17)
  have K8 : own_K p e below SE T8 (mkF m 20 #[.val (.ref r0), .val (.ref r1), .val (.ref r1)] [(.ref sa), (.ref sb)]) := fun t k => K7 _ (st8 _ k)
  obtain ⟨cq9, kq9, q9a, q9b, q9c⟩ := isOf hZ e8 Sb.1
  obtain ⟨_, _, ⟨T9, L9, k9, n9⟩, -, X9, ⟨Lc9, hQ9, l9, y9, z9⟩, st9⟩ := X8.virtualBack hx (y := (⟨"java/lang/String", "equals", "(Ljava/lang/Object;)Z"⟩ : MethodName)) (z := (⟨"java/lang/String", "equals", "(Ljava/lang/Object;)Z"⟩ : MethodName)) hown (mvT hZ (hw _ (List.mem_of_getElem? (i := 38) rfl))) (mvT hZ (hw _ (List.mem_of_getElem? (i := 39) rfl))) (notFace_of_selects (args := #[]) (mvT hZ (hw _ (List.mem_of_getElem? (i := 41) rfl)))) (mvT hZ (hw _ (List.mem_of_getElem? (i := 41) rfl))) (mvT hZ (hw _ (List.mem_of_getElem? (i := 40) rfl))) (by decide) (backOf (W := 0) (rmseq l Z a0 hw [] sb sa G dn dx dy cn cx cy h0 n0 Z0 S_cs hG hm hn Sb Sa) hZ (hw _ (List.mem_of_getElem? (i := 42) rfl)) (hw _ (List.mem_of_getElem? (i := 9) rfl)) (by decide) (by decide)) q9a q9c (g := (mkF m 20 #[.val (.ref r0), .val (.ref r1), .val (.ref r1)] [(.ref sa), (.ref sb)])) rfl (by rw [hml]; rfl) (Steps.refl _) (argsL := [(.ref sa)]) (rest := []) (lenOf pd_rek_0 rfl) rfl (by show 2 * 0 + _ ≤ _; exact Nat.le_of_eq rfl) (hb hby d5_20) (fun _ _ => ⟨rfl, e8, (by decide : 0 + 0 ≤ _), (by decide : 0 + 0 ≤ _)⟩)
  dsimp only [Pt.U, Pt.locs, Pt.cells, Pt.slots] at X9 l9 y9 z9 st9 hQ9
  rw [y9, z9] at X9
  obtain ⟨rfl, Nq9, e9⟩ := hQ9
  have N9 : Fr n0 L9 := by rw [l9]; exact Fr.app N0 Nq9
  have K9 : own_K p e below SE T9 (mkF m 23 #[.val (.ref r0), .val (.ref r1), .val (.ref r1)] [(.int (own_eqs dn dx dy cn cx cy))]) := fun t k => K8 _ (st9.trans k)
  by_cases c23_10 : (own_eqs dn dx dy cn cx cy) = 0
  · skip
    have K11 : own_K p e below SE T9 (mkF m 55 #[.val (.ref r0), .val (.ref r1), .val (.ref r1)] [(.int (0 : Int32))]) := by
      intro t k
      refine K9 _ ?_
      refine XS.ifYes X9.here hx rfl (pc0 := 23) (pc' := 54) rfl (hb hby d5_23) rfl (XT.i0_eq_t c23_10) (by decide) (by decide) ?_
      show own_S p e below T9 (mkF m 54 #[.val (.ref r0), .val (.ref r1), .val (.ref r1)] []) _
      refine XS.iconst X9.here hx rfl (hb hby d5_54) ?_
      exact k
    obtain ⟨fs, hr, hrun, hended, hW, hsame⟩ := X9.leave (v := some (.int (0 : Int32))) (fun h => by rw [Bd.returns] at h; cases h)
    refine ⟨_, _, K11 _ ?_, hrun, hended, _, _, rfl, ?_, ⟨_, rfl⟩, hW, hsame.mono (by decide) (by decide)⟩
    · exact retN X9 hx (t := .boolean) Bd.returns (by simp) (hb hby d5_55) hr
    · show Qrek Z r0 r1 G cn cx cy dn dx dy sa sb ia ra ib rb h0 n0 _ T9.heap _
      rw [e9]
      exact ⟨(by simp only [if_pos c23_10]), N9, rfl⟩
  · skip
    have K12 : own_K p e below SE T9 (mkF m 27 #[.val (.ref r0), .val (.ref r1), .val (.ref r1)] [(.ref r1)]) := by
      intro t k
      refine K9 _ ?_
      refine XS.ifNo X9.here hx rfl (hb hby d5_23) rfl (XT.i0_eq_f c23_10) ?_
      show own_S p e below T9 (mkF m 26 #[.val (.ref r0), .val (.ref r1), .val (.ref r1)] []) _
      refine XS.aloadN X9.here hx rfl (hb hby d5_26) rfl rfl ?_
      exact k
    obtain ⟨T13, X13, e13, st13⟩ := getF X9 hx hZ hown (host := "") (Or.inl (hw _ (List.mem_of_getElem? (i := 27) rfl))) Via.refl e9 G1 (g := (mkF m 27 #[.val (.ref r0), .val (.ref r1), .val (.ref r1)] [(.ref r1)])) rfl rfl (hb hby d5_27)
    have K13 : own_K p e below SE T13 (mkF m 30 #[.val (.ref r0), .val (.ref r1), .val (.ref r1)] [(.long ib)]) := fun t k => K12 _ (st13 _ k)
    have K14 : own_K p e below SE T13 (mkF m 31 #[.val (.ref r0), .val (.ref r1), .val (.ref r1)] [(.ref r0), (.long ib)]) := by
      intro t k
      refine K13 _ ?_
      refine XS.aloadN X13.here hx rfl (hb hby d5_30) rfl rfl ?_
      exact k
    obtain ⟨T15, X15, e15, st15⟩ := getF X13 hx hZ hown (host := "") (Or.inl (hw _ (List.mem_of_getElem? (i := 27) rfl))) Via.refl e13 F1 (g := (mkF m 31 #[.val (.ref r0), .val (.ref r1), .val (.ref r1)] [(.ref r0), (.long ib)])) rfl rfl (hb hby d5_31)
    have K15 : own_K p e below SE T15 (mkF m 34 #[.val (.ref r0), .val (.ref r1), .val (.ref r1)] [(.long ia), (.long ib)]) := fun t k => K14 _ (st15 _ k)
    have K17 : own_K p e below SE T15 (mkF m 35 #[.val (.ref r0), .val (.ref r1), .val (.ref r1)] [(.int (XT.cmpL ib ia))]) := by
      intro t k
      refine K15 _ ?_
      refine XT.lcmp X15.here hx rfl (hb hby d5_34) rfl ?_
      exact k
    by_cases c35_16 : ib = ia
    · skip
      have K18 : own_K p e below SE T15 (mkF m 39 #[.val (.ref r0), .val (.ref r1), .val (.ref r1)] [(.ref r1)]) := by
        intro t k
        refine K17 _ ?_
        refine XS.ifNo X15.here hx rfl (hb hby d5_35) rfl (XT.ll_ne_f c35_16) ?_
        show own_S p e below T15 (mkF m 38 #[.val (.ref r0), .val (.ref r1), .val (.ref r1)] []) _
        refine XS.aloadN X15.here hx rfl (hb hby d5_38) rfl rfl ?_
        exact k
      obtain ⟨T19, X19, e19, st19⟩ := getF X15 hx hZ hown (host := "") (Or.inl (hw _ (List.mem_of_getElem? (i := 29) rfl))) Via.refl e15 G2 (g := (mkF m 39 #[.val (.ref r0), .val (.ref r1), .val (.ref r1)] [(.ref r1)])) rfl rfl (hb hby d5_39)
      have K19 : own_K p e below SE T19 (mkF m 42 #[.val (.ref r0), .val (.ref r1), .val (.ref r1)] [(.long rb)]) := fun t k => K18 _ (st19 _ k)
      have K20 : own_K p e below SE T19 (mkF m 43 #[.val (.ref r0), .val (.ref r1), .val (.ref r1)] [(.ref r0), (.long rb)]) := by
        intro t k
        refine K19 _ ?_
        refine XS.aloadN X19.here hx rfl (hb hby d5_42) rfl rfl ?_
        exact k
      obtain ⟨T21, X21, e21, st21⟩ := getF X19 hx hZ hown (host := "") (Or.inl (hw _ (List.mem_of_getElem? (i := 29) rfl))) Via.refl e19 F2 (g := (mkF m 43 #[.val (.ref r0), .val (.ref r1), .val (.ref r1)] [(.ref r0), (.long rb)])) rfl rfl (hb hby d5_43)
      have K21 : own_K p e below SE T21 (mkF m 46 #[.val (.ref r0), .val (.ref r1), .val (.ref r1)] [(.long ra), (.long rb)]) := fun t k => K20 _ (st21 _ k)
      have K23 : own_K p e below SE T21 (mkF m 47 #[.val (.ref r0), .val (.ref r1), .val (.ref r1)] [(.int (XT.cmpL rb ra))]) := by
        intro t k
        refine K21 _ ?_
        refine XT.lcmp X21.here hx rfl (hb hby d5_46) rfl ?_
        exact k
      by_cases c47_22 : rb = ra
      · skip
        have K24 : own_K p e below SE T21 (mkF m 55 #[.val (.ref r0), .val (.ref r1), .val (.ref r1)] [(.int (1 : Int32))]) := by
          intro t k
          refine K23 _ ?_
          refine XS.ifNo X21.here hx rfl (hb hby d5_47) rfl (XT.ll_ne_f c47_22) ?_
          show own_S p e below T21 (mkF m 50 #[.val (.ref r0), .val (.ref r1), .val (.ref r1)] []) _
          refine XS.iconst X21.here hx rfl (hb hby d5_50) ?_
          show own_S p e below T21 (mkF m 51 #[.val (.ref r0), .val (.ref r1), .val (.ref r1)] [(.int (1 : Int32))]) _
          refine XS.goto X21.here hx rfl (pc0 := 51) (pc' := 55) rfl (hb hby d5_51) (by decide) (by decide) ?_
          exact k
        obtain ⟨fs, hr, hrun, hended, hW, hsame⟩ := X21.leave (v := some (.int (1 : Int32))) (fun h => by rw [Bd.returns] at h; cases h)
        refine ⟨_, _, K24 _ ?_, hrun, hended, _, _, rfl, ?_, ⟨_, rfl⟩, hW, hsame.mono (by decide) (by decide)⟩
        · exact retN X21 hx (t := .boolean) Bd.returns (by simp) (hb hby d5_55) hr
        · show Qrek Z r0 r1 G cn cx cy dn dx dy sa sb ia ra ib rb h0 n0 _ T21.heap _
          rw [e21]
          exact ⟨(by simp only [if_neg c23_10, if_pos c35_16, if_pos c47_22]), N9, rfl⟩
      · skip
        have K25 : own_K p e below SE T21 (mkF m 55 #[.val (.ref r0), .val (.ref r1), .val (.ref r1)] [(.int (0 : Int32))]) := by
          intro t k
          refine K23 _ ?_
          refine XS.ifYes X21.here hx rfl (pc0 := 47) (pc' := 54) rfl (hb hby d5_47) rfl (XT.ll_ne_t c47_22) (by decide) (by decide) ?_
          show own_S p e below T21 (mkF m 54 #[.val (.ref r0), .val (.ref r1), .val (.ref r1)] []) _
          refine XS.iconst X21.here hx rfl (hb hby d5_54) ?_
          exact k
        obtain ⟨fs, hr, hrun, hended, hW, hsame⟩ := X21.leave (v := some (.int (0 : Int32))) (fun h => by rw [Bd.returns] at h; cases h)
        refine ⟨_, _, K25 _ ?_, hrun, hended, _, _, rfl, ?_, ⟨_, rfl⟩, hW, hsame.mono (by decide) (by decide)⟩
        · exact retN X21 hx (t := .boolean) Bd.returns (by simp) (hb hby d5_55) hr
        · show Qrek Z r0 r1 G cn cx cy dn dx dy sa sb ia ra ib rb h0 n0 _ T21.heap _
          rw [e21]
          exact ⟨(by simp only [if_neg c23_10, if_pos c35_16, if_neg c47_22]), N9, rfl⟩
    · skip
      have K26 : own_K p e below SE T15 (mkF m 55 #[.val (.ref r0), .val (.ref r1), .val (.ref r1)] [(.int (0 : Int32))]) := by
        intro t k
        refine K17 _ ?_
        refine XS.ifYes X15.here hx rfl (pc0 := 35) (pc' := 54) rfl (hb hby d5_35) rfl (XT.ll_ne_t c35_16) (by decide) (by decide) ?_
        show own_S p e below T15 (mkF m 54 #[.val (.ref r0), .val (.ref r1), .val (.ref r1)] []) _
        refine XS.iconst X15.here hx rfl (hb hby d5_54) ?_
        exact k
      obtain ⟨fs, hr, hrun, hended, hW, hsame⟩ := X15.leave (v := some (.int (0 : Int32))) (fun h => by rw [Bd.returns] at h; cases h)
      refine ⟨_, _, K26 _ ?_, hrun, hended, _, _, rfl, ?_, ⟨_, rfl⟩, hW, hsame.mono (by decide) (by decide)⟩
      · exact retN X15 hx (t := .boolean) Bd.returns (by simp) (hb hby d5_55) hr
      · show Qrek Z r0 r1 G cn cx cy dn dx dy sa sb ia ra ib rb h0 n0 _ T15.heap _
        rw [e15]
        exact ⟨(by simp only [if_neg c23_10, if_neg c35_16]), N9, rfl⟩
theorem own_c8 (x c : Int32) (h : c = (((x &&& (255 : Int32))).toUInt32.toUInt16.toUInt32.toInt32)) : 0 ≤ c.toInt ∧ c.toInt < 256 := by
  rw [i2c_mask] at h
  have e1 : (x &&& (255 : Int32)).toInt = x.toInt % 2 ^ 8 := Jvm.Kit.i32_mask x 255 (k := 8) (by decide) (by decide)
  rw [h, e1]; omega
theorem own_cmask (c : Int32) (h : 0 ≤ c.toInt ∧ c.toInt < 256) : c = (c &&& (255 : Int32)) := by
  apply Int32.toInt_inj.mp
  have e1 : (c &&& (255 : Int32)).toInt = c.toInt % 2 ^ 8 := Jvm.Kit.i32_mask c 255 (k := 8) (by decide) (by decide)
  rw [e1]; omega
theorem own_nar (c : Int32) (h : 0 ≤ c.toInt ∧ c.toInt < 256) : nar .char c = c := by
  have e := own_cmask c h
  have e2 := i2c_mask c
  rw [← e] at e2
  exact e2
theorem own_l255 (c : Int32) (h : 0 ≤ c.toInt ∧ c.toInt < 256) : ¬ (255 : Int32) < c := by
  have k : (255 : Int32).toInt = 255 := by decide
  rw [Int32.lt_iff_toInt_lt, k]; omega
theorem own_x8 (a y c : Int32) (ha : 0 ≤ a.toInt ∧ a.toInt < 256) (h : c = (((a ^^^ (y &&& (1 : Int32)))).toUInt32.toUInt16.toUInt32.toInt32)) : 0 ≤ c.toInt ∧ c.toInt < 256 := by
  have e : (a ^^^ (y &&& (1 : Int32))) = ((a ^^^ (y &&& (1 : Int32))) &&& (255 : Int32)) := by
    have e0 := own_cmask a ha
    apply Int32.toBitVec_inj.mp
    have e1 : a.toBitVec = a.toBitVec &&& 255#32 := congrArg Int32.toBitVec e0
    show a.toBitVec ^^^ (y.toBitVec &&& 1#32) = (a.toBitVec ^^^ (y.toBitVec &&& 1#32)) &&& 255#32
    have d : (1#32) = (1#32) &&& 255#32 := by decide
    ext i hi
    have e2 : a.toBitVec[i] = (a.toBitVec[i] && (255#32)[i]) := by
      have := congrArg (fun z : BitVec 32 => z[i]) e1
      simpa only [BitVec.getElem_and] using this
    have e3 : (1#32)[i] = ((1#32)[i] && (255#32)[i]) := by
      have := congrArg (fun z : BitVec 32 => z[i]) d
      simpa only [BitVec.getElem_and] using this
    simp only [BitVec.getElem_xor, BitVec.getElem_and]
    revert e2 e3
    cases a.toBitVec[i] <;> cases y.toBitVec[i] <;> cases (1#32)[i] <;> cases (255#32)[i] <;> simp
  rw [e] at h
  exact own_c8 _ c h
theorem own_min3 (y l : Int32) (h : l = (if (2 : Int32) < (y &&& (3 : Int32)) then (2 : Int32) else (y &&& (3 : Int32)))) : l = (0 : Int32) ∨ l = (1 : Int32) ∨ l = (2 : Int32) := by
  have e : (y &&& (3 : Int32)).toInt = y.toInt % 2 ^ 2 := Jvm.Kit.i32_mask y 3 (k := 2) (by decide) (by decide)
  have e0 : (0 : Int32).toInt = 0 := by decide
  have e1 : (1 : Int32).toInt = 1 := by decide
  have e2 : (2 : Int32).toInt = 2 := by decide
  simp only [← Int32.toInt_inj, e0, e1, e2]
  by_cases q : (2 : Int32) < (y &&& (3 : Int32))
  · rw [if_pos q] at h; rw [h]; omega
  · rw [if_neg q] at h
    rw [Int32.lt_iff_toInt_lt, e2] at q
    rw [h]; omega
theorem own_byt (c d : Int32) (hc : 0 ≤ c.toInt ∧ c.toInt < 256) (hd : 0 ≤ d.toInt ∧ d.toInt < 256) : (((c).toInt8.toInt32).toInt8.toInt32 = ((d).toInt8.toInt32).toInt8.toInt32) ↔ c = d := by
  constructor
  · intro h
    have e0 := congrArg Int32.toInt h
    have key : ∀ z : Int32, (((z).toInt8.toInt32).toInt8.toInt32).toInt = z.toInt.bmod 256 := by
      intro z
      rw [Int8.toInt_toInt32, Int32.toInt_toInt8, Int8.toInt_toInt32, Int32.toInt_toInt8]
      first | exact Int.bmod_bmod | exact Int.bmod_bmod _ _ | simp
    rw [key, key, Int.bmod_def, Int.bmod_def] at e0
    apply Int32.toInt_inj.mp
    have m1 : c.toInt % ((256 : Nat) : Int) = c.toInt := Int.emod_eq_of_lt hc.1 hc.2
    have m2 : d.toInt % ((256 : Nat) : Int) = d.toInt := Int.emod_eq_of_lt hd.1 hd.2
    rw [m1, m2] at e0
    split at e0 <;> split at e0 <;> omega
  · intro h; rw [h]
theorem own_sn (n m x y u v sn : Int32) (hn : n = (0 : Int32) ∨ n = (1 : Int32) ∨ n = (2 : Int32)) (hm : m = (0 : Int32) ∨ m = (1 : Int32) ∨ m = (2 : Int32)) (hx : 0 ≤ x.toInt ∧ x.toInt < 256) (hy : 0 ≤ y.toInt ∧ y.toInt < 256) (hu : 0 ≤ u.toInt ∧ u.toInt < 256) (hv : 0 ≤ v.toInt ∧ v.toInt < 256) (h : sn = (if n = m then (if n < (1 : Int32) then (if n < (2 : Int32) then (1 : Int32) else (if y = v then (1 : Int32) else (0 : Int32))) else (if x = u then (if n < (2 : Int32) then (1 : Int32) else (if y = v then (1 : Int32) else (0 : Int32))) else (0 : Int32))) else (0 : Int32))) : own_eqs m u v n x y = sn ∧ own_eqs n x y m u v = sn := by
  have j0 := own_byt x u hx hu
  have j1 := own_byt y v hy hv
  have i0 : (((u).toInt8.toInt32).toInt8.toInt32 = ((x).toInt8.toInt32).toInt8.toInt32) ↔ x = u := ⟨fun q => j0.mp q.symm, fun q => (j0.mpr q).symm⟩
  have i1 : (((v).toInt8.toInt32).toInt8.toInt32 = ((y).toInt8.toInt32).toInt8.toInt32) ↔ y = v := ⟨fun q => j1.mp q.symm, fun q => (j1.mpr q).symm⟩
  rw [h]
  unfold own_eqs
  simp only [j0, j1, i0, i1]
  rcases hn with rfl | rfl | rfl <;> rcases hm with rfl | rfl | rfl <;> by_cases q0 : x = u <;> by_cases q1 : y = v <;> simp +decide [q0, q1]
theorem own_e1 {g sn ex : Int32} {a b c d : Int64} (h : g = sn) (hex : ex = (if sn = 0 then (0 : Int32) else (if a = b then (if c = d then (1 : Int32) else (0 : Int32)) else (0 : Int32)))) : (if g = 0 then (0 : Int32) else (if b = a then (if d = c then (1 : Int32) else (0 : Int32)) else (0 : Int32))) = ex := by
  rw [hex, h]
  by_cases w : sn = 0
  · rw [if_pos w, if_pos w]
  · rw [if_neg w, if_neg w]
    by_cases p : a = b
    · rw [if_pos p, if_pos p.symm]
      by_cases q : c = d
      · rw [if_pos q, if_pos q.symm]
      · rw [if_neg q, if_neg (Ne.symm q)]
    · rw [if_neg p, if_neg (Ne.symm p)]
theorem own_e2 {g sn ex : Int32} {a b c d : Int64} (h : g = sn) (hex : ex = (if sn = 0 then (0 : Int32) else (if a = b then (if c = d then (1 : Int32) else (0 : Int32)) else (0 : Int32)))) : (if g = 0 then (0 : Int32) else (if a = b then (if c = d then (1 : Int32) else (0 : Int32)) else (0 : Int32))) = ex := by
  rw [hex, h]
theorem own_self (n x y : Int32) (a c : Int64) : (if (own_eqs n x y n x y) = 0 then (0 : Int32) else (if a = a then (if c = c then (1 : Int32) else (0 : Int32)) else (0 : Int32))) = (1 : Int32) := by
  unfold own_eqs
  by_cases w : n = (0 : Int32)
  · simp +decide [w]
  · by_cases w1 : n = (1 : Int32)
    · simp +decide [w1]
    · simp +decide [w, w1]
theorem pd_0_0 : parseMethodDescriptor "(II)I" = some ⟨[.int, .int], some .int⟩ := by decide +kernel
theorem pd_0_1 : parseMethodDescriptor "(ICC)Ljava/lang/String;" = some ⟨[.int, .char, .char], some (.object "java/lang/String")⟩ := by decide +kernel
theorem pd_0_2 : parseMethodDescriptor "(Ljava/lang/String;JJ)V" = some ⟨[(.object "java/lang/String"), .long, .long], none⟩ := by decide +kernel
theorem pd_0_3 : parseMethodDescriptor "(Ljava/lang/Object;)Z" = some ⟨[(.object "java/lang/Object")], some .boolean⟩ := by decide +kernel
theorem ef_0 (m : MethodId) (p0 : Int32) (q1 : Int64) (q2 : Int64) (q3 : Int64) (q4 : Int64) (p5 : Int32) : entryFrame m #[(.int p0), (.long q1), (.long q2), (.long q3), (.long q4), (.int p5)] maxLocals = mkF m 0 #[.val (.int p0), .val (.long q1), .second, .val (.long q2), .second, .val (.long q3), .second, .val (.long q4), .second, .val (.int p5), .unset, .unset, .unset, .unset, .unset, .unset, .unset, .unset, .unset, .unset, .unset, .unset, .unset, .unset, .unset, .unset, .unset] [] := by first | (simp [entryFrame, mkF, argsToLocals, Value.category, maxLocals]; done) | rfl
def Q0 (Z : State) (p0 : Int32) (q1 : Int64) (q2 : Int64) (q3 : Int64) (q4 : Int64) (p5 : Int32) (G : Int32) (h0 : Heap) (n0 : Nat) (v : Option Value) (h : Heap) (L : List Loc) : Prop := v = some (.int 1) ∧ Fr n0 L
set_option maxRecDepth 65536 in
set_option maxHeartbeats 40000000 in
theorem rm0 (l : Launch) (Z : State) (a0 : Array Value) (hw : ∀ d ∈ tables_1, d.before a0 Z = true) (ws : List Jvm.Cond) (p0 : Int32) (q1 : Int64) (q2 : Int64) (q3 : Int64) (q4 : Int64) (p5 : Int32) (G : Int32) (h0 : Heap) (n0 : Nat) (Z0 : n0 ≤ h0.size) (S_cs : Sta Z h0 "java/lang/String" "COMPACT_STRINGS" "Z" (.int G)) (hG : ¬ G = 0) :
    MetFree l x (head1 (Jvm.Cond.code x code maxLocals ret :: ws) room_1) (fun a U => a = #[(.int p0), (.long q1), (.long q2), (.long q3), (.long q4), (.int p5)] ∧ Z.Warmed39 U.vm ∧ U.heap = h0 ∧ CHv Z own_EL U.vm h0) (fun _ _ _ _ _ => True) (fun _ U o U' => ∃ v L, o = .returned v ∧ Q0 Z p0 q1 q2 q3 q4 p5 G h0 n0 v U'.heap L ∧ ReturnedEndW U o U' L room_1.cells room_1.slots) := by
  refine MetFree.of_bodySF (plainFor_of_name pn_2) hisR ?_
  intro p e s m args below meth c s₁ Bd hml0 hP hK
  obtain ⟨rfl, hZ, hh, hCH⟩ := hP
  have hx := Bd.exec
  have hby := Bd.bytes
  have hml : c.maxLocals = 27 := hml0
  have hown : s.vm.findClass "com/example/enact/enact/model/RunKeyEqualsPinLaw" = some m.cls := findClass_of_methodNamed Bd.named
  have hnm := (name_of_methodNamed Bd.named Bd.method).1
  have X0 : Stand p l e room_1 (s.setVm s.vm) m #[(.int p0), (.long q1), (.long q2), (.long q3), (.long q4), (.int p5)] below meth c s₁ [] 0 0 := Stand.of_body Bd
  have e0 : s₁.heap = h0 := by rw [← hh, Bd.state]; rfl
  have N0 := Fr.nil n0
  have K0 : ∀ t, Steps p.tables e below (s₁.setTop (mkF m 0 #[.val (.int p0), .val (.long q1), .second, .val (.long q2), .second, .val (.long q3), .second, .val (.long q4), .second, .val (.int p5), .unset, .unset, .unset, .unset, .unset, .unset, .unset, .unset, .unset, .unset, .unset, .unset, .unset, .unset, .unset, .unset, .unset] [])) t → Steps p.tables e below (s₁.setTop (entryFrame m #[(.int p0), (.long q1), (.long q2), (.long q3), (.long q4), (.int p5)] maxLocals)) t := fun t k => castTop (ef_0 m p0 q1 q2 q3 q4 p5) k
  generalize s₁.setTop (entryFrame m #[(.int p0), (.long q1), (.long q2), (.long q3), (.long q4), (.int p5)] maxLocals) = SE at K0 ⊢
  have hS : s.Since s.vm h0.size := State.WarmedH.since (State.WarmedH.refl s) _
  have hk : h0.size ≤ h0.size := Nat.le_refl _
  have K1 : own_K p e below SE s₁ (mkF m 8 #[.val (.int p0), .val (.long q1), .second, .val (.long q2), .second, .val (.long q3), .second, .val (.long q4), .second, .val (.int p5), .val (.int (((p0 &&& (255 : Int32))).toUInt32.toUInt16.toUInt32.toInt32)), .unset, .unset, .unset, .unset, .unset, .unset, .unset, .unset, .unset, .unset, .unset, .unset, .unset, .unset, .unset, .unset] []) := by
    intro t k
    refine K0 _ ?_
    refine XS.iloadN X0.here hx rfl (hb hby at_0) rfl ?_
    show own_S p e below s₁ (mkF m 1 #[.val (.int p0), .val (.long q1), .second, .val (.long q2), .second, .val (.long q3), .second, .val (.long q4), .second, .val (.int p5), .unset, .unset, .unset, .unset, .unset, .unset, .unset, .unset, .unset, .unset, .unset, .unset, .unset, .unset, .unset, .unset, .unset] [(.int p0)]) _
    refine XS.sipush X0.here hx rfl (hb hby at_1) ?_
    show own_S p e below s₁ (mkF m 4 #[.val (.int p0), .val (.long q1), .second, .val (.long q2), .second, .val (.long q3), .second, .val (.long q4), .second, .val (.int p5), .unset, .unset, .unset, .unset, .unset, .unset, .unset, .unset, .unset, .unset, .unset, .unset, .unset, .unset, .unset, .unset, .unset] [(.int (255 : Int32)), (.int p0)]) _
    refine XS.iand X0.here hx rfl (hb hby at_4) rfl ?_
    show own_S p e below s₁ (mkF m 5 #[.val (.int p0), .val (.long q1), .second, .val (.long q2), .second, .val (.long q3), .second, .val (.long q4), .second, .val (.int p5), .unset, .unset, .unset, .unset, .unset, .unset, .unset, .unset, .unset, .unset, .unset, .unset, .unset, .unset, .unset, .unset, .unset] [(.int (p0 &&& (255 : Int32)))]) _
    refine XS.i2c X0.here hx rfl (hb hby at_5) rfl ?_
    show own_S p e below s₁ (mkF m 6 #[.val (.int p0), .val (.long q1), .second, .val (.long q2), .second, .val (.long q3), .second, .val (.long q4), .second, .val (.int p5), .unset, .unset, .unset, .unset, .unset, .unset, .unset, .unset, .unset, .unset, .unset, .unset, .unset, .unset, .unset, .unset, .unset] [(.int (((p0 &&& (255 : Int32))).toUInt32.toUInt16.toUInt32.toInt32))]) _
    refine XS.istore X0.here hx rfl (hb hby at_6) rfl (l' := #[.val (.int p0), .val (.long q1), .second, .val (.long q2), .second, .val (.long q3), .second, .val (.long q4), .second, .val (.int p5), .val (.int (((p0 &&& (255 : Int32))).toUInt32.toUInt16.toUInt32.toInt32)), .unset, .unset, .unset, .unset, .unset, .unset, .unset, .unset, .unset, .unset, .unset, .unset, .unset, .unset, .unset, .unset]) rfl ?_
    exact k
  obtain ⟨ca0, hca0⟩ : ∃ z : Int32, z = (((p0 &&& (255 : Int32))).toUInt32.toUInt16.toUInt32.toInt32) := ⟨_, rfl⟩
  rw [← hca0] at K1
  have K2 : own_K p e below SE s₁ (mkF m 19 #[.val (.int p0), .val (.long q1), .second, .val (.long q2), .second, .val (.long q3), .second, .val (.long q4), .second, .val (.int p5), .val (.int ca0), .val (.int (((((p0.toUInt32 >>> ((8 : Int32) &&& 31).toUInt32).toInt32) &&& (255 : Int32))).toUInt32.toUInt16.toUInt32.toInt32)), .unset, .unset, .unset, .unset, .unset, .unset, .unset, .unset, .unset, .unset, .unset, .unset, .unset, .unset, .unset] []) := by
    intro t k
    refine K1 _ ?_
    refine XS.iloadN X0.here hx rfl (hb hby at_8) rfl ?_
    show own_S p e below s₁ (mkF m 9 #[.val (.int p0), .val (.long q1), .second, .val (.long q2), .second, .val (.long q3), .second, .val (.long q4), .second, .val (.int p5), .val (.int ca0), .unset, .unset, .unset, .unset, .unset, .unset, .unset, .unset, .unset, .unset, .unset, .unset, .unset, .unset, .unset, .unset] [(.int p0)]) _
    refine XS.bipush X0.here hx rfl (hb hby at_9) ?_
    show own_S p e below s₁ (mkF m 11 #[.val (.int p0), .val (.long q1), .second, .val (.long q2), .second, .val (.long q3), .second, .val (.long q4), .second, .val (.int p5), .val (.int ca0), .unset, .unset, .unset, .unset, .unset, .unset, .unset, .unset, .unset, .unset, .unset, .unset, .unset, .unset, .unset, .unset] [(.int (8 : Int32)), (.int p0)]) _
    refine XS.iushr X0.here hx rfl (hb hby at_11) rfl ?_
    show own_S p e below s₁ (mkF m 12 #[.val (.int p0), .val (.long q1), .second, .val (.long q2), .second, .val (.long q3), .second, .val (.long q4), .second, .val (.int p5), .val (.int ca0), .unset, .unset, .unset, .unset, .unset, .unset, .unset, .unset, .unset, .unset, .unset, .unset, .unset, .unset, .unset, .unset] [(.int ((p0.toUInt32 >>> ((8 : Int32) &&& 31).toUInt32).toInt32))]) _
    refine XS.sipush X0.here hx rfl (hb hby at_12) ?_
    show own_S p e below s₁ (mkF m 15 #[.val (.int p0), .val (.long q1), .second, .val (.long q2), .second, .val (.long q3), .second, .val (.long q4), .second, .val (.int p5), .val (.int ca0), .unset, .unset, .unset, .unset, .unset, .unset, .unset, .unset, .unset, .unset, .unset, .unset, .unset, .unset, .unset, .unset] [(.int (255 : Int32)), (.int ((p0.toUInt32 >>> ((8 : Int32) &&& 31).toUInt32).toInt32))]) _
    refine XS.iand X0.here hx rfl (hb hby at_15) rfl ?_
    show own_S p e below s₁ (mkF m 16 #[.val (.int p0), .val (.long q1), .second, .val (.long q2), .second, .val (.long q3), .second, .val (.long q4), .second, .val (.int p5), .val (.int ca0), .unset, .unset, .unset, .unset, .unset, .unset, .unset, .unset, .unset, .unset, .unset, .unset, .unset, .unset, .unset, .unset] [(.int (((p0.toUInt32 >>> ((8 : Int32) &&& 31).toUInt32).toInt32) &&& (255 : Int32)))]) _
    refine XS.i2c X0.here hx rfl (hb hby at_16) rfl ?_
    show own_S p e below s₁ (mkF m 17 #[.val (.int p0), .val (.long q1), .second, .val (.long q2), .second, .val (.long q3), .second, .val (.long q4), .second, .val (.int p5), .val (.int ca0), .unset, .unset, .unset, .unset, .unset, .unset, .unset, .unset, .unset, .unset, .unset, .unset, .unset, .unset, .unset, .unset] [(.int (((((p0.toUInt32 >>> ((8 : Int32) &&& 31).toUInt32).toInt32) &&& (255 : Int32))).toUInt32.toUInt16.toUInt32.toInt32))]) _
    refine XS.istore X0.here hx rfl (hb hby at_17) rfl (l' := #[.val (.int p0), .val (.long q1), .second, .val (.long q2), .second, .val (.long q3), .second, .val (.long q4), .second, .val (.int p5), .val (.int ca0), .val (.int (((((p0.toUInt32 >>> ((8 : Int32) &&& 31).toUInt32).toInt32) &&& (255 : Int32))).toUInt32.toUInt16.toUInt32.toInt32)), .unset, .unset, .unset, .unset, .unset, .unset, .unset, .unset, .unset, .unset, .unset, .unset, .unset, .unset, .unset]) rfl ?_
    exact k
  obtain ⟨ca1, hca1⟩ : ∃ z : Int32, z = (((((p0.toUInt32 >>> ((8 : Int32) &&& 31).toUInt32).toInt32) &&& (255 : Int32))).toUInt32.toUInt16.toUInt32.toInt32) := ⟨_, rfl⟩
  rw [← hca1] at K2
  have K3 : own_K p e below SE s₁ (mkF m 31 #[.val (.int p0), .val (.long q1), .second, .val (.long q2), .second, .val (.long q3), .second, .val (.long q4), .second, .val (.int p5), .val (.int ca0), .val (.int ca1), .val (.int (((ca0 ^^^ (((p0.toUInt32 >>> ((18 : Int32) &&& 31).toUInt32).toInt32) &&& (1 : Int32)))).toUInt32.toUInt16.toUInt32.toInt32)), .unset, .unset, .unset, .unset, .unset, .unset, .unset, .unset, .unset, .unset, .unset, .unset, .unset, .unset] []) := by
    intro t k
    refine K2 _ ?_
    refine XS.iload X0.here hx rfl (hb hby at_19) rfl ?_
    show own_S p e below s₁ (mkF m 21 #[.val (.int p0), .val (.long q1), .second, .val (.long q2), .second, .val (.long q3), .second, .val (.long q4), .second, .val (.int p5), .val (.int ca0), .val (.int ca1), .unset, .unset, .unset, .unset, .unset, .unset, .unset, .unset, .unset, .unset, .unset, .unset, .unset, .unset, .unset] [(.int ca0)]) _
    refine XS.iloadN X0.here hx rfl (hb hby at_21) rfl ?_
    show own_S p e below s₁ (mkF m 22 #[.val (.int p0), .val (.long q1), .second, .val (.long q2), .second, .val (.long q3), .second, .val (.long q4), .second, .val (.int p5), .val (.int ca0), .val (.int ca1), .unset, .unset, .unset, .unset, .unset, .unset, .unset, .unset, .unset, .unset, .unset, .unset, .unset, .unset, .unset] [(.int p0), (.int ca0)]) _
    refine XS.bipush X0.here hx rfl (hb hby at_22) ?_
    show own_S p e below s₁ (mkF m 24 #[.val (.int p0), .val (.long q1), .second, .val (.long q2), .second, .val (.long q3), .second, .val (.long q4), .second, .val (.int p5), .val (.int ca0), .val (.int ca1), .unset, .unset, .unset, .unset, .unset, .unset, .unset, .unset, .unset, .unset, .unset, .unset, .unset, .unset, .unset] [(.int (18 : Int32)), (.int p0), (.int ca0)]) _
    refine XS.iushr X0.here hx rfl (hb hby at_24) rfl ?_
    show own_S p e below s₁ (mkF m 25 #[.val (.int p0), .val (.long q1), .second, .val (.long q2), .second, .val (.long q3), .second, .val (.long q4), .second, .val (.int p5), .val (.int ca0), .val (.int ca1), .unset, .unset, .unset, .unset, .unset, .unset, .unset, .unset, .unset, .unset, .unset, .unset, .unset, .unset, .unset] [(.int ((p0.toUInt32 >>> ((18 : Int32) &&& 31).toUInt32).toInt32)), (.int ca0)]) _
    refine XS.iconst X0.here hx rfl (hb hby at_25) ?_
    show own_S p e below s₁ (mkF m 26 #[.val (.int p0), .val (.long q1), .second, .val (.long q2), .second, .val (.long q3), .second, .val (.long q4), .second, .val (.int p5), .val (.int ca0), .val (.int ca1), .unset, .unset, .unset, .unset, .unset, .unset, .unset, .unset, .unset, .unset, .unset, .unset, .unset, .unset, .unset] [(.int (1 : Int32)), (.int ((p0.toUInt32 >>> ((18 : Int32) &&& 31).toUInt32).toInt32)), (.int ca0)]) _
    refine XS.iand X0.here hx rfl (hb hby at_26) rfl ?_
    show own_S p e below s₁ (mkF m 27 #[.val (.int p0), .val (.long q1), .second, .val (.long q2), .second, .val (.long q3), .second, .val (.long q4), .second, .val (.int p5), .val (.int ca0), .val (.int ca1), .unset, .unset, .unset, .unset, .unset, .unset, .unset, .unset, .unset, .unset, .unset, .unset, .unset, .unset, .unset] [(.int (((p0.toUInt32 >>> ((18 : Int32) &&& 31).toUInt32).toInt32) &&& (1 : Int32))), (.int ca0)]) _
    refine XS.ixor X0.here hx rfl (hb hby at_27) rfl ?_
    show own_S p e below s₁ (mkF m 28 #[.val (.int p0), .val (.long q1), .second, .val (.long q2), .second, .val (.long q3), .second, .val (.long q4), .second, .val (.int p5), .val (.int ca0), .val (.int ca1), .unset, .unset, .unset, .unset, .unset, .unset, .unset, .unset, .unset, .unset, .unset, .unset, .unset, .unset, .unset] [(.int (ca0 ^^^ (((p0.toUInt32 >>> ((18 : Int32) &&& 31).toUInt32).toInt32) &&& (1 : Int32))))]) _
    refine XS.i2c X0.here hx rfl (hb hby at_28) rfl ?_
    show own_S p e below s₁ (mkF m 29 #[.val (.int p0), .val (.long q1), .second, .val (.long q2), .second, .val (.long q3), .second, .val (.long q4), .second, .val (.int p5), .val (.int ca0), .val (.int ca1), .unset, .unset, .unset, .unset, .unset, .unset, .unset, .unset, .unset, .unset, .unset, .unset, .unset, .unset, .unset] [(.int (((ca0 ^^^ (((p0.toUInt32 >>> ((18 : Int32) &&& 31).toUInt32).toInt32) &&& (1 : Int32)))).toUInt32.toUInt16.toUInt32.toInt32))]) _
    refine XS.istore X0.here hx rfl (hb hby at_29) rfl (l' := #[.val (.int p0), .val (.long q1), .second, .val (.long q2), .second, .val (.long q3), .second, .val (.long q4), .second, .val (.int p5), .val (.int ca0), .val (.int ca1), .val (.int (((ca0 ^^^ (((p0.toUInt32 >>> ((18 : Int32) &&& 31).toUInt32).toInt32) &&& (1 : Int32)))).toUInt32.toUInt16.toUInt32.toInt32)), .unset, .unset, .unset, .unset, .unset, .unset, .unset, .unset, .unset, .unset, .unset, .unset, .unset, .unset]) rfl ?_
    exact k
  obtain ⟨cb0, hcb0⟩ : ∃ z : Int32, z = (((ca0 ^^^ (((p0.toUInt32 >>> ((18 : Int32) &&& 31).toUInt32).toInt32) &&& (1 : Int32)))).toUInt32.toUInt16.toUInt32.toInt32) := ⟨_, rfl⟩
  rw [← hcb0] at K3
  have K4 : own_K p e below SE s₁ (mkF m 43 #[.val (.int p0), .val (.long q1), .second, .val (.long q2), .second, .val (.long q3), .second, .val (.long q4), .second, .val (.int p5), .val (.int ca0), .val (.int ca1), .val (.int cb0), .val (.int (((ca1 ^^^ (((p0.toUInt32 >>> ((19 : Int32) &&& 31).toUInt32).toInt32) &&& (1 : Int32)))).toUInt32.toUInt16.toUInt32.toInt32)), .unset, .unset, .unset, .unset, .unset, .unset, .unset, .unset, .unset, .unset, .unset, .unset, .unset] []) := by
    intro t k
    refine K3 _ ?_
    refine XS.iload X0.here hx rfl (hb hby at_31) rfl ?_
    show own_S p e below s₁ (mkF m 33 #[.val (.int p0), .val (.long q1), .second, .val (.long q2), .second, .val (.long q3), .second, .val (.long q4), .second, .val (.int p5), .val (.int ca0), .val (.int ca1), .val (.int cb0), .unset, .unset, .unset, .unset, .unset, .unset, .unset, .unset, .unset, .unset, .unset, .unset, .unset, .unset] [(.int ca1)]) _
    refine XS.iloadN X0.here hx rfl (hb hby at_33) rfl ?_
    show own_S p e below s₁ (mkF m 34 #[.val (.int p0), .val (.long q1), .second, .val (.long q2), .second, .val (.long q3), .second, .val (.long q4), .second, .val (.int p5), .val (.int ca0), .val (.int ca1), .val (.int cb0), .unset, .unset, .unset, .unset, .unset, .unset, .unset, .unset, .unset, .unset, .unset, .unset, .unset, .unset] [(.int p0), (.int ca1)]) _
    refine XS.bipush X0.here hx rfl (hb hby at_34) ?_
    show own_S p e below s₁ (mkF m 36 #[.val (.int p0), .val (.long q1), .second, .val (.long q2), .second, .val (.long q3), .second, .val (.long q4), .second, .val (.int p5), .val (.int ca0), .val (.int ca1), .val (.int cb0), .unset, .unset, .unset, .unset, .unset, .unset, .unset, .unset, .unset, .unset, .unset, .unset, .unset, .unset] [(.int (19 : Int32)), (.int p0), (.int ca1)]) _
    refine XS.iushr X0.here hx rfl (hb hby at_36) rfl ?_
    show own_S p e below s₁ (mkF m 37 #[.val (.int p0), .val (.long q1), .second, .val (.long q2), .second, .val (.long q3), .second, .val (.long q4), .second, .val (.int p5), .val (.int ca0), .val (.int ca1), .val (.int cb0), .unset, .unset, .unset, .unset, .unset, .unset, .unset, .unset, .unset, .unset, .unset, .unset, .unset, .unset] [(.int ((p0.toUInt32 >>> ((19 : Int32) &&& 31).toUInt32).toInt32)), (.int ca1)]) _
    refine XS.iconst X0.here hx rfl (hb hby at_37) ?_
    show own_S p e below s₁ (mkF m 38 #[.val (.int p0), .val (.long q1), .second, .val (.long q2), .second, .val (.long q3), .second, .val (.long q4), .second, .val (.int p5), .val (.int ca0), .val (.int ca1), .val (.int cb0), .unset, .unset, .unset, .unset, .unset, .unset, .unset, .unset, .unset, .unset, .unset, .unset, .unset, .unset] [(.int (1 : Int32)), (.int ((p0.toUInt32 >>> ((19 : Int32) &&& 31).toUInt32).toInt32)), (.int ca1)]) _
    refine XS.iand X0.here hx rfl (hb hby at_38) rfl ?_
    show own_S p e below s₁ (mkF m 39 #[.val (.int p0), .val (.long q1), .second, .val (.long q2), .second, .val (.long q3), .second, .val (.long q4), .second, .val (.int p5), .val (.int ca0), .val (.int ca1), .val (.int cb0), .unset, .unset, .unset, .unset, .unset, .unset, .unset, .unset, .unset, .unset, .unset, .unset, .unset, .unset] [(.int (((p0.toUInt32 >>> ((19 : Int32) &&& 31).toUInt32).toInt32) &&& (1 : Int32))), (.int ca1)]) _
    refine XS.ixor X0.here hx rfl (hb hby at_39) rfl ?_
    show own_S p e below s₁ (mkF m 40 #[.val (.int p0), .val (.long q1), .second, .val (.long q2), .second, .val (.long q3), .second, .val (.long q4), .second, .val (.int p5), .val (.int ca0), .val (.int ca1), .val (.int cb0), .unset, .unset, .unset, .unset, .unset, .unset, .unset, .unset, .unset, .unset, .unset, .unset, .unset, .unset] [(.int (ca1 ^^^ (((p0.toUInt32 >>> ((19 : Int32) &&& 31).toUInt32).toInt32) &&& (1 : Int32))))]) _
    refine XS.i2c X0.here hx rfl (hb hby at_40) rfl ?_
    show own_S p e below s₁ (mkF m 41 #[.val (.int p0), .val (.long q1), .second, .val (.long q2), .second, .val (.long q3), .second, .val (.long q4), .second, .val (.int p5), .val (.int ca0), .val (.int ca1), .val (.int cb0), .unset, .unset, .unset, .unset, .unset, .unset, .unset, .unset, .unset, .unset, .unset, .unset, .unset, .unset] [(.int (((ca1 ^^^ (((p0.toUInt32 >>> ((19 : Int32) &&& 31).toUInt32).toInt32) &&& (1 : Int32)))).toUInt32.toUInt16.toUInt32.toInt32))]) _
    refine XS.istore X0.here hx rfl (hb hby at_41) rfl (l' := #[.val (.int p0), .val (.long q1), .second, .val (.long q2), .second, .val (.long q3), .second, .val (.long q4), .second, .val (.int p5), .val (.int ca0), .val (.int ca1), .val (.int cb0), .val (.int (((ca1 ^^^ (((p0.toUInt32 >>> ((19 : Int32) &&& 31).toUInt32).toInt32) &&& (1 : Int32)))).toUInt32.toUInt16.toUInt32.toInt32)), .unset, .unset, .unset, .unset, .unset, .unset, .unset, .unset, .unset, .unset, .unset, .unset, .unset]) rfl ?_
    exact k
  obtain ⟨cb1, hcb1⟩ : ∃ z : Int32, z = (((ca1 ^^^ (((p0.toUInt32 >>> ((19 : Int32) &&& 31).toUInt32).toInt32) &&& (1 : Int32)))).toUInt32.toUInt16.toUInt32.toInt32) := ⟨_, rfl⟩
  rw [← hcb1] at K4
  have ha0 := own_c8 _ _ hca0
  have ha1 := own_c8 _ _ hca1
  have hb0 := own_x8 _ _ _ ha0 hcb0
  have hb1 := own_x8 _ _ _ ha1 hcb1
  have K5 : own_K p e below SE s₁ (mkF m 50 #[.val (.int p0), .val (.long q1), .second, .val (.long q2), .second, .val (.long q3), .second, .val (.long q4), .second, .val (.int p5), .val (.int ca0), .val (.int ca1), .val (.int cb0), .val (.int cb1), .unset, .unset, .unset, .unset, .unset, .unset, .unset, .unset, .unset, .unset, .unset, .unset, .unset] [(.int (2 : Int32)), (.int (((p0.toUInt32 >>> ((16 : Int32) &&& 31).toUInt32).toInt32) &&& (3 : Int32)))]) := by
    intro t k
    refine K4 _ ?_
    refine XS.iloadN X0.here hx rfl (hb hby at_43) rfl ?_
    show own_S p e below s₁ (mkF m 44 #[.val (.int p0), .val (.long q1), .second, .val (.long q2), .second, .val (.long q3), .second, .val (.long q4), .second, .val (.int p5), .val (.int ca0), .val (.int ca1), .val (.int cb0), .val (.int cb1), .unset, .unset, .unset, .unset, .unset, .unset, .unset, .unset, .unset, .unset, .unset, .unset, .unset] [(.int p0)]) _
    refine XS.bipush X0.here hx rfl (hb hby at_44) ?_
    show own_S p e below s₁ (mkF m 46 #[.val (.int p0), .val (.long q1), .second, .val (.long q2), .second, .val (.long q3), .second, .val (.long q4), .second, .val (.int p5), .val (.int ca0), .val (.int ca1), .val (.int cb0), .val (.int cb1), .unset, .unset, .unset, .unset, .unset, .unset, .unset, .unset, .unset, .unset, .unset, .unset, .unset] [(.int (16 : Int32)), (.int p0)]) _
    refine XS.iushr X0.here hx rfl (hb hby at_46) rfl ?_
    show own_S p e below s₁ (mkF m 47 #[.val (.int p0), .val (.long q1), .second, .val (.long q2), .second, .val (.long q3), .second, .val (.long q4), .second, .val (.int p5), .val (.int ca0), .val (.int ca1), .val (.int cb0), .val (.int cb1), .unset, .unset, .unset, .unset, .unset, .unset, .unset, .unset, .unset, .unset, .unset, .unset, .unset] [(.int ((p0.toUInt32 >>> ((16 : Int32) &&& 31).toUInt32).toInt32))]) _
    refine XS.iconst X0.here hx rfl (hb hby at_47) ?_
    show own_S p e below s₁ (mkF m 48 #[.val (.int p0), .val (.long q1), .second, .val (.long q2), .second, .val (.long q3), .second, .val (.long q4), .second, .val (.int p5), .val (.int ca0), .val (.int ca1), .val (.int cb0), .val (.int cb1), .unset, .unset, .unset, .unset, .unset, .unset, .unset, .unset, .unset, .unset, .unset, .unset, .unset] [(.int (3 : Int32)), (.int ((p0.toUInt32 >>> ((16 : Int32) &&& 31).toUInt32).toInt32))]) _
    refine XS.iand X0.here hx rfl (hb hby at_48) rfl ?_
    show own_S p e below s₁ (mkF m 49 #[.val (.int p0), .val (.long q1), .second, .val (.long q2), .second, .val (.long q3), .second, .val (.long q4), .second, .val (.int p5), .val (.int ca0), .val (.int ca1), .val (.int cb0), .val (.int cb1), .unset, .unset, .unset, .unset, .unset, .unset, .unset, .unset, .unset, .unset, .unset, .unset, .unset] [(.int (((p0.toUInt32 >>> ((16 : Int32) &&& 31).toUInt32).toInt32) &&& (3 : Int32)))]) _
    refine XS.iconst X0.here hx rfl (hb hby at_49) ?_
    exact k
  obtain ⟨_, _, ⟨T6, L6, k6, n6⟩, -, X6, ⟨Lc6, hQ6, l6, y6, z6⟩, st6⟩ := Jvm.LawKit.callS X0 hx (y := (⟨"java/lang/Math", "min", "(II)I"⟩ : MethodName)) hown (mvT hZ (hw _ (List.mem_of_getElem? (i := 0) rfl))) (mvT hZ (hw _ (List.mem_of_getElem? (i := 1) rfl))) (mvT hZ (hw _ (List.mem_of_getElem? (i := 2) rfl))) (mvT hZ (hw _ (List.mem_of_getElem? (i := 3) rfl))) (by decide) (backOf (W := 0) (rmmin l Z a0 hw [] (((p0.toUInt32 >>> ((16 : Int32) &&& 31).toUInt32).toInt32) &&& (3 : Int32)) (2 : Int32) h0 n0 Z0) hZ (hw _ (List.mem_of_getElem? (i := 3) rfl)) (hw _ (List.mem_of_getElem? (i := 2) rfl)) (by decide) (by decide)) (g := (mkF m 50 #[.val (.int p0), .val (.long q1), .second, .val (.long q2), .second, .val (.long q3), .second, .val (.long q4), .second, .val (.int p5), .val (.int ca0), .val (.int ca1), .val (.int cb0), .val (.int cb1), .unset, .unset, .unset, .unset, .unset, .unset, .unset, .unset, .unset, .unset, .unset, .unset, .unset] [(.int (2 : Int32)), (.int (((p0.toUInt32 >>> ((16 : Int32) &&& 31).toUInt32).toInt32) &&& (3 : Int32)))])) rfl (by rw [hml]; rfl) (argsL := [(.int (((p0.toUInt32 >>> ((16 : Int32) &&& 31).toUInt32).toInt32) &&& (3 : Int32))), (.int (2 : Int32))]) (rest := []) (lenOf pd_0_0 rfl) rfl (by show 2 * 0 + _ ≤ _; exact Nat.le_of_eq rfl) (hb hby at_50) (fun _ _ => ⟨rfl, e0, (by decide : 0 + 0 ≤ _), (by decide : 0 + 0 ≤ _)⟩)
  dsimp only [Pt.U, Pt.locs, Pt.cells, Pt.slots] at X6 l6 y6 z6 st6 hQ6
  rw [y6, z6] at X6
  obtain ⟨rfl, Nq6, e6⟩ := hQ6
  have N6 : Fr n0 L6 := by rw [l6]; exact Fr.app N0 Nq6
  have K6 : own_K p e below SE T6 (mkF m 53 #[.val (.int p0), .val (.long q1), .second, .val (.long q2), .second, .val (.long q3), .second, .val (.long q4), .second, .val (.int p5), .val (.int ca0), .val (.int ca1), .val (.int cb0), .val (.int cb1), .unset, .unset, .unset, .unset, .unset, .unset, .unset, .unset, .unset, .unset, .unset, .unset, .unset] [(.int (if (2 : Int32) < (((p0.toUInt32 >>> ((16 : Int32) &&& 31).toUInt32).toInt32) &&& (3 : Int32)) then (2 : Int32) else (((p0.toUInt32 >>> ((16 : Int32) &&& 31).toUInt32).toInt32) &&& (3 : Int32))))]) := fun t k => K5 _ (st6 _ k)
  have K7 : own_K p e below SE T6 (mkF m 55 #[.val (.int p0), .val (.long q1), .second, .val (.long q2), .second, .val (.long q3), .second, .val (.long q4), .second, .val (.int p5), .val (.int ca0), .val (.int ca1), .val (.int cb0), .val (.int cb1), .val (.int (if (2 : Int32) < (((p0.toUInt32 >>> ((16 : Int32) &&& 31).toUInt32).toInt32) &&& (3 : Int32)) then (2 : Int32) else (((p0.toUInt32 >>> ((16 : Int32) &&& 31).toUInt32).toInt32) &&& (3 : Int32)))), .unset, .unset, .unset, .unset, .unset, .unset, .unset, .unset, .unset, .unset, .unset, .unset] []) := by
    intro t k
    refine K6 _ ?_
    refine XS.istore X6.here hx rfl (hb hby at_53) rfl (l' := #[.val (.int p0), .val (.long q1), .second, .val (.long q2), .second, .val (.long q3), .second, .val (.long q4), .second, .val (.int p5), .val (.int ca0), .val (.int ca1), .val (.int cb0), .val (.int cb1), .val (.int (if (2 : Int32) < (((p0.toUInt32 >>> ((16 : Int32) &&& 31).toUInt32).toInt32) &&& (3 : Int32)) then (2 : Int32) else (((p0.toUInt32 >>> ((16 : Int32) &&& 31).toUInt32).toInt32) &&& (3 : Int32)))), .unset, .unset, .unset, .unset, .unset, .unset, .unset, .unset, .unset, .unset, .unset, .unset]) rfl ?_
    exact k
  obtain ⟨la, hla⟩ : ∃ z : Int32, z = (if (2 : Int32) < (((p0.toUInt32 >>> ((16 : Int32) &&& 31).toUInt32).toInt32) &&& (3 : Int32)) then (2 : Int32) else (((p0.toUInt32 >>> ((16 : Int32) &&& 31).toUInt32).toInt32) &&& (3 : Int32))) := ⟨_, rfl⟩
  rw [← hla] at K7
  have hla3 := own_min3 _ la hla
  have K8 : own_K p e below SE T6 (mkF m 61 #[.val (.int p0), .val (.long q1), .second, .val (.long q2), .second, .val (.long q3), .second, .val (.long q4), .second, .val (.int p5), .val (.int ca0), .val (.int ca1), .val (.int cb0), .val (.int cb1), .val (.int la), .unset, .unset, .unset, .unset, .unset, .unset, .unset, .unset, .unset, .unset, .unset, .unset] [(.int (((p0.toUInt32 >>> ((20 : Int32) &&& 31).toUInt32).toInt32) &&& (1 : Int32)))]) := by
    intro t k
    refine K7 _ ?_
    refine XS.iloadN X6.here hx rfl (hb hby at_55) rfl ?_
    show own_S p e below T6 (mkF m 56 #[.val (.int p0), .val (.long q1), .second, .val (.long q2), .second, .val (.long q3), .second, .val (.long q4), .second, .val (.int p5), .val (.int ca0), .val (.int ca1), .val (.int cb0), .val (.int cb1), .val (.int la), .unset, .unset, .unset, .unset, .unset, .unset, .unset, .unset, .unset, .unset, .unset, .unset] [(.int p0)]) _
    refine XS.bipush X6.here hx rfl (hb hby at_56) ?_
    show own_S p e below T6 (mkF m 58 #[.val (.int p0), .val (.long q1), .second, .val (.long q2), .second, .val (.long q3), .second, .val (.long q4), .second, .val (.int p5), .val (.int ca0), .val (.int ca1), .val (.int cb0), .val (.int cb1), .val (.int la), .unset, .unset, .unset, .unset, .unset, .unset, .unset, .unset, .unset, .unset, .unset, .unset] [(.int (20 : Int32)), (.int p0)]) _
    refine XS.iushr X6.here hx rfl (hb hby at_58) rfl ?_
    show own_S p e below T6 (mkF m 59 #[.val (.int p0), .val (.long q1), .second, .val (.long q2), .second, .val (.long q3), .second, .val (.long q4), .second, .val (.int p5), .val (.int ca0), .val (.int ca1), .val (.int cb0), .val (.int cb1), .val (.int la), .unset, .unset, .unset, .unset, .unset, .unset, .unset, .unset, .unset, .unset, .unset, .unset] [(.int ((p0.toUInt32 >>> ((20 : Int32) &&& 31).toUInt32).toInt32))]) _
    refine XS.iconst X6.here hx rfl (hb hby at_59) ?_
    show own_S p e below T6 (mkF m 60 #[.val (.int p0), .val (.long q1), .second, .val (.long q2), .second, .val (.long q3), .second, .val (.long q4), .second, .val (.int p5), .val (.int ca0), .val (.int ca1), .val (.int cb0), .val (.int cb1), .val (.int la), .unset, .unset, .unset, .unset, .unset, .unset, .unset, .unset, .unset, .unset, .unset, .unset] [(.int (1 : Int32)), (.int ((p0.toUInt32 >>> ((20 : Int32) &&& 31).toUInt32).toInt32))]) _
    refine XS.iand X6.here hx rfl (hb hby at_60) rfl ?_
    exact k
  obtain ⟨T9, L9, vm9, k9, lb, sa, sb, X9, N9, hS, hk, hZ, hown, Kp9, hlb3, Sa, Sb, K9⟩ : ∃ (T9 : State) (L9 : List Loc) (vm9 : Vm) (k9 : Nat) (lb : Int32) (sa sb : Addr), Stand p l e room_1 (s.setVm vm9) m #[(.int p0), (.long q1), (.long q2), (.long q3), (.long q4), (.int p5)] below meth c T9 L9 16 100 ∧ Fr n0 L9 ∧ s.Since vm9 k9 ∧ k9 ≤ T9.heap.size ∧ Z.Warmed39 (s.setVm vm9).vm ∧ (s.setVm vm9).vm.findClass "com/example/enact/enact/model/RunKeyEqualsPinLaw" = some m.cls ∧ Keep h0 T9.heap [] ∧ (lb = (0 : Int32) ∨ lb = (1 : Int32) ∨ lb = (2 : Int32)) ∧ own_Str Z T9.heap sa la ca0 ca1 ∧ own_Str Z T9.heap sb lb cb0 cb1 ∧ own_K p e below SE T9 (mkF m 103 #[.val (.int p0), .val (.long q1), .second, .val (.long q2), .second, .val (.long q3), .second, .val (.long q4), .second, .val (.int p5), .val (.int ca0), .val (.int ca1), .val (.int cb0), .val (.int cb1), .val (.int la), .val (.int lb), .val (.ref sa), .val (.ref sb), .unset, .unset, .unset, .unset, .unset, .unset, .unset, .unset, .unset] []) := by
    by_cases c61 : (((p0.toUInt32 >>> ((20 : Int32) &&& 31).toUInt32).toInt32) &&& (1 : Int32)) = 0
    · skip
      have K9 : own_K p e below SE T6 (mkF m 76 #[.val (.int p0), .val (.long q1), .second, .val (.long q2), .second, .val (.long q3), .second, .val (.long q4), .second, .val (.int p5), .val (.int ca0), .val (.int ca1), .val (.int cb0), .val (.int cb1), .val (.int la), .unset, .unset, .unset, .unset, .unset, .unset, .unset, .unset, .unset, .unset, .unset, .unset] [(.int (2 : Int32)), (.int (((p0.toUInt32 >>> ((21 : Int32) &&& 31).toUInt32).toInt32) &&& (3 : Int32)))]) := by
        intro t k
        refine K8 _ ?_
        refine XS.ifYes X6.here hx rfl (pc0 := 61) (pc' := 69) rfl (hb hby at_61) rfl (XT.i0_eq_t c61) (by decide) (by decide) ?_
        show own_S p e below T6 (mkF m 69 #[.val (.int p0), .val (.long q1), .second, .val (.long q2), .second, .val (.long q3), .second, .val (.long q4), .second, .val (.int p5), .val (.int ca0), .val (.int ca1), .val (.int cb0), .val (.int cb1), .val (.int la), .unset, .unset, .unset, .unset, .unset, .unset, .unset, .unset, .unset, .unset, .unset, .unset] []) _
        refine XS.iloadN X6.here hx rfl (hb hby at_69) rfl ?_
        show own_S p e below T6 (mkF m 70 #[.val (.int p0), .val (.long q1), .second, .val (.long q2), .second, .val (.long q3), .second, .val (.long q4), .second, .val (.int p5), .val (.int ca0), .val (.int ca1), .val (.int cb0), .val (.int cb1), .val (.int la), .unset, .unset, .unset, .unset, .unset, .unset, .unset, .unset, .unset, .unset, .unset, .unset] [(.int p0)]) _
        refine XS.bipush X6.here hx rfl (hb hby at_70) ?_
        show own_S p e below T6 (mkF m 72 #[.val (.int p0), .val (.long q1), .second, .val (.long q2), .second, .val (.long q3), .second, .val (.long q4), .second, .val (.int p5), .val (.int ca0), .val (.int ca1), .val (.int cb0), .val (.int cb1), .val (.int la), .unset, .unset, .unset, .unset, .unset, .unset, .unset, .unset, .unset, .unset, .unset, .unset] [(.int (21 : Int32)), (.int p0)]) _
        refine XS.iushr X6.here hx rfl (hb hby at_72) rfl ?_
        show own_S p e below T6 (mkF m 73 #[.val (.int p0), .val (.long q1), .second, .val (.long q2), .second, .val (.long q3), .second, .val (.long q4), .second, .val (.int p5), .val (.int ca0), .val (.int ca1), .val (.int cb0), .val (.int cb1), .val (.int la), .unset, .unset, .unset, .unset, .unset, .unset, .unset, .unset, .unset, .unset, .unset, .unset] [(.int ((p0.toUInt32 >>> ((21 : Int32) &&& 31).toUInt32).toInt32))]) _
        refine XS.iconst X6.here hx rfl (hb hby at_73) ?_
        show own_S p e below T6 (mkF m 74 #[.val (.int p0), .val (.long q1), .second, .val (.long q2), .second, .val (.long q3), .second, .val (.long q4), .second, .val (.int p5), .val (.int ca0), .val (.int ca1), .val (.int cb0), .val (.int cb1), .val (.int la), .unset, .unset, .unset, .unset, .unset, .unset, .unset, .unset, .unset, .unset, .unset, .unset] [(.int (3 : Int32)), (.int ((p0.toUInt32 >>> ((21 : Int32) &&& 31).toUInt32).toInt32))]) _
        refine XS.iand X6.here hx rfl (hb hby at_74) rfl ?_
        show own_S p e below T6 (mkF m 75 #[.val (.int p0), .val (.long q1), .second, .val (.long q2), .second, .val (.long q3), .second, .val (.long q4), .second, .val (.int p5), .val (.int ca0), .val (.int ca1), .val (.int cb0), .val (.int cb1), .val (.int la), .unset, .unset, .unset, .unset, .unset, .unset, .unset, .unset, .unset, .unset, .unset, .unset] [(.int (((p0.toUInt32 >>> ((21 : Int32) &&& 31).toUInt32).toInt32) &&& (3 : Int32)))]) _
        refine XS.iconst X6.here hx rfl (hb hby at_75) ?_
        exact k
      obtain ⟨_, _, ⟨T10, L10, k10, n10⟩, -, X10, ⟨Lc10, hQ10, l10, y10, z10⟩, st10⟩ := Jvm.LawKit.callS X6 hx (y := (⟨"java/lang/Math", "min", "(II)I"⟩ : MethodName)) hown (mvT hZ (hw _ (List.mem_of_getElem? (i := 0) rfl))) (mvT hZ (hw _ (List.mem_of_getElem? (i := 1) rfl))) (mvT hZ (hw _ (List.mem_of_getElem? (i := 2) rfl))) (mvT hZ (hw _ (List.mem_of_getElem? (i := 3) rfl))) (by decide) (backOf (W := 0) (rmmin l Z a0 hw [] (((p0.toUInt32 >>> ((21 : Int32) &&& 31).toUInt32).toInt32) &&& (3 : Int32)) (2 : Int32) h0 n0 Z0) hZ (hw _ (List.mem_of_getElem? (i := 3) rfl)) (hw _ (List.mem_of_getElem? (i := 2) rfl)) (by decide) (by decide)) (g := (mkF m 76 #[.val (.int p0), .val (.long q1), .second, .val (.long q2), .second, .val (.long q3), .second, .val (.long q4), .second, .val (.int p5), .val (.int ca0), .val (.int ca1), .val (.int cb0), .val (.int cb1), .val (.int la), .unset, .unset, .unset, .unset, .unset, .unset, .unset, .unset, .unset, .unset, .unset, .unset] [(.int (2 : Int32)), (.int (((p0.toUInt32 >>> ((21 : Int32) &&& 31).toUInt32).toInt32) &&& (3 : Int32)))])) rfl (by rw [hml]; rfl) (argsL := [(.int (((p0.toUInt32 >>> ((21 : Int32) &&& 31).toUInt32).toInt32) &&& (3 : Int32))), (.int (2 : Int32))]) (rest := []) (lenOf pd_0_0 rfl) rfl (by show 2 * 0 + _ ≤ _; exact Nat.le_of_eq rfl) (hb hby at_76) (fun _ _ => ⟨rfl, e6, (by decide : 0 + 0 ≤ _), (by decide : 0 + 0 ≤ _)⟩)
      dsimp only [Pt.U, Pt.locs, Pt.cells, Pt.slots] at X10 l10 y10 z10 st10 hQ10
      rw [y10, z10] at X10
      obtain ⟨rfl, Nq10, e10⟩ := hQ10
      have N10 : Fr n0 L10 := by rw [l10]; exact Fr.app N6 Nq10
      have K10 : own_K p e below SE T10 (mkF m 79 #[.val (.int p0), .val (.long q1), .second, .val (.long q2), .second, .val (.long q3), .second, .val (.long q4), .second, .val (.int p5), .val (.int ca0), .val (.int ca1), .val (.int cb0), .val (.int cb1), .val (.int la), .unset, .unset, .unset, .unset, .unset, .unset, .unset, .unset, .unset, .unset, .unset, .unset] [(.int (if (2 : Int32) < (((p0.toUInt32 >>> ((21 : Int32) &&& 31).toUInt32).toInt32) &&& (3 : Int32)) then (2 : Int32) else (((p0.toUInt32 >>> ((21 : Int32) &&& 31).toUInt32).toInt32) &&& (3 : Int32))))]) := fun t k => K9 _ (st10 _ k)
      have K11 : own_K p e below SE T10 (mkF m 81 #[.val (.int p0), .val (.long q1), .second, .val (.long q2), .second, .val (.long q3), .second, .val (.long q4), .second, .val (.int p5), .val (.int ca0), .val (.int ca1), .val (.int cb0), .val (.int cb1), .val (.int la), .val (.int (if (2 : Int32) < (((p0.toUInt32 >>> ((21 : Int32) &&& 31).toUInt32).toInt32) &&& (3 : Int32)) then (2 : Int32) else (((p0.toUInt32 >>> ((21 : Int32) &&& 31).toUInt32).toInt32) &&& (3 : Int32)))), .unset, .unset, .unset, .unset, .unset, .unset, .unset, .unset, .unset, .unset, .unset] []) := by
        intro t k
        refine K10 _ ?_
        refine XS.istore X10.here hx rfl (hb hby at_79) rfl (l' := #[.val (.int p0), .val (.long q1), .second, .val (.long q2), .second, .val (.long q3), .second, .val (.long q4), .second, .val (.int p5), .val (.int ca0), .val (.int ca1), .val (.int cb0), .val (.int cb1), .val (.int la), .val (.int (if (2 : Int32) < (((p0.toUInt32 >>> ((21 : Int32) &&& 31).toUInt32).toInt32) &&& (3 : Int32)) then (2 : Int32) else (((p0.toUInt32 >>> ((21 : Int32) &&& 31).toUInt32).toInt32) &&& (3 : Int32)))), .unset, .unset, .unset, .unset, .unset, .unset, .unset, .unset, .unset, .unset, .unset]) rfl ?_
        exact k
      obtain ⟨lb0, hlb0⟩ : ∃ z : Int32, z = (if (2 : Int32) < (((p0.toUInt32 >>> ((21 : Int32) &&& 31).toUInt32).toInt32) &&& (3 : Int32)) then (2 : Int32) else (((p0.toUInt32 >>> ((21 : Int32) &&& 31).toUInt32).toInt32) &&& (3 : Int32))) := ⟨_, rfl⟩
      rw [← hlb0] at K11
      have hlb03 := own_min3 _ lb0 hlb0
      rcases hla3 with hA | hA | hA <;> rcases id hlb03 with hB | hB | hB
      · skip
        have K12 : own_K p e below SE T10 (mkF m 87 #[.val (.int p0), .val (.long q1), .second, .val (.long q2), .second, .val (.long q3), .second, .val (.long q4), .second, .val (.int p5), .val (.int ca0), .val (.int ca1), .val (.int cb0), .val (.int cb1), .val (.int la), .val (.int lb0), .unset, .unset, .unset, .unset, .unset, .unset, .unset, .unset, .unset, .unset, .unset] [(.int ca1), (.int ca0), (.int la)]) := by
          intro t k
          refine K11 _ ?_
          refine XS.iload X10.here hx rfl (hb hby at_81) rfl ?_
          show own_S p e below T10 (mkF m 83 #[.val (.int p0), .val (.long q1), .second, .val (.long q2), .second, .val (.long q3), .second, .val (.long q4), .second, .val (.int p5), .val (.int ca0), .val (.int ca1), .val (.int cb0), .val (.int cb1), .val (.int la), .val (.int lb0), .unset, .unset, .unset, .unset, .unset, .unset, .unset, .unset, .unset, .unset, .unset] [(.int la)]) _
          refine XS.iload X10.here hx rfl (hb hby at_83) rfl ?_
          show own_S p e below T10 (mkF m 85 #[.val (.int p0), .val (.long q1), .second, .val (.long q2), .second, .val (.long q3), .second, .val (.long q4), .second, .val (.int p5), .val (.int ca0), .val (.int ca1), .val (.int cb0), .val (.int cb1), .val (.int la), .val (.int lb0), .unset, .unset, .unset, .unset, .unset, .unset, .unset, .unset, .unset, .unset, .unset] [(.int ca0), (.int la)]) _
          refine XS.iload X10.here hx rfl (hb hby at_85) rfl ?_
          exact k
        obtain ⟨_, _, ⟨T13, L13, k13, n13⟩, -, X13, hSq13, gq13, ⟨Lc13, hQ13, l13, y13, z13, hCr13⟩, st13⟩ := callSS X10 hx (y := (⟨"com/example/enact/enact/model/RunKeyEqualsPinLaw", "mk", "(ICC)Ljava/lang/String;"⟩ : MethodName)) hown (mvT hZ (hw _ (List.mem_of_getElem? (i := 4) rfl))) (mvT hZ (hw _ (List.mem_of_getElem? (i := 5) rfl))) (mvT hZ (hw _ (List.mem_of_getElem? (i := 6) rfl))) (mvT hZ (hw _ (List.mem_of_getElem? (i := 7) rfl))) (by decide) (backOfSH (W := 0) (rmmk0 l Z a0 hw [] ca0 ca1 h0 n0 Z0) hZ (hw _ (List.mem_of_getElem? (i := 7) rfl)) (hw _ (List.mem_of_getElem? (i := 6) rfl)) (by decide) (by decide) (own_ew hw) hCH) (g := (mkF m 87 #[.val (.int p0), .val (.long q1), .second, .val (.long q2), .second, .val (.long q3), .second, .val (.long q4), .second, .val (.int p5), .val (.int ca0), .val (.int ca1), .val (.int cb0), .val (.int cb1), .val (.int la), .val (.int lb0), .unset, .unset, .unset, .unset, .unset, .unset, .unset, .unset, .unset, .unset, .unset] [(.int ca1), (.int ca0), (.int la)])) rfl (by rw [hml]; rfl) (argsL := [(.int la), (.int ca0), (.int ca1)]) (rest := []) (lenOf pd_0_1 rfl) rfl (by show 2 * 0 + _ ≤ _; exact Nat.le_of_eq rfl) (hb hby at_87) (fun _ _ => ⟨(by rw [hA]), e10, (by decide : 0 + 2 ≤ _), (by decide : 0 + 4 ≤ _)⟩)
        dsimp only [Pt.U, Pt.locs, Pt.cells, Pt.slots] at X13 l13 y13 z13 st13 hQ13 hSq13 gq13
        rw [y13, z13] at X13
        obtain ⟨X13, hS, hZ, hown⟩ := rebS hS (by rw [e10]; exact hk) X13 hSq13 gq13 hZ hown
        have hCH := hCr13.1
        obtain ⟨sv13, rfl, Nq13, Kq13, Ex13, Fc13, db13, kd13, Fv13, Va13⟩ := hQ13
        have N13 : Fr n0 L13 := by rw [l13]; exact Fr.app N10 Nq13
        have Kp13 : Keep h0 T13.heap [] := Keep.trans (Keep.refl h0 []) Kq13 all0
        have K13 : own_K p e below SE T13 (mkF m 90 #[.val (.int p0), .val (.long q1), .second, .val (.long q2), .second, .val (.long q3), .second, .val (.long q4), .second, .val (.int p5), .val (.int ca0), .val (.int ca1), .val (.int cb0), .val (.int cb1), .val (.int la), .val (.int lb0), .unset, .unset, .unset, .unset, .unset, .unset, .unset, .unset, .unset, .unset, .unset] [(.ref sv13)]) := fun t k => K12 _ (st13.trans k)
        have S_a : own_Str Z T13.heap sv13 la ca0 ca1 := ⟨Ex13, Fc13, db13, kd13, Fv13, (by rw [hA, own_bl0]; exact Va13)⟩
        have K14 : own_K p e below SE T13 (mkF m 98 #[.val (.int p0), .val (.long q1), .second, .val (.long q2), .second, .val (.long q3), .second, .val (.long q4), .second, .val (.int p5), .val (.int ca0), .val (.int ca1), .val (.int cb0), .val (.int cb1), .val (.int la), .val (.int lb0), .val (.ref sv13), .unset, .unset, .unset, .unset, .unset, .unset, .unset, .unset, .unset, .unset] [(.int cb1), (.int cb0), (.int lb0)]) := by
          intro t k
          refine K13 _ ?_
          refine XS.astore X13.here hx rfl (hb hby at_90) rfl rfl (l' := #[.val (.int p0), .val (.long q1), .second, .val (.long q2), .second, .val (.long q3), .second, .val (.long q4), .second, .val (.int p5), .val (.int ca0), .val (.int ca1), .val (.int cb0), .val (.int cb1), .val (.int la), .val (.int lb0), .val (.ref sv13), .unset, .unset, .unset, .unset, .unset, .unset, .unset, .unset, .unset, .unset]) rfl ?_
          show own_S p e below T13 (mkF m 92 #[.val (.int p0), .val (.long q1), .second, .val (.long q2), .second, .val (.long q3), .second, .val (.long q4), .second, .val (.int p5), .val (.int ca0), .val (.int ca1), .val (.int cb0), .val (.int cb1), .val (.int la), .val (.int lb0), .val (.ref sv13), .unset, .unset, .unset, .unset, .unset, .unset, .unset, .unset, .unset, .unset] []) _
          refine XS.iload X13.here hx rfl (hb hby at_92) rfl ?_
          show own_S p e below T13 (mkF m 94 #[.val (.int p0), .val (.long q1), .second, .val (.long q2), .second, .val (.long q3), .second, .val (.long q4), .second, .val (.int p5), .val (.int ca0), .val (.int ca1), .val (.int cb0), .val (.int cb1), .val (.int la), .val (.int lb0), .val (.ref sv13), .unset, .unset, .unset, .unset, .unset, .unset, .unset, .unset, .unset, .unset] [(.int lb0)]) _
          refine XS.iload X13.here hx rfl (hb hby at_94) rfl ?_
          show own_S p e below T13 (mkF m 96 #[.val (.int p0), .val (.long q1), .second, .val (.long q2), .second, .val (.long q3), .second, .val (.long q4), .second, .val (.int p5), .val (.int ca0), .val (.int ca1), .val (.int cb0), .val (.int cb1), .val (.int la), .val (.int lb0), .val (.ref sv13), .unset, .unset, .unset, .unset, .unset, .unset, .unset, .unset, .unset, .unset] [(.int cb0), (.int lb0)]) _
          refine XS.iload X13.here hx rfl (hb hby at_96) rfl ?_
          exact k
        obtain ⟨_, _, ⟨T15, L15, k15, n15⟩, -, X15, hSq15, gq15, ⟨Lc15, hQ15, l15, y15, z15, hCr15⟩, st15⟩ := callSS X13 hx (y := (⟨"com/example/enact/enact/model/RunKeyEqualsPinLaw", "mk", "(ICC)Ljava/lang/String;"⟩ : MethodName)) hown (mvT hZ (hw _ (List.mem_of_getElem? (i := 4) rfl))) (mvT hZ (hw _ (List.mem_of_getElem? (i := 5) rfl))) (mvT hZ (hw _ (List.mem_of_getElem? (i := 6) rfl))) (mvT hZ (hw _ (List.mem_of_getElem? (i := 7) rfl))) (by decide) (backOfSH (W := 0) (rmmk0 l Z a0 hw [] cb0 cb1 T13.heap n0 (Nat.le_trans Z0 Kp13.1)) hZ (hw _ (List.mem_of_getElem? (i := 7) rfl)) (hw _ (List.mem_of_getElem? (i := 6) rfl)) (by decide) (by decide) (own_ew hw) hCH) (g := (mkF m 98 #[.val (.int p0), .val (.long q1), .second, .val (.long q2), .second, .val (.long q3), .second, .val (.long q4), .second, .val (.int p5), .val (.int ca0), .val (.int ca1), .val (.int cb0), .val (.int cb1), .val (.int la), .val (.int lb0), .val (.ref sv13), .unset, .unset, .unset, .unset, .unset, .unset, .unset, .unset, .unset, .unset] [(.int cb1), (.int cb0), (.int lb0)])) rfl (by rw [hml]; rfl) (argsL := [(.int lb0), (.int cb0), (.int cb1)]) (rest := []) (lenOf pd_0_1 rfl) rfl (by show 2 * 0 + _ ≤ _; exact Nat.le_of_eq rfl) (hb hby at_98) (fun _ _ => ⟨(by rw [hB]), rfl, (by decide : 2 + 2 ≤ _), (by decide : 4 + 4 ≤ _)⟩)
        dsimp only [Pt.U, Pt.locs, Pt.cells, Pt.slots] at X15 l15 y15 z15 st15 hQ15 hSq15 gq15
        rw [y15, z15] at X15
        obtain ⟨X15, hS, hZ, hown⟩ := rebS hS (Nat.le_refl _) X15 hSq15 gq15 hZ hown
        have hCH := hCr15.1
        obtain ⟨sv15, rfl, Nq15, Kq15, Ex15, Fc15, db15, kd15, Fv15, Va15⟩ := hQ15
        have N15 : Fr n0 L15 := by rw [l15]; exact Fr.app N13 Nq15
        have Kp15 : Keep h0 T15.heap [] := Keep.trans Kp13 Kq15 all0
        have K15 : own_K p e below SE T15 (mkF m 101 #[.val (.int p0), .val (.long q1), .second, .val (.long q2), .second, .val (.long q3), .second, .val (.long q4), .second, .val (.int p5), .val (.int ca0), .val (.int ca1), .val (.int cb0), .val (.int cb1), .val (.int la), .val (.int lb0), .val (.ref sv13), .unset, .unset, .unset, .unset, .unset, .unset, .unset, .unset, .unset, .unset] [(.ref sv15)]) := fun t k => K14 _ (st15.trans k)
        have S_b : own_Str Z T15.heap sv15 lb0 cb0 cb1 := ⟨Ex15, Fc15, db15, kd15, Fv15, (by rw [hB, own_bl0]; exact Va15)⟩
        have K16 : own_K p e below SE T15 (mkF m 103 #[.val (.int p0), .val (.long q1), .second, .val (.long q2), .second, .val (.long q3), .second, .val (.long q4), .second, .val (.int p5), .val (.int ca0), .val (.int ca1), .val (.int cb0), .val (.int cb1), .val (.int la), .val (.int lb0), .val (.ref sv13), .val (.ref sv15), .unset, .unset, .unset, .unset, .unset, .unset, .unset, .unset, .unset] []) := by
          intro t k
          refine K15 _ ?_
          refine XS.astore X15.here hx rfl (hb hby at_101) rfl rfl (l' := #[.val (.int p0), .val (.long q1), .second, .val (.long q2), .second, .val (.long q3), .second, .val (.long q4), .second, .val (.int p5), .val (.int ca0), .val (.int ca1), .val (.int cb0), .val (.int cb1), .val (.int la), .val (.int lb0), .val (.ref sv13), .val (.ref sv15), .unset, .unset, .unset, .unset, .unset, .unset, .unset, .unset, .unset]) rfl ?_
          exact k
        exact ⟨T15, _, _, _, lb0, sv13, sv15, { X15 with same := X15.same.mono (by decide) (by decide) }, N15, hS, (Nat.le_refl _), hZ, hown, Kp15, hlb03, S_a.ext (own_ext Kq15), S_b, K16⟩
      · skip
        have K17 : own_K p e below SE T10 (mkF m 87 #[.val (.int p0), .val (.long q1), .second, .val (.long q2), .second, .val (.long q3), .second, .val (.long q4), .second, .val (.int p5), .val (.int ca0), .val (.int ca1), .val (.int cb0), .val (.int cb1), .val (.int la), .val (.int lb0), .unset, .unset, .unset, .unset, .unset, .unset, .unset, .unset, .unset, .unset, .unset] [(.int ca1), (.int ca0), (.int la)]) := by
          intro t k
          refine K11 _ ?_
          refine XS.iload X10.here hx rfl (hb hby at_81) rfl ?_
          show own_S p e below T10 (mkF m 83 #[.val (.int p0), .val (.long q1), .second, .val (.long q2), .second, .val (.long q3), .second, .val (.long q4), .second, .val (.int p5), .val (.int ca0), .val (.int ca1), .val (.int cb0), .val (.int cb1), .val (.int la), .val (.int lb0), .unset, .unset, .unset, .unset, .unset, .unset, .unset, .unset, .unset, .unset, .unset] [(.int la)]) _
          refine XS.iload X10.here hx rfl (hb hby at_83) rfl ?_
          show own_S p e below T10 (mkF m 85 #[.val (.int p0), .val (.long q1), .second, .val (.long q2), .second, .val (.long q3), .second, .val (.long q4), .second, .val (.int p5), .val (.int ca0), .val (.int ca1), .val (.int cb0), .val (.int cb1), .val (.int la), .val (.int lb0), .unset, .unset, .unset, .unset, .unset, .unset, .unset, .unset, .unset, .unset, .unset] [(.int ca0), (.int la)]) _
          refine XS.iload X10.here hx rfl (hb hby at_85) rfl ?_
          exact k
        obtain ⟨_, _, ⟨T18, L18, k18, n18⟩, -, X18, hSq18, gq18, ⟨Lc18, hQ18, l18, y18, z18, hCr18⟩, st18⟩ := callSS X10 hx (y := (⟨"com/example/enact/enact/model/RunKeyEqualsPinLaw", "mk", "(ICC)Ljava/lang/String;"⟩ : MethodName)) hown (mvT hZ (hw _ (List.mem_of_getElem? (i := 4) rfl))) (mvT hZ (hw _ (List.mem_of_getElem? (i := 5) rfl))) (mvT hZ (hw _ (List.mem_of_getElem? (i := 6) rfl))) (mvT hZ (hw _ (List.mem_of_getElem? (i := 7) rfl))) (by decide) (backOfSH (W := 0) (rmmk0 l Z a0 hw [] ca0 ca1 h0 n0 Z0) hZ (hw _ (List.mem_of_getElem? (i := 7) rfl)) (hw _ (List.mem_of_getElem? (i := 6) rfl)) (by decide) (by decide) (own_ew hw) hCH) (g := (mkF m 87 #[.val (.int p0), .val (.long q1), .second, .val (.long q2), .second, .val (.long q3), .second, .val (.long q4), .second, .val (.int p5), .val (.int ca0), .val (.int ca1), .val (.int cb0), .val (.int cb1), .val (.int la), .val (.int lb0), .unset, .unset, .unset, .unset, .unset, .unset, .unset, .unset, .unset, .unset, .unset] [(.int ca1), (.int ca0), (.int la)])) rfl (by rw [hml]; rfl) (argsL := [(.int la), (.int ca0), (.int ca1)]) (rest := []) (lenOf pd_0_1 rfl) rfl (by show 2 * 0 + _ ≤ _; exact Nat.le_of_eq rfl) (hb hby at_87) (fun _ _ => ⟨(by rw [hA]), e10, (by decide : 0 + 2 ≤ _), (by decide : 0 + 4 ≤ _)⟩)
        dsimp only [Pt.U, Pt.locs, Pt.cells, Pt.slots] at X18 l18 y18 z18 st18 hQ18 hSq18 gq18
        rw [y18, z18] at X18
        obtain ⟨X18, hS, hZ, hown⟩ := rebS hS (by rw [e10]; exact hk) X18 hSq18 gq18 hZ hown
        have hCH := hCr18.1
        obtain ⟨sv18, rfl, Nq18, Kq18, Ex18, Fc18, db18, kd18, Fv18, Va18⟩ := hQ18
        have N18 : Fr n0 L18 := by rw [l18]; exact Fr.app N10 Nq18
        have Kp18 : Keep h0 T18.heap [] := Keep.trans (Keep.refl h0 []) Kq18 all0
        have K18 : own_K p e below SE T18 (mkF m 90 #[.val (.int p0), .val (.long q1), .second, .val (.long q2), .second, .val (.long q3), .second, .val (.long q4), .second, .val (.int p5), .val (.int ca0), .val (.int ca1), .val (.int cb0), .val (.int cb1), .val (.int la), .val (.int lb0), .unset, .unset, .unset, .unset, .unset, .unset, .unset, .unset, .unset, .unset, .unset] [(.ref sv18)]) := fun t k => K17 _ (st18.trans k)
        have S_a : own_Str Z T18.heap sv18 la ca0 ca1 := ⟨Ex18, Fc18, db18, kd18, Fv18, (by rw [hA, own_bl0]; exact Va18)⟩
        have K19 : own_K p e below SE T18 (mkF m 98 #[.val (.int p0), .val (.long q1), .second, .val (.long q2), .second, .val (.long q3), .second, .val (.long q4), .second, .val (.int p5), .val (.int ca0), .val (.int ca1), .val (.int cb0), .val (.int cb1), .val (.int la), .val (.int lb0), .val (.ref sv18), .unset, .unset, .unset, .unset, .unset, .unset, .unset, .unset, .unset, .unset] [(.int cb1), (.int cb0), (.int lb0)]) := by
          intro t k
          refine K18 _ ?_
          refine XS.astore X18.here hx rfl (hb hby at_90) rfl rfl (l' := #[.val (.int p0), .val (.long q1), .second, .val (.long q2), .second, .val (.long q3), .second, .val (.long q4), .second, .val (.int p5), .val (.int ca0), .val (.int ca1), .val (.int cb0), .val (.int cb1), .val (.int la), .val (.int lb0), .val (.ref sv18), .unset, .unset, .unset, .unset, .unset, .unset, .unset, .unset, .unset, .unset]) rfl ?_
          show own_S p e below T18 (mkF m 92 #[.val (.int p0), .val (.long q1), .second, .val (.long q2), .second, .val (.long q3), .second, .val (.long q4), .second, .val (.int p5), .val (.int ca0), .val (.int ca1), .val (.int cb0), .val (.int cb1), .val (.int la), .val (.int lb0), .val (.ref sv18), .unset, .unset, .unset, .unset, .unset, .unset, .unset, .unset, .unset, .unset] []) _
          refine XS.iload X18.here hx rfl (hb hby at_92) rfl ?_
          show own_S p e below T18 (mkF m 94 #[.val (.int p0), .val (.long q1), .second, .val (.long q2), .second, .val (.long q3), .second, .val (.long q4), .second, .val (.int p5), .val (.int ca0), .val (.int ca1), .val (.int cb0), .val (.int cb1), .val (.int la), .val (.int lb0), .val (.ref sv18), .unset, .unset, .unset, .unset, .unset, .unset, .unset, .unset, .unset, .unset] [(.int lb0)]) _
          refine XS.iload X18.here hx rfl (hb hby at_94) rfl ?_
          show own_S p e below T18 (mkF m 96 #[.val (.int p0), .val (.long q1), .second, .val (.long q2), .second, .val (.long q3), .second, .val (.long q4), .second, .val (.int p5), .val (.int ca0), .val (.int ca1), .val (.int cb0), .val (.int cb1), .val (.int la), .val (.int lb0), .val (.ref sv18), .unset, .unset, .unset, .unset, .unset, .unset, .unset, .unset, .unset, .unset] [(.int cb0), (.int lb0)]) _
          refine XS.iload X18.here hx rfl (hb hby at_96) rfl ?_
          exact k
        obtain ⟨_, _, ⟨T20, L20, k20, n20⟩, -, X20, ⟨Lc20, hQ20, l20, y20, z20⟩, st20⟩ := Jvm.LawKit.callS X18 hx (y := (⟨"com/example/enact/enact/model/RunKeyEqualsPinLaw", "mk", "(ICC)Ljava/lang/String;"⟩ : MethodName)) hown (mvT hZ (hw _ (List.mem_of_getElem? (i := 4) rfl))) (mvT hZ (hw _ (List.mem_of_getElem? (i := 5) rfl))) (mvT hZ (hw _ (List.mem_of_getElem? (i := 6) rfl))) (mvT hZ (hw _ (List.mem_of_getElem? (i := 7) rfl))) (by decide) (backOf (W := 0) (rmmk1 l Z a0 hw [] cb0 cb1 G T18.heap n0 (Nat.le_trans Z0 Kp18.1) (S_cs.ext (own_ext Kp18)) hG (own_l255 _ hb0)) hZ (hw _ (List.mem_of_getElem? (i := 7) rfl)) (hw _ (List.mem_of_getElem? (i := 6) rfl)) (by decide) (by decide)) (g := (mkF m 98 #[.val (.int p0), .val (.long q1), .second, .val (.long q2), .second, .val (.long q3), .second, .val (.long q4), .second, .val (.int p5), .val (.int ca0), .val (.int ca1), .val (.int cb0), .val (.int cb1), .val (.int la), .val (.int lb0), .val (.ref sv18), .unset, .unset, .unset, .unset, .unset, .unset, .unset, .unset, .unset, .unset] [(.int cb1), (.int cb0), (.int lb0)])) rfl (by rw [hml]; rfl) (argsL := [(.int lb0), (.int cb0), (.int cb1)]) (rest := []) (lenOf pd_0_1 rfl) rfl (by show 2 * 0 + _ ≤ _; exact Nat.le_of_eq rfl) (hb hby at_98) (fun _ _ => ⟨(by rw [hB]), rfl, (by decide : 2 + 2 ≤ _), (by decide : 4 + 5 ≤ _)⟩)
        dsimp only [Pt.U, Pt.locs, Pt.cells, Pt.slots] at X20 l20 y20 z20 st20 hQ20
        rw [y20, z20] at X20
        obtain ⟨rfl, Nq20, Kq20, Ex20, Fc20, db20, kd20, Fv20, Va20⟩ := hQ20
        have N20 : Fr n0 L20 := by rw [l20]; exact Fr.app N18 Nq20
        have Kp20 : Keep h0 T20.heap [] := Keep.trans Kp18 Kq20 all0
        have K20 : own_K p e below SE T20 (mkF m 101 #[.val (.int p0), .val (.long q1), .second, .val (.long q2), .second, .val (.long q3), .second, .val (.long q4), .second, .val (.int p5), .val (.int ca0), .val (.int ca1), .val (.int cb0), .val (.int cb1), .val (.int la), .val (.int lb0), .val (.ref sv18), .unset, .unset, .unset, .unset, .unset, .unset, .unset, .unset, .unset, .unset] [(.ref T18.heap.size)]) := fun t k => K19 _ (st20 _ k)
        obtain ⟨sv20, gs20⟩ : ∃ z, z = T18.heap.size := ⟨_, rfl⟩
        rw [← gs20] at K20 Ex20 Fc20 Fv20
        have hCH := CHv.keep Kq20 all0 hCH
        have S_b : own_Str Z T20.heap sv20 lb0 cb0 cb1 := ⟨Ex20, Fc20, db20, kd20, Fv20, (by rw [hB, own_bl1]; exact Va20)⟩
        have K21 : own_K p e below SE T20 (mkF m 103 #[.val (.int p0), .val (.long q1), .second, .val (.long q2), .second, .val (.long q3), .second, .val (.long q4), .second, .val (.int p5), .val (.int ca0), .val (.int ca1), .val (.int cb0), .val (.int cb1), .val (.int la), .val (.int lb0), .val (.ref sv18), .val (.ref sv20), .unset, .unset, .unset, .unset, .unset, .unset, .unset, .unset, .unset] []) := by
          intro t k
          refine K20 _ ?_
          refine XS.astore X20.here hx rfl (hb hby at_101) rfl rfl (l' := #[.val (.int p0), .val (.long q1), .second, .val (.long q2), .second, .val (.long q3), .second, .val (.long q4), .second, .val (.int p5), .val (.int ca0), .val (.int ca1), .val (.int cb0), .val (.int cb1), .val (.int la), .val (.int lb0), .val (.ref sv18), .val (.ref sv20), .unset, .unset, .unset, .unset, .unset, .unset, .unset, .unset, .unset]) rfl ?_
          exact k
        exact ⟨T20, _, _, _, lb0, sv18, sv20, { X20 with same := X20.same.mono (by decide) (by decide) }, N20, hS, (Nat.le_trans (Nat.le_refl _) Kq20.1), hZ, hown, Kp20, hlb03, S_a.ext (own_ext Kq20), S_b, K21⟩
      · skip
        have K22 : own_K p e below SE T10 (mkF m 87 #[.val (.int p0), .val (.long q1), .second, .val (.long q2), .second, .val (.long q3), .second, .val (.long q4), .second, .val (.int p5), .val (.int ca0), .val (.int ca1), .val (.int cb0), .val (.int cb1), .val (.int la), .val (.int lb0), .unset, .unset, .unset, .unset, .unset, .unset, .unset, .unset, .unset, .unset, .unset] [(.int ca1), (.int ca0), (.int la)]) := by
          intro t k
          refine K11 _ ?_
          refine XS.iload X10.here hx rfl (hb hby at_81) rfl ?_
          show own_S p e below T10 (mkF m 83 #[.val (.int p0), .val (.long q1), .second, .val (.long q2), .second, .val (.long q3), .second, .val (.long q4), .second, .val (.int p5), .val (.int ca0), .val (.int ca1), .val (.int cb0), .val (.int cb1), .val (.int la), .val (.int lb0), .unset, .unset, .unset, .unset, .unset, .unset, .unset, .unset, .unset, .unset, .unset] [(.int la)]) _
          refine XS.iload X10.here hx rfl (hb hby at_83) rfl ?_
          show own_S p e below T10 (mkF m 85 #[.val (.int p0), .val (.long q1), .second, .val (.long q2), .second, .val (.long q3), .second, .val (.long q4), .second, .val (.int p5), .val (.int ca0), .val (.int ca1), .val (.int cb0), .val (.int cb1), .val (.int la), .val (.int lb0), .unset, .unset, .unset, .unset, .unset, .unset, .unset, .unset, .unset, .unset, .unset] [(.int ca0), (.int la)]) _
          refine XS.iload X10.here hx rfl (hb hby at_85) rfl ?_
          exact k
        obtain ⟨_, _, ⟨T23, L23, k23, n23⟩, -, X23, hSq23, gq23, ⟨Lc23, hQ23, l23, y23, z23, hCr23⟩, st23⟩ := callSS X10 hx (y := (⟨"com/example/enact/enact/model/RunKeyEqualsPinLaw", "mk", "(ICC)Ljava/lang/String;"⟩ : MethodName)) hown (mvT hZ (hw _ (List.mem_of_getElem? (i := 4) rfl))) (mvT hZ (hw _ (List.mem_of_getElem? (i := 5) rfl))) (mvT hZ (hw _ (List.mem_of_getElem? (i := 6) rfl))) (mvT hZ (hw _ (List.mem_of_getElem? (i := 7) rfl))) (by decide) (backOfSH (W := 0) (rmmk0 l Z a0 hw [] ca0 ca1 h0 n0 Z0) hZ (hw _ (List.mem_of_getElem? (i := 7) rfl)) (hw _ (List.mem_of_getElem? (i := 6) rfl)) (by decide) (by decide) (own_ew hw) hCH) (g := (mkF m 87 #[.val (.int p0), .val (.long q1), .second, .val (.long q2), .second, .val (.long q3), .second, .val (.long q4), .second, .val (.int p5), .val (.int ca0), .val (.int ca1), .val (.int cb0), .val (.int cb1), .val (.int la), .val (.int lb0), .unset, .unset, .unset, .unset, .unset, .unset, .unset, .unset, .unset, .unset, .unset] [(.int ca1), (.int ca0), (.int la)])) rfl (by rw [hml]; rfl) (argsL := [(.int la), (.int ca0), (.int ca1)]) (rest := []) (lenOf pd_0_1 rfl) rfl (by show 2 * 0 + _ ≤ _; exact Nat.le_of_eq rfl) (hb hby at_87) (fun _ _ => ⟨(by rw [hA]), e10, (by decide : 0 + 2 ≤ _), (by decide : 0 + 4 ≤ _)⟩)
        dsimp only [Pt.U, Pt.locs, Pt.cells, Pt.slots] at X23 l23 y23 z23 st23 hQ23 hSq23 gq23
        rw [y23, z23] at X23
        obtain ⟨X23, hS, hZ, hown⟩ := rebS hS (by rw [e10]; exact hk) X23 hSq23 gq23 hZ hown
        have hCH := hCr23.1
        obtain ⟨sv23, rfl, Nq23, Kq23, Ex23, Fc23, db23, kd23, Fv23, Va23⟩ := hQ23
        have N23 : Fr n0 L23 := by rw [l23]; exact Fr.app N10 Nq23
        have Kp23 : Keep h0 T23.heap [] := Keep.trans (Keep.refl h0 []) Kq23 all0
        have K23 : own_K p e below SE T23 (mkF m 90 #[.val (.int p0), .val (.long q1), .second, .val (.long q2), .second, .val (.long q3), .second, .val (.long q4), .second, .val (.int p5), .val (.int ca0), .val (.int ca1), .val (.int cb0), .val (.int cb1), .val (.int la), .val (.int lb0), .unset, .unset, .unset, .unset, .unset, .unset, .unset, .unset, .unset, .unset, .unset] [(.ref sv23)]) := fun t k => K22 _ (st23.trans k)
        have S_a : own_Str Z T23.heap sv23 la ca0 ca1 := ⟨Ex23, Fc23, db23, kd23, Fv23, (by rw [hA, own_bl0]; exact Va23)⟩
        have K24 : own_K p e below SE T23 (mkF m 98 #[.val (.int p0), .val (.long q1), .second, .val (.long q2), .second, .val (.long q3), .second, .val (.long q4), .second, .val (.int p5), .val (.int ca0), .val (.int ca1), .val (.int cb0), .val (.int cb1), .val (.int la), .val (.int lb0), .val (.ref sv23), .unset, .unset, .unset, .unset, .unset, .unset, .unset, .unset, .unset, .unset] [(.int cb1), (.int cb0), (.int lb0)]) := by
          intro t k
          refine K23 _ ?_
          refine XS.astore X23.here hx rfl (hb hby at_90) rfl rfl (l' := #[.val (.int p0), .val (.long q1), .second, .val (.long q2), .second, .val (.long q3), .second, .val (.long q4), .second, .val (.int p5), .val (.int ca0), .val (.int ca1), .val (.int cb0), .val (.int cb1), .val (.int la), .val (.int lb0), .val (.ref sv23), .unset, .unset, .unset, .unset, .unset, .unset, .unset, .unset, .unset, .unset]) rfl ?_
          show own_S p e below T23 (mkF m 92 #[.val (.int p0), .val (.long q1), .second, .val (.long q2), .second, .val (.long q3), .second, .val (.long q4), .second, .val (.int p5), .val (.int ca0), .val (.int ca1), .val (.int cb0), .val (.int cb1), .val (.int la), .val (.int lb0), .val (.ref sv23), .unset, .unset, .unset, .unset, .unset, .unset, .unset, .unset, .unset, .unset] []) _
          refine XS.iload X23.here hx rfl (hb hby at_92) rfl ?_
          show own_S p e below T23 (mkF m 94 #[.val (.int p0), .val (.long q1), .second, .val (.long q2), .second, .val (.long q3), .second, .val (.long q4), .second, .val (.int p5), .val (.int ca0), .val (.int ca1), .val (.int cb0), .val (.int cb1), .val (.int la), .val (.int lb0), .val (.ref sv23), .unset, .unset, .unset, .unset, .unset, .unset, .unset, .unset, .unset, .unset] [(.int lb0)]) _
          refine XS.iload X23.here hx rfl (hb hby at_94) rfl ?_
          show own_S p e below T23 (mkF m 96 #[.val (.int p0), .val (.long q1), .second, .val (.long q2), .second, .val (.long q3), .second, .val (.long q4), .second, .val (.int p5), .val (.int ca0), .val (.int ca1), .val (.int cb0), .val (.int cb1), .val (.int la), .val (.int lb0), .val (.ref sv23), .unset, .unset, .unset, .unset, .unset, .unset, .unset, .unset, .unset, .unset] [(.int cb0), (.int lb0)]) _
          refine XS.iload X23.here hx rfl (hb hby at_96) rfl ?_
          exact k
        obtain ⟨_, _, ⟨T25, L25, k25, n25⟩, -, X25, ⟨Lc25, hQ25, l25, y25, z25⟩, st25⟩ := Jvm.LawKit.callS X23 hx (y := (⟨"com/example/enact/enact/model/RunKeyEqualsPinLaw", "mk", "(ICC)Ljava/lang/String;"⟩ : MethodName)) hown (mvT hZ (hw _ (List.mem_of_getElem? (i := 4) rfl))) (mvT hZ (hw _ (List.mem_of_getElem? (i := 5) rfl))) (mvT hZ (hw _ (List.mem_of_getElem? (i := 6) rfl))) (mvT hZ (hw _ (List.mem_of_getElem? (i := 7) rfl))) (by decide) (backOf (W := 0) (rmmk2 l Z a0 hw [] cb0 cb1 G T23.heap n0 (Nat.le_trans Z0 Kp23.1) (S_cs.ext (own_ext Kp23)) hG (own_l255 _ hb0) (own_l255 _ hb1) (own_nar _ hb0) (own_nar _ hb1)) hZ (hw _ (List.mem_of_getElem? (i := 7) rfl)) (hw _ (List.mem_of_getElem? (i := 6) rfl)) (by decide) (by decide)) (g := (mkF m 98 #[.val (.int p0), .val (.long q1), .second, .val (.long q2), .second, .val (.long q3), .second, .val (.long q4), .second, .val (.int p5), .val (.int ca0), .val (.int ca1), .val (.int cb0), .val (.int cb1), .val (.int la), .val (.int lb0), .val (.ref sv23), .unset, .unset, .unset, .unset, .unset, .unset, .unset, .unset, .unset, .unset] [(.int cb1), (.int cb0), (.int lb0)])) rfl (by rw [hml]; rfl) (argsL := [(.int lb0), (.int cb0), (.int cb1)]) (rest := []) (lenOf pd_0_1 rfl) rfl (by show 2 * 0 + _ ≤ _; exact Nat.le_of_eq rfl) (hb hby at_98) (fun _ _ => ⟨(by rw [hB]), rfl, (by decide : 2 + 3 ≤ _), (by decide : 4 + 8 ≤ _)⟩)
        dsimp only [Pt.U, Pt.locs, Pt.cells, Pt.slots] at X25 l25 y25 z25 st25 hQ25
        rw [y25, z25] at X25
        obtain ⟨rfl, Nq25, Kq25, Ex25, Fc25, db25, kd25, Fv25, Va25⟩ := hQ25
        have N25 : Fr n0 L25 := by rw [l25]; exact Fr.app N23 Nq25
        have Kp25 : Keep h0 T25.heap [] := Keep.trans Kp23 Kq25 all0
        have K25 : own_K p e below SE T25 (mkF m 101 #[.val (.int p0), .val (.long q1), .second, .val (.long q2), .second, .val (.long q3), .second, .val (.long q4), .second, .val (.int p5), .val (.int ca0), .val (.int ca1), .val (.int cb0), .val (.int cb1), .val (.int la), .val (.int lb0), .val (.ref sv23), .unset, .unset, .unset, .unset, .unset, .unset, .unset, .unset, .unset, .unset] [(.ref T23.heap.size)]) := fun t k => K24 _ (st25 _ k)
        obtain ⟨sv25, gs25⟩ : ∃ z, z = T23.heap.size := ⟨_, rfl⟩
        rw [← gs25] at K25 Ex25 Fc25 Fv25
        have hCH := CHv.keep Kq25 all0 hCH
        have S_b : own_Str Z T25.heap sv25 lb0 cb0 cb1 := ⟨Ex25, Fc25, db25, kd25, Fv25, (by rw [hB, own_bl2]; exact Va25)⟩
        have K26 : own_K p e below SE T25 (mkF m 103 #[.val (.int p0), .val (.long q1), .second, .val (.long q2), .second, .val (.long q3), .second, .val (.long q4), .second, .val (.int p5), .val (.int ca0), .val (.int ca1), .val (.int cb0), .val (.int cb1), .val (.int la), .val (.int lb0), .val (.ref sv23), .val (.ref sv25), .unset, .unset, .unset, .unset, .unset, .unset, .unset, .unset, .unset] []) := by
          intro t k
          refine K25 _ ?_
          refine XS.astore X25.here hx rfl (hb hby at_101) rfl rfl (l' := #[.val (.int p0), .val (.long q1), .second, .val (.long q2), .second, .val (.long q3), .second, .val (.long q4), .second, .val (.int p5), .val (.int ca0), .val (.int ca1), .val (.int cb0), .val (.int cb1), .val (.int la), .val (.int lb0), .val (.ref sv23), .val (.ref sv25), .unset, .unset, .unset, .unset, .unset, .unset, .unset, .unset, .unset]) rfl ?_
          exact k
        exact ⟨T25, _, _, _, lb0, sv23, sv25, { X25 with same := X25.same.mono (by decide) (by decide) }, N25, hS, (Nat.le_trans (Nat.le_refl _) Kq25.1), hZ, hown, Kp25, hlb03, S_a.ext (own_ext Kq25), S_b, K26⟩
      · skip
        have K27 : own_K p e below SE T10 (mkF m 87 #[.val (.int p0), .val (.long q1), .second, .val (.long q2), .second, .val (.long q3), .second, .val (.long q4), .second, .val (.int p5), .val (.int ca0), .val (.int ca1), .val (.int cb0), .val (.int cb1), .val (.int la), .val (.int lb0), .unset, .unset, .unset, .unset, .unset, .unset, .unset, .unset, .unset, .unset, .unset] [(.int ca1), (.int ca0), (.int la)]) := by
          intro t k
          refine K11 _ ?_
          refine XS.iload X10.here hx rfl (hb hby at_81) rfl ?_
          show own_S p e below T10 (mkF m 83 #[.val (.int p0), .val (.long q1), .second, .val (.long q2), .second, .val (.long q3), .second, .val (.long q4), .second, .val (.int p5), .val (.int ca0), .val (.int ca1), .val (.int cb0), .val (.int cb1), .val (.int la), .val (.int lb0), .unset, .unset, .unset, .unset, .unset, .unset, .unset, .unset, .unset, .unset, .unset] [(.int la)]) _
          refine XS.iload X10.here hx rfl (hb hby at_83) rfl ?_
          show own_S p e below T10 (mkF m 85 #[.val (.int p0), .val (.long q1), .second, .val (.long q2), .second, .val (.long q3), .second, .val (.long q4), .second, .val (.int p5), .val (.int ca0), .val (.int ca1), .val (.int cb0), .val (.int cb1), .val (.int la), .val (.int lb0), .unset, .unset, .unset, .unset, .unset, .unset, .unset, .unset, .unset, .unset, .unset] [(.int ca0), (.int la)]) _
          refine XS.iload X10.here hx rfl (hb hby at_85) rfl ?_
          exact k
        obtain ⟨_, _, ⟨T28, L28, k28, n28⟩, -, X28, ⟨Lc28, hQ28, l28, y28, z28⟩, st28⟩ := Jvm.LawKit.callS X10 hx (y := (⟨"com/example/enact/enact/model/RunKeyEqualsPinLaw", "mk", "(ICC)Ljava/lang/String;"⟩ : MethodName)) hown (mvT hZ (hw _ (List.mem_of_getElem? (i := 4) rfl))) (mvT hZ (hw _ (List.mem_of_getElem? (i := 5) rfl))) (mvT hZ (hw _ (List.mem_of_getElem? (i := 6) rfl))) (mvT hZ (hw _ (List.mem_of_getElem? (i := 7) rfl))) (by decide) (backOf (W := 0) (rmmk1 l Z a0 hw [] ca0 ca1 G h0 n0 Z0 S_cs hG (own_l255 _ ha0)) hZ (hw _ (List.mem_of_getElem? (i := 7) rfl)) (hw _ (List.mem_of_getElem? (i := 6) rfl)) (by decide) (by decide)) (g := (mkF m 87 #[.val (.int p0), .val (.long q1), .second, .val (.long q2), .second, .val (.long q3), .second, .val (.long q4), .second, .val (.int p5), .val (.int ca0), .val (.int ca1), .val (.int cb0), .val (.int cb1), .val (.int la), .val (.int lb0), .unset, .unset, .unset, .unset, .unset, .unset, .unset, .unset, .unset, .unset, .unset] [(.int ca1), (.int ca0), (.int la)])) rfl (by rw [hml]; rfl) (argsL := [(.int la), (.int ca0), (.int ca1)]) (rest := []) (lenOf pd_0_1 rfl) rfl (by show 2 * 0 + _ ≤ _; exact Nat.le_of_eq rfl) (hb hby at_87) (fun _ _ => ⟨(by rw [hA]), e10, (by decide : 0 + 2 ≤ _), (by decide : 0 + 5 ≤ _)⟩)
        dsimp only [Pt.U, Pt.locs, Pt.cells, Pt.slots] at X28 l28 y28 z28 st28 hQ28
        rw [y28, z28] at X28
        obtain ⟨rfl, Nq28, Kq28, Ex28, Fc28, db28, kd28, Fv28, Va28⟩ := hQ28
        have N28 : Fr n0 L28 := by rw [l28]; exact Fr.app N10 Nq28
        have Kp28 : Keep h0 T28.heap [] := Keep.trans (Keep.refl h0 []) Kq28 all0
        have K28 : own_K p e below SE T28 (mkF m 90 #[.val (.int p0), .val (.long q1), .second, .val (.long q2), .second, .val (.long q3), .second, .val (.long q4), .second, .val (.int p5), .val (.int ca0), .val (.int ca1), .val (.int cb0), .val (.int cb1), .val (.int la), .val (.int lb0), .unset, .unset, .unset, .unset, .unset, .unset, .unset, .unset, .unset, .unset, .unset] [(.ref h0.size)]) := fun t k => K27 _ (st28 _ k)
        obtain ⟨sv28, gs28⟩ : ∃ z, z = h0.size := ⟨_, rfl⟩
        rw [← gs28] at K28 Ex28 Fc28 Fv28
        have hCH := CHv.keep Kq28 all0 hCH
        have S_a : own_Str Z T28.heap sv28 la ca0 ca1 := ⟨Ex28, Fc28, db28, kd28, Fv28, (by rw [hA, own_bl1]; exact Va28)⟩
        have K29 : own_K p e below SE T28 (mkF m 98 #[.val (.int p0), .val (.long q1), .second, .val (.long q2), .second, .val (.long q3), .second, .val (.long q4), .second, .val (.int p5), .val (.int ca0), .val (.int ca1), .val (.int cb0), .val (.int cb1), .val (.int la), .val (.int lb0), .val (.ref sv28), .unset, .unset, .unset, .unset, .unset, .unset, .unset, .unset, .unset, .unset] [(.int cb1), (.int cb0), (.int lb0)]) := by
          intro t k
          refine K28 _ ?_
          refine XS.astore X28.here hx rfl (hb hby at_90) rfl rfl (l' := #[.val (.int p0), .val (.long q1), .second, .val (.long q2), .second, .val (.long q3), .second, .val (.long q4), .second, .val (.int p5), .val (.int ca0), .val (.int ca1), .val (.int cb0), .val (.int cb1), .val (.int la), .val (.int lb0), .val (.ref sv28), .unset, .unset, .unset, .unset, .unset, .unset, .unset, .unset, .unset, .unset]) rfl ?_
          show own_S p e below T28 (mkF m 92 #[.val (.int p0), .val (.long q1), .second, .val (.long q2), .second, .val (.long q3), .second, .val (.long q4), .second, .val (.int p5), .val (.int ca0), .val (.int ca1), .val (.int cb0), .val (.int cb1), .val (.int la), .val (.int lb0), .val (.ref sv28), .unset, .unset, .unset, .unset, .unset, .unset, .unset, .unset, .unset, .unset] []) _
          refine XS.iload X28.here hx rfl (hb hby at_92) rfl ?_
          show own_S p e below T28 (mkF m 94 #[.val (.int p0), .val (.long q1), .second, .val (.long q2), .second, .val (.long q3), .second, .val (.long q4), .second, .val (.int p5), .val (.int ca0), .val (.int ca1), .val (.int cb0), .val (.int cb1), .val (.int la), .val (.int lb0), .val (.ref sv28), .unset, .unset, .unset, .unset, .unset, .unset, .unset, .unset, .unset, .unset] [(.int lb0)]) _
          refine XS.iload X28.here hx rfl (hb hby at_94) rfl ?_
          show own_S p e below T28 (mkF m 96 #[.val (.int p0), .val (.long q1), .second, .val (.long q2), .second, .val (.long q3), .second, .val (.long q4), .second, .val (.int p5), .val (.int ca0), .val (.int ca1), .val (.int cb0), .val (.int cb1), .val (.int la), .val (.int lb0), .val (.ref sv28), .unset, .unset, .unset, .unset, .unset, .unset, .unset, .unset, .unset, .unset] [(.int cb0), (.int lb0)]) _
          refine XS.iload X28.here hx rfl (hb hby at_96) rfl ?_
          exact k
        obtain ⟨_, _, ⟨T30, L30, k30, n30⟩, -, X30, hSq30, gq30, ⟨Lc30, hQ30, l30, y30, z30, hCr30⟩, st30⟩ := callSS X28 hx (y := (⟨"com/example/enact/enact/model/RunKeyEqualsPinLaw", "mk", "(ICC)Ljava/lang/String;"⟩ : MethodName)) hown (mvT hZ (hw _ (List.mem_of_getElem? (i := 4) rfl))) (mvT hZ (hw _ (List.mem_of_getElem? (i := 5) rfl))) (mvT hZ (hw _ (List.mem_of_getElem? (i := 6) rfl))) (mvT hZ (hw _ (List.mem_of_getElem? (i := 7) rfl))) (by decide) (backOfSH (W := 0) (rmmk0 l Z a0 hw [] cb0 cb1 T28.heap n0 (Nat.le_trans Z0 Kp28.1)) hZ (hw _ (List.mem_of_getElem? (i := 7) rfl)) (hw _ (List.mem_of_getElem? (i := 6) rfl)) (by decide) (by decide) (own_ew hw) hCH) (g := (mkF m 98 #[.val (.int p0), .val (.long q1), .second, .val (.long q2), .second, .val (.long q3), .second, .val (.long q4), .second, .val (.int p5), .val (.int ca0), .val (.int ca1), .val (.int cb0), .val (.int cb1), .val (.int la), .val (.int lb0), .val (.ref sv28), .unset, .unset, .unset, .unset, .unset, .unset, .unset, .unset, .unset, .unset] [(.int cb1), (.int cb0), (.int lb0)])) rfl (by rw [hml]; rfl) (argsL := [(.int lb0), (.int cb0), (.int cb1)]) (rest := []) (lenOf pd_0_1 rfl) rfl (by show 2 * 0 + _ ≤ _; exact Nat.le_of_eq rfl) (hb hby at_98) (fun _ _ => ⟨(by rw [hB]), rfl, (by decide : 2 + 2 ≤ _), (by decide : 5 + 4 ≤ _)⟩)
        dsimp only [Pt.U, Pt.locs, Pt.cells, Pt.slots] at X30 l30 y30 z30 st30 hQ30 hSq30 gq30
        rw [y30, z30] at X30
        obtain ⟨X30, hS, hZ, hown⟩ := rebS hS (Nat.le_trans hk Kq28.1) X30 hSq30 gq30 hZ hown
        have hCH := hCr30.1
        obtain ⟨sv30, rfl, Nq30, Kq30, Ex30, Fc30, db30, kd30, Fv30, Va30⟩ := hQ30
        have N30 : Fr n0 L30 := by rw [l30]; exact Fr.app N28 Nq30
        have Kp30 : Keep h0 T30.heap [] := Keep.trans Kp28 Kq30 all0
        have K30 : own_K p e below SE T30 (mkF m 101 #[.val (.int p0), .val (.long q1), .second, .val (.long q2), .second, .val (.long q3), .second, .val (.long q4), .second, .val (.int p5), .val (.int ca0), .val (.int ca1), .val (.int cb0), .val (.int cb1), .val (.int la), .val (.int lb0), .val (.ref sv28), .unset, .unset, .unset, .unset, .unset, .unset, .unset, .unset, .unset, .unset] [(.ref sv30)]) := fun t k => K29 _ (st30.trans k)
        have S_b : own_Str Z T30.heap sv30 lb0 cb0 cb1 := ⟨Ex30, Fc30, db30, kd30, Fv30, (by rw [hB, own_bl0]; exact Va30)⟩
        have K31 : own_K p e below SE T30 (mkF m 103 #[.val (.int p0), .val (.long q1), .second, .val (.long q2), .second, .val (.long q3), .second, .val (.long q4), .second, .val (.int p5), .val (.int ca0), .val (.int ca1), .val (.int cb0), .val (.int cb1), .val (.int la), .val (.int lb0), .val (.ref sv28), .val (.ref sv30), .unset, .unset, .unset, .unset, .unset, .unset, .unset, .unset, .unset] []) := by
          intro t k
          refine K30 _ ?_
          refine XS.astore X30.here hx rfl (hb hby at_101) rfl rfl (l' := #[.val (.int p0), .val (.long q1), .second, .val (.long q2), .second, .val (.long q3), .second, .val (.long q4), .second, .val (.int p5), .val (.int ca0), .val (.int ca1), .val (.int cb0), .val (.int cb1), .val (.int la), .val (.int lb0), .val (.ref sv28), .val (.ref sv30), .unset, .unset, .unset, .unset, .unset, .unset, .unset, .unset, .unset]) rfl ?_
          exact k
        exact ⟨T30, _, _, _, lb0, sv28, sv30, { X30 with same := X30.same.mono (by decide) (by decide) }, N30, hS, (Nat.le_refl _), hZ, hown, Kp30, hlb03, S_a.ext (own_ext Kq30), S_b, K31⟩
      · skip
        have K32 : own_K p e below SE T10 (mkF m 87 #[.val (.int p0), .val (.long q1), .second, .val (.long q2), .second, .val (.long q3), .second, .val (.long q4), .second, .val (.int p5), .val (.int ca0), .val (.int ca1), .val (.int cb0), .val (.int cb1), .val (.int la), .val (.int lb0), .unset, .unset, .unset, .unset, .unset, .unset, .unset, .unset, .unset, .unset, .unset] [(.int ca1), (.int ca0), (.int la)]) := by
          intro t k
          refine K11 _ ?_
          refine XS.iload X10.here hx rfl (hb hby at_81) rfl ?_
          show own_S p e below T10 (mkF m 83 #[.val (.int p0), .val (.long q1), .second, .val (.long q2), .second, .val (.long q3), .second, .val (.long q4), .second, .val (.int p5), .val (.int ca0), .val (.int ca1), .val (.int cb0), .val (.int cb1), .val (.int la), .val (.int lb0), .unset, .unset, .unset, .unset, .unset, .unset, .unset, .unset, .unset, .unset, .unset] [(.int la)]) _
          refine XS.iload X10.here hx rfl (hb hby at_83) rfl ?_
          show own_S p e below T10 (mkF m 85 #[.val (.int p0), .val (.long q1), .second, .val (.long q2), .second, .val (.long q3), .second, .val (.long q4), .second, .val (.int p5), .val (.int ca0), .val (.int ca1), .val (.int cb0), .val (.int cb1), .val (.int la), .val (.int lb0), .unset, .unset, .unset, .unset, .unset, .unset, .unset, .unset, .unset, .unset, .unset] [(.int ca0), (.int la)]) _
          refine XS.iload X10.here hx rfl (hb hby at_85) rfl ?_
          exact k
        obtain ⟨_, _, ⟨T33, L33, k33, n33⟩, -, X33, ⟨Lc33, hQ33, l33, y33, z33⟩, st33⟩ := Jvm.LawKit.callS X10 hx (y := (⟨"com/example/enact/enact/model/RunKeyEqualsPinLaw", "mk", "(ICC)Ljava/lang/String;"⟩ : MethodName)) hown (mvT hZ (hw _ (List.mem_of_getElem? (i := 4) rfl))) (mvT hZ (hw _ (List.mem_of_getElem? (i := 5) rfl))) (mvT hZ (hw _ (List.mem_of_getElem? (i := 6) rfl))) (mvT hZ (hw _ (List.mem_of_getElem? (i := 7) rfl))) (by decide) (backOf (W := 0) (rmmk1 l Z a0 hw [] ca0 ca1 G h0 n0 Z0 S_cs hG (own_l255 _ ha0)) hZ (hw _ (List.mem_of_getElem? (i := 7) rfl)) (hw _ (List.mem_of_getElem? (i := 6) rfl)) (by decide) (by decide)) (g := (mkF m 87 #[.val (.int p0), .val (.long q1), .second, .val (.long q2), .second, .val (.long q3), .second, .val (.long q4), .second, .val (.int p5), .val (.int ca0), .val (.int ca1), .val (.int cb0), .val (.int cb1), .val (.int la), .val (.int lb0), .unset, .unset, .unset, .unset, .unset, .unset, .unset, .unset, .unset, .unset, .unset] [(.int ca1), (.int ca0), (.int la)])) rfl (by rw [hml]; rfl) (argsL := [(.int la), (.int ca0), (.int ca1)]) (rest := []) (lenOf pd_0_1 rfl) rfl (by show 2 * 0 + _ ≤ _; exact Nat.le_of_eq rfl) (hb hby at_87) (fun _ _ => ⟨(by rw [hA]), e10, (by decide : 0 + 2 ≤ _), (by decide : 0 + 5 ≤ _)⟩)
        dsimp only [Pt.U, Pt.locs, Pt.cells, Pt.slots] at X33 l33 y33 z33 st33 hQ33
        rw [y33, z33] at X33
        obtain ⟨rfl, Nq33, Kq33, Ex33, Fc33, db33, kd33, Fv33, Va33⟩ := hQ33
        have N33 : Fr n0 L33 := by rw [l33]; exact Fr.app N10 Nq33
        have Kp33 : Keep h0 T33.heap [] := Keep.trans (Keep.refl h0 []) Kq33 all0
        have K33 : own_K p e below SE T33 (mkF m 90 #[.val (.int p0), .val (.long q1), .second, .val (.long q2), .second, .val (.long q3), .second, .val (.long q4), .second, .val (.int p5), .val (.int ca0), .val (.int ca1), .val (.int cb0), .val (.int cb1), .val (.int la), .val (.int lb0), .unset, .unset, .unset, .unset, .unset, .unset, .unset, .unset, .unset, .unset, .unset] [(.ref h0.size)]) := fun t k => K32 _ (st33 _ k)
        obtain ⟨sv33, gs33⟩ : ∃ z, z = h0.size := ⟨_, rfl⟩
        rw [← gs33] at K33 Ex33 Fc33 Fv33
        have hCH := CHv.keep Kq33 all0 hCH
        have S_a : own_Str Z T33.heap sv33 la ca0 ca1 := ⟨Ex33, Fc33, db33, kd33, Fv33, (by rw [hA, own_bl1]; exact Va33)⟩
        have K34 : own_K p e below SE T33 (mkF m 98 #[.val (.int p0), .val (.long q1), .second, .val (.long q2), .second, .val (.long q3), .second, .val (.long q4), .second, .val (.int p5), .val (.int ca0), .val (.int ca1), .val (.int cb0), .val (.int cb1), .val (.int la), .val (.int lb0), .val (.ref sv33), .unset, .unset, .unset, .unset, .unset, .unset, .unset, .unset, .unset, .unset] [(.int cb1), (.int cb0), (.int lb0)]) := by
          intro t k
          refine K33 _ ?_
          refine XS.astore X33.here hx rfl (hb hby at_90) rfl rfl (l' := #[.val (.int p0), .val (.long q1), .second, .val (.long q2), .second, .val (.long q3), .second, .val (.long q4), .second, .val (.int p5), .val (.int ca0), .val (.int ca1), .val (.int cb0), .val (.int cb1), .val (.int la), .val (.int lb0), .val (.ref sv33), .unset, .unset, .unset, .unset, .unset, .unset, .unset, .unset, .unset, .unset]) rfl ?_
          show own_S p e below T33 (mkF m 92 #[.val (.int p0), .val (.long q1), .second, .val (.long q2), .second, .val (.long q3), .second, .val (.long q4), .second, .val (.int p5), .val (.int ca0), .val (.int ca1), .val (.int cb0), .val (.int cb1), .val (.int la), .val (.int lb0), .val (.ref sv33), .unset, .unset, .unset, .unset, .unset, .unset, .unset, .unset, .unset, .unset] []) _
          refine XS.iload X33.here hx rfl (hb hby at_92) rfl ?_
          show own_S p e below T33 (mkF m 94 #[.val (.int p0), .val (.long q1), .second, .val (.long q2), .second, .val (.long q3), .second, .val (.long q4), .second, .val (.int p5), .val (.int ca0), .val (.int ca1), .val (.int cb0), .val (.int cb1), .val (.int la), .val (.int lb0), .val (.ref sv33), .unset, .unset, .unset, .unset, .unset, .unset, .unset, .unset, .unset, .unset] [(.int lb0)]) _
          refine XS.iload X33.here hx rfl (hb hby at_94) rfl ?_
          show own_S p e below T33 (mkF m 96 #[.val (.int p0), .val (.long q1), .second, .val (.long q2), .second, .val (.long q3), .second, .val (.long q4), .second, .val (.int p5), .val (.int ca0), .val (.int ca1), .val (.int cb0), .val (.int cb1), .val (.int la), .val (.int lb0), .val (.ref sv33), .unset, .unset, .unset, .unset, .unset, .unset, .unset, .unset, .unset, .unset] [(.int cb0), (.int lb0)]) _
          refine XS.iload X33.here hx rfl (hb hby at_96) rfl ?_
          exact k
        obtain ⟨_, _, ⟨T35, L35, k35, n35⟩, -, X35, ⟨Lc35, hQ35, l35, y35, z35⟩, st35⟩ := Jvm.LawKit.callS X33 hx (y := (⟨"com/example/enact/enact/model/RunKeyEqualsPinLaw", "mk", "(ICC)Ljava/lang/String;"⟩ : MethodName)) hown (mvT hZ (hw _ (List.mem_of_getElem? (i := 4) rfl))) (mvT hZ (hw _ (List.mem_of_getElem? (i := 5) rfl))) (mvT hZ (hw _ (List.mem_of_getElem? (i := 6) rfl))) (mvT hZ (hw _ (List.mem_of_getElem? (i := 7) rfl))) (by decide) (backOf (W := 0) (rmmk1 l Z a0 hw [] cb0 cb1 G T33.heap n0 (Nat.le_trans Z0 Kp33.1) (S_cs.ext (own_ext Kp33)) hG (own_l255 _ hb0)) hZ (hw _ (List.mem_of_getElem? (i := 7) rfl)) (hw _ (List.mem_of_getElem? (i := 6) rfl)) (by decide) (by decide)) (g := (mkF m 98 #[.val (.int p0), .val (.long q1), .second, .val (.long q2), .second, .val (.long q3), .second, .val (.long q4), .second, .val (.int p5), .val (.int ca0), .val (.int ca1), .val (.int cb0), .val (.int cb1), .val (.int la), .val (.int lb0), .val (.ref sv33), .unset, .unset, .unset, .unset, .unset, .unset, .unset, .unset, .unset, .unset] [(.int cb1), (.int cb0), (.int lb0)])) rfl (by rw [hml]; rfl) (argsL := [(.int lb0), (.int cb0), (.int cb1)]) (rest := []) (lenOf pd_0_1 rfl) rfl (by show 2 * 0 + _ ≤ _; exact Nat.le_of_eq rfl) (hb hby at_98) (fun _ _ => ⟨(by rw [hB]), rfl, (by decide : 2 + 2 ≤ _), (by decide : 5 + 5 ≤ _)⟩)
        dsimp only [Pt.U, Pt.locs, Pt.cells, Pt.slots] at X35 l35 y35 z35 st35 hQ35
        rw [y35, z35] at X35
        obtain ⟨rfl, Nq35, Kq35, Ex35, Fc35, db35, kd35, Fv35, Va35⟩ := hQ35
        have N35 : Fr n0 L35 := by rw [l35]; exact Fr.app N33 Nq35
        have Kp35 : Keep h0 T35.heap [] := Keep.trans Kp33 Kq35 all0
        have K35 : own_K p e below SE T35 (mkF m 101 #[.val (.int p0), .val (.long q1), .second, .val (.long q2), .second, .val (.long q3), .second, .val (.long q4), .second, .val (.int p5), .val (.int ca0), .val (.int ca1), .val (.int cb0), .val (.int cb1), .val (.int la), .val (.int lb0), .val (.ref sv33), .unset, .unset, .unset, .unset, .unset, .unset, .unset, .unset, .unset, .unset] [(.ref T33.heap.size)]) := fun t k => K34 _ (st35 _ k)
        obtain ⟨sv35, gs35⟩ : ∃ z, z = T33.heap.size := ⟨_, rfl⟩
        rw [← gs35] at K35 Ex35 Fc35 Fv35
        have hCH := CHv.keep Kq35 all0 hCH
        have S_b : own_Str Z T35.heap sv35 lb0 cb0 cb1 := ⟨Ex35, Fc35, db35, kd35, Fv35, (by rw [hB, own_bl1]; exact Va35)⟩
        have K36 : own_K p e below SE T35 (mkF m 103 #[.val (.int p0), .val (.long q1), .second, .val (.long q2), .second, .val (.long q3), .second, .val (.long q4), .second, .val (.int p5), .val (.int ca0), .val (.int ca1), .val (.int cb0), .val (.int cb1), .val (.int la), .val (.int lb0), .val (.ref sv33), .val (.ref sv35), .unset, .unset, .unset, .unset, .unset, .unset, .unset, .unset, .unset] []) := by
          intro t k
          refine K35 _ ?_
          refine XS.astore X35.here hx rfl (hb hby at_101) rfl rfl (l' := #[.val (.int p0), .val (.long q1), .second, .val (.long q2), .second, .val (.long q3), .second, .val (.long q4), .second, .val (.int p5), .val (.int ca0), .val (.int ca1), .val (.int cb0), .val (.int cb1), .val (.int la), .val (.int lb0), .val (.ref sv33), .val (.ref sv35), .unset, .unset, .unset, .unset, .unset, .unset, .unset, .unset, .unset]) rfl ?_
          exact k
        exact ⟨T35, _, _, _, lb0, sv33, sv35, { X35 with same := X35.same.mono (by decide) (by decide) }, N35, hS, (Nat.le_trans (Nat.le_trans hk Kq33.1) Kq35.1), hZ, hown, Kp35, hlb03, S_a.ext (own_ext Kq35), S_b, K36⟩
      · skip
        have K37 : own_K p e below SE T10 (mkF m 87 #[.val (.int p0), .val (.long q1), .second, .val (.long q2), .second, .val (.long q3), .second, .val (.long q4), .second, .val (.int p5), .val (.int ca0), .val (.int ca1), .val (.int cb0), .val (.int cb1), .val (.int la), .val (.int lb0), .unset, .unset, .unset, .unset, .unset, .unset, .unset, .unset, .unset, .unset, .unset] [(.int ca1), (.int ca0), (.int la)]) := by
          intro t k
          refine K11 _ ?_
          refine XS.iload X10.here hx rfl (hb hby at_81) rfl ?_
          show own_S p e below T10 (mkF m 83 #[.val (.int p0), .val (.long q1), .second, .val (.long q2), .second, .val (.long q3), .second, .val (.long q4), .second, .val (.int p5), .val (.int ca0), .val (.int ca1), .val (.int cb0), .val (.int cb1), .val (.int la), .val (.int lb0), .unset, .unset, .unset, .unset, .unset, .unset, .unset, .unset, .unset, .unset, .unset] [(.int la)]) _
          refine XS.iload X10.here hx rfl (hb hby at_83) rfl ?_
          show own_S p e below T10 (mkF m 85 #[.val (.int p0), .val (.long q1), .second, .val (.long q2), .second, .val (.long q3), .second, .val (.long q4), .second, .val (.int p5), .val (.int ca0), .val (.int ca1), .val (.int cb0), .val (.int cb1), .val (.int la), .val (.int lb0), .unset, .unset, .unset, .unset, .unset, .unset, .unset, .unset, .unset, .unset, .unset] [(.int ca0), (.int la)]) _
          refine XS.iload X10.here hx rfl (hb hby at_85) rfl ?_
          exact k
        obtain ⟨_, _, ⟨T38, L38, k38, n38⟩, -, X38, ⟨Lc38, hQ38, l38, y38, z38⟩, st38⟩ := Jvm.LawKit.callS X10 hx (y := (⟨"com/example/enact/enact/model/RunKeyEqualsPinLaw", "mk", "(ICC)Ljava/lang/String;"⟩ : MethodName)) hown (mvT hZ (hw _ (List.mem_of_getElem? (i := 4) rfl))) (mvT hZ (hw _ (List.mem_of_getElem? (i := 5) rfl))) (mvT hZ (hw _ (List.mem_of_getElem? (i := 6) rfl))) (mvT hZ (hw _ (List.mem_of_getElem? (i := 7) rfl))) (by decide) (backOf (W := 0) (rmmk1 l Z a0 hw [] ca0 ca1 G h0 n0 Z0 S_cs hG (own_l255 _ ha0)) hZ (hw _ (List.mem_of_getElem? (i := 7) rfl)) (hw _ (List.mem_of_getElem? (i := 6) rfl)) (by decide) (by decide)) (g := (mkF m 87 #[.val (.int p0), .val (.long q1), .second, .val (.long q2), .second, .val (.long q3), .second, .val (.long q4), .second, .val (.int p5), .val (.int ca0), .val (.int ca1), .val (.int cb0), .val (.int cb1), .val (.int la), .val (.int lb0), .unset, .unset, .unset, .unset, .unset, .unset, .unset, .unset, .unset, .unset, .unset] [(.int ca1), (.int ca0), (.int la)])) rfl (by rw [hml]; rfl) (argsL := [(.int la), (.int ca0), (.int ca1)]) (rest := []) (lenOf pd_0_1 rfl) rfl (by show 2 * 0 + _ ≤ _; exact Nat.le_of_eq rfl) (hb hby at_87) (fun _ _ => ⟨(by rw [hA]), e10, (by decide : 0 + 2 ≤ _), (by decide : 0 + 5 ≤ _)⟩)
        dsimp only [Pt.U, Pt.locs, Pt.cells, Pt.slots] at X38 l38 y38 z38 st38 hQ38
        rw [y38, z38] at X38
        obtain ⟨rfl, Nq38, Kq38, Ex38, Fc38, db38, kd38, Fv38, Va38⟩ := hQ38
        have N38 : Fr n0 L38 := by rw [l38]; exact Fr.app N10 Nq38
        have Kp38 : Keep h0 T38.heap [] := Keep.trans (Keep.refl h0 []) Kq38 all0
        have K38 : own_K p e below SE T38 (mkF m 90 #[.val (.int p0), .val (.long q1), .second, .val (.long q2), .second, .val (.long q3), .second, .val (.long q4), .second, .val (.int p5), .val (.int ca0), .val (.int ca1), .val (.int cb0), .val (.int cb1), .val (.int la), .val (.int lb0), .unset, .unset, .unset, .unset, .unset, .unset, .unset, .unset, .unset, .unset, .unset] [(.ref h0.size)]) := fun t k => K37 _ (st38 _ k)
        obtain ⟨sv38, gs38⟩ : ∃ z, z = h0.size := ⟨_, rfl⟩
        rw [← gs38] at K38 Ex38 Fc38 Fv38
        have hCH := CHv.keep Kq38 all0 hCH
        have S_a : own_Str Z T38.heap sv38 la ca0 ca1 := ⟨Ex38, Fc38, db38, kd38, Fv38, (by rw [hA, own_bl1]; exact Va38)⟩
        have K39 : own_K p e below SE T38 (mkF m 98 #[.val (.int p0), .val (.long q1), .second, .val (.long q2), .second, .val (.long q3), .second, .val (.long q4), .second, .val (.int p5), .val (.int ca0), .val (.int ca1), .val (.int cb0), .val (.int cb1), .val (.int la), .val (.int lb0), .val (.ref sv38), .unset, .unset, .unset, .unset, .unset, .unset, .unset, .unset, .unset, .unset] [(.int cb1), (.int cb0), (.int lb0)]) := by
          intro t k
          refine K38 _ ?_
          refine XS.astore X38.here hx rfl (hb hby at_90) rfl rfl (l' := #[.val (.int p0), .val (.long q1), .second, .val (.long q2), .second, .val (.long q3), .second, .val (.long q4), .second, .val (.int p5), .val (.int ca0), .val (.int ca1), .val (.int cb0), .val (.int cb1), .val (.int la), .val (.int lb0), .val (.ref sv38), .unset, .unset, .unset, .unset, .unset, .unset, .unset, .unset, .unset, .unset]) rfl ?_
          show own_S p e below T38 (mkF m 92 #[.val (.int p0), .val (.long q1), .second, .val (.long q2), .second, .val (.long q3), .second, .val (.long q4), .second, .val (.int p5), .val (.int ca0), .val (.int ca1), .val (.int cb0), .val (.int cb1), .val (.int la), .val (.int lb0), .val (.ref sv38), .unset, .unset, .unset, .unset, .unset, .unset, .unset, .unset, .unset, .unset] []) _
          refine XS.iload X38.here hx rfl (hb hby at_92) rfl ?_
          show own_S p e below T38 (mkF m 94 #[.val (.int p0), .val (.long q1), .second, .val (.long q2), .second, .val (.long q3), .second, .val (.long q4), .second, .val (.int p5), .val (.int ca0), .val (.int ca1), .val (.int cb0), .val (.int cb1), .val (.int la), .val (.int lb0), .val (.ref sv38), .unset, .unset, .unset, .unset, .unset, .unset, .unset, .unset, .unset, .unset] [(.int lb0)]) _
          refine XS.iload X38.here hx rfl (hb hby at_94) rfl ?_
          show own_S p e below T38 (mkF m 96 #[.val (.int p0), .val (.long q1), .second, .val (.long q2), .second, .val (.long q3), .second, .val (.long q4), .second, .val (.int p5), .val (.int ca0), .val (.int ca1), .val (.int cb0), .val (.int cb1), .val (.int la), .val (.int lb0), .val (.ref sv38), .unset, .unset, .unset, .unset, .unset, .unset, .unset, .unset, .unset, .unset] [(.int cb0), (.int lb0)]) _
          refine XS.iload X38.here hx rfl (hb hby at_96) rfl ?_
          exact k
        obtain ⟨_, _, ⟨T40, L40, k40, n40⟩, -, X40, ⟨Lc40, hQ40, l40, y40, z40⟩, st40⟩ := Jvm.LawKit.callS X38 hx (y := (⟨"com/example/enact/enact/model/RunKeyEqualsPinLaw", "mk", "(ICC)Ljava/lang/String;"⟩ : MethodName)) hown (mvT hZ (hw _ (List.mem_of_getElem? (i := 4) rfl))) (mvT hZ (hw _ (List.mem_of_getElem? (i := 5) rfl))) (mvT hZ (hw _ (List.mem_of_getElem? (i := 6) rfl))) (mvT hZ (hw _ (List.mem_of_getElem? (i := 7) rfl))) (by decide) (backOf (W := 0) (rmmk2 l Z a0 hw [] cb0 cb1 G T38.heap n0 (Nat.le_trans Z0 Kp38.1) (S_cs.ext (own_ext Kp38)) hG (own_l255 _ hb0) (own_l255 _ hb1) (own_nar _ hb0) (own_nar _ hb1)) hZ (hw _ (List.mem_of_getElem? (i := 7) rfl)) (hw _ (List.mem_of_getElem? (i := 6) rfl)) (by decide) (by decide)) (g := (mkF m 98 #[.val (.int p0), .val (.long q1), .second, .val (.long q2), .second, .val (.long q3), .second, .val (.long q4), .second, .val (.int p5), .val (.int ca0), .val (.int ca1), .val (.int cb0), .val (.int cb1), .val (.int la), .val (.int lb0), .val (.ref sv38), .unset, .unset, .unset, .unset, .unset, .unset, .unset, .unset, .unset, .unset] [(.int cb1), (.int cb0), (.int lb0)])) rfl (by rw [hml]; rfl) (argsL := [(.int lb0), (.int cb0), (.int cb1)]) (rest := []) (lenOf pd_0_1 rfl) rfl (by show 2 * 0 + _ ≤ _; exact Nat.le_of_eq rfl) (hb hby at_98) (fun _ _ => ⟨(by rw [hB]), rfl, (by decide : 2 + 3 ≤ _), (by decide : 5 + 8 ≤ _)⟩)
        dsimp only [Pt.U, Pt.locs, Pt.cells, Pt.slots] at X40 l40 y40 z40 st40 hQ40
        rw [y40, z40] at X40
        obtain ⟨rfl, Nq40, Kq40, Ex40, Fc40, db40, kd40, Fv40, Va40⟩ := hQ40
        have N40 : Fr n0 L40 := by rw [l40]; exact Fr.app N38 Nq40
        have Kp40 : Keep h0 T40.heap [] := Keep.trans Kp38 Kq40 all0
        have K40 : own_K p e below SE T40 (mkF m 101 #[.val (.int p0), .val (.long q1), .second, .val (.long q2), .second, .val (.long q3), .second, .val (.long q4), .second, .val (.int p5), .val (.int ca0), .val (.int ca1), .val (.int cb0), .val (.int cb1), .val (.int la), .val (.int lb0), .val (.ref sv38), .unset, .unset, .unset, .unset, .unset, .unset, .unset, .unset, .unset, .unset] [(.ref T38.heap.size)]) := fun t k => K39 _ (st40 _ k)
        obtain ⟨sv40, gs40⟩ : ∃ z, z = T38.heap.size := ⟨_, rfl⟩
        rw [← gs40] at K40 Ex40 Fc40 Fv40
        have hCH := CHv.keep Kq40 all0 hCH
        have S_b : own_Str Z T40.heap sv40 lb0 cb0 cb1 := ⟨Ex40, Fc40, db40, kd40, Fv40, (by rw [hB, own_bl2]; exact Va40)⟩
        have K41 : own_K p e below SE T40 (mkF m 103 #[.val (.int p0), .val (.long q1), .second, .val (.long q2), .second, .val (.long q3), .second, .val (.long q4), .second, .val (.int p5), .val (.int ca0), .val (.int ca1), .val (.int cb0), .val (.int cb1), .val (.int la), .val (.int lb0), .val (.ref sv38), .val (.ref sv40), .unset, .unset, .unset, .unset, .unset, .unset, .unset, .unset, .unset] []) := by
          intro t k
          refine K40 _ ?_
          refine XS.astore X40.here hx rfl (hb hby at_101) rfl rfl (l' := #[.val (.int p0), .val (.long q1), .second, .val (.long q2), .second, .val (.long q3), .second, .val (.long q4), .second, .val (.int p5), .val (.int ca0), .val (.int ca1), .val (.int cb0), .val (.int cb1), .val (.int la), .val (.int lb0), .val (.ref sv38), .val (.ref sv40), .unset, .unset, .unset, .unset, .unset, .unset, .unset, .unset, .unset]) rfl ?_
          exact k
        exact ⟨T40, _, _, _, lb0, sv38, sv40, { X40 with same := X40.same.mono (by decide) (by decide) }, N40, hS, (Nat.le_trans (Nat.le_trans hk Kq38.1) Kq40.1), hZ, hown, Kp40, hlb03, S_a.ext (own_ext Kq40), S_b, K41⟩
      · skip
        have K42 : own_K p e below SE T10 (mkF m 87 #[.val (.int p0), .val (.long q1), .second, .val (.long q2), .second, .val (.long q3), .second, .val (.long q4), .second, .val (.int p5), .val (.int ca0), .val (.int ca1), .val (.int cb0), .val (.int cb1), .val (.int la), .val (.int lb0), .unset, .unset, .unset, .unset, .unset, .unset, .unset, .unset, .unset, .unset, .unset] [(.int ca1), (.int ca0), (.int la)]) := by
          intro t k
          refine K11 _ ?_
          refine XS.iload X10.here hx rfl (hb hby at_81) rfl ?_
          show own_S p e below T10 (mkF m 83 #[.val (.int p0), .val (.long q1), .second, .val (.long q2), .second, .val (.long q3), .second, .val (.long q4), .second, .val (.int p5), .val (.int ca0), .val (.int ca1), .val (.int cb0), .val (.int cb1), .val (.int la), .val (.int lb0), .unset, .unset, .unset, .unset, .unset, .unset, .unset, .unset, .unset, .unset, .unset] [(.int la)]) _
          refine XS.iload X10.here hx rfl (hb hby at_83) rfl ?_
          show own_S p e below T10 (mkF m 85 #[.val (.int p0), .val (.long q1), .second, .val (.long q2), .second, .val (.long q3), .second, .val (.long q4), .second, .val (.int p5), .val (.int ca0), .val (.int ca1), .val (.int cb0), .val (.int cb1), .val (.int la), .val (.int lb0), .unset, .unset, .unset, .unset, .unset, .unset, .unset, .unset, .unset, .unset, .unset] [(.int ca0), (.int la)]) _
          refine XS.iload X10.here hx rfl (hb hby at_85) rfl ?_
          exact k
        obtain ⟨_, _, ⟨T43, L43, k43, n43⟩, -, X43, ⟨Lc43, hQ43, l43, y43, z43⟩, st43⟩ := Jvm.LawKit.callS X10 hx (y := (⟨"com/example/enact/enact/model/RunKeyEqualsPinLaw", "mk", "(ICC)Ljava/lang/String;"⟩ : MethodName)) hown (mvT hZ (hw _ (List.mem_of_getElem? (i := 4) rfl))) (mvT hZ (hw _ (List.mem_of_getElem? (i := 5) rfl))) (mvT hZ (hw _ (List.mem_of_getElem? (i := 6) rfl))) (mvT hZ (hw _ (List.mem_of_getElem? (i := 7) rfl))) (by decide) (backOf (W := 0) (rmmk2 l Z a0 hw [] ca0 ca1 G h0 n0 Z0 S_cs hG (own_l255 _ ha0) (own_l255 _ ha1) (own_nar _ ha0) (own_nar _ ha1)) hZ (hw _ (List.mem_of_getElem? (i := 7) rfl)) (hw _ (List.mem_of_getElem? (i := 6) rfl)) (by decide) (by decide)) (g := (mkF m 87 #[.val (.int p0), .val (.long q1), .second, .val (.long q2), .second, .val (.long q3), .second, .val (.long q4), .second, .val (.int p5), .val (.int ca0), .val (.int ca1), .val (.int cb0), .val (.int cb1), .val (.int la), .val (.int lb0), .unset, .unset, .unset, .unset, .unset, .unset, .unset, .unset, .unset, .unset, .unset] [(.int ca1), (.int ca0), (.int la)])) rfl (by rw [hml]; rfl) (argsL := [(.int la), (.int ca0), (.int ca1)]) (rest := []) (lenOf pd_0_1 rfl) rfl (by show 2 * 0 + _ ≤ _; exact Nat.le_of_eq rfl) (hb hby at_87) (fun _ _ => ⟨(by rw [hA]), e10, (by decide : 0 + 3 ≤ _), (by decide : 0 + 8 ≤ _)⟩)
        dsimp only [Pt.U, Pt.locs, Pt.cells, Pt.slots] at X43 l43 y43 z43 st43 hQ43
        rw [y43, z43] at X43
        obtain ⟨rfl, Nq43, Kq43, Ex43, Fc43, db43, kd43, Fv43, Va43⟩ := hQ43
        have N43 : Fr n0 L43 := by rw [l43]; exact Fr.app N10 Nq43
        have Kp43 : Keep h0 T43.heap [] := Keep.trans (Keep.refl h0 []) Kq43 all0
        have K43 : own_K p e below SE T43 (mkF m 90 #[.val (.int p0), .val (.long q1), .second, .val (.long q2), .second, .val (.long q3), .second, .val (.long q4), .second, .val (.int p5), .val (.int ca0), .val (.int ca1), .val (.int cb0), .val (.int cb1), .val (.int la), .val (.int lb0), .unset, .unset, .unset, .unset, .unset, .unset, .unset, .unset, .unset, .unset, .unset] [(.ref h0.size)]) := fun t k => K42 _ (st43 _ k)
        obtain ⟨sv43, gs43⟩ : ∃ z, z = h0.size := ⟨_, rfl⟩
        rw [← gs43] at K43 Ex43 Fc43 Fv43
        have hCH := CHv.keep Kq43 all0 hCH
        have S_a : own_Str Z T43.heap sv43 la ca0 ca1 := ⟨Ex43, Fc43, db43, kd43, Fv43, (by rw [hA, own_bl2]; exact Va43)⟩
        have K44 : own_K p e below SE T43 (mkF m 98 #[.val (.int p0), .val (.long q1), .second, .val (.long q2), .second, .val (.long q3), .second, .val (.long q4), .second, .val (.int p5), .val (.int ca0), .val (.int ca1), .val (.int cb0), .val (.int cb1), .val (.int la), .val (.int lb0), .val (.ref sv43), .unset, .unset, .unset, .unset, .unset, .unset, .unset, .unset, .unset, .unset] [(.int cb1), (.int cb0), (.int lb0)]) := by
          intro t k
          refine K43 _ ?_
          refine XS.astore X43.here hx rfl (hb hby at_90) rfl rfl (l' := #[.val (.int p0), .val (.long q1), .second, .val (.long q2), .second, .val (.long q3), .second, .val (.long q4), .second, .val (.int p5), .val (.int ca0), .val (.int ca1), .val (.int cb0), .val (.int cb1), .val (.int la), .val (.int lb0), .val (.ref sv43), .unset, .unset, .unset, .unset, .unset, .unset, .unset, .unset, .unset, .unset]) rfl ?_
          show own_S p e below T43 (mkF m 92 #[.val (.int p0), .val (.long q1), .second, .val (.long q2), .second, .val (.long q3), .second, .val (.long q4), .second, .val (.int p5), .val (.int ca0), .val (.int ca1), .val (.int cb0), .val (.int cb1), .val (.int la), .val (.int lb0), .val (.ref sv43), .unset, .unset, .unset, .unset, .unset, .unset, .unset, .unset, .unset, .unset] []) _
          refine XS.iload X43.here hx rfl (hb hby at_92) rfl ?_
          show own_S p e below T43 (mkF m 94 #[.val (.int p0), .val (.long q1), .second, .val (.long q2), .second, .val (.long q3), .second, .val (.long q4), .second, .val (.int p5), .val (.int ca0), .val (.int ca1), .val (.int cb0), .val (.int cb1), .val (.int la), .val (.int lb0), .val (.ref sv43), .unset, .unset, .unset, .unset, .unset, .unset, .unset, .unset, .unset, .unset] [(.int lb0)]) _
          refine XS.iload X43.here hx rfl (hb hby at_94) rfl ?_
          show own_S p e below T43 (mkF m 96 #[.val (.int p0), .val (.long q1), .second, .val (.long q2), .second, .val (.long q3), .second, .val (.long q4), .second, .val (.int p5), .val (.int ca0), .val (.int ca1), .val (.int cb0), .val (.int cb1), .val (.int la), .val (.int lb0), .val (.ref sv43), .unset, .unset, .unset, .unset, .unset, .unset, .unset, .unset, .unset, .unset] [(.int cb0), (.int lb0)]) _
          refine XS.iload X43.here hx rfl (hb hby at_96) rfl ?_
          exact k
        obtain ⟨_, _, ⟨T45, L45, k45, n45⟩, -, X45, hSq45, gq45, ⟨Lc45, hQ45, l45, y45, z45, hCr45⟩, st45⟩ := callSS X43 hx (y := (⟨"com/example/enact/enact/model/RunKeyEqualsPinLaw", "mk", "(ICC)Ljava/lang/String;"⟩ : MethodName)) hown (mvT hZ (hw _ (List.mem_of_getElem? (i := 4) rfl))) (mvT hZ (hw _ (List.mem_of_getElem? (i := 5) rfl))) (mvT hZ (hw _ (List.mem_of_getElem? (i := 6) rfl))) (mvT hZ (hw _ (List.mem_of_getElem? (i := 7) rfl))) (by decide) (backOfSH (W := 0) (rmmk0 l Z a0 hw [] cb0 cb1 T43.heap n0 (Nat.le_trans Z0 Kp43.1)) hZ (hw _ (List.mem_of_getElem? (i := 7) rfl)) (hw _ (List.mem_of_getElem? (i := 6) rfl)) (by decide) (by decide) (own_ew hw) hCH) (g := (mkF m 98 #[.val (.int p0), .val (.long q1), .second, .val (.long q2), .second, .val (.long q3), .second, .val (.long q4), .second, .val (.int p5), .val (.int ca0), .val (.int ca1), .val (.int cb0), .val (.int cb1), .val (.int la), .val (.int lb0), .val (.ref sv43), .unset, .unset, .unset, .unset, .unset, .unset, .unset, .unset, .unset, .unset] [(.int cb1), (.int cb0), (.int lb0)])) rfl (by rw [hml]; rfl) (argsL := [(.int lb0), (.int cb0), (.int cb1)]) (rest := []) (lenOf pd_0_1 rfl) rfl (by show 2 * 0 + _ ≤ _; exact Nat.le_of_eq rfl) (hb hby at_98) (fun _ _ => ⟨(by rw [hB]), rfl, (by decide : 3 + 2 ≤ _), (by decide : 8 + 4 ≤ _)⟩)
        dsimp only [Pt.U, Pt.locs, Pt.cells, Pt.slots] at X45 l45 y45 z45 st45 hQ45 hSq45 gq45
        rw [y45, z45] at X45
        obtain ⟨X45, hS, hZ, hown⟩ := rebS hS (Nat.le_trans hk Kq43.1) X45 hSq45 gq45 hZ hown
        have hCH := hCr45.1
        obtain ⟨sv45, rfl, Nq45, Kq45, Ex45, Fc45, db45, kd45, Fv45, Va45⟩ := hQ45
        have N45 : Fr n0 L45 := by rw [l45]; exact Fr.app N43 Nq45
        have Kp45 : Keep h0 T45.heap [] := Keep.trans Kp43 Kq45 all0
        have K45 : own_K p e below SE T45 (mkF m 101 #[.val (.int p0), .val (.long q1), .second, .val (.long q2), .second, .val (.long q3), .second, .val (.long q4), .second, .val (.int p5), .val (.int ca0), .val (.int ca1), .val (.int cb0), .val (.int cb1), .val (.int la), .val (.int lb0), .val (.ref sv43), .unset, .unset, .unset, .unset, .unset, .unset, .unset, .unset, .unset, .unset] [(.ref sv45)]) := fun t k => K44 _ (st45.trans k)
        have S_b : own_Str Z T45.heap sv45 lb0 cb0 cb1 := ⟨Ex45, Fc45, db45, kd45, Fv45, (by rw [hB, own_bl0]; exact Va45)⟩
        have K46 : own_K p e below SE T45 (mkF m 103 #[.val (.int p0), .val (.long q1), .second, .val (.long q2), .second, .val (.long q3), .second, .val (.long q4), .second, .val (.int p5), .val (.int ca0), .val (.int ca1), .val (.int cb0), .val (.int cb1), .val (.int la), .val (.int lb0), .val (.ref sv43), .val (.ref sv45), .unset, .unset, .unset, .unset, .unset, .unset, .unset, .unset, .unset] []) := by
          intro t k
          refine K45 _ ?_
          refine XS.astore X45.here hx rfl (hb hby at_101) rfl rfl (l' := #[.val (.int p0), .val (.long q1), .second, .val (.long q2), .second, .val (.long q3), .second, .val (.long q4), .second, .val (.int p5), .val (.int ca0), .val (.int ca1), .val (.int cb0), .val (.int cb1), .val (.int la), .val (.int lb0), .val (.ref sv43), .val (.ref sv45), .unset, .unset, .unset, .unset, .unset, .unset, .unset, .unset, .unset]) rfl ?_
          exact k
        exact ⟨T45, _, _, _, lb0, sv43, sv45, { X45 with same := X45.same.mono (by decide) (by decide) }, N45, hS, (Nat.le_refl _), hZ, hown, Kp45, hlb03, S_a.ext (own_ext Kq45), S_b, K46⟩
      · skip
        have K47 : own_K p e below SE T10 (mkF m 87 #[.val (.int p0), .val (.long q1), .second, .val (.long q2), .second, .val (.long q3), .second, .val (.long q4), .second, .val (.int p5), .val (.int ca0), .val (.int ca1), .val (.int cb0), .val (.int cb1), .val (.int la), .val (.int lb0), .unset, .unset, .unset, .unset, .unset, .unset, .unset, .unset, .unset, .unset, .unset] [(.int ca1), (.int ca0), (.int la)]) := by
          intro t k
          refine K11 _ ?_
          refine XS.iload X10.here hx rfl (hb hby at_81) rfl ?_
          show own_S p e below T10 (mkF m 83 #[.val (.int p0), .val (.long q1), .second, .val (.long q2), .second, .val (.long q3), .second, .val (.long q4), .second, .val (.int p5), .val (.int ca0), .val (.int ca1), .val (.int cb0), .val (.int cb1), .val (.int la), .val (.int lb0), .unset, .unset, .unset, .unset, .unset, .unset, .unset, .unset, .unset, .unset, .unset] [(.int la)]) _
          refine XS.iload X10.here hx rfl (hb hby at_83) rfl ?_
          show own_S p e below T10 (mkF m 85 #[.val (.int p0), .val (.long q1), .second, .val (.long q2), .second, .val (.long q3), .second, .val (.long q4), .second, .val (.int p5), .val (.int ca0), .val (.int ca1), .val (.int cb0), .val (.int cb1), .val (.int la), .val (.int lb0), .unset, .unset, .unset, .unset, .unset, .unset, .unset, .unset, .unset, .unset, .unset] [(.int ca0), (.int la)]) _
          refine XS.iload X10.here hx rfl (hb hby at_85) rfl ?_
          exact k
        obtain ⟨_, _, ⟨T48, L48, k48, n48⟩, -, X48, ⟨Lc48, hQ48, l48, y48, z48⟩, st48⟩ := Jvm.LawKit.callS X10 hx (y := (⟨"com/example/enact/enact/model/RunKeyEqualsPinLaw", "mk", "(ICC)Ljava/lang/String;"⟩ : MethodName)) hown (mvT hZ (hw _ (List.mem_of_getElem? (i := 4) rfl))) (mvT hZ (hw _ (List.mem_of_getElem? (i := 5) rfl))) (mvT hZ (hw _ (List.mem_of_getElem? (i := 6) rfl))) (mvT hZ (hw _ (List.mem_of_getElem? (i := 7) rfl))) (by decide) (backOf (W := 0) (rmmk2 l Z a0 hw [] ca0 ca1 G h0 n0 Z0 S_cs hG (own_l255 _ ha0) (own_l255 _ ha1) (own_nar _ ha0) (own_nar _ ha1)) hZ (hw _ (List.mem_of_getElem? (i := 7) rfl)) (hw _ (List.mem_of_getElem? (i := 6) rfl)) (by decide) (by decide)) (g := (mkF m 87 #[.val (.int p0), .val (.long q1), .second, .val (.long q2), .second, .val (.long q3), .second, .val (.long q4), .second, .val (.int p5), .val (.int ca0), .val (.int ca1), .val (.int cb0), .val (.int cb1), .val (.int la), .val (.int lb0), .unset, .unset, .unset, .unset, .unset, .unset, .unset, .unset, .unset, .unset, .unset] [(.int ca1), (.int ca0), (.int la)])) rfl (by rw [hml]; rfl) (argsL := [(.int la), (.int ca0), (.int ca1)]) (rest := []) (lenOf pd_0_1 rfl) rfl (by show 2 * 0 + _ ≤ _; exact Nat.le_of_eq rfl) (hb hby at_87) (fun _ _ => ⟨(by rw [hA]), e10, (by decide : 0 + 3 ≤ _), (by decide : 0 + 8 ≤ _)⟩)
        dsimp only [Pt.U, Pt.locs, Pt.cells, Pt.slots] at X48 l48 y48 z48 st48 hQ48
        rw [y48, z48] at X48
        obtain ⟨rfl, Nq48, Kq48, Ex48, Fc48, db48, kd48, Fv48, Va48⟩ := hQ48
        have N48 : Fr n0 L48 := by rw [l48]; exact Fr.app N10 Nq48
        have Kp48 : Keep h0 T48.heap [] := Keep.trans (Keep.refl h0 []) Kq48 all0
        have K48 : own_K p e below SE T48 (mkF m 90 #[.val (.int p0), .val (.long q1), .second, .val (.long q2), .second, .val (.long q3), .second, .val (.long q4), .second, .val (.int p5), .val (.int ca0), .val (.int ca1), .val (.int cb0), .val (.int cb1), .val (.int la), .val (.int lb0), .unset, .unset, .unset, .unset, .unset, .unset, .unset, .unset, .unset, .unset, .unset] [(.ref h0.size)]) := fun t k => K47 _ (st48 _ k)
        obtain ⟨sv48, gs48⟩ : ∃ z, z = h0.size := ⟨_, rfl⟩
        rw [← gs48] at K48 Ex48 Fc48 Fv48
        have hCH := CHv.keep Kq48 all0 hCH
        have S_a : own_Str Z T48.heap sv48 la ca0 ca1 := ⟨Ex48, Fc48, db48, kd48, Fv48, (by rw [hA, own_bl2]; exact Va48)⟩
        have K49 : own_K p e below SE T48 (mkF m 98 #[.val (.int p0), .val (.long q1), .second, .val (.long q2), .second, .val (.long q3), .second, .val (.long q4), .second, .val (.int p5), .val (.int ca0), .val (.int ca1), .val (.int cb0), .val (.int cb1), .val (.int la), .val (.int lb0), .val (.ref sv48), .unset, .unset, .unset, .unset, .unset, .unset, .unset, .unset, .unset, .unset] [(.int cb1), (.int cb0), (.int lb0)]) := by
          intro t k
          refine K48 _ ?_
          refine XS.astore X48.here hx rfl (hb hby at_90) rfl rfl (l' := #[.val (.int p0), .val (.long q1), .second, .val (.long q2), .second, .val (.long q3), .second, .val (.long q4), .second, .val (.int p5), .val (.int ca0), .val (.int ca1), .val (.int cb0), .val (.int cb1), .val (.int la), .val (.int lb0), .val (.ref sv48), .unset, .unset, .unset, .unset, .unset, .unset, .unset, .unset, .unset, .unset]) rfl ?_
          show own_S p e below T48 (mkF m 92 #[.val (.int p0), .val (.long q1), .second, .val (.long q2), .second, .val (.long q3), .second, .val (.long q4), .second, .val (.int p5), .val (.int ca0), .val (.int ca1), .val (.int cb0), .val (.int cb1), .val (.int la), .val (.int lb0), .val (.ref sv48), .unset, .unset, .unset, .unset, .unset, .unset, .unset, .unset, .unset, .unset] []) _
          refine XS.iload X48.here hx rfl (hb hby at_92) rfl ?_
          show own_S p e below T48 (mkF m 94 #[.val (.int p0), .val (.long q1), .second, .val (.long q2), .second, .val (.long q3), .second, .val (.long q4), .second, .val (.int p5), .val (.int ca0), .val (.int ca1), .val (.int cb0), .val (.int cb1), .val (.int la), .val (.int lb0), .val (.ref sv48), .unset, .unset, .unset, .unset, .unset, .unset, .unset, .unset, .unset, .unset] [(.int lb0)]) _
          refine XS.iload X48.here hx rfl (hb hby at_94) rfl ?_
          show own_S p e below T48 (mkF m 96 #[.val (.int p0), .val (.long q1), .second, .val (.long q2), .second, .val (.long q3), .second, .val (.long q4), .second, .val (.int p5), .val (.int ca0), .val (.int ca1), .val (.int cb0), .val (.int cb1), .val (.int la), .val (.int lb0), .val (.ref sv48), .unset, .unset, .unset, .unset, .unset, .unset, .unset, .unset, .unset, .unset] [(.int cb0), (.int lb0)]) _
          refine XS.iload X48.here hx rfl (hb hby at_96) rfl ?_
          exact k
        obtain ⟨_, _, ⟨T50, L50, k50, n50⟩, -, X50, ⟨Lc50, hQ50, l50, y50, z50⟩, st50⟩ := Jvm.LawKit.callS X48 hx (y := (⟨"com/example/enact/enact/model/RunKeyEqualsPinLaw", "mk", "(ICC)Ljava/lang/String;"⟩ : MethodName)) hown (mvT hZ (hw _ (List.mem_of_getElem? (i := 4) rfl))) (mvT hZ (hw _ (List.mem_of_getElem? (i := 5) rfl))) (mvT hZ (hw _ (List.mem_of_getElem? (i := 6) rfl))) (mvT hZ (hw _ (List.mem_of_getElem? (i := 7) rfl))) (by decide) (backOf (W := 0) (rmmk1 l Z a0 hw [] cb0 cb1 G T48.heap n0 (Nat.le_trans Z0 Kp48.1) (S_cs.ext (own_ext Kp48)) hG (own_l255 _ hb0)) hZ (hw _ (List.mem_of_getElem? (i := 7) rfl)) (hw _ (List.mem_of_getElem? (i := 6) rfl)) (by decide) (by decide)) (g := (mkF m 98 #[.val (.int p0), .val (.long q1), .second, .val (.long q2), .second, .val (.long q3), .second, .val (.long q4), .second, .val (.int p5), .val (.int ca0), .val (.int ca1), .val (.int cb0), .val (.int cb1), .val (.int la), .val (.int lb0), .val (.ref sv48), .unset, .unset, .unset, .unset, .unset, .unset, .unset, .unset, .unset, .unset] [(.int cb1), (.int cb0), (.int lb0)])) rfl (by rw [hml]; rfl) (argsL := [(.int lb0), (.int cb0), (.int cb1)]) (rest := []) (lenOf pd_0_1 rfl) rfl (by show 2 * 0 + _ ≤ _; exact Nat.le_of_eq rfl) (hb hby at_98) (fun _ _ => ⟨(by rw [hB]), rfl, (by decide : 3 + 2 ≤ _), (by decide : 8 + 5 ≤ _)⟩)
        dsimp only [Pt.U, Pt.locs, Pt.cells, Pt.slots] at X50 l50 y50 z50 st50 hQ50
        rw [y50, z50] at X50
        obtain ⟨rfl, Nq50, Kq50, Ex50, Fc50, db50, kd50, Fv50, Va50⟩ := hQ50
        have N50 : Fr n0 L50 := by rw [l50]; exact Fr.app N48 Nq50
        have Kp50 : Keep h0 T50.heap [] := Keep.trans Kp48 Kq50 all0
        have K50 : own_K p e below SE T50 (mkF m 101 #[.val (.int p0), .val (.long q1), .second, .val (.long q2), .second, .val (.long q3), .second, .val (.long q4), .second, .val (.int p5), .val (.int ca0), .val (.int ca1), .val (.int cb0), .val (.int cb1), .val (.int la), .val (.int lb0), .val (.ref sv48), .unset, .unset, .unset, .unset, .unset, .unset, .unset, .unset, .unset, .unset] [(.ref T48.heap.size)]) := fun t k => K49 _ (st50 _ k)
        obtain ⟨sv50, gs50⟩ : ∃ z, z = T48.heap.size := ⟨_, rfl⟩
        rw [← gs50] at K50 Ex50 Fc50 Fv50
        have hCH := CHv.keep Kq50 all0 hCH
        have S_b : own_Str Z T50.heap sv50 lb0 cb0 cb1 := ⟨Ex50, Fc50, db50, kd50, Fv50, (by rw [hB, own_bl1]; exact Va50)⟩
        have K51 : own_K p e below SE T50 (mkF m 103 #[.val (.int p0), .val (.long q1), .second, .val (.long q2), .second, .val (.long q3), .second, .val (.long q4), .second, .val (.int p5), .val (.int ca0), .val (.int ca1), .val (.int cb0), .val (.int cb1), .val (.int la), .val (.int lb0), .val (.ref sv48), .val (.ref sv50), .unset, .unset, .unset, .unset, .unset, .unset, .unset, .unset, .unset] []) := by
          intro t k
          refine K50 _ ?_
          refine XS.astore X50.here hx rfl (hb hby at_101) rfl rfl (l' := #[.val (.int p0), .val (.long q1), .second, .val (.long q2), .second, .val (.long q3), .second, .val (.long q4), .second, .val (.int p5), .val (.int ca0), .val (.int ca1), .val (.int cb0), .val (.int cb1), .val (.int la), .val (.int lb0), .val (.ref sv48), .val (.ref sv50), .unset, .unset, .unset, .unset, .unset, .unset, .unset, .unset, .unset]) rfl ?_
          exact k
        exact ⟨T50, _, _, _, lb0, sv48, sv50, { X50 with same := X50.same.mono (by decide) (by decide) }, N50, hS, (Nat.le_trans (Nat.le_trans hk Kq48.1) Kq50.1), hZ, hown, Kp50, hlb03, S_a.ext (own_ext Kq50), S_b, K51⟩
      · skip
        have K52 : own_K p e below SE T10 (mkF m 87 #[.val (.int p0), .val (.long q1), .second, .val (.long q2), .second, .val (.long q3), .second, .val (.long q4), .second, .val (.int p5), .val (.int ca0), .val (.int ca1), .val (.int cb0), .val (.int cb1), .val (.int la), .val (.int lb0), .unset, .unset, .unset, .unset, .unset, .unset, .unset, .unset, .unset, .unset, .unset] [(.int ca1), (.int ca0), (.int la)]) := by
          intro t k
          refine K11 _ ?_
          refine XS.iload X10.here hx rfl (hb hby at_81) rfl ?_
          show own_S p e below T10 (mkF m 83 #[.val (.int p0), .val (.long q1), .second, .val (.long q2), .second, .val (.long q3), .second, .val (.long q4), .second, .val (.int p5), .val (.int ca0), .val (.int ca1), .val (.int cb0), .val (.int cb1), .val (.int la), .val (.int lb0), .unset, .unset, .unset, .unset, .unset, .unset, .unset, .unset, .unset, .unset, .unset] [(.int la)]) _
          refine XS.iload X10.here hx rfl (hb hby at_83) rfl ?_
          show own_S p e below T10 (mkF m 85 #[.val (.int p0), .val (.long q1), .second, .val (.long q2), .second, .val (.long q3), .second, .val (.long q4), .second, .val (.int p5), .val (.int ca0), .val (.int ca1), .val (.int cb0), .val (.int cb1), .val (.int la), .val (.int lb0), .unset, .unset, .unset, .unset, .unset, .unset, .unset, .unset, .unset, .unset, .unset] [(.int ca0), (.int la)]) _
          refine XS.iload X10.here hx rfl (hb hby at_85) rfl ?_
          exact k
        obtain ⟨_, _, ⟨T53, L53, k53, n53⟩, -, X53, ⟨Lc53, hQ53, l53, y53, z53⟩, st53⟩ := Jvm.LawKit.callS X10 hx (y := (⟨"com/example/enact/enact/model/RunKeyEqualsPinLaw", "mk", "(ICC)Ljava/lang/String;"⟩ : MethodName)) hown (mvT hZ (hw _ (List.mem_of_getElem? (i := 4) rfl))) (mvT hZ (hw _ (List.mem_of_getElem? (i := 5) rfl))) (mvT hZ (hw _ (List.mem_of_getElem? (i := 6) rfl))) (mvT hZ (hw _ (List.mem_of_getElem? (i := 7) rfl))) (by decide) (backOf (W := 0) (rmmk2 l Z a0 hw [] ca0 ca1 G h0 n0 Z0 S_cs hG (own_l255 _ ha0) (own_l255 _ ha1) (own_nar _ ha0) (own_nar _ ha1)) hZ (hw _ (List.mem_of_getElem? (i := 7) rfl)) (hw _ (List.mem_of_getElem? (i := 6) rfl)) (by decide) (by decide)) (g := (mkF m 87 #[.val (.int p0), .val (.long q1), .second, .val (.long q2), .second, .val (.long q3), .second, .val (.long q4), .second, .val (.int p5), .val (.int ca0), .val (.int ca1), .val (.int cb0), .val (.int cb1), .val (.int la), .val (.int lb0), .unset, .unset, .unset, .unset, .unset, .unset, .unset, .unset, .unset, .unset, .unset] [(.int ca1), (.int ca0), (.int la)])) rfl (by rw [hml]; rfl) (argsL := [(.int la), (.int ca0), (.int ca1)]) (rest := []) (lenOf pd_0_1 rfl) rfl (by show 2 * 0 + _ ≤ _; exact Nat.le_of_eq rfl) (hb hby at_87) (fun _ _ => ⟨(by rw [hA]), e10, (by decide : 0 + 3 ≤ _), (by decide : 0 + 8 ≤ _)⟩)
        dsimp only [Pt.U, Pt.locs, Pt.cells, Pt.slots] at X53 l53 y53 z53 st53 hQ53
        rw [y53, z53] at X53
        obtain ⟨rfl, Nq53, Kq53, Ex53, Fc53, db53, kd53, Fv53, Va53⟩ := hQ53
        have N53 : Fr n0 L53 := by rw [l53]; exact Fr.app N10 Nq53
        have Kp53 : Keep h0 T53.heap [] := Keep.trans (Keep.refl h0 []) Kq53 all0
        have K53 : own_K p e below SE T53 (mkF m 90 #[.val (.int p0), .val (.long q1), .second, .val (.long q2), .second, .val (.long q3), .second, .val (.long q4), .second, .val (.int p5), .val (.int ca0), .val (.int ca1), .val (.int cb0), .val (.int cb1), .val (.int la), .val (.int lb0), .unset, .unset, .unset, .unset, .unset, .unset, .unset, .unset, .unset, .unset, .unset] [(.ref h0.size)]) := fun t k => K52 _ (st53 _ k)
        obtain ⟨sv53, gs53⟩ : ∃ z, z = h0.size := ⟨_, rfl⟩
        rw [← gs53] at K53 Ex53 Fc53 Fv53
        have hCH := CHv.keep Kq53 all0 hCH
        have S_a : own_Str Z T53.heap sv53 la ca0 ca1 := ⟨Ex53, Fc53, db53, kd53, Fv53, (by rw [hA, own_bl2]; exact Va53)⟩
        have K54 : own_K p e below SE T53 (mkF m 98 #[.val (.int p0), .val (.long q1), .second, .val (.long q2), .second, .val (.long q3), .second, .val (.long q4), .second, .val (.int p5), .val (.int ca0), .val (.int ca1), .val (.int cb0), .val (.int cb1), .val (.int la), .val (.int lb0), .val (.ref sv53), .unset, .unset, .unset, .unset, .unset, .unset, .unset, .unset, .unset, .unset] [(.int cb1), (.int cb0), (.int lb0)]) := by
          intro t k
          refine K53 _ ?_
          refine XS.astore X53.here hx rfl (hb hby at_90) rfl rfl (l' := #[.val (.int p0), .val (.long q1), .second, .val (.long q2), .second, .val (.long q3), .second, .val (.long q4), .second, .val (.int p5), .val (.int ca0), .val (.int ca1), .val (.int cb0), .val (.int cb1), .val (.int la), .val (.int lb0), .val (.ref sv53), .unset, .unset, .unset, .unset, .unset, .unset, .unset, .unset, .unset, .unset]) rfl ?_
          show own_S p e below T53 (mkF m 92 #[.val (.int p0), .val (.long q1), .second, .val (.long q2), .second, .val (.long q3), .second, .val (.long q4), .second, .val (.int p5), .val (.int ca0), .val (.int ca1), .val (.int cb0), .val (.int cb1), .val (.int la), .val (.int lb0), .val (.ref sv53), .unset, .unset, .unset, .unset, .unset, .unset, .unset, .unset, .unset, .unset] []) _
          refine XS.iload X53.here hx rfl (hb hby at_92) rfl ?_
          show own_S p e below T53 (mkF m 94 #[.val (.int p0), .val (.long q1), .second, .val (.long q2), .second, .val (.long q3), .second, .val (.long q4), .second, .val (.int p5), .val (.int ca0), .val (.int ca1), .val (.int cb0), .val (.int cb1), .val (.int la), .val (.int lb0), .val (.ref sv53), .unset, .unset, .unset, .unset, .unset, .unset, .unset, .unset, .unset, .unset] [(.int lb0)]) _
          refine XS.iload X53.here hx rfl (hb hby at_94) rfl ?_
          show own_S p e below T53 (mkF m 96 #[.val (.int p0), .val (.long q1), .second, .val (.long q2), .second, .val (.long q3), .second, .val (.long q4), .second, .val (.int p5), .val (.int ca0), .val (.int ca1), .val (.int cb0), .val (.int cb1), .val (.int la), .val (.int lb0), .val (.ref sv53), .unset, .unset, .unset, .unset, .unset, .unset, .unset, .unset, .unset, .unset] [(.int cb0), (.int lb0)]) _
          refine XS.iload X53.here hx rfl (hb hby at_96) rfl ?_
          exact k
        obtain ⟨_, _, ⟨T55, L55, k55, n55⟩, -, X55, ⟨Lc55, hQ55, l55, y55, z55⟩, st55⟩ := Jvm.LawKit.callS X53 hx (y := (⟨"com/example/enact/enact/model/RunKeyEqualsPinLaw", "mk", "(ICC)Ljava/lang/String;"⟩ : MethodName)) hown (mvT hZ (hw _ (List.mem_of_getElem? (i := 4) rfl))) (mvT hZ (hw _ (List.mem_of_getElem? (i := 5) rfl))) (mvT hZ (hw _ (List.mem_of_getElem? (i := 6) rfl))) (mvT hZ (hw _ (List.mem_of_getElem? (i := 7) rfl))) (by decide) (backOf (W := 0) (rmmk2 l Z a0 hw [] cb0 cb1 G T53.heap n0 (Nat.le_trans Z0 Kp53.1) (S_cs.ext (own_ext Kp53)) hG (own_l255 _ hb0) (own_l255 _ hb1) (own_nar _ hb0) (own_nar _ hb1)) hZ (hw _ (List.mem_of_getElem? (i := 7) rfl)) (hw _ (List.mem_of_getElem? (i := 6) rfl)) (by decide) (by decide)) (g := (mkF m 98 #[.val (.int p0), .val (.long q1), .second, .val (.long q2), .second, .val (.long q3), .second, .val (.long q4), .second, .val (.int p5), .val (.int ca0), .val (.int ca1), .val (.int cb0), .val (.int cb1), .val (.int la), .val (.int lb0), .val (.ref sv53), .unset, .unset, .unset, .unset, .unset, .unset, .unset, .unset, .unset, .unset] [(.int cb1), (.int cb0), (.int lb0)])) rfl (by rw [hml]; rfl) (argsL := [(.int lb0), (.int cb0), (.int cb1)]) (rest := []) (lenOf pd_0_1 rfl) rfl (by show 2 * 0 + _ ≤ _; exact Nat.le_of_eq rfl) (hb hby at_98) (fun _ _ => ⟨(by rw [hB]), rfl, (by decide : 3 + 3 ≤ _), (by decide : 8 + 8 ≤ _)⟩)
        dsimp only [Pt.U, Pt.locs, Pt.cells, Pt.slots] at X55 l55 y55 z55 st55 hQ55
        rw [y55, z55] at X55
        obtain ⟨rfl, Nq55, Kq55, Ex55, Fc55, db55, kd55, Fv55, Va55⟩ := hQ55
        have N55 : Fr n0 L55 := by rw [l55]; exact Fr.app N53 Nq55
        have Kp55 : Keep h0 T55.heap [] := Keep.trans Kp53 Kq55 all0
        have K55 : own_K p e below SE T55 (mkF m 101 #[.val (.int p0), .val (.long q1), .second, .val (.long q2), .second, .val (.long q3), .second, .val (.long q4), .second, .val (.int p5), .val (.int ca0), .val (.int ca1), .val (.int cb0), .val (.int cb1), .val (.int la), .val (.int lb0), .val (.ref sv53), .unset, .unset, .unset, .unset, .unset, .unset, .unset, .unset, .unset, .unset] [(.ref T53.heap.size)]) := fun t k => K54 _ (st55 _ k)
        obtain ⟨sv55, gs55⟩ : ∃ z, z = T53.heap.size := ⟨_, rfl⟩
        rw [← gs55] at K55 Ex55 Fc55 Fv55
        have hCH := CHv.keep Kq55 all0 hCH
        have S_b : own_Str Z T55.heap sv55 lb0 cb0 cb1 := ⟨Ex55, Fc55, db55, kd55, Fv55, (by rw [hB, own_bl2]; exact Va55)⟩
        have K56 : own_K p e below SE T55 (mkF m 103 #[.val (.int p0), .val (.long q1), .second, .val (.long q2), .second, .val (.long q3), .second, .val (.long q4), .second, .val (.int p5), .val (.int ca0), .val (.int ca1), .val (.int cb0), .val (.int cb1), .val (.int la), .val (.int lb0), .val (.ref sv53), .val (.ref sv55), .unset, .unset, .unset, .unset, .unset, .unset, .unset, .unset, .unset] []) := by
          intro t k
          refine K55 _ ?_
          refine XS.astore X55.here hx rfl (hb hby at_101) rfl rfl (l' := #[.val (.int p0), .val (.long q1), .second, .val (.long q2), .second, .val (.long q3), .second, .val (.long q4), .second, .val (.int p5), .val (.int ca0), .val (.int ca1), .val (.int cb0), .val (.int cb1), .val (.int la), .val (.int lb0), .val (.ref sv53), .val (.ref sv55), .unset, .unset, .unset, .unset, .unset, .unset, .unset, .unset, .unset]) rfl ?_
          exact k
        exact ⟨T55, _, _, _, lb0, sv53, sv55, { X55 with same := X55.same.mono (by decide) (by decide) }, N55, hS, (Nat.le_trans (Nat.le_trans hk Kq53.1) Kq55.1), hZ, hown, Kp55, hlb03, S_a.ext (own_ext Kq55), S_b, K56⟩
    · skip
      have K57 : own_K p e below SE T6 (mkF m 81 #[.val (.int p0), .val (.long q1), .second, .val (.long q2), .second, .val (.long q3), .second, .val (.long q4), .second, .val (.int p5), .val (.int ca0), .val (.int ca1), .val (.int cb0), .val (.int cb1), .val (.int la), .val (.int la), .unset, .unset, .unset, .unset, .unset, .unset, .unset, .unset, .unset, .unset, .unset] []) := by
        intro t k
        refine K8 _ ?_
        refine XS.ifNo X6.here hx rfl (hb hby at_61) rfl (XT.i0_eq_f c61) ?_
        show own_S p e below T6 (mkF m 64 #[.val (.int p0), .val (.long q1), .second, .val (.long q2), .second, .val (.long q3), .second, .val (.long q4), .second, .val (.int p5), .val (.int ca0), .val (.int ca1), .val (.int cb0), .val (.int cb1), .val (.int la), .unset, .unset, .unset, .unset, .unset, .unset, .unset, .unset, .unset, .unset, .unset, .unset] []) _
        refine XS.iload X6.here hx rfl (hb hby at_64) rfl ?_
        show own_S p e below T6 (mkF m 66 #[.val (.int p0), .val (.long q1), .second, .val (.long q2), .second, .val (.long q3), .second, .val (.long q4), .second, .val (.int p5), .val (.int ca0), .val (.int ca1), .val (.int cb0), .val (.int cb1), .val (.int la), .unset, .unset, .unset, .unset, .unset, .unset, .unset, .unset, .unset, .unset, .unset, .unset] [(.int la)]) _
        refine XS.goto X6.here hx rfl (pc0 := 66) (pc' := 79) rfl (hb hby at_66) (by decide) (by decide) ?_
        show own_S p e below T6 (mkF m 79 #[.val (.int p0), .val (.long q1), .second, .val (.long q2), .second, .val (.long q3), .second, .val (.long q4), .second, .val (.int p5), .val (.int ca0), .val (.int ca1), .val (.int cb0), .val (.int cb1), .val (.int la), .unset, .unset, .unset, .unset, .unset, .unset, .unset, .unset, .unset, .unset, .unset, .unset] [(.int la)]) _
        refine XS.istore X6.here hx rfl (hb hby at_79) rfl (l' := #[.val (.int p0), .val (.long q1), .second, .val (.long q2), .second, .val (.long q3), .second, .val (.long q4), .second, .val (.int p5), .val (.int ca0), .val (.int ca1), .val (.int cb0), .val (.int cb1), .val (.int la), .val (.int la), .unset, .unset, .unset, .unset, .unset, .unset, .unset, .unset, .unset, .unset, .unset]) rfl ?_
        exact k
      rcases id hla3 with hA | hA | hA
      · skip
        have K58 : own_K p e below SE T6 (mkF m 87 #[.val (.int p0), .val (.long q1), .second, .val (.long q2), .second, .val (.long q3), .second, .val (.long q4), .second, .val (.int p5), .val (.int ca0), .val (.int ca1), .val (.int cb0), .val (.int cb1), .val (.int la), .val (.int la), .unset, .unset, .unset, .unset, .unset, .unset, .unset, .unset, .unset, .unset, .unset] [(.int ca1), (.int ca0), (.int la)]) := by
          intro t k
          refine K57 _ ?_
          refine XS.iload X6.here hx rfl (hb hby at_81) rfl ?_
          show own_S p e below T6 (mkF m 83 #[.val (.int p0), .val (.long q1), .second, .val (.long q2), .second, .val (.long q3), .second, .val (.long q4), .second, .val (.int p5), .val (.int ca0), .val (.int ca1), .val (.int cb0), .val (.int cb1), .val (.int la), .val (.int la), .unset, .unset, .unset, .unset, .unset, .unset, .unset, .unset, .unset, .unset, .unset] [(.int la)]) _
          refine XS.iload X6.here hx rfl (hb hby at_83) rfl ?_
          show own_S p e below T6 (mkF m 85 #[.val (.int p0), .val (.long q1), .second, .val (.long q2), .second, .val (.long q3), .second, .val (.long q4), .second, .val (.int p5), .val (.int ca0), .val (.int ca1), .val (.int cb0), .val (.int cb1), .val (.int la), .val (.int la), .unset, .unset, .unset, .unset, .unset, .unset, .unset, .unset, .unset, .unset, .unset] [(.int ca0), (.int la)]) _
          refine XS.iload X6.here hx rfl (hb hby at_85) rfl ?_
          exact k
        obtain ⟨_, _, ⟨T59, L59, k59, n59⟩, -, X59, hSq59, gq59, ⟨Lc59, hQ59, l59, y59, z59, hCr59⟩, st59⟩ := callSS X6 hx (y := (⟨"com/example/enact/enact/model/RunKeyEqualsPinLaw", "mk", "(ICC)Ljava/lang/String;"⟩ : MethodName)) hown (mvT hZ (hw _ (List.mem_of_getElem? (i := 4) rfl))) (mvT hZ (hw _ (List.mem_of_getElem? (i := 5) rfl))) (mvT hZ (hw _ (List.mem_of_getElem? (i := 6) rfl))) (mvT hZ (hw _ (List.mem_of_getElem? (i := 7) rfl))) (by decide) (backOfSH (W := 0) (rmmk0 l Z a0 hw [] ca0 ca1 h0 n0 Z0) hZ (hw _ (List.mem_of_getElem? (i := 7) rfl)) (hw _ (List.mem_of_getElem? (i := 6) rfl)) (by decide) (by decide) (own_ew hw) hCH) (g := (mkF m 87 #[.val (.int p0), .val (.long q1), .second, .val (.long q2), .second, .val (.long q3), .second, .val (.long q4), .second, .val (.int p5), .val (.int ca0), .val (.int ca1), .val (.int cb0), .val (.int cb1), .val (.int la), .val (.int la), .unset, .unset, .unset, .unset, .unset, .unset, .unset, .unset, .unset, .unset, .unset] [(.int ca1), (.int ca0), (.int la)])) rfl (by rw [hml]; rfl) (argsL := [(.int la), (.int ca0), (.int ca1)]) (rest := []) (lenOf pd_0_1 rfl) rfl (by show 2 * 0 + _ ≤ _; exact Nat.le_of_eq rfl) (hb hby at_87) (fun _ _ => ⟨(by rw [hA]), e6, (by decide : 0 + 2 ≤ _), (by decide : 0 + 4 ≤ _)⟩)
        dsimp only [Pt.U, Pt.locs, Pt.cells, Pt.slots] at X59 l59 y59 z59 st59 hQ59 hSq59 gq59
        rw [y59, z59] at X59
        obtain ⟨X59, hS, hZ, hown⟩ := rebS hS (by rw [e6]; exact hk) X59 hSq59 gq59 hZ hown
        have hCH := hCr59.1
        obtain ⟨sv59, rfl, Nq59, Kq59, Ex59, Fc59, db59, kd59, Fv59, Va59⟩ := hQ59
        have N59 : Fr n0 L59 := by rw [l59]; exact Fr.app N6 Nq59
        have Kp59 : Keep h0 T59.heap [] := Keep.trans (Keep.refl h0 []) Kq59 all0
        have K59 : own_K p e below SE T59 (mkF m 90 #[.val (.int p0), .val (.long q1), .second, .val (.long q2), .second, .val (.long q3), .second, .val (.long q4), .second, .val (.int p5), .val (.int ca0), .val (.int ca1), .val (.int cb0), .val (.int cb1), .val (.int la), .val (.int la), .unset, .unset, .unset, .unset, .unset, .unset, .unset, .unset, .unset, .unset, .unset] [(.ref sv59)]) := fun t k => K58 _ (st59.trans k)
        have S_a : own_Str Z T59.heap sv59 la ca0 ca1 := ⟨Ex59, Fc59, db59, kd59, Fv59, (by rw [hA, own_bl0]; exact Va59)⟩
        have K60 : own_K p e below SE T59 (mkF m 98 #[.val (.int p0), .val (.long q1), .second, .val (.long q2), .second, .val (.long q3), .second, .val (.long q4), .second, .val (.int p5), .val (.int ca0), .val (.int ca1), .val (.int cb0), .val (.int cb1), .val (.int la), .val (.int la), .val (.ref sv59), .unset, .unset, .unset, .unset, .unset, .unset, .unset, .unset, .unset, .unset] [(.int cb1), (.int cb0), (.int la)]) := by
          intro t k
          refine K59 _ ?_
          refine XS.astore X59.here hx rfl (hb hby at_90) rfl rfl (l' := #[.val (.int p0), .val (.long q1), .second, .val (.long q2), .second, .val (.long q3), .second, .val (.long q4), .second, .val (.int p5), .val (.int ca0), .val (.int ca1), .val (.int cb0), .val (.int cb1), .val (.int la), .val (.int la), .val (.ref sv59), .unset, .unset, .unset, .unset, .unset, .unset, .unset, .unset, .unset, .unset]) rfl ?_
          show own_S p e below T59 (mkF m 92 #[.val (.int p0), .val (.long q1), .second, .val (.long q2), .second, .val (.long q3), .second, .val (.long q4), .second, .val (.int p5), .val (.int ca0), .val (.int ca1), .val (.int cb0), .val (.int cb1), .val (.int la), .val (.int la), .val (.ref sv59), .unset, .unset, .unset, .unset, .unset, .unset, .unset, .unset, .unset, .unset] []) _
          refine XS.iload X59.here hx rfl (hb hby at_92) rfl ?_
          show own_S p e below T59 (mkF m 94 #[.val (.int p0), .val (.long q1), .second, .val (.long q2), .second, .val (.long q3), .second, .val (.long q4), .second, .val (.int p5), .val (.int ca0), .val (.int ca1), .val (.int cb0), .val (.int cb1), .val (.int la), .val (.int la), .val (.ref sv59), .unset, .unset, .unset, .unset, .unset, .unset, .unset, .unset, .unset, .unset] [(.int la)]) _
          refine XS.iload X59.here hx rfl (hb hby at_94) rfl ?_
          show own_S p e below T59 (mkF m 96 #[.val (.int p0), .val (.long q1), .second, .val (.long q2), .second, .val (.long q3), .second, .val (.long q4), .second, .val (.int p5), .val (.int ca0), .val (.int ca1), .val (.int cb0), .val (.int cb1), .val (.int la), .val (.int la), .val (.ref sv59), .unset, .unset, .unset, .unset, .unset, .unset, .unset, .unset, .unset, .unset] [(.int cb0), (.int la)]) _
          refine XS.iload X59.here hx rfl (hb hby at_96) rfl ?_
          exact k
        obtain ⟨_, _, ⟨T61, L61, k61, n61⟩, -, X61, hSq61, gq61, ⟨Lc61, hQ61, l61, y61, z61, hCr61⟩, st61⟩ := callSS X59 hx (y := (⟨"com/example/enact/enact/model/RunKeyEqualsPinLaw", "mk", "(ICC)Ljava/lang/String;"⟩ : MethodName)) hown (mvT hZ (hw _ (List.mem_of_getElem? (i := 4) rfl))) (mvT hZ (hw _ (List.mem_of_getElem? (i := 5) rfl))) (mvT hZ (hw _ (List.mem_of_getElem? (i := 6) rfl))) (mvT hZ (hw _ (List.mem_of_getElem? (i := 7) rfl))) (by decide) (backOfSH (W := 0) (rmmk0 l Z a0 hw [] cb0 cb1 T59.heap n0 (Nat.le_trans Z0 Kp59.1)) hZ (hw _ (List.mem_of_getElem? (i := 7) rfl)) (hw _ (List.mem_of_getElem? (i := 6) rfl)) (by decide) (by decide) (own_ew hw) hCH) (g := (mkF m 98 #[.val (.int p0), .val (.long q1), .second, .val (.long q2), .second, .val (.long q3), .second, .val (.long q4), .second, .val (.int p5), .val (.int ca0), .val (.int ca1), .val (.int cb0), .val (.int cb1), .val (.int la), .val (.int la), .val (.ref sv59), .unset, .unset, .unset, .unset, .unset, .unset, .unset, .unset, .unset, .unset] [(.int cb1), (.int cb0), (.int la)])) rfl (by rw [hml]; rfl) (argsL := [(.int la), (.int cb0), (.int cb1)]) (rest := []) (lenOf pd_0_1 rfl) rfl (by show 2 * 0 + _ ≤ _; exact Nat.le_of_eq rfl) (hb hby at_98) (fun _ _ => ⟨(by rw [hA]), rfl, (by decide : 2 + 2 ≤ _), (by decide : 4 + 4 ≤ _)⟩)
        dsimp only [Pt.U, Pt.locs, Pt.cells, Pt.slots] at X61 l61 y61 z61 st61 hQ61 hSq61 gq61
        rw [y61, z61] at X61
        obtain ⟨X61, hS, hZ, hown⟩ := rebS hS (Nat.le_refl _) X61 hSq61 gq61 hZ hown
        have hCH := hCr61.1
        obtain ⟨sv61, rfl, Nq61, Kq61, Ex61, Fc61, db61, kd61, Fv61, Va61⟩ := hQ61
        have N61 : Fr n0 L61 := by rw [l61]; exact Fr.app N59 Nq61
        have Kp61 : Keep h0 T61.heap [] := Keep.trans Kp59 Kq61 all0
        have K61 : own_K p e below SE T61 (mkF m 101 #[.val (.int p0), .val (.long q1), .second, .val (.long q2), .second, .val (.long q3), .second, .val (.long q4), .second, .val (.int p5), .val (.int ca0), .val (.int ca1), .val (.int cb0), .val (.int cb1), .val (.int la), .val (.int la), .val (.ref sv59), .unset, .unset, .unset, .unset, .unset, .unset, .unset, .unset, .unset, .unset] [(.ref sv61)]) := fun t k => K60 _ (st61.trans k)
        have S_b : own_Str Z T61.heap sv61 la cb0 cb1 := ⟨Ex61, Fc61, db61, kd61, Fv61, (by rw [hA, own_bl0]; exact Va61)⟩
        have K62 : own_K p e below SE T61 (mkF m 103 #[.val (.int p0), .val (.long q1), .second, .val (.long q2), .second, .val (.long q3), .second, .val (.long q4), .second, .val (.int p5), .val (.int ca0), .val (.int ca1), .val (.int cb0), .val (.int cb1), .val (.int la), .val (.int la), .val (.ref sv59), .val (.ref sv61), .unset, .unset, .unset, .unset, .unset, .unset, .unset, .unset, .unset] []) := by
          intro t k
          refine K61 _ ?_
          refine XS.astore X61.here hx rfl (hb hby at_101) rfl rfl (l' := #[.val (.int p0), .val (.long q1), .second, .val (.long q2), .second, .val (.long q3), .second, .val (.long q4), .second, .val (.int p5), .val (.int ca0), .val (.int ca1), .val (.int cb0), .val (.int cb1), .val (.int la), .val (.int la), .val (.ref sv59), .val (.ref sv61), .unset, .unset, .unset, .unset, .unset, .unset, .unset, .unset, .unset]) rfl ?_
          exact k
        exact ⟨T61, _, _, _, la, sv59, sv61, { X61 with same := X61.same.mono (by decide) (by decide) }, N61, hS, (Nat.le_refl _), hZ, hown, Kp61, hla3, S_a.ext (own_ext Kq61), S_b, K62⟩
      · skip
        have K63 : own_K p e below SE T6 (mkF m 87 #[.val (.int p0), .val (.long q1), .second, .val (.long q2), .second, .val (.long q3), .second, .val (.long q4), .second, .val (.int p5), .val (.int ca0), .val (.int ca1), .val (.int cb0), .val (.int cb1), .val (.int la), .val (.int la), .unset, .unset, .unset, .unset, .unset, .unset, .unset, .unset, .unset, .unset, .unset] [(.int ca1), (.int ca0), (.int la)]) := by
          intro t k
          refine K57 _ ?_
          refine XS.iload X6.here hx rfl (hb hby at_81) rfl ?_
          show own_S p e below T6 (mkF m 83 #[.val (.int p0), .val (.long q1), .second, .val (.long q2), .second, .val (.long q3), .second, .val (.long q4), .second, .val (.int p5), .val (.int ca0), .val (.int ca1), .val (.int cb0), .val (.int cb1), .val (.int la), .val (.int la), .unset, .unset, .unset, .unset, .unset, .unset, .unset, .unset, .unset, .unset, .unset] [(.int la)]) _
          refine XS.iload X6.here hx rfl (hb hby at_83) rfl ?_
          show own_S p e below T6 (mkF m 85 #[.val (.int p0), .val (.long q1), .second, .val (.long q2), .second, .val (.long q3), .second, .val (.long q4), .second, .val (.int p5), .val (.int ca0), .val (.int ca1), .val (.int cb0), .val (.int cb1), .val (.int la), .val (.int la), .unset, .unset, .unset, .unset, .unset, .unset, .unset, .unset, .unset, .unset, .unset] [(.int ca0), (.int la)]) _
          refine XS.iload X6.here hx rfl (hb hby at_85) rfl ?_
          exact k
        obtain ⟨_, _, ⟨T64, L64, k64, n64⟩, -, X64, ⟨Lc64, hQ64, l64, y64, z64⟩, st64⟩ := Jvm.LawKit.callS X6 hx (y := (⟨"com/example/enact/enact/model/RunKeyEqualsPinLaw", "mk", "(ICC)Ljava/lang/String;"⟩ : MethodName)) hown (mvT hZ (hw _ (List.mem_of_getElem? (i := 4) rfl))) (mvT hZ (hw _ (List.mem_of_getElem? (i := 5) rfl))) (mvT hZ (hw _ (List.mem_of_getElem? (i := 6) rfl))) (mvT hZ (hw _ (List.mem_of_getElem? (i := 7) rfl))) (by decide) (backOf (W := 0) (rmmk1 l Z a0 hw [] ca0 ca1 G h0 n0 Z0 S_cs hG (own_l255 _ ha0)) hZ (hw _ (List.mem_of_getElem? (i := 7) rfl)) (hw _ (List.mem_of_getElem? (i := 6) rfl)) (by decide) (by decide)) (g := (mkF m 87 #[.val (.int p0), .val (.long q1), .second, .val (.long q2), .second, .val (.long q3), .second, .val (.long q4), .second, .val (.int p5), .val (.int ca0), .val (.int ca1), .val (.int cb0), .val (.int cb1), .val (.int la), .val (.int la), .unset, .unset, .unset, .unset, .unset, .unset, .unset, .unset, .unset, .unset, .unset] [(.int ca1), (.int ca0), (.int la)])) rfl (by rw [hml]; rfl) (argsL := [(.int la), (.int ca0), (.int ca1)]) (rest := []) (lenOf pd_0_1 rfl) rfl (by show 2 * 0 + _ ≤ _; exact Nat.le_of_eq rfl) (hb hby at_87) (fun _ _ => ⟨(by rw [hA]), e6, (by decide : 0 + 2 ≤ _), (by decide : 0 + 5 ≤ _)⟩)
        dsimp only [Pt.U, Pt.locs, Pt.cells, Pt.slots] at X64 l64 y64 z64 st64 hQ64
        rw [y64, z64] at X64
        obtain ⟨rfl, Nq64, Kq64, Ex64, Fc64, db64, kd64, Fv64, Va64⟩ := hQ64
        have N64 : Fr n0 L64 := by rw [l64]; exact Fr.app N6 Nq64
        have Kp64 : Keep h0 T64.heap [] := Keep.trans (Keep.refl h0 []) Kq64 all0
        have K64 : own_K p e below SE T64 (mkF m 90 #[.val (.int p0), .val (.long q1), .second, .val (.long q2), .second, .val (.long q3), .second, .val (.long q4), .second, .val (.int p5), .val (.int ca0), .val (.int ca1), .val (.int cb0), .val (.int cb1), .val (.int la), .val (.int la), .unset, .unset, .unset, .unset, .unset, .unset, .unset, .unset, .unset, .unset, .unset] [(.ref h0.size)]) := fun t k => K63 _ (st64 _ k)
        obtain ⟨sv64, gs64⟩ : ∃ z, z = h0.size := ⟨_, rfl⟩
        rw [← gs64] at K64 Ex64 Fc64 Fv64
        have hCH := CHv.keep Kq64 all0 hCH
        have S_a : own_Str Z T64.heap sv64 la ca0 ca1 := ⟨Ex64, Fc64, db64, kd64, Fv64, (by rw [hA, own_bl1]; exact Va64)⟩
        have K65 : own_K p e below SE T64 (mkF m 98 #[.val (.int p0), .val (.long q1), .second, .val (.long q2), .second, .val (.long q3), .second, .val (.long q4), .second, .val (.int p5), .val (.int ca0), .val (.int ca1), .val (.int cb0), .val (.int cb1), .val (.int la), .val (.int la), .val (.ref sv64), .unset, .unset, .unset, .unset, .unset, .unset, .unset, .unset, .unset, .unset] [(.int cb1), (.int cb0), (.int la)]) := by
          intro t k
          refine K64 _ ?_
          refine XS.astore X64.here hx rfl (hb hby at_90) rfl rfl (l' := #[.val (.int p0), .val (.long q1), .second, .val (.long q2), .second, .val (.long q3), .second, .val (.long q4), .second, .val (.int p5), .val (.int ca0), .val (.int ca1), .val (.int cb0), .val (.int cb1), .val (.int la), .val (.int la), .val (.ref sv64), .unset, .unset, .unset, .unset, .unset, .unset, .unset, .unset, .unset, .unset]) rfl ?_
          show own_S p e below T64 (mkF m 92 #[.val (.int p0), .val (.long q1), .second, .val (.long q2), .second, .val (.long q3), .second, .val (.long q4), .second, .val (.int p5), .val (.int ca0), .val (.int ca1), .val (.int cb0), .val (.int cb1), .val (.int la), .val (.int la), .val (.ref sv64), .unset, .unset, .unset, .unset, .unset, .unset, .unset, .unset, .unset, .unset] []) _
          refine XS.iload X64.here hx rfl (hb hby at_92) rfl ?_
          show own_S p e below T64 (mkF m 94 #[.val (.int p0), .val (.long q1), .second, .val (.long q2), .second, .val (.long q3), .second, .val (.long q4), .second, .val (.int p5), .val (.int ca0), .val (.int ca1), .val (.int cb0), .val (.int cb1), .val (.int la), .val (.int la), .val (.ref sv64), .unset, .unset, .unset, .unset, .unset, .unset, .unset, .unset, .unset, .unset] [(.int la)]) _
          refine XS.iload X64.here hx rfl (hb hby at_94) rfl ?_
          show own_S p e below T64 (mkF m 96 #[.val (.int p0), .val (.long q1), .second, .val (.long q2), .second, .val (.long q3), .second, .val (.long q4), .second, .val (.int p5), .val (.int ca0), .val (.int ca1), .val (.int cb0), .val (.int cb1), .val (.int la), .val (.int la), .val (.ref sv64), .unset, .unset, .unset, .unset, .unset, .unset, .unset, .unset, .unset, .unset] [(.int cb0), (.int la)]) _
          refine XS.iload X64.here hx rfl (hb hby at_96) rfl ?_
          exact k
        obtain ⟨_, _, ⟨T66, L66, k66, n66⟩, -, X66, ⟨Lc66, hQ66, l66, y66, z66⟩, st66⟩ := Jvm.LawKit.callS X64 hx (y := (⟨"com/example/enact/enact/model/RunKeyEqualsPinLaw", "mk", "(ICC)Ljava/lang/String;"⟩ : MethodName)) hown (mvT hZ (hw _ (List.mem_of_getElem? (i := 4) rfl))) (mvT hZ (hw _ (List.mem_of_getElem? (i := 5) rfl))) (mvT hZ (hw _ (List.mem_of_getElem? (i := 6) rfl))) (mvT hZ (hw _ (List.mem_of_getElem? (i := 7) rfl))) (by decide) (backOf (W := 0) (rmmk1 l Z a0 hw [] cb0 cb1 G T64.heap n0 (Nat.le_trans Z0 Kp64.1) (S_cs.ext (own_ext Kp64)) hG (own_l255 _ hb0)) hZ (hw _ (List.mem_of_getElem? (i := 7) rfl)) (hw _ (List.mem_of_getElem? (i := 6) rfl)) (by decide) (by decide)) (g := (mkF m 98 #[.val (.int p0), .val (.long q1), .second, .val (.long q2), .second, .val (.long q3), .second, .val (.long q4), .second, .val (.int p5), .val (.int ca0), .val (.int ca1), .val (.int cb0), .val (.int cb1), .val (.int la), .val (.int la), .val (.ref sv64), .unset, .unset, .unset, .unset, .unset, .unset, .unset, .unset, .unset, .unset] [(.int cb1), (.int cb0), (.int la)])) rfl (by rw [hml]; rfl) (argsL := [(.int la), (.int cb0), (.int cb1)]) (rest := []) (lenOf pd_0_1 rfl) rfl (by show 2 * 0 + _ ≤ _; exact Nat.le_of_eq rfl) (hb hby at_98) (fun _ _ => ⟨(by rw [hA]), rfl, (by decide : 2 + 2 ≤ _), (by decide : 5 + 5 ≤ _)⟩)
        dsimp only [Pt.U, Pt.locs, Pt.cells, Pt.slots] at X66 l66 y66 z66 st66 hQ66
        rw [y66, z66] at X66
        obtain ⟨rfl, Nq66, Kq66, Ex66, Fc66, db66, kd66, Fv66, Va66⟩ := hQ66
        have N66 : Fr n0 L66 := by rw [l66]; exact Fr.app N64 Nq66
        have Kp66 : Keep h0 T66.heap [] := Keep.trans Kp64 Kq66 all0
        have K66 : own_K p e below SE T66 (mkF m 101 #[.val (.int p0), .val (.long q1), .second, .val (.long q2), .second, .val (.long q3), .second, .val (.long q4), .second, .val (.int p5), .val (.int ca0), .val (.int ca1), .val (.int cb0), .val (.int cb1), .val (.int la), .val (.int la), .val (.ref sv64), .unset, .unset, .unset, .unset, .unset, .unset, .unset, .unset, .unset, .unset] [(.ref T64.heap.size)]) := fun t k => K65 _ (st66 _ k)
        obtain ⟨sv66, gs66⟩ : ∃ z, z = T64.heap.size := ⟨_, rfl⟩
        rw [← gs66] at K66 Ex66 Fc66 Fv66
        have hCH := CHv.keep Kq66 all0 hCH
        have S_b : own_Str Z T66.heap sv66 la cb0 cb1 := ⟨Ex66, Fc66, db66, kd66, Fv66, (by rw [hA, own_bl1]; exact Va66)⟩
        have K67 : own_K p e below SE T66 (mkF m 103 #[.val (.int p0), .val (.long q1), .second, .val (.long q2), .second, .val (.long q3), .second, .val (.long q4), .second, .val (.int p5), .val (.int ca0), .val (.int ca1), .val (.int cb0), .val (.int cb1), .val (.int la), .val (.int la), .val (.ref sv64), .val (.ref sv66), .unset, .unset, .unset, .unset, .unset, .unset, .unset, .unset, .unset] []) := by
          intro t k
          refine K66 _ ?_
          refine XS.astore X66.here hx rfl (hb hby at_101) rfl rfl (l' := #[.val (.int p0), .val (.long q1), .second, .val (.long q2), .second, .val (.long q3), .second, .val (.long q4), .second, .val (.int p5), .val (.int ca0), .val (.int ca1), .val (.int cb0), .val (.int cb1), .val (.int la), .val (.int la), .val (.ref sv64), .val (.ref sv66), .unset, .unset, .unset, .unset, .unset, .unset, .unset, .unset, .unset]) rfl ?_
          exact k
        exact ⟨T66, _, _, _, la, sv64, sv66, { X66 with same := X66.same.mono (by decide) (by decide) }, N66, hS, (Nat.le_trans (Nat.le_trans hk Kq64.1) Kq66.1), hZ, hown, Kp66, hla3, S_a.ext (own_ext Kq66), S_b, K67⟩
      · skip
        have K68 : own_K p e below SE T6 (mkF m 87 #[.val (.int p0), .val (.long q1), .second, .val (.long q2), .second, .val (.long q3), .second, .val (.long q4), .second, .val (.int p5), .val (.int ca0), .val (.int ca1), .val (.int cb0), .val (.int cb1), .val (.int la), .val (.int la), .unset, .unset, .unset, .unset, .unset, .unset, .unset, .unset, .unset, .unset, .unset] [(.int ca1), (.int ca0), (.int la)]) := by
          intro t k
          refine K57 _ ?_
          refine XS.iload X6.here hx rfl (hb hby at_81) rfl ?_
          show own_S p e below T6 (mkF m 83 #[.val (.int p0), .val (.long q1), .second, .val (.long q2), .second, .val (.long q3), .second, .val (.long q4), .second, .val (.int p5), .val (.int ca0), .val (.int ca1), .val (.int cb0), .val (.int cb1), .val (.int la), .val (.int la), .unset, .unset, .unset, .unset, .unset, .unset, .unset, .unset, .unset, .unset, .unset] [(.int la)]) _
          refine XS.iload X6.here hx rfl (hb hby at_83) rfl ?_
          show own_S p e below T6 (mkF m 85 #[.val (.int p0), .val (.long q1), .second, .val (.long q2), .second, .val (.long q3), .second, .val (.long q4), .second, .val (.int p5), .val (.int ca0), .val (.int ca1), .val (.int cb0), .val (.int cb1), .val (.int la), .val (.int la), .unset, .unset, .unset, .unset, .unset, .unset, .unset, .unset, .unset, .unset, .unset] [(.int ca0), (.int la)]) _
          refine XS.iload X6.here hx rfl (hb hby at_85) rfl ?_
          exact k
        obtain ⟨_, _, ⟨T69, L69, k69, n69⟩, -, X69, ⟨Lc69, hQ69, l69, y69, z69⟩, st69⟩ := Jvm.LawKit.callS X6 hx (y := (⟨"com/example/enact/enact/model/RunKeyEqualsPinLaw", "mk", "(ICC)Ljava/lang/String;"⟩ : MethodName)) hown (mvT hZ (hw _ (List.mem_of_getElem? (i := 4) rfl))) (mvT hZ (hw _ (List.mem_of_getElem? (i := 5) rfl))) (mvT hZ (hw _ (List.mem_of_getElem? (i := 6) rfl))) (mvT hZ (hw _ (List.mem_of_getElem? (i := 7) rfl))) (by decide) (backOf (W := 0) (rmmk2 l Z a0 hw [] ca0 ca1 G h0 n0 Z0 S_cs hG (own_l255 _ ha0) (own_l255 _ ha1) (own_nar _ ha0) (own_nar _ ha1)) hZ (hw _ (List.mem_of_getElem? (i := 7) rfl)) (hw _ (List.mem_of_getElem? (i := 6) rfl)) (by decide) (by decide)) (g := (mkF m 87 #[.val (.int p0), .val (.long q1), .second, .val (.long q2), .second, .val (.long q3), .second, .val (.long q4), .second, .val (.int p5), .val (.int ca0), .val (.int ca1), .val (.int cb0), .val (.int cb1), .val (.int la), .val (.int la), .unset, .unset, .unset, .unset, .unset, .unset, .unset, .unset, .unset, .unset, .unset] [(.int ca1), (.int ca0), (.int la)])) rfl (by rw [hml]; rfl) (argsL := [(.int la), (.int ca0), (.int ca1)]) (rest := []) (lenOf pd_0_1 rfl) rfl (by show 2 * 0 + _ ≤ _; exact Nat.le_of_eq rfl) (hb hby at_87) (fun _ _ => ⟨(by rw [hA]), e6, (by decide : 0 + 3 ≤ _), (by decide : 0 + 8 ≤ _)⟩)
        dsimp only [Pt.U, Pt.locs, Pt.cells, Pt.slots] at X69 l69 y69 z69 st69 hQ69
        rw [y69, z69] at X69
        obtain ⟨rfl, Nq69, Kq69, Ex69, Fc69, db69, kd69, Fv69, Va69⟩ := hQ69
        have N69 : Fr n0 L69 := by rw [l69]; exact Fr.app N6 Nq69
        have Kp69 : Keep h0 T69.heap [] := Keep.trans (Keep.refl h0 []) Kq69 all0
        have K69 : own_K p e below SE T69 (mkF m 90 #[.val (.int p0), .val (.long q1), .second, .val (.long q2), .second, .val (.long q3), .second, .val (.long q4), .second, .val (.int p5), .val (.int ca0), .val (.int ca1), .val (.int cb0), .val (.int cb1), .val (.int la), .val (.int la), .unset, .unset, .unset, .unset, .unset, .unset, .unset, .unset, .unset, .unset, .unset] [(.ref h0.size)]) := fun t k => K68 _ (st69 _ k)
        obtain ⟨sv69, gs69⟩ : ∃ z, z = h0.size := ⟨_, rfl⟩
        rw [← gs69] at K69 Ex69 Fc69 Fv69
        have hCH := CHv.keep Kq69 all0 hCH
        have S_a : own_Str Z T69.heap sv69 la ca0 ca1 := ⟨Ex69, Fc69, db69, kd69, Fv69, (by rw [hA, own_bl2]; exact Va69)⟩
        have K70 : own_K p e below SE T69 (mkF m 98 #[.val (.int p0), .val (.long q1), .second, .val (.long q2), .second, .val (.long q3), .second, .val (.long q4), .second, .val (.int p5), .val (.int ca0), .val (.int ca1), .val (.int cb0), .val (.int cb1), .val (.int la), .val (.int la), .val (.ref sv69), .unset, .unset, .unset, .unset, .unset, .unset, .unset, .unset, .unset, .unset] [(.int cb1), (.int cb0), (.int la)]) := by
          intro t k
          refine K69 _ ?_
          refine XS.astore X69.here hx rfl (hb hby at_90) rfl rfl (l' := #[.val (.int p0), .val (.long q1), .second, .val (.long q2), .second, .val (.long q3), .second, .val (.long q4), .second, .val (.int p5), .val (.int ca0), .val (.int ca1), .val (.int cb0), .val (.int cb1), .val (.int la), .val (.int la), .val (.ref sv69), .unset, .unset, .unset, .unset, .unset, .unset, .unset, .unset, .unset, .unset]) rfl ?_
          show own_S p e below T69 (mkF m 92 #[.val (.int p0), .val (.long q1), .second, .val (.long q2), .second, .val (.long q3), .second, .val (.long q4), .second, .val (.int p5), .val (.int ca0), .val (.int ca1), .val (.int cb0), .val (.int cb1), .val (.int la), .val (.int la), .val (.ref sv69), .unset, .unset, .unset, .unset, .unset, .unset, .unset, .unset, .unset, .unset] []) _
          refine XS.iload X69.here hx rfl (hb hby at_92) rfl ?_
          show own_S p e below T69 (mkF m 94 #[.val (.int p0), .val (.long q1), .second, .val (.long q2), .second, .val (.long q3), .second, .val (.long q4), .second, .val (.int p5), .val (.int ca0), .val (.int ca1), .val (.int cb0), .val (.int cb1), .val (.int la), .val (.int la), .val (.ref sv69), .unset, .unset, .unset, .unset, .unset, .unset, .unset, .unset, .unset, .unset] [(.int la)]) _
          refine XS.iload X69.here hx rfl (hb hby at_94) rfl ?_
          show own_S p e below T69 (mkF m 96 #[.val (.int p0), .val (.long q1), .second, .val (.long q2), .second, .val (.long q3), .second, .val (.long q4), .second, .val (.int p5), .val (.int ca0), .val (.int ca1), .val (.int cb0), .val (.int cb1), .val (.int la), .val (.int la), .val (.ref sv69), .unset, .unset, .unset, .unset, .unset, .unset, .unset, .unset, .unset, .unset] [(.int cb0), (.int la)]) _
          refine XS.iload X69.here hx rfl (hb hby at_96) rfl ?_
          exact k
        obtain ⟨_, _, ⟨T71, L71, k71, n71⟩, -, X71, ⟨Lc71, hQ71, l71, y71, z71⟩, st71⟩ := Jvm.LawKit.callS X69 hx (y := (⟨"com/example/enact/enact/model/RunKeyEqualsPinLaw", "mk", "(ICC)Ljava/lang/String;"⟩ : MethodName)) hown (mvT hZ (hw _ (List.mem_of_getElem? (i := 4) rfl))) (mvT hZ (hw _ (List.mem_of_getElem? (i := 5) rfl))) (mvT hZ (hw _ (List.mem_of_getElem? (i := 6) rfl))) (mvT hZ (hw _ (List.mem_of_getElem? (i := 7) rfl))) (by decide) (backOf (W := 0) (rmmk2 l Z a0 hw [] cb0 cb1 G T69.heap n0 (Nat.le_trans Z0 Kp69.1) (S_cs.ext (own_ext Kp69)) hG (own_l255 _ hb0) (own_l255 _ hb1) (own_nar _ hb0) (own_nar _ hb1)) hZ (hw _ (List.mem_of_getElem? (i := 7) rfl)) (hw _ (List.mem_of_getElem? (i := 6) rfl)) (by decide) (by decide)) (g := (mkF m 98 #[.val (.int p0), .val (.long q1), .second, .val (.long q2), .second, .val (.long q3), .second, .val (.long q4), .second, .val (.int p5), .val (.int ca0), .val (.int ca1), .val (.int cb0), .val (.int cb1), .val (.int la), .val (.int la), .val (.ref sv69), .unset, .unset, .unset, .unset, .unset, .unset, .unset, .unset, .unset, .unset] [(.int cb1), (.int cb0), (.int la)])) rfl (by rw [hml]; rfl) (argsL := [(.int la), (.int cb0), (.int cb1)]) (rest := []) (lenOf pd_0_1 rfl) rfl (by show 2 * 0 + _ ≤ _; exact Nat.le_of_eq rfl) (hb hby at_98) (fun _ _ => ⟨(by rw [hA]), rfl, (by decide : 3 + 3 ≤ _), (by decide : 8 + 8 ≤ _)⟩)
        dsimp only [Pt.U, Pt.locs, Pt.cells, Pt.slots] at X71 l71 y71 z71 st71 hQ71
        rw [y71, z71] at X71
        obtain ⟨rfl, Nq71, Kq71, Ex71, Fc71, db71, kd71, Fv71, Va71⟩ := hQ71
        have N71 : Fr n0 L71 := by rw [l71]; exact Fr.app N69 Nq71
        have Kp71 : Keep h0 T71.heap [] := Keep.trans Kp69 Kq71 all0
        have K71 : own_K p e below SE T71 (mkF m 101 #[.val (.int p0), .val (.long q1), .second, .val (.long q2), .second, .val (.long q3), .second, .val (.long q4), .second, .val (.int p5), .val (.int ca0), .val (.int ca1), .val (.int cb0), .val (.int cb1), .val (.int la), .val (.int la), .val (.ref sv69), .unset, .unset, .unset, .unset, .unset, .unset, .unset, .unset, .unset, .unset] [(.ref T69.heap.size)]) := fun t k => K70 _ (st71 _ k)
        obtain ⟨sv71, gs71⟩ : ∃ z, z = T69.heap.size := ⟨_, rfl⟩
        rw [← gs71] at K71 Ex71 Fc71 Fv71
        have hCH := CHv.keep Kq71 all0 hCH
        have S_b : own_Str Z T71.heap sv71 la cb0 cb1 := ⟨Ex71, Fc71, db71, kd71, Fv71, (by rw [hA, own_bl2]; exact Va71)⟩
        have K72 : own_K p e below SE T71 (mkF m 103 #[.val (.int p0), .val (.long q1), .second, .val (.long q2), .second, .val (.long q3), .second, .val (.long q4), .second, .val (.int p5), .val (.int ca0), .val (.int ca1), .val (.int cb0), .val (.int cb1), .val (.int la), .val (.int la), .val (.ref sv69), .val (.ref sv71), .unset, .unset, .unset, .unset, .unset, .unset, .unset, .unset, .unset] []) := by
          intro t k
          refine K71 _ ?_
          refine XS.astore X71.here hx rfl (hb hby at_101) rfl rfl (l' := #[.val (.int p0), .val (.long q1), .second, .val (.long q2), .second, .val (.long q3), .second, .val (.long q4), .second, .val (.int p5), .val (.int ca0), .val (.int ca1), .val (.int cb0), .val (.int cb1), .val (.int la), .val (.int la), .val (.ref sv69), .val (.ref sv71), .unset, .unset, .unset, .unset, .unset, .unset, .unset, .unset, .unset]) rfl ?_
          exact k
        exact ⟨T71, _, _, _, la, sv69, sv71, { X71 with same := X71.same.mono (by decide) (by decide) }, N71, hS, (Nat.le_trans (Nat.le_trans hk Kq69.1) Kq71.1), hZ, hown, Kp71, hla3, S_a.ext (own_ext Kq71), S_b, K72⟩
  have Kb9 : Keep T9.heap T9.heap [] := Keep.refl _ _
  obtain ⟨jb, hjb, K74⟩ : ∃ jb : Int64, jb = (if (p5 &&& (1 : Int32)) = 0 then q2 else q1) ∧ own_K p e below SE T9 (mkF m 115 #[.val (.int p0), .val (.long q1), .second, .val (.long q2), .second, .val (.long q3), .second, .val (.long q4), .second, .val (.int p5), .val (.int ca0), .val (.int ca1), .val (.int cb0), .val (.int cb1), .val (.int la), .val (.int lb), .val (.ref sa), .val (.ref sb), .unset, .unset, .unset, .unset, .unset, .unset, .unset, .unset, .unset] [(.long jb)]) := by
    have K76 : own_K p e below SE T9 (mkF m 107 #[.val (.int p0), .val (.long q1), .second, .val (.long q2), .second, .val (.long q3), .second, .val (.long q4), .second, .val (.int p5), .val (.int ca0), .val (.int ca1), .val (.int cb0), .val (.int cb1), .val (.int la), .val (.int lb), .val (.ref sa), .val (.ref sb), .unset, .unset, .unset, .unset, .unset, .unset, .unset, .unset, .unset] [(.int (p5 &&& (1 : Int32)))]) := by
      intro t k
      refine K9 _ ?_
      refine XS.iload X9.here hx rfl (hb hby at_103) rfl ?_
      show own_S p e below T9 (mkF m 105 #[.val (.int p0), .val (.long q1), .second, .val (.long q2), .second, .val (.long q3), .second, .val (.long q4), .second, .val (.int p5), .val (.int ca0), .val (.int ca1), .val (.int cb0), .val (.int cb1), .val (.int la), .val (.int lb), .val (.ref sa), .val (.ref sb), .unset, .unset, .unset, .unset, .unset, .unset, .unset, .unset, .unset] [(.int p5)]) _
      refine XS.iconst X9.here hx rfl (hb hby at_105) ?_
      show own_S p e below T9 (mkF m 106 #[.val (.int p0), .val (.long q1), .second, .val (.long q2), .second, .val (.long q3), .second, .val (.long q4), .second, .val (.int p5), .val (.int ca0), .val (.int ca1), .val (.int cb0), .val (.int cb1), .val (.int la), .val (.int lb), .val (.ref sa), .val (.ref sb), .unset, .unset, .unset, .unset, .unset, .unset, .unset, .unset, .unset] [(.int (1 : Int32)), (.int p5)]) _
      refine XS.iand X9.here hx rfl (hb hby at_106) rfl ?_
      exact k
    by_cases c107_75 : (p5 &&& (1 : Int32)) = 0
    · skip
      have K77 : own_K p e below SE T9 (mkF m 115 #[.val (.int p0), .val (.long q1), .second, .val (.long q2), .second, .val (.long q3), .second, .val (.long q4), .second, .val (.int p5), .val (.int ca0), .val (.int ca1), .val (.int cb0), .val (.int cb1), .val (.int la), .val (.int lb), .val (.ref sa), .val (.ref sb), .unset, .unset, .unset, .unset, .unset, .unset, .unset, .unset, .unset] [(.long q2)]) := by
        intro t k
        refine K76 _ ?_
        refine XS.ifYes X9.here hx rfl (pc0 := 107) (pc' := 114) rfl (hb hby at_107) rfl (XT.i0_eq_t c107_75) (by decide) (by decide) ?_
        show own_S p e below T9 (mkF m 114 #[.val (.int p0), .val (.long q1), .second, .val (.long q2), .second, .val (.long q3), .second, .val (.long q4), .second, .val (.int p5), .val (.int ca0), .val (.int ca1), .val (.int cb0), .val (.int cb1), .val (.int la), .val (.int lb), .val (.ref sa), .val (.ref sb), .unset, .unset, .unset, .unset, .unset, .unset, .unset, .unset, .unset] []) _
        refine XS.lloadN X9.here hx rfl (hb hby at_114) rfl ?_
        exact k
      exact ⟨q2, (by simp only [if_pos c107_75]), K77⟩
    · skip
      have K78 : own_K p e below SE T9 (mkF m 115 #[.val (.int p0), .val (.long q1), .second, .val (.long q2), .second, .val (.long q3), .second, .val (.long q4), .second, .val (.int p5), .val (.int ca0), .val (.int ca1), .val (.int cb0), .val (.int cb1), .val (.int la), .val (.int lb), .val (.ref sa), .val (.ref sb), .unset, .unset, .unset, .unset, .unset, .unset, .unset, .unset, .unset] [(.long q1)]) := by
        intro t k
        refine K76 _ ?_
        refine XS.ifNo X9.here hx rfl (hb hby at_107) rfl (XT.i0_eq_f c107_75) ?_
        show own_S p e below T9 (mkF m 110 #[.val (.int p0), .val (.long q1), .second, .val (.long q2), .second, .val (.long q3), .second, .val (.long q4), .second, .val (.int p5), .val (.int ca0), .val (.int ca1), .val (.int cb0), .val (.int cb1), .val (.int la), .val (.int lb), .val (.ref sa), .val (.ref sb), .unset, .unset, .unset, .unset, .unset, .unset, .unset, .unset, .unset] []) _
        refine XS.lloadN X9.here hx rfl (hb hby at_110) rfl ?_
        show own_S p e below T9 (mkF m 111 #[.val (.int p0), .val (.long q1), .second, .val (.long q2), .second, .val (.long q3), .second, .val (.long q4), .second, .val (.int p5), .val (.int ca0), .val (.int ca1), .val (.int cb0), .val (.int cb1), .val (.int la), .val (.int lb), .val (.ref sa), .val (.ref sb), .unset, .unset, .unset, .unset, .unset, .unset, .unset, .unset, .unset] [(.long q1)]) _
        refine XS.goto X9.here hx rfl (pc0 := 111) (pc' := 115) rfl (hb hby at_111) (by decide) (by decide) ?_
        exact k
      exact ⟨q1, (by simp only [if_neg c107_75]), K78⟩
  have K80 : own_K p e below SE T9 (mkF m 117 #[.val (.int p0), .val (.long q1), .second, .val (.long q2), .second, .val (.long q3), .second, .val (.long q4), .second, .val (.int p5), .val (.int ca0), .val (.int ca1), .val (.int cb0), .val (.int cb1), .val (.int la), .val (.int lb), .val (.ref sa), .val (.ref sb), .val (.long jb), .second, .unset, .unset, .unset, .unset, .unset, .unset, .unset] []) := by
    intro t k
    refine K74 _ ?_
    refine XS.lstore X9.here hx rfl (hb hby at_115) rfl (l' := #[.val (.int p0), .val (.long q1), .second, .val (.long q2), .second, .val (.long q3), .second, .val (.long q4), .second, .val (.int p5), .val (.int ca0), .val (.int ca1), .val (.int cb0), .val (.int cb1), .val (.int la), .val (.int lb), .val (.ref sa), .val (.ref sb), .val (.long jb), .second, .unset, .unset, .unset, .unset, .unset, .unset, .unset]) rfl ?_
    exact k
  obtain ⟨rb, hrb, K81⟩ : ∃ rb : Int64, rb = (if (p5 &&& (2 : Int32)) = 0 then q4 else q3) ∧ own_K p e below SE T9 (mkF m 131 #[.val (.int p0), .val (.long q1), .second, .val (.long q2), .second, .val (.long q3), .second, .val (.long q4), .second, .val (.int p5), .val (.int ca0), .val (.int ca1), .val (.int cb0), .val (.int cb1), .val (.int la), .val (.int lb), .val (.ref sa), .val (.ref sb), .val (.long jb), .second, .unset, .unset, .unset, .unset, .unset, .unset, .unset] [(.long rb)]) := by
    have K83 : own_K p e below SE T9 (mkF m 121 #[.val (.int p0), .val (.long q1), .second, .val (.long q2), .second, .val (.long q3), .second, .val (.long q4), .second, .val (.int p5), .val (.int ca0), .val (.int ca1), .val (.int cb0), .val (.int cb1), .val (.int la), .val (.int lb), .val (.ref sa), .val (.ref sb), .val (.long jb), .second, .unset, .unset, .unset, .unset, .unset, .unset, .unset] [(.int (p5 &&& (2 : Int32)))]) := by
      intro t k
      refine K80 _ ?_
      refine XS.iload X9.here hx rfl (hb hby at_117) rfl ?_
      show own_S p e below T9 (mkF m 119 #[.val (.int p0), .val (.long q1), .second, .val (.long q2), .second, .val (.long q3), .second, .val (.long q4), .second, .val (.int p5), .val (.int ca0), .val (.int ca1), .val (.int cb0), .val (.int cb1), .val (.int la), .val (.int lb), .val (.ref sa), .val (.ref sb), .val (.long jb), .second, .unset, .unset, .unset, .unset, .unset, .unset, .unset] [(.int p5)]) _
      refine XS.iconst X9.here hx rfl (hb hby at_119) ?_
      show own_S p e below T9 (mkF m 120 #[.val (.int p0), .val (.long q1), .second, .val (.long q2), .second, .val (.long q3), .second, .val (.long q4), .second, .val (.int p5), .val (.int ca0), .val (.int ca1), .val (.int cb0), .val (.int cb1), .val (.int la), .val (.int lb), .val (.ref sa), .val (.ref sb), .val (.long jb), .second, .unset, .unset, .unset, .unset, .unset, .unset, .unset] [(.int (2 : Int32)), (.int p5)]) _
      refine XS.iand X9.here hx rfl (hb hby at_120) rfl ?_
      exact k
    by_cases c121_82 : (p5 &&& (2 : Int32)) = 0
    · skip
      have K84 : own_K p e below SE T9 (mkF m 131 #[.val (.int p0), .val (.long q1), .second, .val (.long q2), .second, .val (.long q3), .second, .val (.long q4), .second, .val (.int p5), .val (.int ca0), .val (.int ca1), .val (.int cb0), .val (.int cb1), .val (.int la), .val (.int lb), .val (.ref sa), .val (.ref sb), .val (.long jb), .second, .unset, .unset, .unset, .unset, .unset, .unset, .unset] [(.long q4)]) := by
        intro t k
        refine K83 _ ?_
        refine XS.ifYes X9.here hx rfl (pc0 := 121) (pc' := 129) rfl (hb hby at_121) rfl (XT.i0_eq_t c121_82) (by decide) (by decide) ?_
        show own_S p e below T9 (mkF m 129 #[.val (.int p0), .val (.long q1), .second, .val (.long q2), .second, .val (.long q3), .second, .val (.long q4), .second, .val (.int p5), .val (.int ca0), .val (.int ca1), .val (.int cb0), .val (.int cb1), .val (.int la), .val (.int lb), .val (.ref sa), .val (.ref sb), .val (.long jb), .second, .unset, .unset, .unset, .unset, .unset, .unset, .unset] []) _
        refine XS.lload X9.here hx rfl (hb hby at_129) rfl ?_
        exact k
      exact ⟨q4, (by simp only [if_pos c121_82]), K84⟩
    · skip
      have K85 : own_K p e below SE T9 (mkF m 131 #[.val (.int p0), .val (.long q1), .second, .val (.long q2), .second, .val (.long q3), .second, .val (.long q4), .second, .val (.int p5), .val (.int ca0), .val (.int ca1), .val (.int cb0), .val (.int cb1), .val (.int la), .val (.int lb), .val (.ref sa), .val (.ref sb), .val (.long jb), .second, .unset, .unset, .unset, .unset, .unset, .unset, .unset] [(.long q3)]) := by
        intro t k
        refine K83 _ ?_
        refine XS.ifNo X9.here hx rfl (hb hby at_121) rfl (XT.i0_eq_f c121_82) ?_
        show own_S p e below T9 (mkF m 124 #[.val (.int p0), .val (.long q1), .second, .val (.long q2), .second, .val (.long q3), .second, .val (.long q4), .second, .val (.int p5), .val (.int ca0), .val (.int ca1), .val (.int cb0), .val (.int cb1), .val (.int la), .val (.int lb), .val (.ref sa), .val (.ref sb), .val (.long jb), .second, .unset, .unset, .unset, .unset, .unset, .unset, .unset] []) _
        refine XS.lload X9.here hx rfl (hb hby at_124) rfl ?_
        show own_S p e below T9 (mkF m 126 #[.val (.int p0), .val (.long q1), .second, .val (.long q2), .second, .val (.long q3), .second, .val (.long q4), .second, .val (.int p5), .val (.int ca0), .val (.int ca1), .val (.int cb0), .val (.int cb1), .val (.int la), .val (.int lb), .val (.ref sa), .val (.ref sb), .val (.long jb), .second, .unset, .unset, .unset, .unset, .unset, .unset, .unset] [(.long q3)]) _
        refine XS.goto X9.here hx rfl (pc0 := 126) (pc' := 131) rfl (hb hby at_126) (by decide) (by decide) ?_
        exact k
      exact ⟨q3, (by simp only [if_neg c121_82]), K85⟩
  have K86 : own_K p e below SE T9 (mkF m 133 #[.val (.int p0), .val (.long q1), .second, .val (.long q2), .second, .val (.long q3), .second, .val (.long q4), .second, .val (.int p5), .val (.int ca0), .val (.int ca1), .val (.int cb0), .val (.int cb1), .val (.int la), .val (.int lb), .val (.ref sa), .val (.ref sb), .val (.long jb), .second, .val (.long rb), .second, .unset, .unset, .unset, .unset, .unset] []) := by
    intro t k
    refine K81 _ ?_
    refine XS.lstore X9.here hx rfl (hb hby at_131) rfl (l' := #[.val (.int p0), .val (.long q1), .second, .val (.long q2), .second, .val (.long q3), .second, .val (.long q4), .second, .val (.int p5), .val (.int ca0), .val (.int ca1), .val (.int cb0), .val (.int cb1), .val (.int la), .val (.int lb), .val (.ref sa), .val (.ref sb), .val (.long jb), .second, .val (.long rb), .second, .unset, .unset, .unset, .unset, .unset]) rfl ?_
    exact k
  obtain ⟨T87, h87, X87, e87, E87, A87, D87, -, st87⟩ := newO X9 hx hZ hown (hw _ (List.mem_of_getElem? (i := 16) rfl)) (hw _ (List.mem_of_getElem? (i := 17) rfl)) (hw _ (List.mem_of_getElem? (i := 18) rfl)) rfl (g := (mkF m 133 #[.val (.int p0), .val (.long q1), .second, .val (.long q2), .second, .val (.long q3), .second, .val (.long q4), .second, .val (.int p5), .val (.int ca0), .val (.int ca1), .val (.int cb0), .val (.int cb1), .val (.int la), .val (.int lb), .val (.ref sa), .val (.ref sb), .val (.long jb), .second, .val (.long rb), .second, .unset, .unset, .unset, .unset, .unset] [])) rfl (hb hby at_133) (by decide) (by decide)
  obtain ⟨b87, g87⟩ : ∃ z, z = T9.heap.size := ⟨_, rfl⟩
  rw [← g87] at A87 D87 st87
  have g_b87 : n0 ≤ b87 := Nat.le_trans (Nat.le_trans Z0 Kp9.1) (Nat.le_of_eq g87.symm)
  have sz_b87 : h0.size ≤ b87 := Nat.le_trans Kp9.1 (Nat.le_of_eq g87.symm)
  have Kp87 : Keep h0 h87 [] := Keep.ext Kp9 E87
  have F_workflowId_b87 : Fld Z h87 b87 "com/example/enact/enact/model/RunKey" "workflowId" "Ljava/lang/String;" .null := D87 (Or.inr (hw _ (List.mem_of_getElem? (i := 26) rfl))) (ty := (.object "java/lang/String")) (by decide)
  have F_instanceId_b87 : Fld Z h87 b87 "com/example/enact/enact/model/RunKey" "instanceId" "J" (.long (0 : Int64)) := D87 (Or.inr (hw _ (List.mem_of_getElem? (i := 28) rfl))) (ty := .long) (by decide)
  have F_runId_b87 : Fld Z h87 b87 "com/example/enact/enact/model/RunKey" "runId" "J" (.long (0 : Int64)) := D87 (Or.inr (hw _ (List.mem_of_getElem? (i := 30) rfl))) (ty := .long) (by decide)
  have K87 : own_K p e below SE T87 (mkF m 136 #[.val (.int p0), .val (.long q1), .second, .val (.long q2), .second, .val (.long q3), .second, .val (.long q4), .second, .val (.int p5), .val (.int ca0), .val (.int ca1), .val (.int cb0), .val (.int cb1), .val (.int la), .val (.int lb), .val (.ref sa), .val (.ref sb), .val (.long jb), .second, .val (.long rb), .second, .unset, .unset, .unset, .unset, .unset] [(.ref b87)]) := fun t k => K86 _ (st87 _ k)
  have K88 : own_K p e below SE T87 (mkF m 142 #[.val (.int p0), .val (.long q1), .second, .val (.long q2), .second, .val (.long q3), .second, .val (.long q4), .second, .val (.int p5), .val (.int ca0), .val (.int ca1), .val (.int cb0), .val (.int cb1), .val (.int la), .val (.int lb), .val (.ref sa), .val (.ref sb), .val (.long jb), .second, .val (.long rb), .second, .unset, .unset, .unset, .unset, .unset] [(.long q3), (.long q1), (.ref sa), (.ref b87), (.ref b87)]) := by
    intro t k
    refine K87 _ ?_
    refine XS.dup X87.here hx rfl (hb hby at_136) rfl rfl ?_
    show own_S p e below T87 (mkF m 137 #[.val (.int p0), .val (.long q1), .second, .val (.long q2), .second, .val (.long q3), .second, .val (.long q4), .second, .val (.int p5), .val (.int ca0), .val (.int ca1), .val (.int cb0), .val (.int cb1), .val (.int la), .val (.int lb), .val (.ref sa), .val (.ref sb), .val (.long jb), .second, .val (.long rb), .second, .unset, .unset, .unset, .unset, .unset] [(.ref b87), (.ref b87)]) _
    refine XS.aload X87.here hx rfl (hb hby at_137) rfl rfl ?_
    show own_S p e below T87 (mkF m 139 #[.val (.int p0), .val (.long q1), .second, .val (.long q2), .second, .val (.long q3), .second, .val (.long q4), .second, .val (.int p5), .val (.int ca0), .val (.int ca1), .val (.int cb0), .val (.int cb1), .val (.int la), .val (.int lb), .val (.ref sa), .val (.ref sb), .val (.long jb), .second, .val (.long rb), .second, .unset, .unset, .unset, .unset, .unset] [(.ref sa), (.ref b87), (.ref b87)]) _
    refine XS.lloadN X87.here hx rfl (hb hby at_139) rfl ?_
    show own_S p e below T87 (mkF m 140 #[.val (.int p0), .val (.long q1), .second, .val (.long q2), .second, .val (.long q3), .second, .val (.long q4), .second, .val (.int p5), .val (.int ca0), .val (.int ca1), .val (.int cb0), .val (.int cb1), .val (.int la), .val (.int lb), .val (.ref sa), .val (.ref sb), .val (.long jb), .second, .val (.long rb), .second, .unset, .unset, .unset, .unset, .unset] [(.long q1), (.ref sa), (.ref b87), (.ref b87)]) _
    refine XS.lload X87.here hx rfl (hb hby at_140) rfl ?_
    exact k
  have Kb87 : Keep T9.heap h87 [] := Keep.ext Kb9 E87
  have sz9_b87 : T9.heap.size ≤ b87 := Nat.le_trans Kb9.1 (Nat.le_of_eq g87.symm)
  obtain ⟨_, _, ⟨T89, L89, k89, n89⟩, -, X89, ⟨Lc89, hQ89, l89, y89, z89⟩, st89⟩ := X87.specialBack hx (y := (⟨"com/example/enact/enact/model/RunKey", "<init>", "(Ljava/lang/String;JJ)V"⟩ : MethodName)) rfl hown (mvT hZ (hw _ (List.mem_of_getElem? (i := 19) rfl))) (mvT hZ (hw _ (List.mem_of_getElem? (i := 20) rfl))) (mvT hZ (hw _ (List.mem_of_getElem? (i := 21) rfl))) (by decide) (backOf (W := 1) (rmri l Z a0 hw [] b87 sa q1 q3 h87 n0 (Nat.le_trans Z0 Kp87.1) A87 F_workflowId_b87 F_instanceId_b87 F_runId_b87 g_b87) hZ (hw _ (List.mem_of_getElem? (i := 21) rfl)) (hw _ (List.mem_of_getElem? (i := 18) rfl)) (by decide) (by decide)) (g := (mkF m 142 #[.val (.int p0), .val (.long q1), .second, .val (.long q2), .second, .val (.long q3), .second, .val (.long q4), .second, .val (.int p5), .val (.int ca0), .val (.int ca1), .val (.int cb0), .val (.int cb1), .val (.int la), .val (.int lb), .val (.ref sa), .val (.ref sb), .val (.long jb), .second, .val (.long rb), .second, .unset, .unset, .unset, .unset, .unset] [(.long q3), (.long q1), (.ref sa), (.ref b87), (.ref b87)])) rfl (by rw [hml]; rfl) (Steps.refl _) (a := b87) (argsL := [(.ref sa), (.long q1), (.long q3)]) (rest := [(.ref b87)]) (lenOf pd_0_2 rfl) rfl (by show 2 * 0 + _ ≤ _; exact Nat.le_of_eq rfl) (hb hby at_142) (fun _ _ => ⟨rfl, e87, (by decide : 17 + 0 ≤ _), (by decide : 103 + 0 ≤ _)⟩)
  dsimp only [Pt.U, Pt.locs, Pt.cells, Pt.slots] at X89 l89 y89 z89 st89 hQ89
  rw [y89, z89] at X89
  obtain ⟨rfl, Nq89, Kq89, Ex89, Fa89, Fb89, Fc89⟩ := hQ89
  have N89 : Fr n0 L89 := by rw [l89]; exact Fr.app N9 Nq89
  have Kp89 : Keep h0 T89.heap [] := Keep.trans Kp87 Kq89 (allS (Or.inr sz_b87) all0)
  have K89 : own_K p e below SE T89 (mkF m 145 #[.val (.int p0), .val (.long q1), .second, .val (.long q2), .second, .val (.long q3), .second, .val (.long q4), .second, .val (.int p5), .val (.int ca0), .val (.int ca1), .val (.int cb0), .val (.int cb1), .val (.int la), .val (.int lb), .val (.ref sa), .val (.ref sb), .val (.long jb), .second, .val (.long rb), .second, .unset, .unset, .unset, .unset, .unset] [(.ref b87)]) := fun t k => K88 _ (st89.trans k)
  have Kb89 : Keep T9.heap T89.heap [] := Keep.trans Kb87 Kq89 (allS (Or.inr sz9_b87) all0)
  have K90 : own_K p e below SE T89 (mkF m 155 #[.val (.int p0), .val (.long q1), .second, .val (.long q2), .second, .val (.long q3), .second, .val (.long q4), .second, .val (.int p5), .val (.int ca0), .val (.int ca1), .val (.int cb0), .val (.int cb1), .val (.int la), .val (.int lb), .val (.ref sa), .val (.ref sb), .val (.long jb), .second, .val (.long rb), .second, .val (.ref b87), .val (.int (((p5.toUInt32 >>> ((2 : Int32) &&& 31).toUInt32).toInt32) &&& (3 : Int32))), .unset, .unset, .unset] []) := by
    intro t k
    refine K89 _ ?_
    refine XS.astore X89.here hx rfl (hb hby at_145) rfl rfl (l' := #[.val (.int p0), .val (.long q1), .second, .val (.long q2), .second, .val (.long q3), .second, .val (.long q4), .second, .val (.int p5), .val (.int ca0), .val (.int ca1), .val (.int cb0), .val (.int cb1), .val (.int la), .val (.int lb), .val (.ref sa), .val (.ref sb), .val (.long jb), .second, .val (.long rb), .second, .val (.ref b87), .unset, .unset, .unset, .unset]) rfl ?_
    show own_S p e below T89 (mkF m 147 #[.val (.int p0), .val (.long q1), .second, .val (.long q2), .second, .val (.long q3), .second, .val (.long q4), .second, .val (.int p5), .val (.int ca0), .val (.int ca1), .val (.int cb0), .val (.int cb1), .val (.int la), .val (.int lb), .val (.ref sa), .val (.ref sb), .val (.long jb), .second, .val (.long rb), .second, .val (.ref b87), .unset, .unset, .unset, .unset] []) _
    refine XS.iload X89.here hx rfl (hb hby at_147) rfl ?_
    show own_S p e below T89 (mkF m 149 #[.val (.int p0), .val (.long q1), .second, .val (.long q2), .second, .val (.long q3), .second, .val (.long q4), .second, .val (.int p5), .val (.int ca0), .val (.int ca1), .val (.int cb0), .val (.int cb1), .val (.int la), .val (.int lb), .val (.ref sa), .val (.ref sb), .val (.long jb), .second, .val (.long rb), .second, .val (.ref b87), .unset, .unset, .unset, .unset] [(.int p5)]) _
    refine XS.iconst X89.here hx rfl (hb hby at_149) ?_
    show own_S p e below T89 (mkF m 150 #[.val (.int p0), .val (.long q1), .second, .val (.long q2), .second, .val (.long q3), .second, .val (.long q4), .second, .val (.int p5), .val (.int ca0), .val (.int ca1), .val (.int cb0), .val (.int cb1), .val (.int la), .val (.int lb), .val (.ref sa), .val (.ref sb), .val (.long jb), .second, .val (.long rb), .second, .val (.ref b87), .unset, .unset, .unset, .unset] [(.int (2 : Int32)), (.int p5)]) _
    refine XS.iushr X89.here hx rfl (hb hby at_150) rfl ?_
    show own_S p e below T89 (mkF m 151 #[.val (.int p0), .val (.long q1), .second, .val (.long q2), .second, .val (.long q3), .second, .val (.long q4), .second, .val (.int p5), .val (.int ca0), .val (.int ca1), .val (.int cb0), .val (.int cb1), .val (.int la), .val (.int lb), .val (.ref sa), .val (.ref sb), .val (.long jb), .second, .val (.long rb), .second, .val (.ref b87), .unset, .unset, .unset, .unset] [(.int ((p5.toUInt32 >>> ((2 : Int32) &&& 31).toUInt32).toInt32))]) _
    refine XS.iconst X89.here hx rfl (hb hby at_151) ?_
    show own_S p e below T89 (mkF m 152 #[.val (.int p0), .val (.long q1), .second, .val (.long q2), .second, .val (.long q3), .second, .val (.long q4), .second, .val (.int p5), .val (.int ca0), .val (.int ca1), .val (.int cb0), .val (.int cb1), .val (.int la), .val (.int lb), .val (.ref sa), .val (.ref sb), .val (.long jb), .second, .val (.long rb), .second, .val (.ref b87), .unset, .unset, .unset, .unset] [(.int (3 : Int32)), (.int ((p5.toUInt32 >>> ((2 : Int32) &&& 31).toUInt32).toInt32))]) _
    refine XS.iand X89.here hx rfl (hb hby at_152) rfl ?_
    show own_S p e below T89 (mkF m 153 #[.val (.int p0), .val (.long q1), .second, .val (.long q2), .second, .val (.long q3), .second, .val (.long q4), .second, .val (.int p5), .val (.int ca0), .val (.int ca1), .val (.int cb0), .val (.int cb1), .val (.int la), .val (.int lb), .val (.ref sa), .val (.ref sb), .val (.long jb), .second, .val (.long rb), .second, .val (.ref b87), .unset, .unset, .unset, .unset] [(.int (((p5.toUInt32 >>> ((2 : Int32) &&& 31).toUInt32).toInt32) &&& (3 : Int32)))]) _
    refine XS.istore X89.here hx rfl (hb hby at_153) rfl (l' := #[.val (.int p0), .val (.long q1), .second, .val (.long q2), .second, .val (.long q3), .second, .val (.long q4), .second, .val (.int p5), .val (.int ca0), .val (.int ca1), .val (.int cb0), .val (.int cb1), .val (.int la), .val (.int lb), .val (.ref sa), .val (.ref sb), .val (.long jb), .second, .val (.long rb), .second, .val (.ref b87), .val (.int (((p5.toUInt32 >>> ((2 : Int32) &&& 31).toUInt32).toInt32) &&& (3 : Int32))), .unset, .unset, .unset]) rfl ?_
    exact k
  obtain ⟨kd, hkd⟩ : ∃ z : Int32, z = (((p5.toUInt32 >>> ((2 : Int32) &&& 31).toUInt32).toInt32) &&& (3 : Int32)) := ⟨_, rfl⟩
  rw [← hkd] at K90
  have K91 : own_K p e below SE T89 (mkF m 158 #[.val (.int p0), .val (.long q1), .second, .val (.long q2), .second, .val (.long q3), .second, .val (.long q4), .second, .val (.int p5), .val (.int ca0), .val (.int ca1), .val (.int cb0), .val (.int cb1), .val (.int la), .val (.int lb), .val (.ref sa), .val (.ref sb), .val (.long jb), .second, .val (.long rb), .second, .val (.ref b87), .val (.int kd), .unset, .unset, .unset] [(.int (1 : Int32)), (.int kd)]) := by
    intro t k
    refine K90 _ ?_
    refine XS.iload X89.here hx rfl (hb hby at_155) rfl ?_
    show own_S p e below T89 (mkF m 157 #[.val (.int p0), .val (.long q1), .second, .val (.long q2), .second, .val (.long q3), .second, .val (.long q4), .second, .val (.int p5), .val (.int ca0), .val (.int ca1), .val (.int cb0), .val (.int cb1), .val (.int la), .val (.int lb), .val (.ref sa), .val (.ref sb), .val (.long jb), .second, .val (.long rb), .second, .val (.ref b87), .val (.int kd), .unset, .unset, .unset] [(.int kd)]) _
    refine XS.iconst X89.here hx rfl (hb hby at_157) ?_
    exact k
  by_cases ck1 : kd = (1 : Int32)
  · skip
    have K92 : own_K p e below SE T89 (mkF m 164 #[.val (.int p0), .val (.long q1), .second, .val (.long q2), .second, .val (.long q3), .second, .val (.long q4), .second, .val (.int p5), .val (.int ca0), .val (.int ca1), .val (.int cb0), .val (.int cb1), .val (.int la), .val (.int lb), .val (.ref sa), .val (.ref sb), .val (.long jb), .second, .val (.long rb), .second, .val (.ref b87), .val (.int kd), .unset, .unset, .unset] [.null, (.ref b87)]) := by
      intro t k
      refine K91 _ ?_
      refine XS.icmpNo X89.here hx rfl (hb hby at_158) rfl (XT.ii_ne_f ck1) ?_
      show own_S p e below T89 (mkF m 161 #[.val (.int p0), .val (.long q1), .second, .val (.long q2), .second, .val (.long q3), .second, .val (.long q4), .second, .val (.int p5), .val (.int ca0), .val (.int ca1), .val (.int cb0), .val (.int cb1), .val (.int la), .val (.int lb), .val (.ref sa), .val (.ref sb), .val (.long jb), .second, .val (.long rb), .second, .val (.ref b87), .val (.int kd), .unset, .unset, .unset] []) _
      refine XS.aload X89.here hx rfl (hb hby at_161) rfl rfl ?_
      show own_S p e below T89 (mkF m 163 #[.val (.int p0), .val (.long q1), .second, .val (.long q2), .second, .val (.long q3), .second, .val (.long q4), .second, .val (.int p5), .val (.int ca0), .val (.int ca1), .val (.int cb0), .val (.int cb1), .val (.int la), .val (.int lb), .val (.ref sa), .val (.ref sb), .val (.long jb), .second, .val (.long rb), .second, .val (.ref b87), .val (.int kd), .unset, .unset, .unset] [(.ref b87)]) _
      refine XS.aconstNull X89.here hx rfl (hb hby at_163) ?_
      exact k
    obtain ⟨cq93, kq93, q93a, q93b, q93c⟩ := isOf hZ rfl Ex89
    obtain ⟨_, _, ⟨T93, L93, k93, n93⟩, -, X93, ⟨Lc93, hQ93, l93, y93, z93⟩, st93⟩ := X89.virtualBack hx (y := (⟨"com/example/enact/enact/model/RunKey", "equals", "(Ljava/lang/Object;)Z"⟩ : MethodName)) (z := (⟨"com/example/enact/enact/model/RunKey", "equals", "(Ljava/lang/Object;)Z"⟩ : MethodName)) hown (mvT hZ (hw _ (List.mem_of_getElem? (i := 31) rfl))) (mvT hZ (hw _ (List.mem_of_getElem? (i := 32) rfl))) (notFace_of_selects (args := #[]) (mvT hZ (hw _ (List.mem_of_getElem? (i := 34) rfl)))) (mvT hZ (hw _ (List.mem_of_getElem? (i := 34) rfl))) (mvT hZ (hw _ (List.mem_of_getElem? (i := 33) rfl))) (by decide) (backOf (W := 0) (rmren l Z a0 hw [] b87 T89.heap n0 (Nat.le_trans Z0 Kp89.1)) hZ (hw _ (List.mem_of_getElem? (i := 35) rfl)) (hw _ (List.mem_of_getElem? (i := 18) rfl)) (by decide) (by decide)) q93a q93c (g := (mkF m 164 #[.val (.int p0), .val (.long q1), .second, .val (.long q2), .second, .val (.long q3), .second, .val (.long q4), .second, .val (.int p5), .val (.int ca0), .val (.int ca1), .val (.int cb0), .val (.int cb1), .val (.int la), .val (.int lb), .val (.ref sa), .val (.ref sb), .val (.long jb), .second, .val (.long rb), .second, .val (.ref b87), .val (.int kd), .unset, .unset, .unset] [.null, (.ref b87)])) rfl (by rw [hml]; rfl) (Steps.refl _) (argsL := [.null]) (rest := []) (lenOf pd_0_3 rfl) rfl (by show 2 * 0 + _ ≤ _; exact Nat.le_of_eq rfl) (hb hby at_164) (fun _ _ => ⟨rfl, rfl, (by decide : 17 + 0 ≤ _), (by decide : 103 + 0 ≤ _)⟩)
    dsimp only [Pt.U, Pt.locs, Pt.cells, Pt.slots] at X93 l93 y93 z93 st93 hQ93
    rw [y93, z93] at X93
    obtain ⟨rfl, Nq93, e93⟩ := hQ93
    have N93 : Fr n0 L93 := by rw [l93]; exact Fr.app N89 Nq93
    have K93 : own_K p e below SE T93 (mkF m 167 #[.val (.int p0), .val (.long q1), .second, .val (.long q2), .second, .val (.long q3), .second, .val (.long q4), .second, .val (.int p5), .val (.int ca0), .val (.int ca1), .val (.int cb0), .val (.int cb1), .val (.int la), .val (.int lb), .val (.ref sa), .val (.ref sb), .val (.long jb), .second, .val (.long rb), .second, .val (.ref b87), .val (.int kd), .unset, .unset, .unset] [(.int (0 : Int32))]) := fun t k => K92 _ (st93.trans k)
    have K94 : own_K p e below SE T93 (mkF m 175 #[.val (.int p0), .val (.long q1), .second, .val (.long q2), .second, .val (.long q3), .second, .val (.long q4), .second, .val (.int p5), .val (.int ca0), .val (.int ca1), .val (.int cb0), .val (.int cb1), .val (.int la), .val (.int lb), .val (.ref sa), .val (.ref sb), .val (.long jb), .second, .val (.long rb), .second, .val (.ref b87), .val (.int kd), .unset, .unset, .unset] [(.int (1 : Int32))]) := by
      intro t k
      refine K93 _ ?_
      refine XS.ifNo X93.here hx rfl (hb hby at_167) rfl (XT.i0_ne_f (by decide : (0 : Int32) = 0)) ?_
      show own_S p e below T93 (mkF m 170 #[.val (.int p0), .val (.long q1), .second, .val (.long q2), .second, .val (.long q3), .second, .val (.long q4), .second, .val (.int p5), .val (.int ca0), .val (.int ca1), .val (.int cb0), .val (.int cb1), .val (.int la), .val (.int lb), .val (.ref sa), .val (.ref sb), .val (.long jb), .second, .val (.long rb), .second, .val (.ref b87), .val (.int kd), .unset, .unset, .unset] []) _
      refine XS.iconst X93.here hx rfl (hb hby at_170) ?_
      show own_S p e below T93 (mkF m 171 #[.val (.int p0), .val (.long q1), .second, .val (.long q2), .second, .val (.long q3), .second, .val (.long q4), .second, .val (.int p5), .val (.int ca0), .val (.int ca1), .val (.int cb0), .val (.int cb1), .val (.int la), .val (.int lb), .val (.ref sa), .val (.ref sb), .val (.long jb), .second, .val (.long rb), .second, .val (.ref b87), .val (.int kd), .unset, .unset, .unset] [(.int (1 : Int32))]) _
      refine XS.goto X93.here hx rfl (pc0 := 171) (pc' := 175) rfl (hb hby at_171) (by decide) (by decide) ?_
      exact k
    obtain ⟨fs, hr, hrun, hended, hRW⟩ := X93.leaveW hS (by rw [e93]; exact (Nat.le_trans (Nat.le_trans hk E87.1) Kq89.1)) (v := some (.int (1 : Int32))) (fun h => by rw [Bd.returns] at h; cases h)
    refine ⟨_, _, K94 _ ?_, hrun, hended, _, _, rfl, ?_, hRW.1, hRW.2.1, hRW.2.2.1, hRW.2.2.2.mono (by decide) (by decide)⟩
    · exact retN X93 hx (t := .boolean) Bd.returns (by simp) (hb hby at_175) hr
    · show Q0 Z p0 q1 q2 q3 q4 p5 G h0 n0 _ T93.heap _
      rw [e93]
      exact ⟨rfl, N93⟩
  · skip
    have K95 : own_K p e below SE T89 (mkF m 179 #[.val (.int p0), .val (.long q1), .second, .val (.long q2), .second, .val (.long q3), .second, .val (.long q4), .second, .val (.int p5), .val (.int ca0), .val (.int ca1), .val (.int cb0), .val (.int cb1), .val (.int la), .val (.int lb), .val (.ref sa), .val (.ref sb), .val (.long jb), .second, .val (.long rb), .second, .val (.ref b87), .val (.int kd), .unset, .unset, .unset] [(.int (2 : Int32)), (.int kd)]) := by
      intro t k
      refine K91 _ ?_
      refine XS.icmpYes X89.here hx rfl (pc0 := 158) (pc' := 176) rfl (hb hby at_158) rfl (XT.ii_ne_t ck1) (by decide) (by decide) ?_
      show own_S p e below T89 (mkF m 176 #[.val (.int p0), .val (.long q1), .second, .val (.long q2), .second, .val (.long q3), .second, .val (.long q4), .second, .val (.int p5), .val (.int ca0), .val (.int ca1), .val (.int cb0), .val (.int cb1), .val (.int la), .val (.int lb), .val (.ref sa), .val (.ref sb), .val (.long jb), .second, .val (.long rb), .second, .val (.ref b87), .val (.int kd), .unset, .unset, .unset] []) _
      refine XS.iload X89.here hx rfl (hb hby at_176) rfl ?_
      show own_S p e below T89 (mkF m 178 #[.val (.int p0), .val (.long q1), .second, .val (.long q2), .second, .val (.long q3), .second, .val (.long q4), .second, .val (.int p5), .val (.int ca0), .val (.int ca1), .val (.int cb0), .val (.int cb1), .val (.int la), .val (.int lb), .val (.ref sa), .val (.ref sb), .val (.long jb), .second, .val (.long rb), .second, .val (.ref b87), .val (.int kd), .unset, .unset, .unset] [(.int kd)]) _
      refine XS.iconst X89.here hx rfl (hb hby at_178) ?_
      exact k
    by_cases ck2 : kd = (2 : Int32)
    · skip
      have K96 : own_K p e below SE T89 (mkF m 186 #[.val (.int p0), .val (.long q1), .second, .val (.long q2), .second, .val (.long q3), .second, .val (.long q4), .second, .val (.int p5), .val (.int ca0), .val (.int ca1), .val (.int cb0), .val (.int cb1), .val (.int la), .val (.int lb), .val (.ref sa), .val (.ref sb), .val (.long jb), .second, .val (.long rb), .second, .val (.ref b87), .val (.int kd), .unset, .unset, .unset] [(.ref sa), (.ref b87)]) := by
        intro t k
        refine K95 _ ?_
        refine XS.icmpNo X89.here hx rfl (hb hby at_179) rfl (XT.ii_ne_f ck2) ?_
        show own_S p e below T89 (mkF m 182 #[.val (.int p0), .val (.long q1), .second, .val (.long q2), .second, .val (.long q3), .second, .val (.long q4), .second, .val (.int p5), .val (.int ca0), .val (.int ca1), .val (.int cb0), .val (.int cb1), .val (.int la), .val (.int lb), .val (.ref sa), .val (.ref sb), .val (.long jb), .second, .val (.long rb), .second, .val (.ref b87), .val (.int kd), .unset, .unset, .unset] []) _
        refine XS.aload X89.here hx rfl (hb hby at_182) rfl rfl ?_
        show own_S p e below T89 (mkF m 184 #[.val (.int p0), .val (.long q1), .second, .val (.long q2), .second, .val (.long q3), .second, .val (.long q4), .second, .val (.int p5), .val (.int ca0), .val (.int ca1), .val (.int cb0), .val (.int cb1), .val (.int la), .val (.int lb), .val (.ref sa), .val (.ref sb), .val (.long jb), .second, .val (.long rb), .second, .val (.ref b87), .val (.int kd), .unset, .unset, .unset] [(.ref b87)]) _
        refine XS.aload X89.here hx rfl (hb hby at_184) rfl rfl ?_
        exact k
      obtain ⟨cq97, kq97, q97a, q97b, q97c⟩ := isOf hZ rfl Ex89
      obtain ⟨_, _, ⟨T97, L97, k97, n97⟩, -, X97, ⟨Lc97, hQ97, l97, y97, z97⟩, st97⟩ := X89.virtualBack hx (y := (⟨"com/example/enact/enact/model/RunKey", "equals", "(Ljava/lang/Object;)Z"⟩ : MethodName)) (z := (⟨"com/example/enact/enact/model/RunKey", "equals", "(Ljava/lang/Object;)Z"⟩ : MethodName)) hown (mvT hZ (hw _ (List.mem_of_getElem? (i := 31) rfl))) (mvT hZ (hw _ (List.mem_of_getElem? (i := 32) rfl))) (notFace_of_selects (args := #[]) (mvT hZ (hw _ (List.mem_of_getElem? (i := 34) rfl)))) (mvT hZ (hw _ (List.mem_of_getElem? (i := 34) rfl))) (mvT hZ (hw _ (List.mem_of_getElem? (i := 33) rfl))) (by decide) (backOf (W := 0) (rmres l Z a0 hw [] b87 sa T89.heap n0 (Nat.le_trans Z0 Kp89.1) (Sa.ext (own_ext Kb89)).1) hZ (hw _ (List.mem_of_getElem? (i := 35) rfl)) (hw _ (List.mem_of_getElem? (i := 18) rfl)) (by decide) (by decide)) q97a q97c (g := (mkF m 186 #[.val (.int p0), .val (.long q1), .second, .val (.long q2), .second, .val (.long q3), .second, .val (.long q4), .second, .val (.int p5), .val (.int ca0), .val (.int ca1), .val (.int cb0), .val (.int cb1), .val (.int la), .val (.int lb), .val (.ref sa), .val (.ref sb), .val (.long jb), .second, .val (.long rb), .second, .val (.ref b87), .val (.int kd), .unset, .unset, .unset] [(.ref sa), (.ref b87)])) rfl (by rw [hml]; rfl) (Steps.refl _) (argsL := [(.ref sa)]) (rest := []) (lenOf pd_0_3 rfl) rfl (by show 2 * 0 + _ ≤ _; exact Nat.le_of_eq rfl) (hb hby at_186) (fun _ _ => ⟨rfl, rfl, (by decide : 17 + 0 ≤ _), (by decide : 103 + 0 ≤ _)⟩)
      dsimp only [Pt.U, Pt.locs, Pt.cells, Pt.slots] at X97 l97 y97 z97 st97 hQ97
      rw [y97, z97] at X97
      obtain ⟨rfl, Nq97, e97⟩ := hQ97
      have N97 : Fr n0 L97 := by rw [l97]; exact Fr.app N89 Nq97
      have K97 : own_K p e below SE T97 (mkF m 189 #[.val (.int p0), .val (.long q1), .second, .val (.long q2), .second, .val (.long q3), .second, .val (.long q4), .second, .val (.int p5), .val (.int ca0), .val (.int ca1), .val (.int cb0), .val (.int cb1), .val (.int la), .val (.int lb), .val (.ref sa), .val (.ref sb), .val (.long jb), .second, .val (.long rb), .second, .val (.ref b87), .val (.int kd), .unset, .unset, .unset] [(.int (0 : Int32))]) := fun t k => K96 _ (st97.trans k)
      have K98 : own_K p e below SE T97 (mkF m 197 #[.val (.int p0), .val (.long q1), .second, .val (.long q2), .second, .val (.long q3), .second, .val (.long q4), .second, .val (.int p5), .val (.int ca0), .val (.int ca1), .val (.int cb0), .val (.int cb1), .val (.int la), .val (.int lb), .val (.ref sa), .val (.ref sb), .val (.long jb), .second, .val (.long rb), .second, .val (.ref b87), .val (.int kd), .unset, .unset, .unset] [(.int (1 : Int32))]) := by
        intro t k
        refine K97 _ ?_
        refine XS.ifNo X97.here hx rfl (hb hby at_189) rfl (XT.i0_ne_f (by decide : (0 : Int32) = 0)) ?_
        show own_S p e below T97 (mkF m 192 #[.val (.int p0), .val (.long q1), .second, .val (.long q2), .second, .val (.long q3), .second, .val (.long q4), .second, .val (.int p5), .val (.int ca0), .val (.int ca1), .val (.int cb0), .val (.int cb1), .val (.int la), .val (.int lb), .val (.ref sa), .val (.ref sb), .val (.long jb), .second, .val (.long rb), .second, .val (.ref b87), .val (.int kd), .unset, .unset, .unset] []) _
        refine XS.iconst X97.here hx rfl (hb hby at_192) ?_
        show own_S p e below T97 (mkF m 193 #[.val (.int p0), .val (.long q1), .second, .val (.long q2), .second, .val (.long q3), .second, .val (.long q4), .second, .val (.int p5), .val (.int ca0), .val (.int ca1), .val (.int cb0), .val (.int cb1), .val (.int la), .val (.int lb), .val (.ref sa), .val (.ref sb), .val (.long jb), .second, .val (.long rb), .second, .val (.ref b87), .val (.int kd), .unset, .unset, .unset] [(.int (1 : Int32))]) _
        refine XS.goto X97.here hx rfl (pc0 := 193) (pc' := 197) rfl (hb hby at_193) (by decide) (by decide) ?_
        exact k
      obtain ⟨fs, hr, hrun, hended, hRW⟩ := X97.leaveW hS (by rw [e97]; exact (Nat.le_trans (Nat.le_trans hk E87.1) Kq89.1)) (v := some (.int (1 : Int32))) (fun h => by rw [Bd.returns] at h; cases h)
      refine ⟨_, _, K98 _ ?_, hrun, hended, _, _, rfl, ?_, hRW.1, hRW.2.1, hRW.2.2.1, hRW.2.2.2.mono (by decide) (by decide)⟩
      · exact retN X97 hx (t := .boolean) Bd.returns (by simp) (hb hby at_197) hr
      · show Q0 Z p0 q1 q2 q3 q4 p5 G h0 n0 _ T97.heap _
        rw [e97]
        exact ⟨rfl, N97⟩
    · skip
      have K99 : own_K p e below SE T89 (mkF m 201 #[.val (.int p0), .val (.long q1), .second, .val (.long q2), .second, .val (.long q3), .second, .val (.long q4), .second, .val (.int p5), .val (.int ca0), .val (.int ca1), .val (.int cb0), .val (.int cb1), .val (.int la), .val (.int lb), .val (.ref sa), .val (.ref sb), .val (.long jb), .second, .val (.long rb), .second, .val (.ref b87), .val (.int kd), .unset, .unset, .unset] [(.int (3 : Int32)), (.int kd)]) := by
        intro t k
        refine K95 _ ?_
        refine XS.icmpYes X89.here hx rfl (pc0 := 179) (pc' := 198) rfl (hb hby at_179) rfl (XT.ii_ne_t ck2) (by decide) (by decide) ?_
        show own_S p e below T89 (mkF m 198 #[.val (.int p0), .val (.long q1), .second, .val (.long q2), .second, .val (.long q3), .second, .val (.long q4), .second, .val (.int p5), .val (.int ca0), .val (.int ca1), .val (.int cb0), .val (.int cb1), .val (.int la), .val (.int lb), .val (.ref sa), .val (.ref sb), .val (.long jb), .second, .val (.long rb), .second, .val (.ref b87), .val (.int kd), .unset, .unset, .unset] []) _
        refine XS.iload X89.here hx rfl (hb hby at_198) rfl ?_
        show own_S p e below T89 (mkF m 200 #[.val (.int p0), .val (.long q1), .second, .val (.long q2), .second, .val (.long q3), .second, .val (.long q4), .second, .val (.int p5), .val (.int ca0), .val (.int ca1), .val (.int cb0), .val (.int cb1), .val (.int la), .val (.int lb), .val (.ref sa), .val (.ref sb), .val (.long jb), .second, .val (.long rb), .second, .val (.ref b87), .val (.int kd), .unset, .unset, .unset] [(.int kd)]) _
        refine XS.iconst X89.here hx rfl (hb hby at_200) ?_
        exact k
      by_cases ck3 : kd = (3 : Int32)
      · skip
        have K100 : own_K p e below SE T89 (mkF m 208 #[.val (.int p0), .val (.long q1), .second, .val (.long q2), .second, .val (.long q3), .second, .val (.long q4), .second, .val (.int p5), .val (.int ca0), .val (.int ca1), .val (.int cb0), .val (.int cb1), .val (.int la), .val (.int lb), .val (.ref sa), .val (.ref sb), .val (.long jb), .second, .val (.long rb), .second, .val (.ref b87), .val (.int kd), .unset, .unset, .unset] [(.ref b87), (.ref b87)]) := by
          intro t k
          refine K99 _ ?_
          refine XS.icmpNo X89.here hx rfl (hb hby at_201) rfl (XT.ii_ne_f ck3) ?_
          show own_S p e below T89 (mkF m 204 #[.val (.int p0), .val (.long q1), .second, .val (.long q2), .second, .val (.long q3), .second, .val (.long q4), .second, .val (.int p5), .val (.int ca0), .val (.int ca1), .val (.int cb0), .val (.int cb1), .val (.int la), .val (.int lb), .val (.ref sa), .val (.ref sb), .val (.long jb), .second, .val (.long rb), .second, .val (.ref b87), .val (.int kd), .unset, .unset, .unset] []) _
          refine XS.aload X89.here hx rfl (hb hby at_204) rfl rfl ?_
          show own_S p e below T89 (mkF m 206 #[.val (.int p0), .val (.long q1), .second, .val (.long q2), .second, .val (.long q3), .second, .val (.long q4), .second, .val (.int p5), .val (.int ca0), .val (.int ca1), .val (.int cb0), .val (.int cb1), .val (.int la), .val (.int lb), .val (.ref sa), .val (.ref sb), .val (.long jb), .second, .val (.long rb), .second, .val (.ref b87), .val (.int kd), .unset, .unset, .unset] [(.ref b87)]) _
          refine XS.aload X89.here hx rfl (hb hby at_206) rfl rfl ?_
          exact k
        obtain ⟨cq101, kq101, q101a, q101b, q101c⟩ := isOf hZ rfl Ex89
        obtain ⟨_, _, ⟨T101, L101, k101, n101⟩, -, X101, ⟨Lc101, hQ101, l101, y101, z101⟩, st101⟩ := X89.virtualBack hx (y := (⟨"com/example/enact/enact/model/RunKey", "equals", "(Ljava/lang/Object;)Z"⟩ : MethodName)) (z := (⟨"com/example/enact/enact/model/RunKey", "equals", "(Ljava/lang/Object;)Z"⟩ : MethodName)) hown (mvT hZ (hw _ (List.mem_of_getElem? (i := 31) rfl))) (mvT hZ (hw _ (List.mem_of_getElem? (i := 32) rfl))) (notFace_of_selects (args := #[]) (mvT hZ (hw _ (List.mem_of_getElem? (i := 34) rfl)))) (mvT hZ (hw _ (List.mem_of_getElem? (i := 34) rfl))) (mvT hZ (hw _ (List.mem_of_getElem? (i := 33) rfl))) (by decide) (backOf (W := 0) (rmrek l Z a0 hw [] b87 b87 G la ca0 ca1 la ca0 ca1 sa sa q1 q3 q1 q3 T89.heap n0 (Nat.le_trans Z0 Kp89.1) (S_cs.ext (own_ext Kp89)) hG hla3 hla3 (Sa.ext (own_ext Kb89)) (Sa.ext (own_ext Kb89)) Ex89 Fa89 Fb89 Fc89 Fa89 Fb89 Fc89) hZ (hw _ (List.mem_of_getElem? (i := 35) rfl)) (hw _ (List.mem_of_getElem? (i := 18) rfl)) (by decide) (by decide)) q101a q101c (g := (mkF m 208 #[.val (.int p0), .val (.long q1), .second, .val (.long q2), .second, .val (.long q3), .second, .val (.long q4), .second, .val (.int p5), .val (.int ca0), .val (.int ca1), .val (.int cb0), .val (.int cb1), .val (.int la), .val (.int lb), .val (.ref sa), .val (.ref sb), .val (.long jb), .second, .val (.long rb), .second, .val (.ref b87), .val (.int kd), .unset, .unset, .unset] [(.ref b87), (.ref b87)])) rfl (by rw [hml]; rfl) (Steps.refl _) (argsL := [(.ref b87)]) (rest := []) (lenOf pd_0_3 rfl) rfl (by show 2 * 0 + _ ≤ _; exact Nat.le_of_eq rfl) (hb hby at_208) (fun _ _ => ⟨rfl, rfl, (by decide : 17 + 0 ≤ _), (by decide : 103 + 0 ≤ _)⟩)
        dsimp only [Pt.U, Pt.locs, Pt.cells, Pt.slots] at X101 l101 y101 z101 st101 hQ101
        rw [y101, z101] at X101
        obtain ⟨rfl, Nq101, e101⟩ := hQ101
        have N101 : Fr n0 L101 := by rw [l101]; exact Fr.app N89 Nq101
        have K101 : own_K p e below SE T101 (mkF m 211 #[.val (.int p0), .val (.long q1), .second, .val (.long q2), .second, .val (.long q3), .second, .val (.long q4), .second, .val (.int p5), .val (.int ca0), .val (.int ca1), .val (.int cb0), .val (.int cb1), .val (.int la), .val (.int lb), .val (.ref sa), .val (.ref sb), .val (.long jb), .second, .val (.long rb), .second, .val (.ref b87), .val (.int kd), .unset, .unset, .unset] [(.int (if (own_eqs la ca0 ca1 la ca0 ca1) = 0 then (0 : Int32) else (if q1 = q1 then (if q3 = q3 then (1 : Int32) else (0 : Int32)) else (0 : Int32))))]) := fun t k => K100 _ (st101.trans k)
        rw [own_self la ca0 ca1 q1 q3] at K101
        obtain ⟨fs, hr, hrun, hended, hRW⟩ := X101.leaveW hS (by rw [e101]; exact (Nat.le_trans (Nat.le_trans hk E87.1) Kq89.1)) (v := some (.int (1 : Int32))) (fun h => by rw [Bd.returns] at h; cases h)
        refine ⟨_, _, K101 _ ?_, hrun, hended, _, _, rfl, ?_, hRW.1, hRW.2.1, hRW.2.2.1, hRW.2.2.2.mono (by decide) (by decide)⟩
        · exact retN X101 hx (t := .boolean) Bd.returns (by simp) (hb hby at_211) hr
        · show Q0 Z p0 q1 q2 q3 q4 p5 G h0 n0 _ T101.heap _
          rw [e101]
          exact ⟨rfl, N101⟩
      · skip
        have K102 : own_K p e below SE T89 (mkF m 212 #[.val (.int p0), .val (.long q1), .second, .val (.long q2), .second, .val (.long q3), .second, .val (.long q4), .second, .val (.int p5), .val (.int ca0), .val (.int ca1), .val (.int cb0), .val (.int cb1), .val (.int la), .val (.int lb), .val (.ref sa), .val (.ref sb), .val (.long jb), .second, .val (.long rb), .second, .val (.ref b87), .val (.int kd), .unset, .unset, .unset] []) := by
          intro t k
          refine K99 _ ?_
          refine XS.icmpYes X89.here hx rfl (pc0 := 201) (pc' := 212) rfl (hb hby at_201) rfl (XT.ii_ne_t ck3) (by decide) (by decide) ?_
          exact k
        obtain ⟨T103, h103, X103, e103, E103, A103, D103, -, st103⟩ := newO X89 hx hZ hown (hw _ (List.mem_of_getElem? (i := 16) rfl)) (hw _ (List.mem_of_getElem? (i := 17) rfl)) (hw _ (List.mem_of_getElem? (i := 18) rfl)) rfl (g := (mkF m 212 #[.val (.int p0), .val (.long q1), .second, .val (.long q2), .second, .val (.long q3), .second, .val (.long q4), .second, .val (.int p5), .val (.int ca0), .val (.int ca1), .val (.int cb0), .val (.int cb1), .val (.int la), .val (.int lb), .val (.ref sa), .val (.ref sb), .val (.long jb), .second, .val (.long rb), .second, .val (.ref b87), .val (.int kd), .unset, .unset, .unset] [])) rfl (hb hby at_212) (by decide) (by decide)
        obtain ⟨b103, g103⟩ : ∃ z, z = T89.heap.size := ⟨_, rfl⟩
        rw [← g103] at A103 D103 st103
        have g_b103 : n0 ≤ b103 := Nat.le_trans (Nat.le_trans Z0 Kp89.1) (Nat.le_of_eq g103.symm)
        have sz_b103 : h0.size ≤ b103 := Nat.le_trans Kp89.1 (Nat.le_of_eq g103.symm)
        have own_ne_b87_b103 : b87 ≠ b103 := Nat.ne_of_lt (Nat.lt_of_lt_of_le Ex89.lt (Nat.le_of_eq g103.symm))
        have Kp103 : Keep h0 h103 [] := Keep.ext Kp89 E103
        have F_workflowId_b103 : Fld Z h103 b103 "com/example/enact/enact/model/RunKey" "workflowId" "Ljava/lang/String;" .null := D103 (Or.inr (hw _ (List.mem_of_getElem? (i := 26) rfl))) (ty := (.object "java/lang/String")) (by decide)
        have F_instanceId_b103 : Fld Z h103 b103 "com/example/enact/enact/model/RunKey" "instanceId" "J" (.long (0 : Int64)) := D103 (Or.inr (hw _ (List.mem_of_getElem? (i := 28) rfl))) (ty := .long) (by decide)
        have F_runId_b103 : Fld Z h103 b103 "com/example/enact/enact/model/RunKey" "runId" "J" (.long (0 : Int64)) := D103 (Or.inr (hw _ (List.mem_of_getElem? (i := 30) rfl))) (ty := .long) (by decide)
        have K103 : own_K p e below SE T103 (mkF m 215 #[.val (.int p0), .val (.long q1), .second, .val (.long q2), .second, .val (.long q3), .second, .val (.long q4), .second, .val (.int p5), .val (.int ca0), .val (.int ca1), .val (.int cb0), .val (.int cb1), .val (.int la), .val (.int lb), .val (.ref sa), .val (.ref sb), .val (.long jb), .second, .val (.long rb), .second, .val (.ref b87), .val (.int kd), .unset, .unset, .unset] [(.ref b103)]) := fun t k => K102 _ (st103 _ k)
        have K104 : own_K p e below SE T103 (mkF m 222 #[.val (.int p0), .val (.long q1), .second, .val (.long q2), .second, .val (.long q3), .second, .val (.long q4), .second, .val (.int p5), .val (.int ca0), .val (.int ca1), .val (.int cb0), .val (.int cb1), .val (.int la), .val (.int lb), .val (.ref sa), .val (.ref sb), .val (.long jb), .second, .val (.long rb), .second, .val (.ref b87), .val (.int kd), .unset, .unset, .unset] [(.long rb), (.long jb), (.ref sb), (.ref b103), (.ref b103)]) := by
          intro t k
          refine K103 _ ?_
          refine XS.dup X103.here hx rfl (hb hby at_215) rfl rfl ?_
          show own_S p e below T103 (mkF m 216 #[.val (.int p0), .val (.long q1), .second, .val (.long q2), .second, .val (.long q3), .second, .val (.long q4), .second, .val (.int p5), .val (.int ca0), .val (.int ca1), .val (.int cb0), .val (.int cb1), .val (.int la), .val (.int lb), .val (.ref sa), .val (.ref sb), .val (.long jb), .second, .val (.long rb), .second, .val (.ref b87), .val (.int kd), .unset, .unset, .unset] [(.ref b103), (.ref b103)]) _
          refine XS.aload X103.here hx rfl (hb hby at_216) rfl rfl ?_
          show own_S p e below T103 (mkF m 218 #[.val (.int p0), .val (.long q1), .second, .val (.long q2), .second, .val (.long q3), .second, .val (.long q4), .second, .val (.int p5), .val (.int ca0), .val (.int ca1), .val (.int cb0), .val (.int cb1), .val (.int la), .val (.int lb), .val (.ref sa), .val (.ref sb), .val (.long jb), .second, .val (.long rb), .second, .val (.ref b87), .val (.int kd), .unset, .unset, .unset] [(.ref sb), (.ref b103), (.ref b103)]) _
          refine XS.lload X103.here hx rfl (hb hby at_218) rfl ?_
          show own_S p e below T103 (mkF m 220 #[.val (.int p0), .val (.long q1), .second, .val (.long q2), .second, .val (.long q3), .second, .val (.long q4), .second, .val (.int p5), .val (.int ca0), .val (.int ca1), .val (.int cb0), .val (.int cb1), .val (.int la), .val (.int lb), .val (.ref sa), .val (.ref sb), .val (.long jb), .second, .val (.long rb), .second, .val (.ref b87), .val (.int kd), .unset, .unset, .unset] [(.long jb), (.ref sb), (.ref b103), (.ref b103)]) _
          refine XS.lload X103.here hx rfl (hb hby at_220) rfl ?_
          exact k
        have Kb103 : Keep T9.heap h103 [] := Keep.ext Kb89 E103
        have sz9_b103 : T9.heap.size ≤ b103 := Nat.le_trans Kb89.1 (Nat.le_of_eq g103.symm)
        obtain ⟨_, _, ⟨T105, L105, k105, n105⟩, -, X105, ⟨Lc105, hQ105, l105, y105, z105⟩, st105⟩ := X103.specialBack hx (y := (⟨"com/example/enact/enact/model/RunKey", "<init>", "(Ljava/lang/String;JJ)V"⟩ : MethodName)) rfl hown (mvT hZ (hw _ (List.mem_of_getElem? (i := 19) rfl))) (mvT hZ (hw _ (List.mem_of_getElem? (i := 20) rfl))) (mvT hZ (hw _ (List.mem_of_getElem? (i := 21) rfl))) (by decide) (backOf (W := 1) (rmri l Z a0 hw [] b103 sb jb rb h103 n0 (Nat.le_trans Z0 Kp103.1) A103 F_workflowId_b103 F_instanceId_b103 F_runId_b103 g_b103) hZ (hw _ (List.mem_of_getElem? (i := 21) rfl)) (hw _ (List.mem_of_getElem? (i := 18) rfl)) (by decide) (by decide)) (g := (mkF m 222 #[.val (.int p0), .val (.long q1), .second, .val (.long q2), .second, .val (.long q3), .second, .val (.long q4), .second, .val (.int p5), .val (.int ca0), .val (.int ca1), .val (.int cb0), .val (.int cb1), .val (.int la), .val (.int lb), .val (.ref sa), .val (.ref sb), .val (.long jb), .second, .val (.long rb), .second, .val (.ref b87), .val (.int kd), .unset, .unset, .unset] [(.long rb), (.long jb), (.ref sb), (.ref b103), (.ref b103)])) rfl (by rw [hml]; rfl) (Steps.refl _) (a := b103) (argsL := [(.ref sb), (.long jb), (.long rb)]) (rest := [(.ref b103)]) (lenOf pd_0_2 rfl) rfl (by show 2 * 0 + _ ≤ _; exact Nat.le_of_eq rfl) (hb hby at_222) (fun _ _ => ⟨rfl, e103, (by decide : 18 + 0 ≤ _), (by decide : 106 + 0 ≤ _)⟩)
        dsimp only [Pt.U, Pt.locs, Pt.cells, Pt.slots] at X105 l105 y105 z105 st105 hQ105
        rw [y105, z105] at X105
        obtain ⟨rfl, Nq105, Kq105, Ex105, Fa105, Fb105, Fc105⟩ := hQ105
        have N105 : Fr n0 L105 := by rw [l105]; exact Fr.app N89 Nq105
        have Kp105 : Keep h0 T105.heap [] := Keep.trans Kp103 Kq105 (allS (Or.inr sz_b103) all0)
        have K105 : own_K p e below SE T105 (mkF m 225 #[.val (.int p0), .val (.long q1), .second, .val (.long q2), .second, .val (.long q3), .second, .val (.long q4), .second, .val (.int p5), .val (.int ca0), .val (.int ca1), .val (.int cb0), .val (.int cb1), .val (.int la), .val (.int lb), .val (.ref sa), .val (.ref sb), .val (.long jb), .second, .val (.long rb), .second, .val (.ref b87), .val (.int kd), .unset, .unset, .unset] [(.ref b103)]) := fun t k => K104 _ (st105.trans k)
        have Kb105 : Keep T9.heap T105.heap [] := Keep.trans Kb103 Kq105 (allS (Or.inr sz9_b103) all0)
        have K107 : own_K p e below SE T105 (mkF m 227 #[.val (.int p0), .val (.long q1), .second, .val (.long q2), .second, .val (.long q3), .second, .val (.long q4), .second, .val (.int p5), .val (.int ca0), .val (.int ca1), .val (.int cb0), .val (.int cb1), .val (.int la), .val (.int lb), .val (.ref sa), .val (.ref sb), .val (.long jb), .second, .val (.long rb), .second, .val (.ref b87), .val (.int kd), .val (.ref b103), .unset, .unset] []) := by
          intro t k
          refine K105 _ ?_
          refine XS.astore X105.here hx rfl (hb hby at_225) rfl rfl (l' := #[.val (.int p0), .val (.long q1), .second, .val (.long q2), .second, .val (.long q3), .second, .val (.long q4), .second, .val (.int p5), .val (.int ca0), .val (.int ca1), .val (.int cb0), .val (.int cb1), .val (.int la), .val (.int lb), .val (.ref sa), .val (.ref sb), .val (.long jb), .second, .val (.long rb), .second, .val (.ref b87), .val (.int kd), .val (.ref b103), .unset, .unset]) rfl ?_
          exact k
        obtain ⟨sn, hsn, K108⟩ : ∃ sn : Int32, sn = (if la = lb then (if la < (1 : Int32) then (if la < (2 : Int32) then (1 : Int32) else (if ca1 = cb1 then (1 : Int32) else (0 : Int32))) else (if ca0 = cb0 then (if la < (2 : Int32) then (1 : Int32) else (if ca1 = cb1 then (1 : Int32) else (0 : Int32))) else (0 : Int32))) else (0 : Int32)) ∧ own_K p e below SE T105 (mkF m 265 #[.val (.int p0), .val (.long q1), .second, .val (.long q2), .second, .val (.long q3), .second, .val (.long q4), .second, .val (.int p5), .val (.int ca0), .val (.int ca1), .val (.int cb0), .val (.int cb1), .val (.int la), .val (.int lb), .val (.ref sa), .val (.ref sb), .val (.long jb), .second, .val (.long rb), .second, .val (.ref b87), .val (.int kd), .val (.ref b103), .unset, .unset] [(.int sn)]) := by
          have K110 : own_K p e below SE T105 (mkF m 231 #[.val (.int p0), .val (.long q1), .second, .val (.long q2), .second, .val (.long q3), .second, .val (.long q4), .second, .val (.int p5), .val (.int ca0), .val (.int ca1), .val (.int cb0), .val (.int cb1), .val (.int la), .val (.int lb), .val (.ref sa), .val (.ref sb), .val (.long jb), .second, .val (.long rb), .second, .val (.ref b87), .val (.int kd), .val (.ref b103), .unset, .unset] [(.int lb), (.int la)]) := by
            intro t k
            refine K107 _ ?_
            refine XS.iload X105.here hx rfl (hb hby at_227) rfl ?_
            show own_S p e below T105 (mkF m 229 #[.val (.int p0), .val (.long q1), .second, .val (.long q2), .second, .val (.long q3), .second, .val (.long q4), .second, .val (.int p5), .val (.int ca0), .val (.int ca1), .val (.int cb0), .val (.int cb1), .val (.int la), .val (.int lb), .val (.ref sa), .val (.ref sb), .val (.long jb), .second, .val (.long rb), .second, .val (.ref b87), .val (.int kd), .val (.ref b103), .unset, .unset] [(.int la)]) _
            refine XS.iload X105.here hx rfl (hb hby at_229) rfl ?_
            exact k
          by_cases c231_109 : la = lb
          · skip
            have K112 : own_K p e below SE T105 (mkF m 237 #[.val (.int p0), .val (.long q1), .second, .val (.long q2), .second, .val (.long q3), .second, .val (.long q4), .second, .val (.int p5), .val (.int ca0), .val (.int ca1), .val (.int cb0), .val (.int cb1), .val (.int la), .val (.int lb), .val (.ref sa), .val (.ref sb), .val (.long jb), .second, .val (.long rb), .second, .val (.ref b87), .val (.int kd), .val (.ref b103), .unset, .unset] [(.int (1 : Int32)), (.int la)]) := by
              intro t k
              refine K110 _ ?_
              refine XS.icmpNo X105.here hx rfl (hb hby at_231) rfl (XT.ii_ne_f c231_109) ?_
              show own_S p e below T105 (mkF m 234 #[.val (.int p0), .val (.long q1), .second, .val (.long q2), .second, .val (.long q3), .second, .val (.long q4), .second, .val (.int p5), .val (.int ca0), .val (.int ca1), .val (.int cb0), .val (.int cb1), .val (.int la), .val (.int lb), .val (.ref sa), .val (.ref sb), .val (.long jb), .second, .val (.long rb), .second, .val (.ref b87), .val (.int kd), .val (.ref b103), .unset, .unset] []) _
              refine XS.iload X105.here hx rfl (hb hby at_234) rfl ?_
              show own_S p e below T105 (mkF m 236 #[.val (.int p0), .val (.long q1), .second, .val (.long q2), .second, .val (.long q3), .second, .val (.long q4), .second, .val (.int p5), .val (.int ca0), .val (.int ca1), .val (.int cb0), .val (.int cb1), .val (.int la), .val (.int lb), .val (.ref sa), .val (.ref sb), .val (.long jb), .second, .val (.long rb), .second, .val (.ref b87), .val (.int kd), .val (.ref b103), .unset, .unset] [(.int la)]) _
              refine XS.iconst X105.here hx rfl (hb hby at_236) ?_
              exact k
            by_cases c237_111 : la < (1 : Int32)
            · skip
              have K114 : own_K p e below SE T105 (mkF m 250 #[.val (.int p0), .val (.long q1), .second, .val (.long q2), .second, .val (.long q3), .second, .val (.long q4), .second, .val (.int p5), .val (.int ca0), .val (.int ca1), .val (.int cb0), .val (.int cb1), .val (.int la), .val (.int lb), .val (.ref sa), .val (.ref sb), .val (.long jb), .second, .val (.long rb), .second, .val (.ref b87), .val (.int kd), .val (.ref b103), .unset, .unset] [(.int (2 : Int32)), (.int la)]) := by
                intro t k
                refine K112 _ ?_
                refine XS.icmpYes X105.here hx rfl (pc0 := 237) (pc' := 247) rfl (hb hby at_237) rfl (XT.ii_lt_t c237_111) (by decide) (by decide) ?_
                show own_S p e below T105 (mkF m 247 #[.val (.int p0), .val (.long q1), .second, .val (.long q2), .second, .val (.long q3), .second, .val (.long q4), .second, .val (.int p5), .val (.int ca0), .val (.int ca1), .val (.int cb0), .val (.int cb1), .val (.int la), .val (.int lb), .val (.ref sa), .val (.ref sb), .val (.long jb), .second, .val (.long rb), .second, .val (.ref b87), .val (.int kd), .val (.ref b103), .unset, .unset] []) _
                refine XS.iload X105.here hx rfl (hb hby at_247) rfl ?_
                show own_S p e below T105 (mkF m 249 #[.val (.int p0), .val (.long q1), .second, .val (.long q2), .second, .val (.long q3), .second, .val (.long q4), .second, .val (.int p5), .val (.int ca0), .val (.int ca1), .val (.int cb0), .val (.int cb1), .val (.int la), .val (.int lb), .val (.ref sa), .val (.ref sb), .val (.long jb), .second, .val (.long rb), .second, .val (.ref b87), .val (.int kd), .val (.ref b103), .unset, .unset] [(.int la)]) _
                refine XS.iconst X105.here hx rfl (hb hby at_249) ?_
                exact k
              by_cases c250_113 : la < (2 : Int32)
              · skip
                have K115 : own_K p e below SE T105 (mkF m 265 #[.val (.int p0), .val (.long q1), .second, .val (.long q2), .second, .val (.long q3), .second, .val (.long q4), .second, .val (.int p5), .val (.int ca0), .val (.int ca1), .val (.int cb0), .val (.int cb1), .val (.int la), .val (.int lb), .val (.ref sa), .val (.ref sb), .val (.long jb), .second, .val (.long rb), .second, .val (.ref b87), .val (.int kd), .val (.ref b103), .unset, .unset] [(.int (1 : Int32))]) := by
                  intro t k
                  refine K114 _ ?_
                  refine XS.icmpYes X105.here hx rfl (pc0 := 250) (pc' := 260) rfl (hb hby at_250) rfl (XT.ii_lt_t c250_113) (by decide) (by decide) ?_
                  show own_S p e below T105 (mkF m 260 #[.val (.int p0), .val (.long q1), .second, .val (.long q2), .second, .val (.long q3), .second, .val (.long q4), .second, .val (.int p5), .val (.int ca0), .val (.int ca1), .val (.int cb0), .val (.int cb1), .val (.int la), .val (.int lb), .val (.ref sa), .val (.ref sb), .val (.long jb), .second, .val (.long rb), .second, .val (.ref b87), .val (.int kd), .val (.ref b103), .unset, .unset] []) _
                  refine XS.iconst X105.here hx rfl (hb hby at_260) ?_
                  show own_S p e below T105 (mkF m 261 #[.val (.int p0), .val (.long q1), .second, .val (.long q2), .second, .val (.long q3), .second, .val (.long q4), .second, .val (.int p5), .val (.int ca0), .val (.int ca1), .val (.int cb0), .val (.int cb1), .val (.int la), .val (.int lb), .val (.ref sa), .val (.ref sb), .val (.long jb), .second, .val (.long rb), .second, .val (.ref b87), .val (.int kd), .val (.ref b103), .unset, .unset] [(.int (1 : Int32))]) _
                  refine XS.goto X105.here hx rfl (pc0 := 261) (pc' := 265) rfl (hb hby at_261) (by decide) (by decide) ?_
                  exact k
                exact ⟨(1 : Int32), (by simp only [if_pos c231_109, if_pos c237_111, if_pos c250_113]), K115⟩
              · skip
                have K117 : own_K p e below SE T105 (mkF m 257 #[.val (.int p0), .val (.long q1), .second, .val (.long q2), .second, .val (.long q3), .second, .val (.long q4), .second, .val (.int p5), .val (.int ca0), .val (.int ca1), .val (.int cb0), .val (.int cb1), .val (.int la), .val (.int lb), .val (.ref sa), .val (.ref sb), .val (.long jb), .second, .val (.long rb), .second, .val (.ref b87), .val (.int kd), .val (.ref b103), .unset, .unset] [(.int cb1), (.int ca1)]) := by
                  intro t k
                  refine K114 _ ?_
                  refine XS.icmpNo X105.here hx rfl (hb hby at_250) rfl (XT.ii_lt_f c250_113) ?_
                  show own_S p e below T105 (mkF m 253 #[.val (.int p0), .val (.long q1), .second, .val (.long q2), .second, .val (.long q3), .second, .val (.long q4), .second, .val (.int p5), .val (.int ca0), .val (.int ca1), .val (.int cb0), .val (.int cb1), .val (.int la), .val (.int lb), .val (.ref sa), .val (.ref sb), .val (.long jb), .second, .val (.long rb), .second, .val (.ref b87), .val (.int kd), .val (.ref b103), .unset, .unset] []) _
                  refine XS.iload X105.here hx rfl (hb hby at_253) rfl ?_
                  show own_S p e below T105 (mkF m 255 #[.val (.int p0), .val (.long q1), .second, .val (.long q2), .second, .val (.long q3), .second, .val (.long q4), .second, .val (.int p5), .val (.int ca0), .val (.int ca1), .val (.int cb0), .val (.int cb1), .val (.int la), .val (.int lb), .val (.ref sa), .val (.ref sb), .val (.long jb), .second, .val (.long rb), .second, .val (.ref b87), .val (.int kd), .val (.ref b103), .unset, .unset] [(.int ca1)]) _
                  refine XS.iload X105.here hx rfl (hb hby at_255) rfl ?_
                  exact k
                by_cases c257_116 : ca1 = cb1
                · skip
                  have K118 : own_K p e below SE T105 (mkF m 265 #[.val (.int p0), .val (.long q1), .second, .val (.long q2), .second, .val (.long q3), .second, .val (.long q4), .second, .val (.int p5), .val (.int ca0), .val (.int ca1), .val (.int cb0), .val (.int cb1), .val (.int la), .val (.int lb), .val (.ref sa), .val (.ref sb), .val (.long jb), .second, .val (.long rb), .second, .val (.ref b87), .val (.int kd), .val (.ref b103), .unset, .unset] [(.int (1 : Int32))]) := by
                    intro t k
                    refine K117 _ ?_
                    refine XS.icmpNo X105.here hx rfl (hb hby at_257) rfl (XT.ii_ne_f c257_116) ?_
                    show own_S p e below T105 (mkF m 260 #[.val (.int p0), .val (.long q1), .second, .val (.long q2), .second, .val (.long q3), .second, .val (.long q4), .second, .val (.int p5), .val (.int ca0), .val (.int ca1), .val (.int cb0), .val (.int cb1), .val (.int la), .val (.int lb), .val (.ref sa), .val (.ref sb), .val (.long jb), .second, .val (.long rb), .second, .val (.ref b87), .val (.int kd), .val (.ref b103), .unset, .unset] []) _
                    refine XS.iconst X105.here hx rfl (hb hby at_260) ?_
                    show own_S p e below T105 (mkF m 261 #[.val (.int p0), .val (.long q1), .second, .val (.long q2), .second, .val (.long q3), .second, .val (.long q4), .second, .val (.int p5), .val (.int ca0), .val (.int ca1), .val (.int cb0), .val (.int cb1), .val (.int la), .val (.int lb), .val (.ref sa), .val (.ref sb), .val (.long jb), .second, .val (.long rb), .second, .val (.ref b87), .val (.int kd), .val (.ref b103), .unset, .unset] [(.int (1 : Int32))]) _
                    refine XS.goto X105.here hx rfl (pc0 := 261) (pc' := 265) rfl (hb hby at_261) (by decide) (by decide) ?_
                    exact k
                  exact ⟨(1 : Int32), (by simp only [if_pos c231_109, if_pos c237_111, if_neg c250_113, if_pos c257_116]), K118⟩
                · skip
                  have K119 : own_K p e below SE T105 (mkF m 265 #[.val (.int p0), .val (.long q1), .second, .val (.long q2), .second, .val (.long q3), .second, .val (.long q4), .second, .val (.int p5), .val (.int ca0), .val (.int ca1), .val (.int cb0), .val (.int cb1), .val (.int la), .val (.int lb), .val (.ref sa), .val (.ref sb), .val (.long jb), .second, .val (.long rb), .second, .val (.ref b87), .val (.int kd), .val (.ref b103), .unset, .unset] [(.int (0 : Int32))]) := by
                    intro t k
                    refine K117 _ ?_
                    refine XS.icmpYes X105.here hx rfl (pc0 := 257) (pc' := 264) rfl (hb hby at_257) rfl (XT.ii_ne_t c257_116) (by decide) (by decide) ?_
                    show own_S p e below T105 (mkF m 264 #[.val (.int p0), .val (.long q1), .second, .val (.long q2), .second, .val (.long q3), .second, .val (.long q4), .second, .val (.int p5), .val (.int ca0), .val (.int ca1), .val (.int cb0), .val (.int cb1), .val (.int la), .val (.int lb), .val (.ref sa), .val (.ref sb), .val (.long jb), .second, .val (.long rb), .second, .val (.ref b87), .val (.int kd), .val (.ref b103), .unset, .unset] []) _
                    refine XS.iconst X105.here hx rfl (hb hby at_264) ?_
                    exact k
                  exact ⟨(0 : Int32), (by simp only [if_pos c231_109, if_pos c237_111, if_neg c250_113, if_neg c257_116]), K119⟩
            · skip
              have K121 : own_K p e below SE T105 (mkF m 244 #[.val (.int p0), .val (.long q1), .second, .val (.long q2), .second, .val (.long q3), .second, .val (.long q4), .second, .val (.int p5), .val (.int ca0), .val (.int ca1), .val (.int cb0), .val (.int cb1), .val (.int la), .val (.int lb), .val (.ref sa), .val (.ref sb), .val (.long jb), .second, .val (.long rb), .second, .val (.ref b87), .val (.int kd), .val (.ref b103), .unset, .unset] [(.int cb0), (.int ca0)]) := by
                intro t k
                refine K112 _ ?_
                refine XS.icmpNo X105.here hx rfl (hb hby at_237) rfl (XT.ii_lt_f c237_111) ?_
                show own_S p e below T105 (mkF m 240 #[.val (.int p0), .val (.long q1), .second, .val (.long q2), .second, .val (.long q3), .second, .val (.long q4), .second, .val (.int p5), .val (.int ca0), .val (.int ca1), .val (.int cb0), .val (.int cb1), .val (.int la), .val (.int lb), .val (.ref sa), .val (.ref sb), .val (.long jb), .second, .val (.long rb), .second, .val (.ref b87), .val (.int kd), .val (.ref b103), .unset, .unset] []) _
                refine XS.iload X105.here hx rfl (hb hby at_240) rfl ?_
                show own_S p e below T105 (mkF m 242 #[.val (.int p0), .val (.long q1), .second, .val (.long q2), .second, .val (.long q3), .second, .val (.long q4), .second, .val (.int p5), .val (.int ca0), .val (.int ca1), .val (.int cb0), .val (.int cb1), .val (.int la), .val (.int lb), .val (.ref sa), .val (.ref sb), .val (.long jb), .second, .val (.long rb), .second, .val (.ref b87), .val (.int kd), .val (.ref b103), .unset, .unset] [(.int ca0)]) _
                refine XS.iload X105.here hx rfl (hb hby at_242) rfl ?_
                exact k
              by_cases c244_120 : ca0 = cb0
              · skip
                have K123 : own_K p e below SE T105 (mkF m 250 #[.val (.int p0), .val (.long q1), .second, .val (.long q2), .second, .val (.long q3), .second, .val (.long q4), .second, .val (.int p5), .val (.int ca0), .val (.int ca1), .val (.int cb0), .val (.int cb1), .val (.int la), .val (.int lb), .val (.ref sa), .val (.ref sb), .val (.long jb), .second, .val (.long rb), .second, .val (.ref b87), .val (.int kd), .val (.ref b103), .unset, .unset] [(.int (2 : Int32)), (.int la)]) := by
                  intro t k
                  refine K121 _ ?_
                  refine XS.icmpNo X105.here hx rfl (hb hby at_244) rfl (XT.ii_ne_f c244_120) ?_
                  show own_S p e below T105 (mkF m 247 #[.val (.int p0), .val (.long q1), .second, .val (.long q2), .second, .val (.long q3), .second, .val (.long q4), .second, .val (.int p5), .val (.int ca0), .val (.int ca1), .val (.int cb0), .val (.int cb1), .val (.int la), .val (.int lb), .val (.ref sa), .val (.ref sb), .val (.long jb), .second, .val (.long rb), .second, .val (.ref b87), .val (.int kd), .val (.ref b103), .unset, .unset] []) _
                  refine XS.iload X105.here hx rfl (hb hby at_247) rfl ?_
                  show own_S p e below T105 (mkF m 249 #[.val (.int p0), .val (.long q1), .second, .val (.long q2), .second, .val (.long q3), .second, .val (.long q4), .second, .val (.int p5), .val (.int ca0), .val (.int ca1), .val (.int cb0), .val (.int cb1), .val (.int la), .val (.int lb), .val (.ref sa), .val (.ref sb), .val (.long jb), .second, .val (.long rb), .second, .val (.ref b87), .val (.int kd), .val (.ref b103), .unset, .unset] [(.int la)]) _
                  refine XS.iconst X105.here hx rfl (hb hby at_249) ?_
                  exact k
                by_cases c250_122 : la < (2 : Int32)
                · skip
                  have K124 : own_K p e below SE T105 (mkF m 265 #[.val (.int p0), .val (.long q1), .second, .val (.long q2), .second, .val (.long q3), .second, .val (.long q4), .second, .val (.int p5), .val (.int ca0), .val (.int ca1), .val (.int cb0), .val (.int cb1), .val (.int la), .val (.int lb), .val (.ref sa), .val (.ref sb), .val (.long jb), .second, .val (.long rb), .second, .val (.ref b87), .val (.int kd), .val (.ref b103), .unset, .unset] [(.int (1 : Int32))]) := by
                    intro t k
                    refine K123 _ ?_
                    refine XS.icmpYes X105.here hx rfl (pc0 := 250) (pc' := 260) rfl (hb hby at_250) rfl (XT.ii_lt_t c250_122) (by decide) (by decide) ?_
                    show own_S p e below T105 (mkF m 260 #[.val (.int p0), .val (.long q1), .second, .val (.long q2), .second, .val (.long q3), .second, .val (.long q4), .second, .val (.int p5), .val (.int ca0), .val (.int ca1), .val (.int cb0), .val (.int cb1), .val (.int la), .val (.int lb), .val (.ref sa), .val (.ref sb), .val (.long jb), .second, .val (.long rb), .second, .val (.ref b87), .val (.int kd), .val (.ref b103), .unset, .unset] []) _
                    refine XS.iconst X105.here hx rfl (hb hby at_260) ?_
                    show own_S p e below T105 (mkF m 261 #[.val (.int p0), .val (.long q1), .second, .val (.long q2), .second, .val (.long q3), .second, .val (.long q4), .second, .val (.int p5), .val (.int ca0), .val (.int ca1), .val (.int cb0), .val (.int cb1), .val (.int la), .val (.int lb), .val (.ref sa), .val (.ref sb), .val (.long jb), .second, .val (.long rb), .second, .val (.ref b87), .val (.int kd), .val (.ref b103), .unset, .unset] [(.int (1 : Int32))]) _
                    refine XS.goto X105.here hx rfl (pc0 := 261) (pc' := 265) rfl (hb hby at_261) (by decide) (by decide) ?_
                    exact k
                  exact ⟨(1 : Int32), (by simp only [if_pos c231_109, if_neg c237_111, if_pos c244_120, if_pos c250_122]), K124⟩
                · skip
                  have K126 : own_K p e below SE T105 (mkF m 257 #[.val (.int p0), .val (.long q1), .second, .val (.long q2), .second, .val (.long q3), .second, .val (.long q4), .second, .val (.int p5), .val (.int ca0), .val (.int ca1), .val (.int cb0), .val (.int cb1), .val (.int la), .val (.int lb), .val (.ref sa), .val (.ref sb), .val (.long jb), .second, .val (.long rb), .second, .val (.ref b87), .val (.int kd), .val (.ref b103), .unset, .unset] [(.int cb1), (.int ca1)]) := by
                    intro t k
                    refine K123 _ ?_
                    refine XS.icmpNo X105.here hx rfl (hb hby at_250) rfl (XT.ii_lt_f c250_122) ?_
                    show own_S p e below T105 (mkF m 253 #[.val (.int p0), .val (.long q1), .second, .val (.long q2), .second, .val (.long q3), .second, .val (.long q4), .second, .val (.int p5), .val (.int ca0), .val (.int ca1), .val (.int cb0), .val (.int cb1), .val (.int la), .val (.int lb), .val (.ref sa), .val (.ref sb), .val (.long jb), .second, .val (.long rb), .second, .val (.ref b87), .val (.int kd), .val (.ref b103), .unset, .unset] []) _
                    refine XS.iload X105.here hx rfl (hb hby at_253) rfl ?_
                    show own_S p e below T105 (mkF m 255 #[.val (.int p0), .val (.long q1), .second, .val (.long q2), .second, .val (.long q3), .second, .val (.long q4), .second, .val (.int p5), .val (.int ca0), .val (.int ca1), .val (.int cb0), .val (.int cb1), .val (.int la), .val (.int lb), .val (.ref sa), .val (.ref sb), .val (.long jb), .second, .val (.long rb), .second, .val (.ref b87), .val (.int kd), .val (.ref b103), .unset, .unset] [(.int ca1)]) _
                    refine XS.iload X105.here hx rfl (hb hby at_255) rfl ?_
                    exact k
                  by_cases c257_125 : ca1 = cb1
                  · skip
                    have K127 : own_K p e below SE T105 (mkF m 265 #[.val (.int p0), .val (.long q1), .second, .val (.long q2), .second, .val (.long q3), .second, .val (.long q4), .second, .val (.int p5), .val (.int ca0), .val (.int ca1), .val (.int cb0), .val (.int cb1), .val (.int la), .val (.int lb), .val (.ref sa), .val (.ref sb), .val (.long jb), .second, .val (.long rb), .second, .val (.ref b87), .val (.int kd), .val (.ref b103), .unset, .unset] [(.int (1 : Int32))]) := by
                      intro t k
                      refine K126 _ ?_
                      refine XS.icmpNo X105.here hx rfl (hb hby at_257) rfl (XT.ii_ne_f c257_125) ?_
                      show own_S p e below T105 (mkF m 260 #[.val (.int p0), .val (.long q1), .second, .val (.long q2), .second, .val (.long q3), .second, .val (.long q4), .second, .val (.int p5), .val (.int ca0), .val (.int ca1), .val (.int cb0), .val (.int cb1), .val (.int la), .val (.int lb), .val (.ref sa), .val (.ref sb), .val (.long jb), .second, .val (.long rb), .second, .val (.ref b87), .val (.int kd), .val (.ref b103), .unset, .unset] []) _
                      refine XS.iconst X105.here hx rfl (hb hby at_260) ?_
                      show own_S p e below T105 (mkF m 261 #[.val (.int p0), .val (.long q1), .second, .val (.long q2), .second, .val (.long q3), .second, .val (.long q4), .second, .val (.int p5), .val (.int ca0), .val (.int ca1), .val (.int cb0), .val (.int cb1), .val (.int la), .val (.int lb), .val (.ref sa), .val (.ref sb), .val (.long jb), .second, .val (.long rb), .second, .val (.ref b87), .val (.int kd), .val (.ref b103), .unset, .unset] [(.int (1 : Int32))]) _
                      refine XS.goto X105.here hx rfl (pc0 := 261) (pc' := 265) rfl (hb hby at_261) (by decide) (by decide) ?_
                      exact k
                    exact ⟨(1 : Int32), (by simp only [if_pos c231_109, if_neg c237_111, if_pos c244_120, if_neg c250_122, if_pos c257_125]), K127⟩
                  · skip
                    have K128 : own_K p e below SE T105 (mkF m 265 #[.val (.int p0), .val (.long q1), .second, .val (.long q2), .second, .val (.long q3), .second, .val (.long q4), .second, .val (.int p5), .val (.int ca0), .val (.int ca1), .val (.int cb0), .val (.int cb1), .val (.int la), .val (.int lb), .val (.ref sa), .val (.ref sb), .val (.long jb), .second, .val (.long rb), .second, .val (.ref b87), .val (.int kd), .val (.ref b103), .unset, .unset] [(.int (0 : Int32))]) := by
                      intro t k
                      refine K126 _ ?_
                      refine XS.icmpYes X105.here hx rfl (pc0 := 257) (pc' := 264) rfl (hb hby at_257) rfl (XT.ii_ne_t c257_125) (by decide) (by decide) ?_
                      show own_S p e below T105 (mkF m 264 #[.val (.int p0), .val (.long q1), .second, .val (.long q2), .second, .val (.long q3), .second, .val (.long q4), .second, .val (.int p5), .val (.int ca0), .val (.int ca1), .val (.int cb0), .val (.int cb1), .val (.int la), .val (.int lb), .val (.ref sa), .val (.ref sb), .val (.long jb), .second, .val (.long rb), .second, .val (.ref b87), .val (.int kd), .val (.ref b103), .unset, .unset] []) _
                      refine XS.iconst X105.here hx rfl (hb hby at_264) ?_
                      exact k
                    exact ⟨(0 : Int32), (by simp only [if_pos c231_109, if_neg c237_111, if_pos c244_120, if_neg c250_122, if_neg c257_125]), K128⟩
              · skip
                have K129 : own_K p e below SE T105 (mkF m 265 #[.val (.int p0), .val (.long q1), .second, .val (.long q2), .second, .val (.long q3), .second, .val (.long q4), .second, .val (.int p5), .val (.int ca0), .val (.int ca1), .val (.int cb0), .val (.int cb1), .val (.int la), .val (.int lb), .val (.ref sa), .val (.ref sb), .val (.long jb), .second, .val (.long rb), .second, .val (.ref b87), .val (.int kd), .val (.ref b103), .unset, .unset] [(.int (0 : Int32))]) := by
                  intro t k
                  refine K121 _ ?_
                  refine XS.icmpYes X105.here hx rfl (pc0 := 244) (pc' := 264) rfl (hb hby at_244) rfl (XT.ii_ne_t c244_120) (by decide) (by decide) ?_
                  show own_S p e below T105 (mkF m 264 #[.val (.int p0), .val (.long q1), .second, .val (.long q2), .second, .val (.long q3), .second, .val (.long q4), .second, .val (.int p5), .val (.int ca0), .val (.int ca1), .val (.int cb0), .val (.int cb1), .val (.int la), .val (.int lb), .val (.ref sa), .val (.ref sb), .val (.long jb), .second, .val (.long rb), .second, .val (.ref b87), .val (.int kd), .val (.ref b103), .unset, .unset] []) _
                  refine XS.iconst X105.here hx rfl (hb hby at_264) ?_
                  exact k
                exact ⟨(0 : Int32), (by simp only [if_pos c231_109, if_neg c237_111, if_neg c244_120]), K129⟩
          · skip
            have K130 : own_K p e below SE T105 (mkF m 265 #[.val (.int p0), .val (.long q1), .second, .val (.long q2), .second, .val (.long q3), .second, .val (.long q4), .second, .val (.int p5), .val (.int ca0), .val (.int ca1), .val (.int cb0), .val (.int cb1), .val (.int la), .val (.int lb), .val (.ref sa), .val (.ref sb), .val (.long jb), .second, .val (.long rb), .second, .val (.ref b87), .val (.int kd), .val (.ref b103), .unset, .unset] [(.int (0 : Int32))]) := by
              intro t k
              refine K110 _ ?_
              refine XS.icmpYes X105.here hx rfl (pc0 := 231) (pc' := 264) rfl (hb hby at_231) rfl (XT.ii_ne_t c231_109) (by decide) (by decide) ?_
              show own_S p e below T105 (mkF m 264 #[.val (.int p0), .val (.long q1), .second, .val (.long q2), .second, .val (.long q3), .second, .val (.long q4), .second, .val (.int p5), .val (.int ca0), .val (.int ca1), .val (.int cb0), .val (.int cb1), .val (.int la), .val (.int lb), .val (.ref sa), .val (.ref sb), .val (.long jb), .second, .val (.long rb), .second, .val (.ref b87), .val (.int kd), .val (.ref b103), .unset, .unset] []) _
              refine XS.iconst X105.here hx rfl (hb hby at_264) ?_
              exact k
            exact ⟨(0 : Int32), (by simp only [if_neg c231_109]), K130⟩
        have K132 : own_K p e below SE T105 (mkF m 267 #[.val (.int p0), .val (.long q1), .second, .val (.long q2), .second, .val (.long q3), .second, .val (.long q4), .second, .val (.int p5), .val (.int ca0), .val (.int ca1), .val (.int cb0), .val (.int cb1), .val (.int la), .val (.int lb), .val (.ref sa), .val (.ref sb), .val (.long jb), .second, .val (.long rb), .second, .val (.ref b87), .val (.int kd), .val (.ref b103), .val (.int sn), .unset] []) := by
          intro t k
          refine K108 _ ?_
          refine XS.istore X105.here hx rfl (hb hby at_265) rfl (l' := #[.val (.int p0), .val (.long q1), .second, .val (.long q2), .second, .val (.long q3), .second, .val (.long q4), .second, .val (.int p5), .val (.int ca0), .val (.int ca1), .val (.int cb0), .val (.int cb1), .val (.int la), .val (.int lb), .val (.ref sa), .val (.ref sb), .val (.long jb), .second, .val (.long rb), .second, .val (.ref b87), .val (.int kd), .val (.ref b103), .val (.int sn), .unset]) rfl ?_
          exact k
        obtain ⟨ex, hex, K133⟩ : ∃ ex : Int32, ex = (if sn = 0 then (0 : Int32) else (if q1 = jb then (if q3 = rb then (1 : Int32) else (0 : Int32)) else (0 : Int32))) ∧ own_K p e below SE T105 (mkF m 292 #[.val (.int p0), .val (.long q1), .second, .val (.long q2), .second, .val (.long q3), .second, .val (.long q4), .second, .val (.int p5), .val (.int ca0), .val (.int ca1), .val (.int cb0), .val (.int cb1), .val (.int la), .val (.int lb), .val (.ref sa), .val (.ref sb), .val (.long jb), .second, .val (.long rb), .second, .val (.ref b87), .val (.int kd), .val (.ref b103), .val (.int sn), .unset] [(.int ex)]) := by
          have K135 : own_K p e below SE T105 (mkF m 269 #[.val (.int p0), .val (.long q1), .second, .val (.long q2), .second, .val (.long q3), .second, .val (.long q4), .second, .val (.int p5), .val (.int ca0), .val (.int ca1), .val (.int cb0), .val (.int cb1), .val (.int la), .val (.int lb), .val (.ref sa), .val (.ref sb), .val (.long jb), .second, .val (.long rb), .second, .val (.ref b87), .val (.int kd), .val (.ref b103), .val (.int sn), .unset] [(.int sn)]) := by
            intro t k
            refine K132 _ ?_
            refine XS.iload X105.here hx rfl (hb hby at_267) rfl ?_
            exact k
          by_cases c269_134 : sn = 0
          · skip
            have K136 : own_K p e below SE T105 (mkF m 292 #[.val (.int p0), .val (.long q1), .second, .val (.long q2), .second, .val (.long q3), .second, .val (.long q4), .second, .val (.int p5), .val (.int ca0), .val (.int ca1), .val (.int cb0), .val (.int cb1), .val (.int la), .val (.int lb), .val (.ref sa), .val (.ref sb), .val (.long jb), .second, .val (.long rb), .second, .val (.ref b87), .val (.int kd), .val (.ref b103), .val (.int sn), .unset] [(.int (0 : Int32))]) := by
              intro t k
              refine K135 _ ?_
              refine XS.ifYes X105.here hx rfl (pc0 := 269) (pc' := 291) rfl (hb hby at_269) rfl (XT.i0_eq_t c269_134) (by decide) (by decide) ?_
              show own_S p e below T105 (mkF m 291 #[.val (.int p0), .val (.long q1), .second, .val (.long q2), .second, .val (.long q3), .second, .val (.long q4), .second, .val (.int p5), .val (.int ca0), .val (.int ca1), .val (.int cb0), .val (.int cb1), .val (.int la), .val (.int lb), .val (.ref sa), .val (.ref sb), .val (.long jb), .second, .val (.long rb), .second, .val (.ref b87), .val (.int kd), .val (.ref b103), .val (.int sn), .unset] []) _
              refine XS.iconst X105.here hx rfl (hb hby at_291) ?_
              exact k
            exact ⟨(0 : Int32), (by simp only [if_pos c269_134]), K136⟩
          · skip
            have K138 : own_K p e below SE T105 (mkF m 276 #[.val (.int p0), .val (.long q1), .second, .val (.long q2), .second, .val (.long q3), .second, .val (.long q4), .second, .val (.int p5), .val (.int ca0), .val (.int ca1), .val (.int cb0), .val (.int cb1), .val (.int la), .val (.int lb), .val (.ref sa), .val (.ref sb), .val (.long jb), .second, .val (.long rb), .second, .val (.ref b87), .val (.int kd), .val (.ref b103), .val (.int sn), .unset] [(.int (XT.cmpL q1 jb))]) := by
              intro t k
              refine K135 _ ?_
              refine XS.ifNo X105.here hx rfl (hb hby at_269) rfl (XT.i0_eq_f c269_134) ?_
              show own_S p e below T105 (mkF m 272 #[.val (.int p0), .val (.long q1), .second, .val (.long q2), .second, .val (.long q3), .second, .val (.long q4), .second, .val (.int p5), .val (.int ca0), .val (.int ca1), .val (.int cb0), .val (.int cb1), .val (.int la), .val (.int lb), .val (.ref sa), .val (.ref sb), .val (.long jb), .second, .val (.long rb), .second, .val (.ref b87), .val (.int kd), .val (.ref b103), .val (.int sn), .unset] []) _
              refine XS.lloadN X105.here hx rfl (hb hby at_272) rfl ?_
              show own_S p e below T105 (mkF m 273 #[.val (.int p0), .val (.long q1), .second, .val (.long q2), .second, .val (.long q3), .second, .val (.long q4), .second, .val (.int p5), .val (.int ca0), .val (.int ca1), .val (.int cb0), .val (.int cb1), .val (.int la), .val (.int lb), .val (.ref sa), .val (.ref sb), .val (.long jb), .second, .val (.long rb), .second, .val (.ref b87), .val (.int kd), .val (.ref b103), .val (.int sn), .unset] [(.long q1)]) _
              refine XS.lload X105.here hx rfl (hb hby at_273) rfl ?_
              show own_S p e below T105 (mkF m 275 #[.val (.int p0), .val (.long q1), .second, .val (.long q2), .second, .val (.long q3), .second, .val (.long q4), .second, .val (.int p5), .val (.int ca0), .val (.int ca1), .val (.int cb0), .val (.int cb1), .val (.int la), .val (.int lb), .val (.ref sa), .val (.ref sb), .val (.long jb), .second, .val (.long rb), .second, .val (.ref b87), .val (.int kd), .val (.ref b103), .val (.int sn), .unset] [(.long jb), (.long q1)]) _
              refine XT.lcmp X105.here hx rfl (hb hby at_275) rfl ?_
              exact k
            by_cases c276_137 : q1 = jb
            · skip
              have K140 : own_K p e below SE T105 (mkF m 284 #[.val (.int p0), .val (.long q1), .second, .val (.long q2), .second, .val (.long q3), .second, .val (.long q4), .second, .val (.int p5), .val (.int ca0), .val (.int ca1), .val (.int cb0), .val (.int cb1), .val (.int la), .val (.int lb), .val (.ref sa), .val (.ref sb), .val (.long jb), .second, .val (.long rb), .second, .val (.ref b87), .val (.int kd), .val (.ref b103), .val (.int sn), .unset] [(.int (XT.cmpL q3 rb))]) := by
                intro t k
                refine K138 _ ?_
                refine XS.ifNo X105.here hx rfl (hb hby at_276) rfl (XT.ll_ne_f c276_137) ?_
                show own_S p e below T105 (mkF m 279 #[.val (.int p0), .val (.long q1), .second, .val (.long q2), .second, .val (.long q3), .second, .val (.long q4), .second, .val (.int p5), .val (.int ca0), .val (.int ca1), .val (.int cb0), .val (.int cb1), .val (.int la), .val (.int lb), .val (.ref sa), .val (.ref sb), .val (.long jb), .second, .val (.long rb), .second, .val (.ref b87), .val (.int kd), .val (.ref b103), .val (.int sn), .unset] []) _
                refine XS.lload X105.here hx rfl (hb hby at_279) rfl ?_
                show own_S p e below T105 (mkF m 281 #[.val (.int p0), .val (.long q1), .second, .val (.long q2), .second, .val (.long q3), .second, .val (.long q4), .second, .val (.int p5), .val (.int ca0), .val (.int ca1), .val (.int cb0), .val (.int cb1), .val (.int la), .val (.int lb), .val (.ref sa), .val (.ref sb), .val (.long jb), .second, .val (.long rb), .second, .val (.ref b87), .val (.int kd), .val (.ref b103), .val (.int sn), .unset] [(.long q3)]) _
                refine XS.lload X105.here hx rfl (hb hby at_281) rfl ?_
                show own_S p e below T105 (mkF m 283 #[.val (.int p0), .val (.long q1), .second, .val (.long q2), .second, .val (.long q3), .second, .val (.long q4), .second, .val (.int p5), .val (.int ca0), .val (.int ca1), .val (.int cb0), .val (.int cb1), .val (.int la), .val (.int lb), .val (.ref sa), .val (.ref sb), .val (.long jb), .second, .val (.long rb), .second, .val (.ref b87), .val (.int kd), .val (.ref b103), .val (.int sn), .unset] [(.long rb), (.long q3)]) _
                refine XT.lcmp X105.here hx rfl (hb hby at_283) rfl ?_
                exact k
              by_cases c284_139 : q3 = rb
              · skip
                have K141 : own_K p e below SE T105 (mkF m 292 #[.val (.int p0), .val (.long q1), .second, .val (.long q2), .second, .val (.long q3), .second, .val (.long q4), .second, .val (.int p5), .val (.int ca0), .val (.int ca1), .val (.int cb0), .val (.int cb1), .val (.int la), .val (.int lb), .val (.ref sa), .val (.ref sb), .val (.long jb), .second, .val (.long rb), .second, .val (.ref b87), .val (.int kd), .val (.ref b103), .val (.int sn), .unset] [(.int (1 : Int32))]) := by
                  intro t k
                  refine K140 _ ?_
                  refine XS.ifNo X105.here hx rfl (hb hby at_284) rfl (XT.ll_ne_f c284_139) ?_
                  show own_S p e below T105 (mkF m 287 #[.val (.int p0), .val (.long q1), .second, .val (.long q2), .second, .val (.long q3), .second, .val (.long q4), .second, .val (.int p5), .val (.int ca0), .val (.int ca1), .val (.int cb0), .val (.int cb1), .val (.int la), .val (.int lb), .val (.ref sa), .val (.ref sb), .val (.long jb), .second, .val (.long rb), .second, .val (.ref b87), .val (.int kd), .val (.ref b103), .val (.int sn), .unset] []) _
                  refine XS.iconst X105.here hx rfl (hb hby at_287) ?_
                  show own_S p e below T105 (mkF m 288 #[.val (.int p0), .val (.long q1), .second, .val (.long q2), .second, .val (.long q3), .second, .val (.long q4), .second, .val (.int p5), .val (.int ca0), .val (.int ca1), .val (.int cb0), .val (.int cb1), .val (.int la), .val (.int lb), .val (.ref sa), .val (.ref sb), .val (.long jb), .second, .val (.long rb), .second, .val (.ref b87), .val (.int kd), .val (.ref b103), .val (.int sn), .unset] [(.int (1 : Int32))]) _
                  refine XS.goto X105.here hx rfl (pc0 := 288) (pc' := 292) rfl (hb hby at_288) (by decide) (by decide) ?_
                  exact k
                exact ⟨(1 : Int32), (by simp only [if_neg c269_134, if_pos c276_137, if_pos c284_139]), K141⟩
              · skip
                have K142 : own_K p e below SE T105 (mkF m 292 #[.val (.int p0), .val (.long q1), .second, .val (.long q2), .second, .val (.long q3), .second, .val (.long q4), .second, .val (.int p5), .val (.int ca0), .val (.int ca1), .val (.int cb0), .val (.int cb1), .val (.int la), .val (.int lb), .val (.ref sa), .val (.ref sb), .val (.long jb), .second, .val (.long rb), .second, .val (.ref b87), .val (.int kd), .val (.ref b103), .val (.int sn), .unset] [(.int (0 : Int32))]) := by
                  intro t k
                  refine K140 _ ?_
                  refine XS.ifYes X105.here hx rfl (pc0 := 284) (pc' := 291) rfl (hb hby at_284) rfl (XT.ll_ne_t c284_139) (by decide) (by decide) ?_
                  show own_S p e below T105 (mkF m 291 #[.val (.int p0), .val (.long q1), .second, .val (.long q2), .second, .val (.long q3), .second, .val (.long q4), .second, .val (.int p5), .val (.int ca0), .val (.int ca1), .val (.int cb0), .val (.int cb1), .val (.int la), .val (.int lb), .val (.ref sa), .val (.ref sb), .val (.long jb), .second, .val (.long rb), .second, .val (.ref b87), .val (.int kd), .val (.ref b103), .val (.int sn), .unset] []) _
                  refine XS.iconst X105.here hx rfl (hb hby at_291) ?_
                  exact k
                exact ⟨(0 : Int32), (by simp only [if_neg c269_134, if_pos c276_137, if_neg c284_139]), K142⟩
            · skip
              have K143 : own_K p e below SE T105 (mkF m 292 #[.val (.int p0), .val (.long q1), .second, .val (.long q2), .second, .val (.long q3), .second, .val (.long q4), .second, .val (.int p5), .val (.int ca0), .val (.int ca1), .val (.int cb0), .val (.int cb1), .val (.int la), .val (.int lb), .val (.ref sa), .val (.ref sb), .val (.long jb), .second, .val (.long rb), .second, .val (.ref b87), .val (.int kd), .val (.ref b103), .val (.int sn), .unset] [(.int (0 : Int32))]) := by
                intro t k
                refine K138 _ ?_
                refine XS.ifYes X105.here hx rfl (pc0 := 276) (pc' := 291) rfl (hb hby at_276) rfl (XT.ll_ne_t c276_137) (by decide) (by decide) ?_
                show own_S p e below T105 (mkF m 291 #[.val (.int p0), .val (.long q1), .second, .val (.long q2), .second, .val (.long q3), .second, .val (.long q4), .second, .val (.int p5), .val (.int ca0), .val (.int ca1), .val (.int cb0), .val (.int cb1), .val (.int la), .val (.int lb), .val (.ref sa), .val (.ref sb), .val (.long jb), .second, .val (.long rb), .second, .val (.ref b87), .val (.int kd), .val (.ref b103), .val (.int sn), .unset] []) _
                refine XS.iconst X105.here hx rfl (hb hby at_291) ?_
                exact k
              exact ⟨(0 : Int32), (by simp only [if_neg c269_134, if_neg c276_137]), K143⟩
        have hsn2 := own_sn la lb ca0 ca1 cb0 cb1 sn hla3 hlb3 ha0 ha1 hb0 hb1 hsn
        have K144 : own_K p e below SE T105 (mkF m 298 #[.val (.int p0), .val (.long q1), .second, .val (.long q2), .second, .val (.long q3), .second, .val (.long q4), .second, .val (.int p5), .val (.int ca0), .val (.int ca1), .val (.int cb0), .val (.int cb1), .val (.int la), .val (.int lb), .val (.ref sa), .val (.ref sb), .val (.long jb), .second, .val (.long rb), .second, .val (.ref b87), .val (.int kd), .val (.ref b103), .val (.int sn), .val (.int ex)] [(.ref b103), (.ref b87)]) := by
          intro t k
          refine K133 _ ?_
          refine XS.istore X105.here hx rfl (hb hby at_292) rfl (l' := #[.val (.int p0), .val (.long q1), .second, .val (.long q2), .second, .val (.long q3), .second, .val (.long q4), .second, .val (.int p5), .val (.int ca0), .val (.int ca1), .val (.int cb0), .val (.int cb1), .val (.int la), .val (.int lb), .val (.ref sa), .val (.ref sb), .val (.long jb), .second, .val (.long rb), .second, .val (.ref b87), .val (.int kd), .val (.ref b103), .val (.int sn), .val (.int ex)]) rfl ?_
          show own_S p e below T105 (mkF m 294 #[.val (.int p0), .val (.long q1), .second, .val (.long q2), .second, .val (.long q3), .second, .val (.long q4), .second, .val (.int p5), .val (.int ca0), .val (.int ca1), .val (.int cb0), .val (.int cb1), .val (.int la), .val (.int lb), .val (.ref sa), .val (.ref sb), .val (.long jb), .second, .val (.long rb), .second, .val (.ref b87), .val (.int kd), .val (.ref b103), .val (.int sn), .val (.int ex)] []) _
          refine XS.aload X105.here hx rfl (hb hby at_294) rfl rfl ?_
          show own_S p e below T105 (mkF m 296 #[.val (.int p0), .val (.long q1), .second, .val (.long q2), .second, .val (.long q3), .second, .val (.long q4), .second, .val (.int p5), .val (.int ca0), .val (.int ca1), .val (.int cb0), .val (.int cb1), .val (.int la), .val (.int lb), .val (.ref sa), .val (.ref sb), .val (.long jb), .second, .val (.long rb), .second, .val (.ref b87), .val (.int kd), .val (.ref b103), .val (.int sn), .val (.int ex)] [(.ref b87)]) _
          refine XS.aload X105.here hx rfl (hb hby at_296) rfl rfl ?_
          exact k
        obtain ⟨cq145, kq145, q145a, q145b, q145c⟩ := isOf hZ rfl ((Ex89.ext E103).keep Kq105)
        obtain ⟨_, _, ⟨T145, L145, k145, n145⟩, -, X145, ⟨Lc145, hQ145, l145, y145, z145⟩, st145⟩ := X105.virtualBack hx (y := (⟨"com/example/enact/enact/model/RunKey", "equals", "(Ljava/lang/Object;)Z"⟩ : MethodName)) (z := (⟨"com/example/enact/enact/model/RunKey", "equals", "(Ljava/lang/Object;)Z"⟩ : MethodName)) hown (mvT hZ (hw _ (List.mem_of_getElem? (i := 31) rfl))) (mvT hZ (hw _ (List.mem_of_getElem? (i := 32) rfl))) (notFace_of_selects (args := #[]) (mvT hZ (hw _ (List.mem_of_getElem? (i := 34) rfl)))) (mvT hZ (hw _ (List.mem_of_getElem? (i := 34) rfl))) (mvT hZ (hw _ (List.mem_of_getElem? (i := 33) rfl))) (by decide) (backOf (W := 0) (rmrek l Z a0 hw [] b87 b103 G la ca0 ca1 lb cb0 cb1 sa sb q1 q3 jb rb T105.heap n0 (Nat.le_trans Z0 Kp105.1) (S_cs.ext (own_ext Kp105)) hG hla3 hlb3 (Sa.ext (own_ext Kb105)) (Sb.ext (own_ext Kb105)) Ex105 ((Fa89.ext E103).keep Kq105 (ninS (own_ne_b87_b103) nin0)) ((Fb89.ext E103).keep Kq105 (ninS (own_ne_b87_b103) nin0)) ((Fc89.ext E103).keep Kq105 (ninS (own_ne_b87_b103) nin0)) Fa105 Fb105 Fc105) hZ (hw _ (List.mem_of_getElem? (i := 35) rfl)) (hw _ (List.mem_of_getElem? (i := 18) rfl)) (by decide) (by decide)) q145a q145c (g := (mkF m 298 #[.val (.int p0), .val (.long q1), .second, .val (.long q2), .second, .val (.long q3), .second, .val (.long q4), .second, .val (.int p5), .val (.int ca0), .val (.int ca1), .val (.int cb0), .val (.int cb1), .val (.int la), .val (.int lb), .val (.ref sa), .val (.ref sb), .val (.long jb), .second, .val (.long rb), .second, .val (.ref b87), .val (.int kd), .val (.ref b103), .val (.int sn), .val (.int ex)] [(.ref b103), (.ref b87)])) rfl (by rw [hml]; rfl) (Steps.refl _) (argsL := [(.ref b103)]) (rest := []) (lenOf pd_0_3 rfl) rfl (by show 2 * 0 + _ ≤ _; exact Nat.le_of_eq rfl) (hb hby at_298) (fun _ _ => ⟨rfl, rfl, (by decide : 18 + 0 ≤ _), (by decide : 106 + 0 ≤ _)⟩)
        dsimp only [Pt.U, Pt.locs, Pt.cells, Pt.slots] at X145 l145 y145 z145 st145 hQ145
        rw [y145, z145] at X145
        obtain ⟨rfl, Nq145, e145⟩ := hQ145
        have N145 : Fr n0 L145 := by rw [l145]; exact Fr.app N105 Nq145
        have K145 : own_K p e below SE T145 (mkF m 301 #[.val (.int p0), .val (.long q1), .second, .val (.long q2), .second, .val (.long q3), .second, .val (.long q4), .second, .val (.int p5), .val (.int ca0), .val (.int ca1), .val (.int cb0), .val (.int cb1), .val (.int la), .val (.int lb), .val (.ref sa), .val (.ref sb), .val (.long jb), .second, .val (.long rb), .second, .val (.ref b87), .val (.int kd), .val (.ref b103), .val (.int sn), .val (.int ex)] [(.int (if (own_eqs lb cb0 cb1 la ca0 ca1) = 0 then (0 : Int32) else (if jb = q1 then (if rb = q3 then (1 : Int32) else (0 : Int32)) else (0 : Int32))))]) := fun t k => K144 _ (st145.trans k)
        rw [own_e1 hsn2.1 hex] at K145
        have K146 : own_K p e below SE T145 (mkF m 310 #[.val (.int p0), .val (.long q1), .second, .val (.long q2), .second, .val (.long q3), .second, .val (.long q4), .second, .val (.int p5), .val (.int ca0), .val (.int ca1), .val (.int cb0), .val (.int cb1), .val (.int la), .val (.int lb), .val (.ref sa), .val (.ref sb), .val (.long jb), .second, .val (.long rb), .second, .val (.ref b87), .val (.int kd), .val (.ref b103), .val (.int sn), .val (.int ex)] [(.ref b87), (.ref b103)]) := by
          intro t k
          refine K145 _ ?_
          refine XS.iload X145.here hx rfl (hb hby at_301) rfl ?_
          show own_S p e below T145 (mkF m 303 #[.val (.int p0), .val (.long q1), .second, .val (.long q2), .second, .val (.long q3), .second, .val (.long q4), .second, .val (.int p5), .val (.int ca0), .val (.int ca1), .val (.int cb0), .val (.int cb1), .val (.int la), .val (.int lb), .val (.ref sa), .val (.ref sb), .val (.long jb), .second, .val (.long rb), .second, .val (.ref b87), .val (.int kd), .val (.ref b103), .val (.int sn), .val (.int ex)] [(.int ex), (.int ex)]) _
          refine XS.icmpNo X145.here hx rfl (hb hby at_303) rfl (XT.ii_ne_f rfl) ?_
          show own_S p e below T145 (mkF m 306 #[.val (.int p0), .val (.long q1), .second, .val (.long q2), .second, .val (.long q3), .second, .val (.long q4), .second, .val (.int p5), .val (.int ca0), .val (.int ca1), .val (.int cb0), .val (.int cb1), .val (.int la), .val (.int lb), .val (.ref sa), .val (.ref sb), .val (.long jb), .second, .val (.long rb), .second, .val (.ref b87), .val (.int kd), .val (.ref b103), .val (.int sn), .val (.int ex)] []) _
          refine XS.aload X145.here hx rfl (hb hby at_306) rfl rfl ?_
          show own_S p e below T145 (mkF m 308 #[.val (.int p0), .val (.long q1), .second, .val (.long q2), .second, .val (.long q3), .second, .val (.long q4), .second, .val (.int p5), .val (.int ca0), .val (.int ca1), .val (.int cb0), .val (.int cb1), .val (.int la), .val (.int lb), .val (.ref sa), .val (.ref sb), .val (.long jb), .second, .val (.long rb), .second, .val (.ref b87), .val (.int kd), .val (.ref b103), .val (.int sn), .val (.int ex)] [(.ref b103)]) _
          refine XS.aload X145.here hx rfl (hb hby at_308) rfl rfl ?_
          exact k
        obtain ⟨cq147, kq147, q147a, q147b, q147c⟩ := isOf hZ e145 Ex105
        obtain ⟨_, _, ⟨T147, L147, k147, n147⟩, -, X147, ⟨Lc147, hQ147, l147, y147, z147⟩, st147⟩ := X145.virtualBack hx (y := (⟨"com/example/enact/enact/model/RunKey", "equals", "(Ljava/lang/Object;)Z"⟩ : MethodName)) (z := (⟨"com/example/enact/enact/model/RunKey", "equals", "(Ljava/lang/Object;)Z"⟩ : MethodName)) hown (mvT hZ (hw _ (List.mem_of_getElem? (i := 31) rfl))) (mvT hZ (hw _ (List.mem_of_getElem? (i := 32) rfl))) (notFace_of_selects (args := #[]) (mvT hZ (hw _ (List.mem_of_getElem? (i := 34) rfl)))) (mvT hZ (hw _ (List.mem_of_getElem? (i := 34) rfl))) (mvT hZ (hw _ (List.mem_of_getElem? (i := 33) rfl))) (by decide) (backOf (W := 0) (rmrek l Z a0 hw [] b103 b87 G lb cb0 cb1 la ca0 ca1 sb sa jb rb q1 q3 T105.heap n0 (Nat.le_trans Z0 Kp105.1) (S_cs.ext (own_ext Kp105)) hG hlb3 hla3 (Sb.ext (own_ext Kb105)) (Sa.ext (own_ext Kb105)) ((Ex89.ext E103).keep Kq105) Fa105 Fb105 Fc105 ((Fa89.ext E103).keep Kq105 (ninS (own_ne_b87_b103) nin0)) ((Fb89.ext E103).keep Kq105 (ninS (own_ne_b87_b103) nin0)) ((Fc89.ext E103).keep Kq105 (ninS (own_ne_b87_b103) nin0))) hZ (hw _ (List.mem_of_getElem? (i := 35) rfl)) (hw _ (List.mem_of_getElem? (i := 18) rfl)) (by decide) (by decide)) q147a q147c (g := (mkF m 310 #[.val (.int p0), .val (.long q1), .second, .val (.long q2), .second, .val (.long q3), .second, .val (.long q4), .second, .val (.int p5), .val (.int ca0), .val (.int ca1), .val (.int cb0), .val (.int cb1), .val (.int la), .val (.int lb), .val (.ref sa), .val (.ref sb), .val (.long jb), .second, .val (.long rb), .second, .val (.ref b87), .val (.int kd), .val (.ref b103), .val (.int sn), .val (.int ex)] [(.ref b87), (.ref b103)])) rfl (by rw [hml]; rfl) (Steps.refl _) (argsL := [(.ref b87)]) (rest := []) (lenOf pd_0_3 rfl) rfl (by show 2 * 0 + _ ≤ _; exact Nat.le_of_eq rfl) (hb hby at_310) (fun _ _ => ⟨rfl, e145, (by decide : 18 + 0 ≤ _), (by decide : 106 + 0 ≤ _)⟩)
        dsimp only [Pt.U, Pt.locs, Pt.cells, Pt.slots] at X147 l147 y147 z147 st147 hQ147
        rw [y147, z147] at X147
        obtain ⟨rfl, Nq147, e147⟩ := hQ147
        have N147 : Fr n0 L147 := by rw [l147]; exact Fr.app N145 Nq147
        have K147 : own_K p e below SE T147 (mkF m 313 #[.val (.int p0), .val (.long q1), .second, .val (.long q2), .second, .val (.long q3), .second, .val (.long q4), .second, .val (.int p5), .val (.int ca0), .val (.int ca1), .val (.int cb0), .val (.int cb1), .val (.int la), .val (.int lb), .val (.ref sa), .val (.ref sb), .val (.long jb), .second, .val (.long rb), .second, .val (.ref b87), .val (.int kd), .val (.ref b103), .val (.int sn), .val (.int ex)] [(.int (if (own_eqs la ca0 ca1 lb cb0 cb1) = 0 then (0 : Int32) else (if q1 = jb then (if q3 = rb then (1 : Int32) else (0 : Int32)) else (0 : Int32))))]) := fun t k => K146 _ (st147.trans k)
        rw [own_e2 hsn2.2 hex] at K147
        have K148 : own_K p e below SE T147 (mkF m 323 #[.val (.int p0), .val (.long q1), .second, .val (.long q2), .second, .val (.long q3), .second, .val (.long q4), .second, .val (.int p5), .val (.int ca0), .val (.int ca1), .val (.int cb0), .val (.int cb1), .val (.int la), .val (.int lb), .val (.ref sa), .val (.ref sb), .val (.long jb), .second, .val (.long rb), .second, .val (.ref b87), .val (.int kd), .val (.ref b103), .val (.int sn), .val (.int ex)] [(.int (1 : Int32))]) := by
          intro t k
          refine K147 _ ?_
          refine XS.iload X147.here hx rfl (hb hby at_313) rfl ?_
          show own_S p e below T147 (mkF m 315 #[.val (.int p0), .val (.long q1), .second, .val (.long q2), .second, .val (.long q3), .second, .val (.long q4), .second, .val (.int p5), .val (.int ca0), .val (.int ca1), .val (.int cb0), .val (.int cb1), .val (.int la), .val (.int lb), .val (.ref sa), .val (.ref sb), .val (.long jb), .second, .val (.long rb), .second, .val (.ref b87), .val (.int kd), .val (.ref b103), .val (.int sn), .val (.int ex)] [(.int ex), (.int ex)]) _
          refine XS.icmpNo X147.here hx rfl (hb hby at_315) rfl (XT.ii_ne_f rfl) ?_
          show own_S p e below T147 (mkF m 318 #[.val (.int p0), .val (.long q1), .second, .val (.long q2), .second, .val (.long q3), .second, .val (.long q4), .second, .val (.int p5), .val (.int ca0), .val (.int ca1), .val (.int cb0), .val (.int cb1), .val (.int la), .val (.int lb), .val (.ref sa), .val (.ref sb), .val (.long jb), .second, .val (.long rb), .second, .val (.ref b87), .val (.int kd), .val (.ref b103), .val (.int sn), .val (.int ex)] []) _
          refine XS.iconst X147.here hx rfl (hb hby at_318) ?_
          show own_S p e below T147 (mkF m 319 #[.val (.int p0), .val (.long q1), .second, .val (.long q2), .second, .val (.long q3), .second, .val (.long q4), .second, .val (.int p5), .val (.int ca0), .val (.int ca1), .val (.int cb0), .val (.int cb1), .val (.int la), .val (.int lb), .val (.ref sa), .val (.ref sb), .val (.long jb), .second, .val (.long rb), .second, .val (.ref b87), .val (.int kd), .val (.ref b103), .val (.int sn), .val (.int ex)] [(.int (1 : Int32))]) _
          refine XS.goto X147.here hx rfl (pc0 := 319) (pc' := 323) rfl (hb hby at_319) (by decide) (by decide) ?_
          exact k
        obtain ⟨fs, hr, hrun, hended, hRW⟩ := X147.leaveW hS (by rw [e147]; exact (Nat.le_trans (Nat.le_trans (Nat.le_trans (Nat.le_trans hk E87.1) Kq89.1) E103.1) Kq105.1)) (v := some (.int (1 : Int32))) (fun h => by rw [Bd.returns] at h; cases h)
        refine ⟨_, _, K148 _ ?_, hrun, hended, _, _, rfl, ?_, hRW.1, hRW.2.1, hRW.2.2.1, hRW.2.2.2.mono (by decide) (by decide)⟩
        · exact retN X147 hx (t := .boolean) Bd.returns (by simp) (hb hby at_323) hr
        · show Q0 Z p0 q1 q2 q3 q4 p5 G h0 n0 _ T147.heap _
          rw [e147]
          exact ⟨rfl, N147⟩
set_option maxRecDepth 65536 in
set_option maxHeartbeats 40000000 in
theorem comes_1 {Post : Tables → Env → Array Value → State → Outcome → State → Prop} (hpost : ∀ tb e args s v u, (limb_1_1.after args s (.returned v) u = true ∧ limb_1_2.after args s (.returned v) u = true ∧ True) → ReturnedEndW s (.returned v) u (Jvm.fieldLocs frame_1_writes args s ++ Jvm.arrayLocs frame_1_arrays args s ++ Jvm.staticLocs frame_1_statics s) 32 1152 → Post tb e args s (.returned v) u) :
    ArmFor flags0 classFile x code maxLocals ret World_1 tables_1 room_1 Calls_1 rest_1 Pre_1 Post := by
  intro l hfl _ _ p e ha hc hk s m args below hf hA hF happ hP
  obtain ⟨hcalls, hrest, hpre⟩ := hP
  obtain ⟨-, -, -, hnamed, -, -, -, hat⟩ := (Spec.applies_iff hf).mp happ
  obtain ⟨hg, hn⟩ := and_e (Cond.before_iff.mp (show (Jvm.Cond.and given_1 narrow_1).before args s = true from hpre))
  obtain ⟨hcount, hg0⟩ := and_e hg
  obtain ⟨ha0, hg1⟩ := and_e hg0
  obtain ⟨ha1, hg2⟩ := and_e hg1
  obtain ⟨ha2, hg3⟩ := and_e hg2
  obtain ⟨ha3, hg4⟩ := and_e hg3
  obtain ⟨ha4, hg5⟩ := and_e hg4
  obtain ⟨w0, w1, w2, w3, w4, w5, rfl⟩ : ∃ w0 w1 w2 w3 w4 w5 : Value, args = #[w0, w1, w2, w3, w4, w5] := by
    have hs : args.size = 6 := by simpa [Cond.value, given_1] using hcount
    obtain ⟨L⟩ := args
    match L, hs with
    | [w0, w1, w2, w3, w4, w5], _ => exact ⟨w0, w1, w2, w3, w4, w5, rfl⟩
  have hw := fun d (hd : d ∈ tables_1) => atoms_spec (ws := Jvm.Cond.code x code maxLocals ret :: tables_1) hat d (List.mem_cons_of_mem _ hd)
  have hfit : Fit s := fun {y c} hc i hi => by
    obtain ⟨ha, rfl⟩ := Array.getElem?_eq_some_iff.mp hc
    have q := List.all_eq_true.mp ((Array.all_eq_true_iff_forall_mem.mp hF) _ (Array.getElem_mem ha)) i (List.mem_range.mpr hi)
    simpa [Array.getElem?_eq_getElem hi] using q
  obtain ⟨i0, ei0⟩ := is_v ha0
  obtain rfl : w0 = (.int i0) := Option.some.inj ei0
  obtain ⟨i1, ei1⟩ := isL_v ha1
  obtain rfl : w1 = (.long i1) := Option.some.inj ei1
  obtain ⟨i2, ei2⟩ := isL_v ha2
  obtain rfl : w2 = (.long i2) := Option.some.inj ei2
  obtain ⟨i3, ei3⟩ := isL_v ha3
  obtain rfl : w3 = (.long i3) := Option.some.inj ei3
  obtain ⟨i4, ei4⟩ := isL_v ha4
  obtain rfl : w4 = (.long i4) := Option.some.inj ei4
  obtain ⟨i5, ei5⟩ := is_v hg5
  obtain rfl : w5 = (.int i5) := Option.some.inj ei5
  have hsets := (atoms_of jdkStatics_1 (own := restOwn_1) (args := _) (s := s) (by rw [← rest_1_c_eq]; exact hrest)).1
  obtain ⟨G, evG⟩ := is_v (Cond.before_iff.mp (hsets _ (List.mem_of_getElem? (i := 1) rfl)))
  have S_cs : Sta s s.heap "java/lang/String" "COMPACT_STRINGS" "Z" (.int G) := Sta.start evG (Or.inl (hsets _ (List.mem_of_getElem? (i := 0) rfl)))
  have hcw := hsets _ (List.mem_of_getElem? (i := 2) rfl)
  have hG : ¬ G = 0 := by
    have q := not_v (Cond.before_iff.mp hcw)
    intro w
    subst w
    rw [eq_i evG (Term.int_eval (0)) rfl] at q
    cases q
  have hheld : ∀ p ∈ own_EL, Jvm.Lit.constHeld s p.1 p.2 := hcalls.1
  have hCHs : CHv s own_EL s.vm s.heap := CHv.start (own_ew hw) hheld hcw (hw _ (List.mem_of_getElem? (i := 11) rfl)) (hw _ (List.mem_of_getElem? (i := 10) rfl))
  obtain ⟨n, o, h1, h2, h3, _, L, rfl, ⟨rfl, N⟩, hq⟩ := rm0 l s _ hw tables_1 i0 i1 i2 i3 i4 i5 G s.heap s.heap.size (Nat.le_refl _) S_cs hG p e ha hc hk s m _ below hf ((Spec.applies_iff_loose hf).mp happ).1 ⟨rfl, State.Warmed39.refl s, rfl, hCHs⟩ trivial
  refine ⟨n, _, h1, h2, h3, hpost _ _ _ _ _ _ ⟨Cond.after_iff.mpr rfl, Cond.after_iff.mpr (eq_i res_at (Term.int_eval (1)) rfl), trivial⟩ ⟨hq.1, hq.2.1, hq.2.2.1, (hq.2.2.2.sift fun y hy => Or.inr (N y hy)).mono (by decide) (by decide)⟩⟩
theorem main_1_1 : Claimed_1_1 := comes_1 fun _ _ _ _ _ _ h hF => ⟨h.1, hF⟩
theorem main_1_2 : Claimed_1_2 := comes_1 fun _ _ _ _ _ _ h hF => ⟨h.2.1, hF⟩
end Jvm.Pilot.@@N@@
namespace Jvm.Pilot.@@N@@
open Jvm Jvm.ClassFile Sem Op Lib Jvm.Free Jvm.Stand Jvm.Pilot.@@N@@.Jvm.D
/-! MADE BY PROGRAM (witnessworld.py) out of the Statement's table words and the real class files: 21 classes; the members and pool entries that the words name. The judged class is class 1, her method 1. -/
namespace start1
open Jvm.ClassFile
def u (s : String) : CpInfo := .utf8 (stringToUtf16 s)
/-- a pool by its gaps: so many unusable entries, then the entry; so many at the end -/
def gap : Nat → List CpInfo → List CpInfo
  | 0, r => r
  | n + 1, r => .unusable :: gap n r
def poolList (es : List (Nat × CpInfo)) (last : Nat) : List CpInfo := es.foldr (fun e r => gap e.1 (e.2 :: r)) (gap last [])
def pool (es : List (Nat × CpInfo)) (last : Nat) : Array CpInfo := ⟨poolList es last⟩
def fileOf (pool : Array CpInfo) (this : Nat) (attrs : Array Attribute := #[]) (ms : Array MethodInfo := #[]) (fl : Nat := 33) (sup : Nat := 0) (ifs : Array Nat := #[]) (fds : Array FieldInfo := #[]) : ClassFile where
  minorVersion := 0
  majorVersion := 65
  constantPool := pool
  accessFlags := fl
  thisClass := this
  superClass := sup
  interfaces := ifs
  fields := fds
  methods := ms
  attributes := attrs
def plain (name : String) (sup : Option ClassId) : Class where
  name := name
  kind := .ordinary
  loader := none
  accessFlags := 33
  super := sup
  interfaces := #[]
  cf := none
  fields := #[]
  methods := #[]
  instanceTypes := #[]
  staticTypes := #[]
  resolved := #[]
  callSites := []
  init := .initialized
  statics := none
  mirror := none

def pool0 : Array CpInfo := pool [(5, u "<init>"), (0, u "()V"), (1, .class_ 10), (1, u "java/lang/Object")] 113

def k0c0 : Code := { maxStack := 0, maxLocals := 1, code := object_method_1_code, exceptionTable := #[], attributes := #[] }
def k0m0 : Method := { name := "<init>", desc := "()V", sig := { parameters := [], returnType := none }, accessFlags := 1, code := some k0c0 }
/-- java/lang/Object -/
def k0 : Class := { plain "java/lang/Object" none with
  accessFlags := 33
  interfaces := #[]
  cf := some (fileOf pool0 8 #[] #[{ accessFlags := 1, nameIndex := 5, descriptorIndex := 6, attributes := #[] }] 33 0 #[] #[])
  fields := #[]
  methods := #[k0m0]
  instanceTypes := #[]
  staticTypes := #[]
  resolved := Array.replicate 124 none
  statics := none }

def pool1 : Array CpInfo := pool [(2, .class_ 4), (1, u "java/lang/Object"), (0, u "<init>"), (0, u "()V"), (0, .methodref 8 9), (0, .class_ 10), (0, .nameAndType 11 12), (0, u "java/lang/Math"), (0, u "min"), (0, u "(II)I"), (0, .methodref 14 15), (0, .class_ 16), (0, .nameAndType 17 18), (0, u "com/example/enact/enact/model/RunKeyEqualsPinLaw"), (0, u "mk"), (0, u "(ICC)Ljava/lang/String;"), (0, .class_ 20), (0, u "com/example/enact/enact/model/RunKey"), (0, .methodref 19 22), (0, .nameAndType 5 23), (0, u "(Ljava/lang/String;JJ)V"), (0, .methodref 19 25), (0, .nameAndType 26 27), (0, u "equals"), (0, u "(Ljava/lang/Object;)Z"), (0, .string 29), (0, u ""), (0, .methodref 31 32), (0, .class_ 33), (0, .nameAndType 34 35), (0, u "java/lang/String"), (0, u "valueOf"), (0, u "(C)Ljava/lang/String;"), (0, .methodref 31 37), (0, .nameAndType 5 38), (0, u "([C)V"), (2, u "law"), (0, u "(IJJJJI)Z")] 3

def k1m0 : Method := { name := "<init>", desc := "()V", sig := { parameters := [], returnType := none }, accessFlags := 1, code := none }
def k1c1 : Code := { maxStack := 7, maxLocals := 27, code := code, exceptionTable := #[], attributes := #[] }
def k1m1 : Method := { name := "law", desc := "(IJJJJI)Z", sig := { parameters := [.int, .long, .long, .long, .long, .int], returnType := some .boolean }, accessFlags := 9, code := some k1c1 }
def k1c2 : Code := { maxStack := 6, maxLocals := 3, code := method_3_code, exceptionTable := #[], attributes := #[] }
def k1m2 : Method := { name := "mk", desc := "(ICC)Ljava/lang/String;", sig := { parameters := [.int, .char, .char], returnType := some (.object "java/lang/String") }, accessFlags := 10, code := some k1c2 }
/-- com/example/enact/enact/model/RunKeyEqualsPinLaw -/
def k1 : Class := { plain "com/example/enact/enact/model/RunKeyEqualsPinLaw" (some 0) with
  accessFlags := 49
  interfaces := #[]
  cf := some (fileOf pool1 14 #[] #[{ accessFlags := 1, nameIndex := 5, descriptorIndex := 6, attributes := #[] }, { accessFlags := 9, nameIndex := 41, descriptorIndex := 42, attributes := #[] }, { accessFlags := 10, nameIndex := 17, descriptorIndex := 18, attributes := #[] }] 49 2 #[] #[])
  fields := #[]
  methods := #[k1m0, k1m1, k1m2]
  instanceTypes := #[]
  staticTypes := #[]
  resolved := Array.replicate 46 none
  statics := none }

def pool2 : Array CpInfo := pool [(1, .class_ 2), (0, u "java/lang/Math"), (1, .class_ 6), (1, u "java/lang/Object"), (0, u "<init>"), (0, u "()V"), (89, .class_ 100), (1, u "java/lang/Math$RandomNumberGeneratorHolder"), (71, u "negativeZeroFloatBits"), (0, u "J"), (2, u "negativeZeroDoubleBits"), (24, u "min"), (43, u "$assertionsDisabled"), (0, u "Z"), (88, u "(II)I"), (2, u "twoToTheDoubleScaleDown"), (0, u "D"), (4, u "twoToTheDoubleScaleUp"), (9, u "E"), (3, u "PI"), (2, u "TAU"), (2, u "DEGREES_TO_RADIANS"), (0, u "RADIANS_TO_DEGREES")] 94

def k2m0 : Method := { name := "<init>", desc := "()V", sig := { parameters := [], returnType := none }, accessFlags := 2, code := none }
def k2c1 : Code := { maxStack := 2, maxLocals := 2, code := jdk_29_method_69_code, exceptionTable := #[], attributes := #[] }
def k2m1 : Method := { name := "min", desc := "(II)I", sig := { parameters := [.int, .int], returnType := some .int }, accessFlags := 9, code := some k2c1 }
/-- java/lang/Math -/
def k2 : Class := { plain "java/lang/Math" (some 0) with
  accessFlags := 49
  interfaces := #[]
  cf := some (fileOf pool2 1 #[.nestMembers #[98]] #[{ accessFlags := 2, nameIndex := 7, descriptorIndex := 8, attributes := #[] }, { accessFlags := 9, nameIndex := 201, descriptorIndex := 335, attributes := #[] }] 49 4 #[] #[{ accessFlags := 25, nameIndex := 354, descriptorIndex := 339, attributes := #[] }, { accessFlags := 25, nameIndex := 358, descriptorIndex := 339, attributes := #[] }, { accessFlags := 25, nameIndex := 361, descriptorIndex := 339, attributes := #[] }, { accessFlags := 26, nameIndex := 364, descriptorIndex := 339, attributes := #[] }, { accessFlags := 26, nameIndex := 365, descriptorIndex := 339, attributes := #[] }, { accessFlags := 26, nameIndex := 172, descriptorIndex := 173, attributes := #[] }, { accessFlags := 26, nameIndex := 176, descriptorIndex := 173, attributes := #[] }, { accessFlags := 8, nameIndex := 344, descriptorIndex := 339, attributes := #[] }, { accessFlags := 8, nameIndex := 338, descriptorIndex := 339, attributes := #[] }, { accessFlags := 4120, nameIndex := 245, descriptorIndex := 246, attributes := #[] }])
  fields := #[{ name := "E", type := .double, accessFlags := 25, slot := 0, constantValue := 0 }, { name := "PI", type := .double, accessFlags := 25, slot := 1, constantValue := 0 }, { name := "TAU", type := .double, accessFlags := 25, slot := 2, constantValue := 0 }, { name := "DEGREES_TO_RADIANS", type := .double, accessFlags := 26, slot := 3, constantValue := 0 }, { name := "RADIANS_TO_DEGREES", type := .double, accessFlags := 26, slot := 4, constantValue := 0 }, { name := "negativeZeroFloatBits", type := .long, accessFlags := 26, slot := 5, constantValue := 0 }, { name := "negativeZeroDoubleBits", type := .long, accessFlags := 26, slot := 6, constantValue := 0 }, { name := "twoToTheDoubleScaleUp", type := .double, accessFlags := 8, slot := 7, constantValue := 0 }, { name := "twoToTheDoubleScaleDown", type := .double, accessFlags := 8, slot := 8, constantValue := 0 }, { name := "$assertionsDisabled", type := .boolean, accessFlags := 4120, slot := 9, constantValue := 0 }]
  methods := #[k2m0, k2m1]
  instanceTypes := #[]
  staticTypes := #[.double, .double, .double, .double, .double, .long, .long, .double, .double, .boolean]
  resolved := Array.replicate 460 none
  statics := none }

def pool3 : Array CpInfo := pool [(1, .class_ 2), (0, u "java/io/Serializable"), (0, .class_ 4), (0, u "java/lang/Object")] 2

/-- java/io/Serializable -/
def k3 : Class := { plain "java/io/Serializable" (some 0) with
  accessFlags := 1537
  interfaces := #[]
  cf := some (fileOf pool3 1 #[] #[] 1537 3 #[] #[])
  fields := #[]
  methods := #[]
  instanceTypes := #[]
  staticTypes := #[]
  resolved := Array.replicate 7 none
  statics := none }

def pool4 : Array CpInfo := pool [(1, .class_ 2), (0, u "java/lang/Comparable"), (0, .class_ 4), (0, u "java/lang/Object")] 7

/-- java/lang/Comparable -/
def k4 : Class := { plain "java/lang/Comparable" (some 0) with
  accessFlags := 1537
  interfaces := #[]
  cf := some (fileOf pool4 1 #[] #[] 1537 3 #[] #[])
  fields := #[]
  methods := #[]
  instanceTypes := #[]
  staticTypes := #[]
  resolved := Array.replicate 12 none
  statics := none }

def pool5 : Array CpInfo := pool [(2, .class_ 4), (1, u "java/lang/CharSequence"), (42, .class_ 48), (0, u "java/lang/CharSequence$1CodePointIterator"), (10, .class_ 60), (0, u "java/lang/CharSequence$1CharIterator"), (5, .class_ 67), (0, u "java/lang/Object")] 63

/-- java/lang/CharSequence -/
def k5 : Class := { plain "java/lang/CharSequence" (some 0) with
  accessFlags := 1537
  interfaces := #[]
  cf := some (fileOf pool5 2 #[.nestMembers #[47, 59]] #[] 1537 66 #[] #[])
  fields := #[]
  methods := #[]
  instanceTypes := #[]
  staticTypes := #[]
  resolved := Array.replicate 131 none
  statics := none }

def pool6 : Array CpInfo := pool [(1, .class_ 2), (0, u "java/lang/constant/Constable"), (0, .class_ 4), (0, u "java/lang/Object")] 6

/-- java/lang/constant/Constable -/
def k6 : Class := { plain "java/lang/constant/Constable" (some 0) with
  accessFlags := 1537
  interfaces := #[]
  cf := some (fileOf pool6 1 #[] #[] 1537 3 #[] #[])
  fields := #[]
  methods := #[]
  instanceTypes := #[]
  staticTypes := #[]
  resolved := Array.replicate 11 none
  statics := none }

def pool7 : Array CpInfo := pool [(1, .class_ 2), (0, u "java/lang/constant/ConstantDesc"), (0, .class_ 4), (0, u "java/lang/Object")] 32

/-- java/lang/constant/ConstantDesc -/
def k7 : Class := { plain "java/lang/constant/ConstantDesc" (some 0) with
  accessFlags := 1537
  interfaces := #[]
  cf := some (fileOf pool7 1 #[] #[] 1537 3 #[] #[])
  fields := #[]
  methods := #[]
  instanceTypes := #[]
  staticTypes := #[]
  resolved := Array.replicate 37 none
  statics := none }

def pool8 : Array CpInfo := pool [(1, .methodref 2 3), (0, .class_ 4), (0, .nameAndType 5 6), (0, u "java/lang/Object"), (0, u "<init>"), (0, u "()V"), (2, .fieldref 10 11), (0, .class_ 12), (0, .nameAndType 13 14), (0, u "java/lang/String"), (0, u "value"), (0, u "[B"), (0, .fieldref 10 16), (0, .nameAndType 17 18), (0, u "coder"), (0, u "B"), (2, u "hash"), (0, u "I"), (2, u "hashIsZero"), (0, u "Z"), (0, .methodref 10 28), (0, .nameAndType 5 29), (0, u "([CIILjava/lang/Void;)V"), (8, .fieldref 10 39), (0, .nameAndType 40 26), (0, u "COMPACT_STRINGS"), (1, .class_ 44), (1, u "java/lang/StringUTF16"), (0, u "compress"), (1, .methodref 42 48), (0, .nameAndType 49 50), (0, u "coderFromArrayLen"), (0, u "([BI)B"), (2, u "toBytes"), (53, .class_ 109), (1, u "java/lang/StringLatin1"), (67, .methodref 42 178), (0, .nameAndType 45 179), (0, u "([CII)[B"), (29, .methodref 10 210), (0, .nameAndType 5 211), (0, u "([BB)V"), (157, u "(C)Z"), (171, .methodref 107 542), (0, .nameAndType 543 544), (0, u "equals"), (0, u "([B[B)Z"), (28, u "(Ljava/lang/Object;)Z"), (1, .class_ 576), (0, u "java/lang/CharSequence"), (22, u "CASE_INSENSITIVE_ORDER"), (0, u "Ljava/util/Comparator;"), (181, u "valueOf"), (0, u "(C)Ljava/lang/String;"), (226, u "([C)V"), (4, .methodref 107 1016), (0, .nameAndType 1017 369), (0, u "canEncode"), (0, .methodref 107 1019), (0, .nameAndType 53 1020), (0, u "(C)[B"), (80, u "serialPersistentFields"), (0, u "[Ljava/io/ObjectStreamField;"), (0, .class_ 1104), (0, u "java/lang/String$CaseInsensitiveComparator"), (1, .class_ 1107), (0, u "java/io/Serializable"), (0, .class_ 1109), (0, u "java/lang/Comparable"), (0, .class_ 1111), (0, u "java/lang/constant/Constable"), (0, .class_ 1113), (0, u "java/lang/constant/ConstantDesc"), (2, u "serialVersionUID"), (0, u "J"), (3, u "REPL"), (0, u "C"), (2, u "LATIN1"), (1, u "UTF16")] 323

def k8m0 : Method := { name := "<init>", desc := "()V", sig := { parameters := [], returnType := none }, accessFlags := 1, code := none }
def k8c1 : Code := { maxStack := 5, maxLocals := 2, code := jdk_42_method_3_code, exceptionTable := #[], attributes := #[] }
def k8m1 : Method := { name := "<init>", desc := "([C)V", sig := { parameters := [(.array .char)], returnType := none }, accessFlags := 1, code := some k8c1 }
def k8c2 : Code := { maxStack := 2, maxLocals := 3, code := jdk_42_method_66_code, exceptionTable := #[], attributes := #[] }
def k8m2 : Method := { name := "equals", desc := "(Ljava/lang/Object;)Z", sig := { parameters := [(.object "java/lang/Object")], returnType := some .boolean }, accessFlags := 1, code := some k8c2 }
def k8c3 : Code := { maxStack := 4, maxLocals := 1, code := jdk_42_method_139_code, exceptionTable := #[], attributes := #[] }
def k8m3 : Method := { name := "valueOf", desc := "(C)Ljava/lang/String;", sig := { parameters := [.char], returnType := some (.object "java/lang/String") }, accessFlags := 9, code := some k8c3 }
def k8c4 : Code := { maxStack := 4, maxLocals := 6, code := jdk_42_method_149_code, exceptionTable := #[], attributes := #[] }
def k8m4 : Method := { name := "<init>", desc := "([CIILjava/lang/Void;)V", sig := { parameters := [(.array .char), .int, .int, (.object "java/lang/Void")], returnType := none }, accessFlags := 2, code := some k8c4 }
def k8c5 : Code := { maxStack := 2, maxLocals := 3, code := jdk_42_method_151_code, exceptionTable := #[], attributes := #[] }
def k8m5 : Method := { name := "<init>", desc := "([BB)V", sig := { parameters := [(.array .byte), .byte], returnType := none }, accessFlags := 0, code := some k8c5 }
/-- java/lang/String -/
def k8 : Class := { plain "java/lang/String" (some 0) with
  accessFlags := 49
  interfaces := #[3, 4, 5, 6, 7]
  cf := some (fileOf pool8 10 #[.nestMembers #[1103]] #[{ accessFlags := 1, nameIndex := 5, descriptorIndex := 6, attributes := #[] }, { accessFlags := 1, nameIndex := 5, descriptorIndex := 1010, attributes := #[] }, { accessFlags := 1, nameIndex := 543, descriptorIndex := 573, attributes := #[] }, { accessFlags := 9, nameIndex := 782, descriptorIndex := 783, attributes := #[] }, { accessFlags := 2, nameIndex := 5, descriptorIndex := 29, attributes := #[] }, { accessFlags := 0, nameIndex := 5, descriptorIndex := 211, attributes := #[] }] 49 2 #[1106, 1108, 575, 1110, 1112] #[{ accessFlags := 18, nameIndex := 13, descriptorIndex := 14, attributes := #[] }, { accessFlags := 18, nameIndex := 17, descriptorIndex := 18, attributes := #[] }, { accessFlags := 2, nameIndex := 21, descriptorIndex := 22, attributes := #[] }, { accessFlags := 2, nameIndex := 25, descriptorIndex := 26, attributes := #[] }, { accessFlags := 26, nameIndex := 1116, descriptorIndex := 1117, attributes := #[] }, { accessFlags := 24, nameIndex := 40, descriptorIndex := 26, attributes := #[] }, { accessFlags := 26, nameIndex := 1101, descriptorIndex := 1102, attributes := #[] }, { accessFlags := 26, nameIndex := 1121, descriptorIndex := 1122, attributes := #[] }, { accessFlags := 25, nameIndex := 599, descriptorIndex := 600, attributes := #[] }, { accessFlags := 24, nameIndex := 1125, descriptorIndex := 18, attributes := #[] }, { accessFlags := 24, nameIndex := 1127, descriptorIndex := 18, attributes := #[] }])
  fields := #[{ name := "value", type := (.array .byte), accessFlags := 18, slot := 0, constantValue := 0 }, { name := "coder", type := .byte, accessFlags := 18, slot := 1, constantValue := 0 }, { name := "hash", type := .int, accessFlags := 2, slot := 2, constantValue := 0 }, { name := "hashIsZero", type := .boolean, accessFlags := 2, slot := 3, constantValue := 0 }, { name := "serialVersionUID", type := .long, accessFlags := 26, slot := 0, constantValue := 0 }, { name := "COMPACT_STRINGS", type := .boolean, accessFlags := 24, slot := 1, constantValue := 0 }, { name := "serialPersistentFields", type := (.array (.object "java/io/ObjectStreamField")), accessFlags := 26, slot := 2, constantValue := 0 }, { name := "REPL", type := .char, accessFlags := 26, slot := 3, constantValue := 0 }, { name := "CASE_INSENSITIVE_ORDER", type := (.object "java/util/Comparator"), accessFlags := 25, slot := 4, constantValue := 0 }, { name := "LATIN1", type := .byte, accessFlags := 24, slot := 5, constantValue := 0 }, { name := "UTF16", type := .byte, accessFlags := 24, slot := 6, constantValue := 0 }]
  methods := #[k8m0, k8m1, k8m2, k8m3, k8m4, k8m5]
  instanceTypes := #[(.array .byte), .byte, .int, .boolean]
  staticTypes := #[.long, .boolean, (.array (.object "java/io/ObjectStreamField")), .char, (.object "java/util/Comparator"), .byte, .byte]
  resolved := Array.replicate 1451 none
  statics := some 0 }

def pool9 : Array CpInfo := pool [(1, .methodref 2 3), (0, .class_ 4), (0, .nameAndType 5 6), (0, u "java/lang/Object"), (0, u "<init>"), (0, u "()V"), (0, .fieldref 8 9), (0, .class_ 10), (0, .nameAndType 11 12), (0, u "com/example/enact/enact/model/RunKey"), (0, u "workflowId"), (0, u "Ljava/lang/String;"), (0, .fieldref 8 14), (0, .nameAndType 15 16), (0, u "instanceId"), (0, u "J"), (0, .fieldref 8 18), (0, .nameAndType 19 16), (0, u "runId"), (0, .methodref 21 22), (0, .class_ 23), (0, .nameAndType 24 25), (0, u "java/lang/String"), (0, u "equals"), (0, u "(Ljava/lang/Object;)Z"), (16, u "(Ljava/lang/String;JJ)V")] 28

def k9c0 : Code := { maxStack := 3, maxLocals := 6, code := prog_98_method_1_code, exceptionTable := #[], attributes := #[] }
def k9m0 : Method := { name := "<init>", desc := "(Ljava/lang/String;JJ)V", sig := { parameters := [(.object "java/lang/String"), .long, .long], returnType := none }, accessFlags := 1, code := some k9c0 }
def k9c1 : Code := { maxStack := 4, maxLocals := 3, code := prog_98_method_5_code, exceptionTable := #[], attributes := #[] }
def k9m1 : Method := { name := "equals", desc := "(Ljava/lang/Object;)Z", sig := { parameters := [(.object "java/lang/Object")], returnType := some .boolean }, accessFlags := 1, code := some k9c1 }
/-- com/example/enact/enact/model/RunKey -/
def k9 : Class := { plain "com/example/enact/enact/model/RunKey" (some 0) with
  accessFlags := 49
  interfaces := #[]
  cf := some (fileOf pool9 8 #[] #[{ accessFlags := 1, nameIndex := 5, descriptorIndex := 42, attributes := #[] }, { accessFlags := 1, nameIndex := 24, descriptorIndex := 25, attributes := #[] }] 49 2 #[] #[{ accessFlags := 18, nameIndex := 11, descriptorIndex := 12, attributes := #[] }, { accessFlags := 18, nameIndex := 15, descriptorIndex := 16, attributes := #[] }, { accessFlags := 18, nameIndex := 19, descriptorIndex := 16, attributes := #[] }])
  fields := #[{ name := "workflowId", type := (.object "java/lang/String"), accessFlags := 18, slot := 0, constantValue := 0 }, { name := "instanceId", type := .long, accessFlags := 18, slot := 1, constantValue := 0 }, { name := "runId", type := .long, accessFlags := 18, slot := 2, constantValue := 0 }]
  methods := #[k9m0, k9m1]
  instanceTypes := #[(.object "java/lang/String"), .long, .long]
  staticTypes := #[]
  resolved := Array.replicate 71 none
  statics := none }

def pool10 : Array CpInfo := pool [(6, .class_ 8), (1, u "java/lang/Object"), (0, u "<init>"), (0, u "()V"), (1, .class_ 14), (1, u "java/lang/StringUTF16"), (31, u "$assertionsDisabled"), (0, u "Z"), (13, u "HI_BYTE_SHIFT"), (0, u "I"), (2, u "LO_BYTE_SHIFT"), (49, .methodref 12 116), (0, .nameAndType 117 118), (0, u "compress"), (0, u "([CI[BII)I"), (3, u "([CII)[B"), (138, u "coderFromArrayLen"), (0, u "([BI)B"), (106, .class_ 371), (1, u "java/lang/StringUTF16$LinesSpliterator"), (58, u "MAX_LENGTH"), (196, .class_ 628), (0, u "java/lang/StringUTF16$CodePointsSpliterator"), (0, .class_ 630), (0, u "java/lang/StringUTF16$CharsSpliterator")] 4

def k10m0 : Method := { name := "<init>", desc := "()V", sig := { parameters := [], returnType := none }, accessFlags := 0, code := none }
def k10c1 : Code := { maxStack := 2, maxLocals := 2, code := jdk_52_method_15_code, exceptionTable := #[], attributes := #[] }
def k10m1 : Method := { name := "coderFromArrayLen", desc := "([BI)B", sig := { parameters := [(.array .byte), .int], returnType := some .byte }, accessFlags := 8, code := some k10c1 }
def k10c2 : Code := { maxStack := 5, maxLocals := 6, code := jdk_52_method_16_code, exceptionTable := #[], attributes := #[] }
def k10m2 : Method := { name := "compress", desc := "([CII)[B", sig := { parameters := [(.array .char), .int, .int], returnType := some (.array .byte) }, accessFlags := 9, code := some k10c2 }
def k10c3 : Code := { maxStack := 3, maxLocals := 7, code := jdk_52_method_21_code, exceptionTable := #[], attributes := #[] }
def k10m3 : Method := { name := "compress", desc := "([CI[BII)I", sig := { parameters := [(.array .char), .int, (.array .byte), .int, .int], returnType := some .int }, accessFlags := 9, code := some k10c3 }
/-- java/lang/StringUTF16 -/
def k10 : Class := { plain "java/lang/StringUTF16" (some 0) with
  accessFlags := 48
  interfaces := #[]
  cf := some (fileOf pool10 12 #[.nestMembers #[627, 629, 369]] #[{ accessFlags := 0, nameIndex := 9, descriptorIndex := 10, attributes := #[] }, { accessFlags := 8, nameIndex := 261, descriptorIndex := 262, attributes := #[] }, { accessFlags := 9, nameIndex := 117, descriptorIndex := 122, attributes := #[] }, { accessFlags := 9, nameIndex := 117, descriptorIndex := 118, attributes := #[] }] 48 6 #[] #[{ accessFlags := 26, nameIndex := 61, descriptorIndex := 62, attributes := #[] }, { accessFlags := 26, nameIndex := 65, descriptorIndex := 62, attributes := #[] }, { accessFlags := 24, nameIndex := 430, descriptorIndex := 62, attributes := #[] }, { accessFlags := 4120, nameIndex := 46, descriptorIndex := 47, attributes := #[] }])
  fields := #[{ name := "HI_BYTE_SHIFT", type := .int, accessFlags := 26, slot := 0, constantValue := 0 }, { name := "LO_BYTE_SHIFT", type := .int, accessFlags := 26, slot := 1, constantValue := 0 }, { name := "MAX_LENGTH", type := .int, accessFlags := 24, slot := 2, constantValue := 0 }, { name := "$assertionsDisabled", type := .boolean, accessFlags := 4120, slot := 3, constantValue := 0 }]
  methods := #[k10m0, k10m1, k10m2, k10m3]
  instanceTypes := #[]
  staticTypes := #[.int, .int, .int, .boolean]
  resolved := Array.replicate 635 none
  statics := none }

def pool11 : Array CpInfo := pool [(4, .class_ 6), (1, u "java/lang/Object"), (0, u "<init>"), (0, u "()V"), (5, .class_ 16), (1, u "java/lang/StringLatin1"), (73, u "canEncode"), (14, u "(C)Z"), (15, u "$assertionsDisabled"), (0, u "Z"), (98, .class_ 223), (1, u "java/lang/StringLatin1$LinesSpliterator"), (57, u "equals"), (0, u "([B[B)Z"), (97, u "toBytes"), (1, u "(C)[B"), (7, .class_ 391), (0, u "java/lang/StringLatin1$CharsSpliterator")] 3

def k11m0 : Method := { name := "<init>", desc := "()V", sig := { parameters := [], returnType := none }, accessFlags := 0, code := none }
def k11c1 : Code := { maxStack := 2, maxLocals := 1, code := jdk_43_method_3_code, exceptionTable := #[], attributes := #[] }
def k11m1 : Method := { name := "canEncode", desc := "(C)Z", sig := { parameters := [.char], returnType := some .boolean }, accessFlags := 9, code := some k11c1 }
def k11c2 : Code := { maxStack := 3, maxLocals := 3, code := jdk_43_method_13_code, exceptionTable := #[], attributes := #[] }
def k11m2 : Method := { name := "equals", desc := "([B[B)Z", sig := { parameters := [(.array .byte), (.array .byte)], returnType := some .boolean }, accessFlags := 9, code := some k11c2 }
def k11c3 : Code := { maxStack := 4, maxLocals := 1, code := jdk_43_method_46_code, exceptionTable := #[], attributes := #[] }
def k11m3 : Method := { name := "toBytes", desc := "(C)[B", sig := { parameters := [.char], returnType := some (.array .byte) }, accessFlags := 9, code := some k11c3 }
/-- java/lang/StringLatin1 -/
def k11 : Class := { plain "java/lang/StringLatin1" (some 0) with
  accessFlags := 48
  interfaces := #[]
  cf := some (fileOf pool11 14 #[.nestMembers #[390, 221]] #[{ accessFlags := 0, nameIndex := 7, descriptorIndex := 8, attributes := #[] }, { accessFlags := 9, nameIndex := 90, descriptorIndex := 105, attributes := #[] }, { accessFlags := 9, nameIndex := 281, descriptorIndex := 282, attributes := #[] }, { accessFlags := 9, nameIndex := 380, descriptorIndex := 382, attributes := #[] }] 48 4 #[] #[{ accessFlags := 4120, nameIndex := 121, descriptorIndex := 122, attributes := #[] }])
  fields := #[{ name := "$assertionsDisabled", type := .boolean, accessFlags := 4120, slot := 0, constantValue := 0 }]
  methods := #[k11m0, k11m1, k11m2, k11m3]
  instanceTypes := #[]
  staticTypes := #[.boolean]
  resolved := Array.replicate 395 none
  statics := none }

def pool12 : Array CpInfo := pool [(2, .class_ 4), (1, u "java/lang/Object"), (0, u "<init>"), (0, u "()V"), (17, .class_ 26), (1, u "jdk/internal/util/Preconditions"), (28, .class_ 56), (0, u "jdk/internal/util/Preconditions$4"), (57, .class_ 115), (0, u "jdk/internal/util/Preconditions$1"), (7, u "SIOOBE_FORMATTER"), (0, u "Ljava/util/function/BiFunction;"), (0, .class_ 126), (0, u "jdk/internal/util/Preconditions$2"), (3, u "AIOOBE_FORMATTER"), (0, .class_ 132), (0, u "jdk/internal/util/Preconditions$3"), (3, u "IOOBE_FORMATTER")] 57

def k12m0 : Method := { name := "<init>", desc := "()V", sig := { parameters := [], returnType := none }, accessFlags := 1, code := none }
/-- jdk/internal/util/Preconditions -/
def k12 : Class := { plain "jdk/internal/util/Preconditions" (some 0) with
  accessFlags := 33
  interfaces := #[]
  cf := some (fileOf pool12 24 #[.nestMembers #[55, 131, 125, 114]] #[{ accessFlags := 1, nameIndex := 5, descriptorIndex := 6, attributes := #[] }] 33 2 #[] #[{ accessFlags := 25, nameIndex := 123, descriptorIndex := 124, attributes := #[] }, { accessFlags := 25, nameIndex := 130, descriptorIndex := 124, attributes := #[] }, { accessFlags := 25, nameIndex := 136, descriptorIndex := 124, attributes := #[] }])
  fields := #[{ name := "SIOOBE_FORMATTER", type := (.object "java/util/function/BiFunction"), accessFlags := 25, slot := 0, constantValue := 0 }, { name := "AIOOBE_FORMATTER", type := (.object "java/util/function/BiFunction"), accessFlags := 25, slot := 1, constantValue := 0 }, { name := "IOOBE_FORMATTER", type := (.object "java/util/function/BiFunction"), accessFlags := 25, slot := 2, constantValue := 0 }]
  methods := #[k12m0]
  instanceTypes := #[]
  staticTypes := #[(.object "java/util/function/BiFunction"), (.object "java/util/function/BiFunction"), (.object "java/util/function/BiFunction")]
  resolved := Array.replicate 194 none
  statics := some 1 }

def pool13 : Array CpInfo := pool [(9, u "<init>"), (6, .class_ 18), (1, u "java/lang/Object"), (0, u "()V"), (1, .class_ 23), (1, u "jdk/internal/util/ArraysSupport"), (0, u "LOG2_ARRAY_LONG_INDEX_SCALE"), (0, u "I"), (2, u "U"), (0, u "Ljdk/internal/misc/Unsafe;"), (8, u "BIG_ENDIAN"), (0, u "Z"), (8, u "LOG2_BYTE_BIT_SIZE"), (4, u "LOG2_ARRAY_INT_INDEX_SCALE"), (54, u "JLA"), (0, u "Ljdk/internal/access/JavaLangAccess;"), (11, u "LOG2_ARRAY_BOOLEAN_INDEX_SCALE"), (9, u "LOG2_ARRAY_BYTE_INDEX_SCALE"), (5, u "LOG2_ARRAY_CHAR_INDEX_SCALE"), (5, u "LOG2_ARRAY_SHORT_INDEX_SCALE"), (18, u "LOG2_ARRAY_FLOAT_INDEX_SCALE"), (24, u "LOG2_ARRAY_DOUBLE_INDEX_SCALE"), (89, u "T_BOOLEAN"), (2, u "T_CHAR"), (1, u "T_FLOAT"), (1, u "T_DOUBLE"), (1, u "T_BYTE"), (1, u "T_SHORT"), (1, u "T_INT"), (1, u "T_LONG"), (1, u "SOFT_MAX_ARRAY_LENGTH")] 83

def k13m0 : Method := { name := "<init>", desc := "()V", sig := { parameters := [], returnType := none }, accessFlags := 2, code := none }
/-- jdk/internal/util/ArraysSupport -/
def k13 : Class := { plain "jdk/internal/util/ArraysSupport" (some 0) with
  accessFlags := 33
  interfaces := #[]
  cf := some (fileOf pool13 21 #[] #[{ accessFlags := 2, nameIndex := 9, descriptorIndex := 19, attributes := #[] }] 33 16 #[] #[{ accessFlags := 24, nameIndex := 28, descriptorIndex := 29, attributes := #[] }, { accessFlags := 26, nameIndex := 38, descriptorIndex := 39, attributes := #[] }, { accessFlags := 25, nameIndex := 121, descriptorIndex := 25, attributes := #[] }, { accessFlags := 25, nameIndex := 131, descriptorIndex := 25, attributes := #[] }, { accessFlags := 25, nameIndex := 137, descriptorIndex := 25, attributes := #[] }, { accessFlags := 25, nameIndex := 143, descriptorIndex := 25, attributes := #[] }, { accessFlags := 25, nameIndex := 53, descriptorIndex := 25, attributes := #[] }, { accessFlags := 25, nameIndex := 24, descriptorIndex := 25, attributes := #[] }, { accessFlags := 25, nameIndex := 162, descriptorIndex := 25, attributes := #[] }, { accessFlags := 25, nameIndex := 187, descriptorIndex := 25, attributes := #[] }, { accessFlags := 26, nameIndex := 48, descriptorIndex := 25, attributes := #[] }, { accessFlags := 25, nameIndex := 277, descriptorIndex := 25, attributes := #[] }, { accessFlags := 25, nameIndex := 280, descriptorIndex := 25, attributes := #[] }, { accessFlags := 25, nameIndex := 282, descriptorIndex := 25, attributes := #[] }, { accessFlags := 25, nameIndex := 284, descriptorIndex := 25, attributes := #[] }, { accessFlags := 25, nameIndex := 286, descriptorIndex := 25, attributes := #[] }, { accessFlags := 25, nameIndex := 288, descriptorIndex := 25, attributes := #[] }, { accessFlags := 25, nameIndex := 290, descriptorIndex := 25, attributes := #[] }, { accessFlags := 25, nameIndex := 292, descriptorIndex := 25, attributes := #[] }, { accessFlags := 26, nameIndex := 108, descriptorIndex := 109, attributes := #[] }, { accessFlags := 25, nameIndex := 294, descriptorIndex := 25, attributes := #[] }])
  fields := #[{ name := "U", type := (.object "jdk/internal/misc/Unsafe"), accessFlags := 24, slot := 0, constantValue := 0 }, { name := "BIG_ENDIAN", type := .boolean, accessFlags := 26, slot := 1, constantValue := 0 }, { name := "LOG2_ARRAY_BOOLEAN_INDEX_SCALE", type := .int, accessFlags := 25, slot := 2, constantValue := 0 }, { name := "LOG2_ARRAY_BYTE_INDEX_SCALE", type := .int, accessFlags := 25, slot := 3, constantValue := 0 }, { name := "LOG2_ARRAY_CHAR_INDEX_SCALE", type := .int, accessFlags := 25, slot := 4, constantValue := 0 }, { name := "LOG2_ARRAY_SHORT_INDEX_SCALE", type := .int, accessFlags := 25, slot := 5, constantValue := 0 }, { name := "LOG2_ARRAY_INT_INDEX_SCALE", type := .int, accessFlags := 25, slot := 6, constantValue := 0 }, { name := "LOG2_ARRAY_LONG_INDEX_SCALE", type := .int, accessFlags := 25, slot := 7, constantValue := 0 }, { name := "LOG2_ARRAY_FLOAT_INDEX_SCALE", type := .int, accessFlags := 25, slot := 8, constantValue := 0 }, { name := "LOG2_ARRAY_DOUBLE_INDEX_SCALE", type := .int, accessFlags := 25, slot := 9, constantValue := 0 }, { name := "LOG2_BYTE_BIT_SIZE", type := .int, accessFlags := 26, slot := 10, constantValue := 0 }, { name := "T_BOOLEAN", type := .int, accessFlags := 25, slot := 11, constantValue := 0 }, { name := "T_CHAR", type := .int, accessFlags := 25, slot := 12, constantValue := 0 }, { name := "T_FLOAT", type := .int, accessFlags := 25, slot := 13, constantValue := 0 }, { name := "T_DOUBLE", type := .int, accessFlags := 25, slot := 14, constantValue := 0 }, { name := "T_BYTE", type := .int, accessFlags := 25, slot := 15, constantValue := 0 }, { name := "T_SHORT", type := .int, accessFlags := 25, slot := 16, constantValue := 0 }, { name := "T_INT", type := .int, accessFlags := 25, slot := 17, constantValue := 0 }, { name := "T_LONG", type := .int, accessFlags := 25, slot := 18, constantValue := 0 }, { name := "JLA", type := (.object "jdk/internal/access/JavaLangAccess"), accessFlags := 26, slot := 19, constantValue := 0 }, { name := "SOFT_MAX_ARRAY_LENGTH", type := .int, accessFlags := 25, slot := 20, constantValue := 0 }]
  methods := #[k13m0]
  instanceTypes := #[]
  staticTypes := #[(.object "jdk/internal/misc/Unsafe"), .boolean, .int, .int, .int, .int, .int, .int, .int, .int, .int, .int, .int, .int, .int, .int, .int, .int, .int, (.object "jdk/internal/access/JavaLangAccess"), .int]
  resolved := Array.replicate 378 none
  statics := none }

def pool14 : Array CpInfo := pool [(1, u "java/lang/Cloneable"), (0, .class_ 1), (0, u "java/lang/Object"), (0, .class_ 3)] 3

/-- java/lang/Cloneable -/
def k14 : Class := { plain "java/lang/Cloneable" (some 0) with
  accessFlags := 1537
  interfaces := #[]
  cf := some (fileOf pool14 2 #[] #[] 1537 4 #[] #[])
  fields := #[]
  methods := #[]
  instanceTypes := #[]
  staticTypes := #[]
  resolved := Array.replicate 8 none
  statics := none }

/-- the primitive byte -/
def k15 : Class := { plain "byte" none with kind := .primitive 'B', accessFlags := 0x411 }
/-- [B -/
def k16 : Class := { plain "[B" (some 0) with kind := .array 15 .byte, interfaces := #[14, 3], accessFlags := 1041 }

/-- the primitive char -/
def k17 : Class := { plain "char" none with kind := .primitive 'C', accessFlags := 0x411 }
/-- [C -/
def k18 : Class := { plain "[C" (some 0) with kind := .array 17 .char, interfaces := #[14, 3], accessFlags := 1041 }

/-- the primitive int -/
def k19 : Class := { plain "int" none with kind := .primitive 'I', accessFlags := 0x411 }
/-- [I -/
def k20 : Class := { plain "[I" (some 0) with kind := .array 19 .int, interfaces := #[14, 3], accessFlags := 1041 }

def heap : Heap := #[{ cls := 8, slots := #[.long 0, .int 1, .null, .int 0, .null, .int 0, .int 0], vm := .statics 8 },
  { cls := 12, slots := #[.null, .null, .null], vm := .statics 12 }]
def classes : Array Class := #[k0, k1, k2, k3, k4, k5, k6, k7, k8, k9, k10, k11, k12, k13, k14, k15, k16, k17, k18, k19, k20]
def interned : List (Array UInt16 × Addr) := []
def slotsUsed : Nat := 10
def theMethod : MethodId := ⟨1, 1⟩
def args0 : Array Value := #[.int 5, .long 6, .long 7, .long 8, .long 9, .int 3]
def aboutOver (below : List Frame) : State where
  vm := { classes := classes, interned := interned.toArray }
  heap := heap
  slotsUsed := slotsUsed
  threads := #[{ frames := .invoking theMethod args0 :: below }]
def below0 : List Frame := [.native { method := ⟨0, 0⟩, args := #[] }]
def about1 : State := aboutOver below0
def p0 : Program := .bare "" "" ""
def e0 : Env := launch0.env 0 0 0
theorem w_frames : about1.frames = Frame.invoking theMethod args0 :: below0 := rfl
set_option maxRecDepth 65536 in
theorem w_args : argsFit about1.vm theMethod args0 = true := by decide +kernel
set_option maxRecDepth 65536 in
theorem w_heap : heapFits about1 = true := by decide +kernel
set_option maxRecDepth 65536 in
theorem w_runnable : about1.curStatus? = some .runnable := by decide +kernel
set_option maxRecDepth 65536 in
theorem w_alone : about1.alone = true := by decide +kernel
set_option maxRecDepth 65536 in
theorem w_named : about1.methodNamed? x = some theMethod := by decide +kernel
set_option maxRecDepth 65536 in
theorem w_hears : about1.hears theMethod below0 = true := by decide +kernel
set_option maxRecDepth 65536 in
theorem w_ripe : about1.ripe theMethod args0 below0 = true := by decide +kernel
theorem w_running : about1.status = .running := rfl
set_option maxRecDepth 65536 in
theorem w_room : about1.hasRoom e0.platform room_1 = true :=
  launch0.hasRoom_least _ room_1 (by decide +kernel) (by decide +kernel) (by decide +kernel) (by decide +kernel) (by decide +kernel) (by decide +kernel)
theorem allAtoms_all (ts : List Jvm.Cond) (a : Array Jvm.Value) (st : Jvm.State) : (allAtoms ts).before a st = ts.all (fun c => c.before a st) := by
  induction ts with
  | nil => rfl
  | cons c t ih =>
    show (Jvm.Cond.and c (allAtoms t)).before a st = _
    rw [Jvm.Cond.before_and, ih, List.all_cons]
def words1 : List Jvm.Cond := Jvm.Cond.code x code maxLocals ret :: tables_1
/-- a 'code' word, met by the world's own term for the bytes: nothing is compared byte by byte -/
theorem code_word {y : MethodName} {bytes : ByteArray} {mx : Nat} {rt : Option FieldType} {a : Array Value} {s : State} {m : MethodId} {meth : Method} {c : Code} (h1 : s.methodNamed? y = some m) (h2 : s.vm.method? m = some meth) (h3 : meth.code = some c) (h4 : c.code = bytes)
    (h5 : (c.maxLocals == mx && c.exceptionTable.isEmpty && decide (c.maxStack ≤ mostOperands) && decide (meth.sig.returnType = rt) && !meth.locks && decide (parseMethodDescriptor y.desc = some meth.sig)) = true) : (Jvm.Cond.code y bytes mx rt).before a s = true := by
  simp only [Bool.and_eq_true, beq_iff_eq, Bool.not_eq_true', decide_eq_true_eq] at h5
  obtain ⟨⟨⟨⟨⟨g1, g2⟩, g3⟩, g4⟩, g5⟩, g6⟩ := h5
  simp [Cond.before, Cond.holds, Cond.value, h1, h2, h3, h4, g1, g2, g3, g4, g5, g6]
def isCode : Jvm.Cond → Bool
  | .code _ _ _ _ => true
  | _ => false
theorem all_split {L : List Jvm.Cond} {P : Jvm.Cond → Bool} (h1 : L.all (fun c => isCode c || P c) = true) (h2 : ∀ c ∈ L.filter isCode, P c = true) : L.all P = true := by
  refine List.all_eq_true.mpr fun c hc => ?_
  have h := List.all_eq_true.mp h1 c hc
  rcases Bool.eq_false_or_eq_true (isCode c) with hi | hi
  · exact h2 c (List.mem_filter.mpr ⟨hc, hi⟩)
  · simpa [hi] using h
set_option maxRecDepth 65536 in
theorem w_c0 : (Jvm.Cond.code x code maxLocals ret).before args0 about1 = true := code_word (m := ⟨1, 1⟩) (meth := k1m1) (c := k1c1) (by decide +kernel) rfl rfl rfl (by decide +kernel)
set_option maxRecDepth 65536 in
theorem w_c1 : (Jvm.Cond.code ({ cls := "java/lang/Math", name := "min", desc := "(II)I" } : Jvm.MethodName) jdk_29_method_69_code (2 : Nat) (Option.some Jvm.ClassFile.FieldType.int)).before args0 about1 = true := code_word (m := ⟨2, 1⟩) (meth := k2m1) (c := k2c1) (by decide +kernel) rfl rfl rfl (by decide +kernel)
set_option maxRecDepth 65536 in
theorem w_c2 : (Jvm.Cond.code ({ cls := "com/example/enact/enact/model/RunKeyEqualsPinLaw", name := "mk", desc := "(ICC)Ljava/lang/String;" } : Jvm.MethodName) method_3_code (3 : Nat) (Option.some (Jvm.ClassFile.FieldType.object "java/lang/String"))).before args0 about1 = true := code_word (m := ⟨1, 2⟩) (meth := k1m2) (c := k1c2) (by decide +kernel) rfl rfl rfl (by decide +kernel)
set_option maxRecDepth 65536 in
theorem w_c3 : (Jvm.Cond.code ({ cls := "com/example/enact/enact/model/RunKey", name := "<init>", desc := "(Ljava/lang/String;JJ)V" } : Jvm.MethodName) prog_98_method_1_code (6 : Nat) (Option.none : Option Jvm.ClassFile.FieldType)).before args0 about1 = true := code_word (m := ⟨9, 0⟩) (meth := k9m0) (c := k9c0) (by decide +kernel) rfl rfl rfl (by decide +kernel)
set_option maxRecDepth 65536 in
theorem w_c4 : (Jvm.Cond.code ({ cls := "java/lang/Object", name := "<init>", desc := "()V" } : Jvm.MethodName) object_method_1_code (1 : Nat) (Option.none : Option Jvm.ClassFile.FieldType)).before args0 about1 = true := code_word (m := ⟨0, 0⟩) (meth := k0m0) (c := k0c0) (by decide +kernel) rfl rfl rfl (by decide +kernel)
set_option maxRecDepth 65536 in
theorem w_c5 : (Jvm.Cond.code ({ cls := "com/example/enact/enact/model/RunKey", name := "equals", desc := "(Ljava/lang/Object;)Z" } : Jvm.MethodName) prog_98_method_5_code (3 : Nat) (Option.some Jvm.ClassFile.FieldType.boolean)).before args0 about1 = true := code_word (m := ⟨9, 1⟩) (meth := k9m1) (c := k9c1) (by decide +kernel) rfl rfl rfl (by decide +kernel)
set_option maxRecDepth 65536 in
theorem w_c6 : (Jvm.Cond.code ({ cls := "java/lang/String", name := "equals", desc := "(Ljava/lang/Object;)Z" } : Jvm.MethodName) jdk_42_method_66_code (3 : Nat) (Option.some Jvm.ClassFile.FieldType.boolean)).before args0 about1 = true := code_word (m := ⟨8, 2⟩) (meth := k8m2) (c := k8c2) (by decide +kernel) rfl rfl rfl (by decide +kernel)
set_option maxRecDepth 65536 in
theorem w_c7 : (Jvm.Cond.code ({ cls := "java/lang/String", name := "<init>", desc := "([C)V" } : Jvm.MethodName) jdk_42_method_3_code (2 : Nat) (Option.none : Option Jvm.ClassFile.FieldType)).before args0 about1 = true := code_word (m := ⟨8, 1⟩) (meth := k8m1) (c := k8c1) (by decide +kernel) rfl rfl rfl (by decide +kernel)
set_option maxRecDepth 65536 in
theorem w_c8 : (Jvm.Cond.code ({ cls := "java/lang/String", name := "<init>", desc := "([CIILjava/lang/Void;)V" } : Jvm.MethodName) jdk_42_method_149_code (6 : Nat) (Option.none : Option Jvm.ClassFile.FieldType)).before args0 about1 = true := code_word (m := ⟨8, 4⟩) (meth := k8m4) (c := k8c4) (by decide +kernel) rfl rfl rfl (by decide +kernel)
set_option maxRecDepth 65536 in
theorem w_c9 : (Jvm.Cond.code ({ cls := "java/lang/StringUTF16", name := "compress", desc := "([CII)[B" } : Jvm.MethodName) jdk_52_method_16_code (6 : Nat) (Option.some (Jvm.ClassFile.FieldType.array Jvm.ClassFile.FieldType.byte))).before args0 about1 = true := code_word (m := ⟨10, 2⟩) (meth := k10m2) (c := k10c2) (by decide +kernel) rfl rfl rfl (by decide +kernel)
set_option maxRecDepth 65536 in
theorem w_c10 : (Jvm.Cond.code ({ cls := "java/lang/StringUTF16", name := "compress", desc := "([CI[BII)I" } : Jvm.MethodName) jdk_52_method_21_code (7 : Nat) (Option.some Jvm.ClassFile.FieldType.int)).before args0 about1 = true := code_word (m := ⟨10, 3⟩) (meth := k10m3) (c := k10c3) (by decide +kernel) rfl rfl rfl (by decide +kernel)
set_option maxRecDepth 65536 in
theorem w_c11 : (Jvm.Cond.code ({ cls := "java/lang/StringUTF16", name := "coderFromArrayLen", desc := "([BI)B" } : Jvm.MethodName) jdk_52_method_15_code (2 : Nat) (Option.some Jvm.ClassFile.FieldType.byte)).before args0 about1 = true := code_word (m := ⟨10, 1⟩) (meth := k10m1) (c := k10c1) (by decide +kernel) rfl rfl rfl (by decide +kernel)
set_option maxRecDepth 65536 in
theorem w_c12 : (Jvm.Cond.code ({ cls := "java/lang/StringLatin1", name := "equals", desc := "([B[B)Z" } : Jvm.MethodName) jdk_43_method_13_code (3 : Nat) (Option.some Jvm.ClassFile.FieldType.boolean)).before args0 about1 = true := code_word (m := ⟨11, 2⟩) (meth := k11m2) (c := k11c2) (by decide +kernel) rfl rfl rfl (by decide +kernel)
set_option maxRecDepth 65536 in
theorem w_c13 : (Jvm.Cond.code ({ cls := "java/lang/String", name := "valueOf", desc := "(C)Ljava/lang/String;" } : Jvm.MethodName) jdk_42_method_139_code (1 : Nat) (Option.some (Jvm.ClassFile.FieldType.object "java/lang/String"))).before args0 about1 = true := code_word (m := ⟨8, 3⟩) (meth := k8m3) (c := k8c3) (by decide +kernel) rfl rfl rfl (by decide +kernel)
set_option maxRecDepth 65536 in
theorem w_c14 : (Jvm.Cond.code ({ cls := "java/lang/StringLatin1", name := "canEncode", desc := "(C)Z" } : Jvm.MethodName) jdk_43_method_3_code (1 : Nat) (Option.some Jvm.ClassFile.FieldType.boolean)).before args0 about1 = true := code_word (m := ⟨11, 1⟩) (meth := k11m1) (c := k11c1) (by decide +kernel) rfl rfl rfl (by decide +kernel)
set_option maxRecDepth 65536 in
theorem w_c15 : (Jvm.Cond.code ({ cls := "java/lang/StringLatin1", name := "toBytes", desc := "(C)[B" } : Jvm.MethodName) jdk_43_method_46_code (1 : Nat) (Option.some (Jvm.ClassFile.FieldType.array Jvm.ClassFile.FieldType.byte))).before args0 about1 = true := code_word (m := ⟨11, 3⟩) (meth := k11m3) (c := k11c3) (by decide +kernel) rfl rfl rfl (by decide +kernel)
set_option maxRecDepth 65536 in
theorem w_c16 : (Jvm.Cond.code ({ cls := "java/lang/String", name := "<init>", desc := "([BB)V" } : Jvm.MethodName) jdk_42_method_151_code (3 : Nat) (Option.none : Option Jvm.ClassFile.FieldType)).before args0 about1 = true := code_word (m := ⟨8, 5⟩) (meth := k8m5) (c := k8c5) (by decide +kernel) rfl rfl rfl (by decide +kernel)
def codes1 : List Jvm.Cond := [Jvm.Cond.code x code maxLocals ret, Jvm.Cond.code ({ cls := "java/lang/Math", name := "min", desc := "(II)I" } : Jvm.MethodName) jdk_29_method_69_code (2 : Nat) (Option.some Jvm.ClassFile.FieldType.int), Jvm.Cond.code ({ cls := "com/example/enact/enact/model/RunKeyEqualsPinLaw", name := "mk", desc := "(ICC)Ljava/lang/String;" } : Jvm.MethodName) method_3_code (3 : Nat) (Option.some (Jvm.ClassFile.FieldType.object "java/lang/String")), Jvm.Cond.code ({ cls := "com/example/enact/enact/model/RunKey", name := "<init>", desc := "(Ljava/lang/String;JJ)V" } : Jvm.MethodName) prog_98_method_1_code (6 : Nat) (Option.none : Option Jvm.ClassFile.FieldType), Jvm.Cond.code ({ cls := "java/lang/Object", name := "<init>", desc := "()V" } : Jvm.MethodName) object_method_1_code (1 : Nat) (Option.none : Option Jvm.ClassFile.FieldType), Jvm.Cond.code ({ cls := "com/example/enact/enact/model/RunKey", name := "equals", desc := "(Ljava/lang/Object;)Z" } : Jvm.MethodName) prog_98_method_5_code (3 : Nat) (Option.some Jvm.ClassFile.FieldType.boolean), Jvm.Cond.code ({ cls := "java/lang/String", name := "equals", desc := "(Ljava/lang/Object;)Z" } : Jvm.MethodName) jdk_42_method_66_code (3 : Nat) (Option.some Jvm.ClassFile.FieldType.boolean), Jvm.Cond.code ({ cls := "java/lang/String", name := "<init>", desc := "([C)V" } : Jvm.MethodName) jdk_42_method_3_code (2 : Nat) (Option.none : Option Jvm.ClassFile.FieldType), Jvm.Cond.code ({ cls := "java/lang/String", name := "<init>", desc := "([CIILjava/lang/Void;)V" } : Jvm.MethodName) jdk_42_method_149_code (6 : Nat) (Option.none : Option Jvm.ClassFile.FieldType), Jvm.Cond.code ({ cls := "java/lang/StringUTF16", name := "compress", desc := "([CII)[B" } : Jvm.MethodName) jdk_52_method_16_code (6 : Nat) (Option.some (Jvm.ClassFile.FieldType.array Jvm.ClassFile.FieldType.byte)), Jvm.Cond.code ({ cls := "java/lang/StringUTF16", name := "compress", desc := "([CI[BII)I" } : Jvm.MethodName) jdk_52_method_21_code (7 : Nat) (Option.some Jvm.ClassFile.FieldType.int), Jvm.Cond.code ({ cls := "java/lang/StringUTF16", name := "coderFromArrayLen", desc := "([BI)B" } : Jvm.MethodName) jdk_52_method_15_code (2 : Nat) (Option.some Jvm.ClassFile.FieldType.byte), Jvm.Cond.code ({ cls := "java/lang/StringLatin1", name := "equals", desc := "([B[B)Z" } : Jvm.MethodName) jdk_43_method_13_code (3 : Nat) (Option.some Jvm.ClassFile.FieldType.boolean), Jvm.Cond.code ({ cls := "java/lang/String", name := "valueOf", desc := "(C)Ljava/lang/String;" } : Jvm.MethodName) jdk_42_method_139_code (1 : Nat) (Option.some (Jvm.ClassFile.FieldType.object "java/lang/String")), Jvm.Cond.code ({ cls := "java/lang/StringLatin1", name := "canEncode", desc := "(C)Z" } : Jvm.MethodName) jdk_43_method_3_code (1 : Nat) (Option.some Jvm.ClassFile.FieldType.boolean), Jvm.Cond.code ({ cls := "java/lang/StringLatin1", name := "toBytes", desc := "(C)[B" } : Jvm.MethodName) jdk_43_method_46_code (1 : Nat) (Option.some (Jvm.ClassFile.FieldType.array Jvm.ClassFile.FieldType.byte)), Jvm.Cond.code ({ cls := "java/lang/String", name := "<init>", desc := "([BB)V" } : Jvm.MethodName) jdk_42_method_151_code (3 : Nat) (Option.none : Option Jvm.ClassFile.FieldType)]
set_option maxRecDepth 65536 in
theorem codes_eq : words1.filter isCode = codes1 := rfl
theorem w_codes : ∀ c ∈ words1.filter isCode, c.before args0 about1 = true := by
  rw [codes_eq]
  intro c hc
  simp only [codes1, List.mem_cons, List.not_mem_nil, or_false] at hc
  rcases hc with rfl | rfl | rfl | rfl | rfl | rfl | rfl | rfl | rfl | rfl | rfl | rfl | rfl | rfl | rfl | rfl | rfl
  · exact w_c0
  · exact w_c1
  · exact w_c2
  · exact w_c3
  · exact w_c4
  · exact w_c5
  · exact w_c6
  · exact w_c7
  · exact w_c8
  · exact w_c9
  · exact w_c10
  · exact w_c11
  · exact w_c12
  · exact w_c13
  · exact w_c14
  · exact w_c15
  · exact w_c16
set_option maxRecDepth 65536 in
theorem w_t1 : (words1.take 24).all (fun c => isCode c || c.before args0 about1) = true := by decide +kernel
set_option maxRecDepth 65536 in
theorem w_t2 : ((words1.drop 24).take 24).all (fun c => isCode c || c.before args0 about1) = true := by decide +kernel
set_option maxRecDepth 65536 in
theorem w_t3 : (((words1.drop 24).drop 24).take 24).all (fun c => isCode c || c.before args0 about1) = true := by decide +kernel
set_option maxRecDepth 65536 in
theorem w_t4 : (((words1.drop 24).drop 24).drop 24).all (fun c => isCode c || c.before args0 about1) = true := by decide +kernel
theorem w_tables : (allAtoms (Jvm.Cond.code x code maxLocals ret :: tables_1)).before args0 about1 = true := by
  rw [allAtoms_all]
  show words1.all (fun c => c.before args0 about1) = true
  refine all_split ?_ w_codes
  rw [← List.take_append_drop 24 words1, List.all_append, w_t1, ← List.take_append_drop 24 (words1.drop 24), List.all_append, w_t2, ← List.take_append_drop 24 ((words1.drop 24).drop 24), List.all_append, w_t3, w_t4]
  rfl
set_option maxRecDepth 65536 in
theorem w_rest : rest_1_c.before args0 about1 = true := by decide +kernel
set_option maxRecDepth 65536 in
theorem w_case : (Jvm.Cond.and given_1 narrow_1).before args0 about1 = true := by decide +kernel
set_option maxRecDepth 65536 in
theorem w_consts : constsHeld consts_1 about1 := Jvm.Lit.constsHeldB_iff.mp (by decide +kernel)
theorem w_applies : (headSpec (Jvm.Cond.code x code maxLocals ret :: tables_1) room_1).applies x e0.platform about1 = true :=
  (Spec.applies_iff w_frames).mpr ⟨w_running, w_runnable, w_alone, w_named, w_hears, w_ripe, w_room, w_tables⟩
theorem atStart : AtStart classFile x code maxLocals ret World_1 tables_1 room_1 Calls_1 rest_1 Pre_1 launch0 p0 e0 about1 theMethod args0 below0 :=
  ⟨lists_1, trivial, launch0.admits_env _ _ _, launch0.least_env, fairChoices_fair.cas, fairChoices_fair.clock, w_frames, w_args, w_heap, w_applies, ⟨w_consts, trivial⟩, w_rest, w_case⟩
end start1
theorem witness_1 : WitnessClaimed_1 := ⟨start1.p0, start1.e0, start1.about1, start1.theMethod, start1.args0, start1.below0, start1.atStart⟩
end Jvm.Pilot.@@N@@
