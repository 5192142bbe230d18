import JvmDerived
import JvmDerived.Pilot.@@N@@Statement
import JvmDerived.Pilot.@@N@@Code
set_option linter.unusedVariables false
set_option linter.unusedSimpArgs false
@@BLOCK:NumsL.lean.txt@@
namespace Jvm.Pilot.@@N@@
open Jvm Jvm.ClassFile Sem Op Lib Jvm.Free Jvm.Stand Jvm.LawKit Jvm.RoadKit Bundle Jvm.Pilot.@@N@@.Jvm.D
abbrev own_S (p : Program) (e : Env) (below : List Frame) (T : State) (g : JFrame) (t : State) : Prop := Steps p.tables e below (T.setTop g) t
theorem own_ext {h h' : Heap} (K : Keep h h' []) : Ext h h' := ⟨K.1, fun a c q => K.2.1 a c q nin0⟩
theorem own_eqI {args : Array Value} {s : State} {t : Term} {n : Int32} (h : (Jvm.Cond.eq t (.int n)).value args s none s [] = some true) : t.eval args s none [] s = some (.int n) := by
  obtain ⟨x, y, h1, h2, h3, h4⟩ := cmp_v (Or.inl h)
  cases (Term.int_eval n (args := args) (s := s) (first := s) (o := none) (idx := [])).symm.trans h2
  obtain ⟨z, rfl⟩ : ∃ z, x = .int z := h4
  rw [h1]
  simp [Cond.value, h1, Term.eval] at h
  rw [h]
theorem own_eqJ {args : Array Value} {s : State} {t : Term} {n : Int64} (h : (Jvm.Cond.eq t (.long n)).value args s none s [] = some true) : t.eval args s none [] s = some (.long n) := by
  obtain ⟨x, y, h1, h2, h3, h4⟩ := cmp_v (Or.inl h)
  cases (long_at n (args := args) (s := s) (first := s) (o := none) (idx := [])).symm.trans h2
  obtain ⟨z, rfl⟩ : ∃ z, x = .long z := h4
  rw [h1]
  simp [Cond.value, h1, Term.eval] at h
  rw [h]
theorem own_eqR {args : Array Value} {s : State} {t u : Term} {x : Addr} (hu : u.eval args s none [] s = some (.ref x)) (h : (Jvm.Cond.eq t u).value args s none s [] = some true) : t.eval args s none [] s = some (.ref x) := by
  obtain ⟨z, y, h1, h2, h3, h4⟩ := cmp_v (Or.inl h)
  cases hu.symm.trans h2
  have hz : z.isRef = true := h4.2
  have e := gotT (eq_R h1 hu hz rfl) h
  rw [h1, e]
theorem own_wS {a0 : Array Value} {Z : State} (hw : ∀ d ∈ tables_1, d.before a0 Z = true) : ∀ a ∈ Bundle.stringAtoms, a.before a0 Z = true := by
  intro d hd
  simp only [Bundle.stringAtoms, Bundle.sN, List.mem_cons, List.not_mem_nil, or_false] at hd
  rcases hd with rfl | rfl | rfl | rfl | rfl | rfl | rfl
  · exact (hw _ (List.mem_of_getElem? (i := 19) rfl))
  · exact (hw _ (List.mem_of_getElem? (i := 20) rfl))
  · exact (hw _ (List.mem_of_getElem? (i := 21) rfl))
  · exact (hw _ (List.mem_of_getElem? (i := 22) rfl))
  · exact (hw _ (List.mem_of_getElem? (i := 23) rfl))
  · exact (hw _ (List.mem_of_getElem? (i := 24) rfl))
  · exact (hw _ (List.mem_of_getElem? (i := 25) rfl))

def own_st (oOK oBLOCKED oSHOULD_WAIT oNO_RULE_EXISTS oBAD_REQUEST oFAIL oTOO_MANY_REQUEST : Addr) (i : Int32) : Addr := if i = 0 then oOK else if i = (1 : Int32) then oBLOCKED else if i = (2 : Int32) then oSHOULD_WAIT else if i = (3 : Int32) then oNO_RULE_EXISTS else if i = (4 : Int32) then oBAD_REQUEST else if i = (5 : Int32) then oFAIL else oTOO_MANY_REQUEST
theorem own_m7 (y i : Int32) (h : i = ((y &&& (255 : Int32)) % (7 : Int32))) : i = (0 : Int32) ∨ i = (1 : Int32) ∨ i = (2 : Int32) ∨ i = (3 : Int32) ∨ i = (4 : Int32) ∨ i = (5 : Int32) ∨ i = (6 : Int32) := by
  have e1 : (y &&& (255 : Int32)).toInt = y.toInt % 2 ^ 8 := Jvm.Kit.i32_mask y 255 (k := 8) (by decide) (by decide)
  have e2 : ((y &&& (255 : Int32)) % (7 : Int32)).toInt = (y &&& (255 : Int32)).toInt % (7 : Int32).toInt := Jvm.Kit.i32_rem_nonneg (by omega)
  have c7 : (7 : Int32).toInt = 7 := by decide
  have k0 : (0 : Int32).toInt = 0 := by decide
  have k1 : (1 : Int32).toInt = 1 := by decide
  have k2 : (2 : Int32).toInt = 2 := by decide
  have k3 : (3 : Int32).toInt = 3 := by decide
  have k4 : (4 : Int32).toInt = 4 := by decide
  have k5 : (5 : Int32).toInt = 5 := by decide
  have k6 : (6 : Int32).toInt = 6 := by decide
  rw [c7, ← h] at e2
  simp only [← Int32.toInt_inj]
  omega
theorem own_ord {Z : State} {h : Heap} (oOK oBLOCKED oSHOULD_WAIT oNO_RULE_EXISTS oBAD_REQUEST oFAIL oTOO_MANY_REQUEST : Addr) (i : Int32) (hi : i = (0 : Int32) ∨ i = (1 : Int32) ∨ i = (2 : Int32) ∨ i = (3 : Int32) ∨ i = (4 : Int32) ∨ i = (5 : Int32) ∨ i = (6 : Int32)) (f0 : Fld Z h oOK "java/lang/Enum" "ordinal" "I" (.int (0 : Int32))) (f1 : Fld Z h oBLOCKED "java/lang/Enum" "ordinal" "I" (.int (1 : Int32))) (f2 : Fld Z h oSHOULD_WAIT "java/lang/Enum" "ordinal" "I" (.int (2 : Int32))) (f3 : Fld Z h oNO_RULE_EXISTS "java/lang/Enum" "ordinal" "I" (.int (3 : Int32))) (f4 : Fld Z h oBAD_REQUEST "java/lang/Enum" "ordinal" "I" (.int (4 : Int32))) (f5 : Fld Z h oFAIL "java/lang/Enum" "ordinal" "I" (.int (5 : Int32))) (f6 : Fld Z h oTOO_MANY_REQUEST "java/lang/Enum" "ordinal" "I" (.int (6 : Int32))) : Fld Z h (own_st oOK oBLOCKED oSHOULD_WAIT oNO_RULE_EXISTS oBAD_REQUEST oFAIL oTOO_MANY_REQUEST i) "java/lang/Enum" "ordinal" "I" (.int i) := by
  rcases hi with rfl | rfl | rfl | rfl | rfl | rfl | rfl
  · exact f0
  · exact f1
  · exact f2
  · exact f3
  · exact f4
  · exact f5
  · exact f6
theorem own_exa {Z : State} {h : Heap} {C : String} (oOK oBLOCKED oSHOULD_WAIT oNO_RULE_EXISTS oBAD_REQUEST oFAIL oTOO_MANY_REQUEST : Addr) (i : Int32) (e0 : Exa Z h oOK C) (e1 : Exa Z h oBLOCKED C) (e2 : Exa Z h oSHOULD_WAIT C) (e3 : Exa Z h oNO_RULE_EXISTS C) (e4 : Exa Z h oBAD_REQUEST C) (e5 : Exa Z h oFAIL C) (e6 : Exa Z h oTOO_MANY_REQUEST C) : Exa Z h (own_st oOK oBLOCKED oSHOULD_WAIT oNO_RULE_EXISTS oBAD_REQUEST oFAIL oTOO_MANY_REQUEST i) C := by
  unfold own_st
  repeat' split
  all_goals assumption
theorem own_no {Z : State} {a0 : Array Value} {O S C K : String} {n : Nat} (wO : (Jvm.Cond.noSuperclass O).before a0 Z = true) (wS : (Jvm.Cond.superclass S O).before a0 Z = true) (wC : (Jvm.Cond.superclass C S).before a0 Z = true) (wK : (Jvm.Cond.instantiable K n).before a0 Z = true) (n1 : O ≠ K) (n2 : S ≠ K) (n3 : C ≠ K) : ∃ c t, Z.vm.findClass C = some c ∧ Z.vm.findClass K = some t ∧ Z.vm.assignable c t = false := by
  obtain ⟨t, kt, t1, t2, t3, t4, -, -⟩ := Cond.instantiable_spec wK
  have hroot : NS Z O K := by
    obtain ⟨c, k, h1, h2, h3, -, -⟩ := Cond.noSuperclass_spec wO
    have ne := ids_ne h1 t1 n1
    refine ⟨c, t, h1, t1, fun fuel => ?_⟩
    cases fuel with
    | zero => rfl
    | succ f => simp [Vm.isSubclassAux, ne, h2, h3]
  obtain ⟨c, t', h0, g0, n4⟩ := NS.step wC (NS.step wS hroot n2) n3
  cases t1.symm.trans g0
  obtain ⟨p, k, kp, h1, h2, h3, h4, h5, -, h7⟩ := Cond.superclass_spec h0 wC
  have ne := ids_ne h0 t1 n3
  have t5 : kt.isInterface = false := by
    cases q : kt.isInterface
    · rfl
    · rw [q] at t4; simp at t4
  refine ⟨c, t, h0, t1, ?_⟩
  show Z.vm.assignableAux (255 + 1) c t = false
  simp [Vm.assignableAux, ne, h2, t2, h5, t3, t5, Vm.isSubclass, n4]
theorem d1_0 : decode method_2_code 0 = .ok (.iload_n 0, 1) := by decide +kernel
theorem d1_1 : decode method_2_code 1 = .ok (.ifCond .ne 7, 3) := by decide +kernel
theorem d1_4 : decode method_2_code 4 = .ok (.getstatic 7, 3) := by decide +kernel
theorem d1_7 : decode method_2_code 7 = .ok (.areturn, 1) := by decide +kernel
theorem d1_8 : decode method_2_code 8 = .ok (.iload_n 0, 1) := by decide +kernel
theorem d1_9 : decode method_2_code 9 = .ok (.iconst 1, 1) := by decide +kernel
theorem d1_10 : decode method_2_code 10 = .ok (.if_icmp .ne 7, 3) := by decide +kernel
theorem d1_13 : decode method_2_code 13 = .ok (.getstatic 13, 3) := by decide +kernel
theorem d1_16 : decode method_2_code 16 = .ok (.areturn, 1) := by decide +kernel
theorem d1_17 : decode method_2_code 17 = .ok (.iload_n 0, 1) := by decide +kernel
theorem d1_18 : decode method_2_code 18 = .ok (.iconst 2, 1) := by decide +kernel
theorem d1_19 : decode method_2_code 19 = .ok (.if_icmp .ne 7, 3) := by decide +kernel
theorem d1_22 : decode method_2_code 22 = .ok (.getstatic 16, 3) := by decide +kernel
theorem d1_25 : decode method_2_code 25 = .ok (.areturn, 1) := by decide +kernel
theorem d1_26 : decode method_2_code 26 = .ok (.iload_n 0, 1) := by decide +kernel
theorem d1_27 : decode method_2_code 27 = .ok (.iconst 3, 1) := by decide +kernel
theorem d1_28 : decode method_2_code 28 = .ok (.if_icmp .ne 7, 3) := by decide +kernel
theorem d1_31 : decode method_2_code 31 = .ok (.getstatic 19, 3) := by decide +kernel
theorem d1_34 : decode method_2_code 34 = .ok (.areturn, 1) := by decide +kernel
theorem d1_35 : decode method_2_code 35 = .ok (.iload_n 0, 1) := by decide +kernel
theorem d1_36 : decode method_2_code 36 = .ok (.iconst 4, 1) := by decide +kernel
theorem d1_37 : decode method_2_code 37 = .ok (.if_icmp .ne 7, 3) := by decide +kernel
theorem d1_40 : decode method_2_code 40 = .ok (.getstatic 22, 3) := by decide +kernel
theorem d1_43 : decode method_2_code 43 = .ok (.areturn, 1) := by decide +kernel
theorem d1_44 : decode method_2_code 44 = .ok (.iload_n 0, 1) := by decide +kernel
theorem d1_45 : decode method_2_code 45 = .ok (.iconst 5, 1) := by decide +kernel
theorem d1_46 : decode method_2_code 46 = .ok (.if_icmp .ne 7, 3) := by decide +kernel
theorem d1_49 : decode method_2_code 49 = .ok (.getstatic 25, 3) := by decide +kernel
theorem d1_52 : decode method_2_code 52 = .ok (.areturn, 1) := by decide +kernel
theorem d1_53 : decode method_2_code 53 = .ok (.getstatic 28, 3) := by decide +kernel
theorem d1_56 : decode method_2_code 56 = .ok (.areturn, 1) := by decide +kernel
theorem pn_1 : plainName "com/example/aswan/aswan/token/TokenResultEqualsPinLaw" = true := by first | (simp [plainName, overriddenIn]; done) | decide +kernel
theorem ef_1 (m : MethodId) (p0 : Int32) : entryFrame m #[(.int p0)] 1 = mkF m 0 #[.val (.int p0)] [] := by first | (simp [entryFrame, mkF, argsToLocals, Value.category]; done) | rfl
def Q1 (Z : State) (p0 : Int32) (oOK : Addr) (oBLOCKED : Addr) (oSHOULD_WAIT : Addr) (oNO_RULE_EXISTS : Addr) (oBAD_REQUEST : Addr) (oFAIL : Addr) (oTOO_MANY_REQUEST : Addr) (h0 : Heap) (n0 : Nat) (v : Option Value) (h : Heap) (L : List Loc) : Prop := v = some (.ref (own_st oOK oBLOCKED oSHOULD_WAIT oNO_RULE_EXISTS oBAD_REQUEST oFAIL oTOO_MANY_REQUEST p0)) ∧ Fr n0 L ∧ h = h0
set_option maxRecDepth 65536 in
set_option maxHeartbeats 40000000 in
theorem rm1 (l : Launch) (Z : State) (a0 : Array Value) (hw : ∀ d ∈ tables_1, d.before a0 Z = true) (ws : List Jvm.Cond) (p0 : Int32) (oOK : Addr) (oBLOCKED : Addr) (oSHOULD_WAIT : Addr) (oNO_RULE_EXISTS : Addr) (oBAD_REQUEST : Addr) (oFAIL : Addr) (oTOO_MANY_REQUEST : Addr) (h0 : Heap) (n0 : Nat) (Z0 : n0 ≤ h0.size) (S0 : Sta Z h0 "com/example/aswan/aswan/token/TokenStatus" "OK" "Lcom/example/aswan/aswan/token/TokenStatus;" (.ref oOK)) (S1 : Sta Z h0 "com/example/aswan/aswan/token/TokenStatus" "BLOCKED" "Lcom/example/aswan/aswan/token/TokenStatus;" (.ref oBLOCKED)) (S2 : Sta Z h0 "com/example/aswan/aswan/token/TokenStatus" "SHOULD_WAIT" "Lcom/example/aswan/aswan/token/TokenStatus;" (.ref oSHOULD_WAIT)) (S3 : Sta Z h0 "com/example/aswan/aswan/token/TokenStatus" "NO_RULE_EXISTS" "Lcom/example/aswan/aswan/token/TokenStatus;" (.ref oNO_RULE_EXISTS)) (S4 : Sta Z h0 "com/example/aswan/aswan/token/TokenStatus" "BAD_REQUEST" "Lcom/example/aswan/aswan/token/TokenStatus;" (.ref oBAD_REQUEST)) (S5 : Sta Z h0 "com/example/aswan/aswan/token/TokenStatus" "FAIL" "Lcom/example/aswan/aswan/token/TokenStatus;" (.ref oFAIL)) (S6 : Sta Z h0 "com/example/aswan/aswan/token/TokenStatus" "TOO_MANY_REQUEST" "Lcom/example/aswan/aswan/token/TokenStatus;" (.ref oTOO_MANY_REQUEST)) :
    MetFree l (⟨"com/example/aswan/aswan/token/TokenResultEqualsPinLaw", "st", "(I)Lcom/example/aswan/aswan/token/TokenStatus;"⟩ : MethodName) (head1 (Jvm.Cond.code (⟨"com/example/aswan/aswan/token/TokenResultEqualsPinLaw", "st", "(I)Lcom/example/aswan/aswan/token/TokenStatus;"⟩ : MethodName) method_2_code 1 (some (.object "com/example/aswan/aswan/token/TokenStatus")) :: ws) ({ frames := 0, cells := 0, slots := 0, locals := 0 } : Room)) (fun a U => a = #[(.int p0)] ∧ Z.Warmed39 U.vm ∧ U.heap = h0) (fun _ _ _ _ _ => True) (fun _ U o U' => ∃ v L, o = .returned v ∧ Q1 Z p0 oOK oBLOCKED oSHOULD_WAIT oNO_RULE_EXISTS oBAD_REQUEST oFAIL oTOO_MANY_REQUEST h0 n0 v U'.heap L ∧ FrameEnd U o U' L ({ frames := 0, cells := 0, slots := 0, locals := 0 } : Room).cells ({ frames := 0, cells := 0, slots := 0, locals := 0 } : Room).slots) := by
  refine MetFree.of_bodySF (plainFor_of_name pn_1) hisR ?_
  intro p e s m args below meth c s₁ Bd hml0 hP hK
  obtain ⟨rfl, hZ, hh⟩ := hP
  have hx := Bd.exec
  have hby := Bd.bytes
  have hml : c.maxLocals = 1 := hml0
  have hown : s.vm.findClass "com/example/aswan/aswan/token/TokenResultEqualsPinLaw" = some m.cls := findClass_of_methodNamed Bd.named
  have hnm := (name_of_methodNamed Bd.named Bd.method).1
  have X0 : Stand p l e ({ frames := 0, cells := 0, slots := 0, locals := 0 } : Room) s m #[(.int p0)] below meth c s₁ [] 0 0 := Stand.of_body Bd
  have e0 : s₁.heap = h0 := by rw [← hh, Bd.state]; rfl
  have N0 := Fr.nil n0
  have K0 : ∀ t, Steps p.tables e below (s₁.setTop (mkF m 0 #[.val (.int p0)] [])) t → Steps p.tables e below (s₁.setTop (entryFrame m #[(.int p0)] 1)) t := fun t k => castTop (ef_1 m p0) k
  generalize s₁.setTop (entryFrame m #[(.int p0)] 1) = SE at K0 ⊢
  have K2 : ∀ t, own_S p e below s₁ (mkF m 1 #[.val (.int p0)] [(.int p0)]) t → Steps p.tables e below SE t := by
    intro t k
    refine K0 _ ?_
    refine XS.iloadN X0.here hx rfl (hb hby d1_0) rfl ?_
    exact k
  by_cases c1_1 : p0 = 0
  · skip
    have K3 : ∀ t, own_S p e below s₁ (mkF m 4 #[.val (.int p0)] []) t → Steps p.tables e below SE t := by
      intro t k
      refine K2 _ ?_
      refine XS.ifNo X0.here hx rfl (hb hby d1_1) rfl (XT.i0_ne_f c1_1) ?_
      exact k
    obtain ⟨T4, X4, e4, st4⟩ := getS2 X0 hx hZ hown (host := "") (Or.inl (hw _ (List.mem_of_getElem? (i := 9) rfl))) Via.refl e0 S0 (g := (mkF m 4 #[.val (.int p0)] [])) rfl (hb hby d1_4)
    have K4 : ∀ t, own_S p e below T4 (mkF m 7 #[.val (.int p0)] [(.ref oOK)]) t → Steps p.tables e below SE t := fun t k => K3 _ (st4 _ k)
    obtain ⟨fs, hr, hrun, hended, hW, hsame⟩ := X4.leave (v := some (.ref oOK)) (fun h => by rw [Bd.returns] at h; cases h)
    refine ⟨_, _, K4 _ ?_, hrun, hended, _, _, rfl, ?_, ⟨_, rfl⟩, hW, hsame.mono (by decide) (by decide)⟩
    · show Steps p.tables e below (T4.setTop (mkF m 7 #[.val (.int p0)] [(.ref oOK)])) _
      jvm_step X4.here [X4.here.top, hx, (hb hby d1_7), X4.method', Bd.returns, Value.isRef, FieldType.isReference]
      first | (intro acts; rw [hr _ acts rfl rfl rfl]) | rw [hr _ _ rfl rfl rfl]
      exact Steps.refl _
    · show Q1 Z p0 oOK oBLOCKED oSHOULD_WAIT oNO_RULE_EXISTS oBAD_REQUEST oFAIL oTOO_MANY_REQUEST h0 n0 _ T4.heap _
      rw [e4]
      exact ⟨(by unfold own_st; simp only [if_pos c1_1]), N0, rfl⟩
  · skip
    have K6 : ∀ t, own_S p e below s₁ (mkF m 10 #[.val (.int p0)] [(.int (1 : Int32)), (.int p0)]) t → Steps p.tables e below SE t := by
      intro t k
      refine K2 _ ?_
      refine XS.ifYes X0.here hx rfl (pc0 := 1) (pc' := 8) rfl (hb hby d1_1) rfl (XT.i0_ne_t c1_1) (by decide) (by decide) ?_
      show own_S p e below s₁ (mkF m 8 #[.val (.int p0)] []) _
      refine XS.iloadN X0.here hx rfl (hb hby d1_8) rfl ?_
      show own_S p e below s₁ (mkF m 9 #[.val (.int p0)] [(.int p0)]) _
      refine XS.iconst X0.here hx rfl (hb hby d1_9) ?_
      exact k
    by_cases c10_5 : p0 = (1 : Int32)
    · skip
      have K7 : ∀ t, own_S p e below s₁ (mkF m 13 #[.val (.int p0)] []) t → Steps p.tables e below SE t := by
        intro t k
        refine K6 _ ?_
        refine XS.icmpNo X0.here hx rfl (hb hby d1_10) rfl (XT.ii_ne_f c10_5) ?_
        exact k
      obtain ⟨T8, X8, e8, st8⟩ := getS2 X0 hx hZ hown (host := "") (Or.inl (hw _ (List.mem_of_getElem? (i := 78) rfl))) Via.refl e0 S1 (g := (mkF m 13 #[.val (.int p0)] [])) rfl (hb hby d1_13)
      have K8 : ∀ t, own_S p e below T8 (mkF m 16 #[.val (.int p0)] [(.ref oBLOCKED)]) t → Steps p.tables e below SE t := fun t k => K7 _ (st8 _ k)
      obtain ⟨fs, hr, hrun, hended, hW, hsame⟩ := X8.leave (v := some (.ref oBLOCKED)) (fun h => by rw [Bd.returns] at h; cases h)
      refine ⟨_, _, K8 _ ?_, hrun, hended, _, _, rfl, ?_, ⟨_, rfl⟩, hW, hsame.mono (by decide) (by decide)⟩
      · show Steps p.tables e below (T8.setTop (mkF m 16 #[.val (.int p0)] [(.ref oBLOCKED)])) _
        jvm_step X8.here [X8.here.top, hx, (hb hby d1_16), X8.method', Bd.returns, Value.isRef, FieldType.isReference]
        first | (intro acts; rw [hr _ acts rfl rfl rfl]) | rw [hr _ _ rfl rfl rfl]
        exact Steps.refl _
      · show Q1 Z p0 oOK oBLOCKED oSHOULD_WAIT oNO_RULE_EXISTS oBAD_REQUEST oFAIL oTOO_MANY_REQUEST h0 n0 _ T8.heap _
        rw [e8]
        exact ⟨(by unfold own_st; simp only [if_neg c1_1, if_pos c10_5]), N0, rfl⟩
    · skip
      have K10 : ∀ t, own_S p e below s₁ (mkF m 19 #[.val (.int p0)] [(.int (2 : Int32)), (.int p0)]) t → Steps p.tables e below SE t := by
        intro t k
        refine K6 _ ?_
        refine XS.icmpYes X0.here hx rfl (pc0 := 10) (pc' := 17) rfl (hb hby d1_10) rfl (XT.ii_ne_t c10_5) (by decide) (by decide) ?_
        show own_S p e below s₁ (mkF m 17 #[.val (.int p0)] []) _
        refine XS.iloadN X0.here hx rfl (hb hby d1_17) rfl ?_
        show own_S p e below s₁ (mkF m 18 #[.val (.int p0)] [(.int p0)]) _
        refine XS.iconst X0.here hx rfl (hb hby d1_18) ?_
        exact k
      by_cases c19_9 : p0 = (2 : Int32)
      · skip
        have K11 : ∀ t, own_S p e below s₁ (mkF m 22 #[.val (.int p0)] []) t → Steps p.tables e below SE t := by
          intro t k
          refine K10 _ ?_
          refine XS.icmpNo X0.here hx rfl (hb hby d1_19) rfl (XT.ii_ne_f c19_9) ?_
          exact k
        obtain ⟨T12, X12, e12, st12⟩ := getS2 X0 hx hZ hown (host := "") (Or.inl (hw _ (List.mem_of_getElem? (i := 74) rfl))) Via.refl e0 S2 (g := (mkF m 22 #[.val (.int p0)] [])) rfl (hb hby d1_22)
        have K12 : ∀ t, own_S p e below T12 (mkF m 25 #[.val (.int p0)] [(.ref oSHOULD_WAIT)]) t → Steps p.tables e below SE t := fun t k => K11 _ (st12 _ k)
        obtain ⟨fs, hr, hrun, hended, hW, hsame⟩ := X12.leave (v := some (.ref oSHOULD_WAIT)) (fun h => by rw [Bd.returns] at h; cases h)
        refine ⟨_, _, K12 _ ?_, hrun, hended, _, _, rfl, ?_, ⟨_, rfl⟩, hW, hsame.mono (by decide) (by decide)⟩
        · show Steps p.tables e below (T12.setTop (mkF m 25 #[.val (.int p0)] [(.ref oSHOULD_WAIT)])) _
          jvm_step X12.here [X12.here.top, hx, (hb hby d1_25), X12.method', Bd.returns, Value.isRef, FieldType.isReference]
          first | (intro acts; rw [hr _ acts rfl rfl rfl]) | rw [hr _ _ rfl rfl rfl]
          exact Steps.refl _
        · show Q1 Z p0 oOK oBLOCKED oSHOULD_WAIT oNO_RULE_EXISTS oBAD_REQUEST oFAIL oTOO_MANY_REQUEST h0 n0 _ T12.heap _
          rw [e12]
          exact ⟨(by unfold own_st; simp only [if_neg c1_1, if_neg c10_5, if_pos c19_9]), N0, rfl⟩
      · skip
        have K14 : ∀ t, own_S p e below s₁ (mkF m 28 #[.val (.int p0)] [(.int (3 : Int32)), (.int p0)]) t → Steps p.tables e below SE t := by
          intro t k
          refine K10 _ ?_
          refine XS.icmpYes X0.here hx rfl (pc0 := 19) (pc' := 26) rfl (hb hby d1_19) rfl (XT.ii_ne_t c19_9) (by decide) (by decide) ?_
          show own_S p e below s₁ (mkF m 26 #[.val (.int p0)] []) _
          refine XS.iloadN X0.here hx rfl (hb hby d1_26) rfl ?_
          show own_S p e below s₁ (mkF m 27 #[.val (.int p0)] [(.int p0)]) _
          refine XS.iconst X0.here hx rfl (hb hby d1_27) ?_
          exact k
        by_cases c28_13 : p0 = (3 : Int32)
        · skip
          have K15 : ∀ t, own_S p e below s₁ (mkF m 31 #[.val (.int p0)] []) t → Steps p.tables e below SE t := by
            intro t k
            refine K14 _ ?_
            refine XS.icmpNo X0.here hx rfl (hb hby d1_28) rfl (XT.ii_ne_f c28_13) ?_
            exact k
          obtain ⟨T16, X16, e16, st16⟩ := getS2 X0 hx hZ hown (host := "") (Or.inl (hw _ (List.mem_of_getElem? (i := 55) rfl))) Via.refl e0 S3 (g := (mkF m 31 #[.val (.int p0)] [])) rfl (hb hby d1_31)
          have K16 : ∀ t, own_S p e below T16 (mkF m 34 #[.val (.int p0)] [(.ref oNO_RULE_EXISTS)]) t → Steps p.tables e below SE t := fun t k => K15 _ (st16 _ k)
          obtain ⟨fs, hr, hrun, hended, hW, hsame⟩ := X16.leave (v := some (.ref oNO_RULE_EXISTS)) (fun h => by rw [Bd.returns] at h; cases h)
          refine ⟨_, _, K16 _ ?_, hrun, hended, _, _, rfl, ?_, ⟨_, rfl⟩, hW, hsame.mono (by decide) (by decide)⟩
          · show Steps p.tables e below (T16.setTop (mkF m 34 #[.val (.int p0)] [(.ref oNO_RULE_EXISTS)])) _
            jvm_step X16.here [X16.here.top, hx, (hb hby d1_34), X16.method', Bd.returns, Value.isRef, FieldType.isReference]
            first | (intro acts; rw [hr _ acts rfl rfl rfl]) | rw [hr _ _ rfl rfl rfl]
            exact Steps.refl _
          · show Q1 Z p0 oOK oBLOCKED oSHOULD_WAIT oNO_RULE_EXISTS oBAD_REQUEST oFAIL oTOO_MANY_REQUEST h0 n0 _ T16.heap _
            rw [e16]
            exact ⟨(by unfold own_st; simp only [if_neg c1_1, if_neg c10_5, if_neg c19_9, if_pos c28_13]), N0, rfl⟩
        · skip
          have K18 : ∀ t, own_S p e below s₁ (mkF m 37 #[.val (.int p0)] [(.int (4 : Int32)), (.int p0)]) t → Steps p.tables e below SE t := by
            intro t k
            refine K14 _ ?_
            refine XS.icmpYes X0.here hx rfl (pc0 := 28) (pc' := 35) rfl (hb hby d1_28) rfl (XT.ii_ne_t c28_13) (by decide) (by decide) ?_
            show own_S p e below s₁ (mkF m 35 #[.val (.int p0)] []) _
            refine XS.iloadN X0.here hx rfl (hb hby d1_35) rfl ?_
            show own_S p e below s₁ (mkF m 36 #[.val (.int p0)] [(.int p0)]) _
            refine XS.iconst X0.here hx rfl (hb hby d1_36) ?_
            exact k
          by_cases c37_17 : p0 = (4 : Int32)
          · skip
            have K19 : ∀ t, own_S p e below s₁ (mkF m 40 #[.val (.int p0)] []) t → Steps p.tables e below SE t := by
              intro t k
              refine K18 _ ?_
              refine XS.icmpNo X0.here hx rfl (hb hby d1_37) rfl (XT.ii_ne_f c37_17) ?_
              exact k
            obtain ⟨T20, X20, e20, st20⟩ := getS2 X0 hx hZ hown (host := "") (Or.inl (hw _ (List.mem_of_getElem? (i := 80) rfl))) Via.refl e0 S4 (g := (mkF m 40 #[.val (.int p0)] [])) rfl (hb hby d1_40)
            have K20 : ∀ t, own_S p e below T20 (mkF m 43 #[.val (.int p0)] [(.ref oBAD_REQUEST)]) t → Steps p.tables e below SE t := fun t k => K19 _ (st20 _ k)
            obtain ⟨fs, hr, hrun, hended, hW, hsame⟩ := X20.leave (v := some (.ref oBAD_REQUEST)) (fun h => by rw [Bd.returns] at h; cases h)
            refine ⟨_, _, K20 _ ?_, hrun, hended, _, _, rfl, ?_, ⟨_, rfl⟩, hW, hsame.mono (by decide) (by decide)⟩
            · show Steps p.tables e below (T20.setTop (mkF m 43 #[.val (.int p0)] [(.ref oBAD_REQUEST)])) _
              jvm_step X20.here [X20.here.top, hx, (hb hby d1_43), X20.method', Bd.returns, Value.isRef, FieldType.isReference]
              first | (intro acts; rw [hr _ acts rfl rfl rfl]) | rw [hr _ _ rfl rfl rfl]
              exact Steps.refl _
            · show Q1 Z p0 oOK oBLOCKED oSHOULD_WAIT oNO_RULE_EXISTS oBAD_REQUEST oFAIL oTOO_MANY_REQUEST h0 n0 _ T20.heap _
              rw [e20]
              exact ⟨(by unfold own_st; simp only [if_neg c1_1, if_neg c10_5, if_neg c19_9, if_neg c28_13, if_pos c37_17]), N0, rfl⟩
          · skip
            have K22 : ∀ t, own_S p e below s₁ (mkF m 46 #[.val (.int p0)] [(.int (5 : Int32)), (.int p0)]) t → Steps p.tables e below SE t := by
              intro t k
              refine K18 _ ?_
              refine XS.icmpYes X0.here hx rfl (pc0 := 37) (pc' := 44) rfl (hb hby d1_37) rfl (XT.ii_ne_t c37_17) (by decide) (by decide) ?_
              show own_S p e below s₁ (mkF m 44 #[.val (.int p0)] []) _
              refine XS.iloadN X0.here hx rfl (hb hby d1_44) rfl ?_
              show own_S p e below s₁ (mkF m 45 #[.val (.int p0)] [(.int p0)]) _
              refine XS.iconst X0.here hx rfl (hb hby d1_45) ?_
              exact k
            by_cases c46_21 : p0 = (5 : Int32)
            · skip
              have K23 : ∀ t, own_S p e below s₁ (mkF m 49 #[.val (.int p0)] []) t → Steps p.tables e below SE t := by
                intro t k
                refine K22 _ ?_
                refine XS.icmpNo X0.here hx rfl (hb hby d1_46) rfl (XT.ii_ne_f c46_21) ?_
                exact k
              obtain ⟨T24, X24, e24, st24⟩ := getS2 X0 hx hZ hown (host := "") (Or.inl (hw _ (List.mem_of_getElem? (i := 76) rfl))) Via.refl e0 S5 (g := (mkF m 49 #[.val (.int p0)] [])) rfl (hb hby d1_49)
              have K24 : ∀ t, own_S p e below T24 (mkF m 52 #[.val (.int p0)] [(.ref oFAIL)]) t → Steps p.tables e below SE t := fun t k => K23 _ (st24 _ k)
              obtain ⟨fs, hr, hrun, hended, hW, hsame⟩ := X24.leave (v := some (.ref oFAIL)) (fun h => by rw [Bd.returns] at h; cases h)
              refine ⟨_, _, K24 _ ?_, hrun, hended, _, _, rfl, ?_, ⟨_, rfl⟩, hW, hsame.mono (by decide) (by decide)⟩
              · show Steps p.tables e below (T24.setTop (mkF m 52 #[.val (.int p0)] [(.ref oFAIL)])) _
                jvm_step X24.here [X24.here.top, hx, (hb hby d1_52), X24.method', Bd.returns, Value.isRef, FieldType.isReference]
                first | (intro acts; rw [hr _ acts rfl rfl rfl]) | rw [hr _ _ rfl rfl rfl]
                exact Steps.refl _
              · show Q1 Z p0 oOK oBLOCKED oSHOULD_WAIT oNO_RULE_EXISTS oBAD_REQUEST oFAIL oTOO_MANY_REQUEST h0 n0 _ T24.heap _
                rw [e24]
                exact ⟨(by unfold own_st; simp only [if_neg c1_1, if_neg c10_5, if_neg c19_9, if_neg c28_13, if_neg c37_17, if_pos c46_21]), N0, rfl⟩
            · skip
              have K25 : ∀ t, own_S p e below s₁ (mkF m 53 #[.val (.int p0)] []) t → Steps p.tables e below SE t := by
                intro t k
                refine K22 _ ?_
                refine XS.icmpYes X0.here hx rfl (pc0 := 46) (pc' := 53) rfl (hb hby d1_46) rfl (XT.ii_ne_t c46_21) (by decide) (by decide) ?_
                exact k
              obtain ⟨T26, X26, e26, st26⟩ := getS2 X0 hx hZ hown (host := "") (Or.inl (hw _ (List.mem_of_getElem? (i := 57) rfl))) Via.refl e0 S6 (g := (mkF m 53 #[.val (.int p0)] [])) rfl (hb hby d1_53)
              have K26 : ∀ t, own_S p e below T26 (mkF m 56 #[.val (.int p0)] [(.ref oTOO_MANY_REQUEST)]) t → Steps p.tables e below SE t := fun t k => K25 _ (st26 _ k)
              obtain ⟨fs, hr, hrun, hended, hW, hsame⟩ := X26.leave (v := some (.ref oTOO_MANY_REQUEST)) (fun h => by rw [Bd.returns] at h; cases h)
              refine ⟨_, _, K26 _ ?_, hrun, hended, _, _, rfl, ?_, ⟨_, rfl⟩, hW, hsame.mono (by decide) (by decide)⟩
              · show Steps p.tables e below (T26.setTop (mkF m 56 #[.val (.int p0)] [(.ref oTOO_MANY_REQUEST)])) _
                jvm_step X26.here [X26.here.top, hx, (hb hby d1_56), X26.method', Bd.returns, Value.isRef, FieldType.isReference]
                first | (intro acts; rw [hr _ acts rfl rfl rfl]) | rw [hr _ _ rfl rfl rfl]
                exact Steps.refl _
              · show Q1 Z p0 oOK oBLOCKED oSHOULD_WAIT oNO_RULE_EXISTS oBAD_REQUEST oFAIL oTOO_MANY_REQUEST h0 n0 _ T26.heap _
                rw [e26]
                exact ⟨(by unfold own_st; simp only [if_neg c1_1, if_neg c10_5, if_neg c19_9, if_neg c28_13, if_neg c37_17, if_neg c46_21]), N0, rfl⟩
theorem d4_0 : decode jdk_31_method_11_code 0 = .ok (.aload_n 0, 1) := by decide +kernel
theorem d4_1 : decode jdk_31_method_11_code 1 = .ok (.ifnonnull 12, 3) := by decide +kernel
theorem d4_13 : decode jdk_31_method_11_code 13 = .ok (.aload_n 0, 1) := by decide +kernel
theorem d4_14 : decode jdk_31_method_11_code 14 = .ok (.areturn, 1) := by decide +kernel
theorem pn_4 : plainName "java/util/Objects" = true := by first | (simp [plainName, overriddenIn]; done) | decide +kernel
theorem ef_4 (m : MethodId) (r0 : Addr) (r1 : Addr) : entryFrame m #[(.ref r0), (.ref r1)] 2 = mkF m 0 #[.val (.ref r0), .val (.ref r1)] [] := by first | (simp [entryFrame, mkF, argsToLocals, Value.category]; done) | rfl
def Q4 (Z : State) (r0 : Addr) (r1 : Addr) (h0 : Heap) (n0 : Nat) (v : Option Value) (h : Heap) (L : List Loc) : Prop := v = some (.ref r0) ∧ Fr n0 L ∧ h = h0
set_option maxRecDepth 65536 in
set_option maxHeartbeats 40000000 in
theorem rm4 (l : Launch) (Z : State) (a0 : Array Value) (hw : ∀ d ∈ tables_1, d.before a0 Z = true) (ws : List Jvm.Cond) (r0 : Addr) (r1 : Addr) (h0 : Heap) (n0 : Nat) (Z0 : n0 ≤ h0.size) :
    MetFree l (⟨"java/util/Objects", "requireNonNull", "(Ljava/lang/Object;Ljava/lang/String;)Ljava/lang/Object;"⟩ : MethodName) (head1 (Jvm.Cond.code (⟨"java/util/Objects", "requireNonNull", "(Ljava/lang/Object;Ljava/lang/String;)Ljava/lang/Object;"⟩ : MethodName) jdk_31_method_11_code 2 (some (.object "java/lang/Object")) :: ws) ({ frames := 0, cells := 0, slots := 0, locals := 0 } : Room)) (fun a U => a = #[(.ref r0), (.ref r1)] ∧ Z.Warmed39 U.vm ∧ U.heap = h0) (fun _ _ _ _ _ => True) (fun _ U o U' => ∃ v L, o = .returned v ∧ Q4 Z r0 r1 h0 n0 v U'.heap L ∧ FrameEnd U o U' L ({ frames := 0, cells := 0, slots := 0, locals := 0 } : Room).cells ({ frames := 0, cells := 0, slots := 0, locals := 0 } : Room).slots) := by
  refine MetFree.of_bodySF (plainFor_of_name pn_4) hisR ?_
  intro p e s m args below meth c s₁ Bd hml0 hP hK
  obtain ⟨rfl, hZ, hh⟩ := hP
  have hx := Bd.exec
  have hby := Bd.bytes
  have hml : c.maxLocals = 2 := hml0
  have hown : s.vm.findClass "java/util/Objects" = some m.cls := findClass_of_methodNamed Bd.named
  have hnm := (name_of_methodNamed Bd.named Bd.method).1
  have X0 : Stand p l e ({ frames := 0, cells := 0, slots := 0, locals := 0 } : Room) s m #[(.ref r0), (.ref r1)] below meth c s₁ [] 0 0 := Stand.of_body Bd
  have e0 : s₁.heap = h0 := by rw [← hh, Bd.state]; rfl
  have N0 := Fr.nil n0
  have K0 : ∀ t, Steps p.tables e below (s₁.setTop (mkF m 0 #[.val (.ref r0), .val (.ref r1)] [])) t → Steps p.tables e below (s₁.setTop (entryFrame m #[(.ref r0), (.ref r1)] 2)) t := fun t k => castTop (ef_4 m r0 r1) k
  generalize s₁.setTop (entryFrame m #[(.ref r0), (.ref r1)] 2) = SE at K0 ⊢
  have K1 : ∀ t, own_S p e below s₁ (mkF m 14 #[.val (.ref r0), .val (.ref r1)] [(.ref r0)]) t → Steps p.tables e below SE t := by
    intro t k
    refine K0 _ ?_
    refine XS.aloadN X0.here hx rfl (hb hby d4_0) rfl rfl ?_
    show own_S p e below s₁ (mkF m 1 #[.val (.ref r0), .val (.ref r1)] [(.ref r0)]) _
    refine XS.ifnonnullYes X0.here hx rfl (pc0 := 1) (pc' := 13) rfl (hb hby d4_1) rfl (by decide) (by decide) ?_
    show own_S p e below s₁ (mkF m 13 #[.val (.ref r0), .val (.ref r1)] []) _
    refine XS.aloadN X0.here hx rfl (hb hby d4_13) rfl rfl ?_
    exact k
  obtain ⟨fs, hr, hrun, hended, hW, hsame⟩ := X0.leave (v := some (.ref r0)) (fun h => by rw [Bd.returns] at h; cases h)
  refine ⟨_, _, K1 _ ?_, hrun, hended, _, _, rfl, ?_, ⟨_, rfl⟩, hW, hsame.mono (by decide) (by decide)⟩
  · show Steps p.tables e below (s₁.setTop (mkF m 14 #[.val (.ref r0), .val (.ref r1)] [(.ref r0)])) _
    jvm_step X0.here [X0.here.top, hx, (hb hby d4_14), X0.method', Bd.returns, Value.isRef, FieldType.isReference]
    first | (intro acts; rw [hr _ acts rfl rfl rfl]) | rw [hr _ _ rfl rfl rfl]
    exact Steps.refl _
  · show Q4 Z r0 r1 h0 n0 _ s₁.heap _
    rw [e0]
    exact ⟨rfl, N0, rfl⟩
theorem d2_0 : decode prog_30_method_1_code 0 = .ok (.aload_n 0, 1) := by decide +kernel
theorem d2_1 : decode prog_30_method_1_code 1 = .ok (.invokespecial 1, 3) := by decide +kernel
theorem d2_4 : decode prog_30_method_1_code 4 = .ok (.aload_n 0, 1) := by decide +kernel
theorem d2_5 : decode prog_30_method_1_code 5 = .ok (.aload_n 1, 1) := by decide +kernel
theorem d2_6 : decode prog_30_method_1_code 6 = .ok (.ldc 7, 2) := by decide +kernel
theorem d2_8 : decode prog_30_method_1_code 8 = .ok (.invokestatic 9, 3) := by decide +kernel
theorem d2_11 : decode prog_30_method_1_code 11 = .ok (.checkcast 15, 3) := by decide +kernel
theorem d2_14 : decode prog_30_method_1_code 14 = .ok (.putfield 17, 3) := by decide +kernel
theorem d2_17 : decode prog_30_method_1_code 17 = .ok (.aload_n 0, 1) := by decide +kernel
theorem d2_18 : decode prog_30_method_1_code 18 = .ok (.lload_n 2, 1) := by decide +kernel
theorem d2_19 : decode prog_30_method_1_code 19 = .ok (.putfield 22, 3) := by decide +kernel
theorem d2_22 : decode prog_30_method_1_code 22 = .ok (.aload_n 0, 1) := by decide +kernel
theorem d2_23 : decode prog_30_method_1_code 23 = .ok (.iload 4, 2) := by decide +kernel
theorem d2_25 : decode prog_30_method_1_code 25 = .ok (.putfield 26, 3) := by decide +kernel
theorem d2_28 : decode prog_30_method_1_code 28 = .ok (.return_, 1) := by decide +kernel
theorem pn_2 : plainName "com/example/aswan/aswan/token/TokenResult" = true := by first | (simp [plainName, overriddenIn]; done) | decide +kernel
theorem pd_2_0 : parseMethodDescriptor "(Ljava/lang/Object;Ljava/lang/String;)Ljava/lang/Object;" = some ⟨[(.object "java/lang/Object"), (.object "java/lang/String")], some (.object "java/lang/Object")⟩ := by decide +kernel
theorem ef_2 (m : MethodId) (r0 : Addr) (r1 : Addr) (q2 : Int64) (p3 : Int32) : entryFrame m #[(.ref r0), (.ref r1), (.long q2), (.int p3)] 5 = mkF m 0 #[.val (.ref r0), .val (.ref r1), .val (.long q2), .second, .val (.int p3)] [] := by first | (simp [entryFrame, mkF, argsToLocals, Value.category]; done) | rfl
def Q2 (Z : State) (r0 : Addr) (r1 : Addr) (q2 : Int64) (p3 : Int32) (h0 : Heap) (n0 : Nat) (v : Option Value) (h : Heap) (L : List Loc) : Prop := v = none ∧ Fr n0 L ∧ Keep h0 h [r0] ∧ Exa Z h r0 "com/example/aswan/aswan/token/TokenResult" ∧ Fld Z h r0 "com/example/aswan/aswan/token/TokenResult" "status" "Lcom/example/aswan/aswan/token/TokenStatus;" (.ref r1) ∧ Fld Z h r0 "com/example/aswan/aswan/token/TokenResult" "remaining" "J" (.long q2) ∧ Fld Z h r0 "com/example/aswan/aswan/token/TokenResult" "waitInMs" "I" (.int p3)
set_option maxRecDepth 65536 in
set_option maxHeartbeats 40000000 in
theorem rm2 (l : Launch) (Z : State) (a0 : Array Value) (hw : ∀ d ∈ tables_1, d.before a0 Z = true) (ws : List Jvm.Cond) (r0 : Addr) (r1 : Addr) (q2 : Int64) (p3 : Int32) (h0 : Heap) (n0 : Nat) (Z0 : n0 ≤ h0.size) (E_r0 : Exa Z h0 r0 "com/example/aswan/aswan/token/TokenResult") (F0 : Fld Z h0 r0 "com/example/aswan/aswan/token/TokenResult" "status" "Lcom/example/aswan/aswan/token/TokenStatus;" .null) (F1 : Fld Z h0 r0 "com/example/aswan/aswan/token/TokenResult" "remaining" "J" (.long (0 : Int64))) (F2 : Fld Z h0 r0 "com/example/aswan/aswan/token/TokenResult" "waitInMs" "I" (.int (0 : Int32))) (g_r0 : n0 ≤ r0) (E_r1 : Exa Z h0 r1 "com/example/aswan/aswan/token/TokenStatus") :
    MetFree l (⟨"com/example/aswan/aswan/token/TokenResult", "<init>", "(Lcom/example/aswan/aswan/token/TokenStatus;JI)V"⟩ : MethodName) (head1 (Jvm.Cond.code (⟨"com/example/aswan/aswan/token/TokenResult", "<init>", "(Lcom/example/aswan/aswan/token/TokenStatus;JI)V"⟩ : MethodName) prog_30_method_1_code 5 none :: ws) ({ frames := 1, cells := 2, slots := 28, locals := 14 } : Room)) (fun a U => a = #[(.ref r0), (.ref r1), (.long q2), (.int p3)] ∧ Z.Warmed39 U.vm ∧ U.heap = h0) (fun _ _ _ _ _ => True) (fun _ U o U' => ∃ v L, o = .returned v ∧ Q2 Z r0 r1 q2 p3 h0 n0 v U'.heap L ∧ ReturnedEndW U o U' L ({ frames := 1, cells := 2, slots := 28, locals := 14 } : Room).cells ({ frames := 1, cells := 2, slots := 28, locals := 14 } : Room).slots) := by
  refine MetFree.of_bodySF (plainFor_of_name pn_2) hisR ?_
  intro p e s m args below meth c s₁ Bd hml0 hP hK
  obtain ⟨rfl, hZ, hh⟩ := hP
  have hx := Bd.exec
  have hby := Bd.bytes
  have hml : c.maxLocals = 5 := hml0
  have hown : s.vm.findClass "com/example/aswan/aswan/token/TokenResult" = some m.cls := findClass_of_methodNamed Bd.named
  have hnm := (name_of_methodNamed Bd.named Bd.method).1
  have X0 : Stand p l e ({ frames := 1, cells := 2, slots := 28, locals := 14 } : Room) (s.setVm s.vm) m #[(.ref r0), (.ref r1), (.long q2), (.int p3)] below meth c s₁ [] 0 0 := Stand.of_body Bd
  have e0 : s₁.heap = h0 := by rw [← hh, Bd.state]; rfl
  have N0 := Fr.nil n0
  have K0 : ∀ t, Steps p.tables e below (s₁.setTop (mkF m 0 #[.val (.ref r0), .val (.ref r1), .val (.long q2), .second, .val (.int p3)] [])) t → Steps p.tables e below (s₁.setTop (entryFrame m #[(.ref r0), (.ref r1), (.long q2), (.int p3)] 5)) t := fun t k => castTop (ef_2 m r0 r1 q2 p3) k
  generalize s₁.setTop (entryFrame m #[(.ref r0), (.ref r1), (.long q2), (.int p3)] 5) = SE at K0 ⊢
  have hS : s.Since s.vm h0.size := State.WarmedH.since (State.WarmedH.refl s) _
  have hk : h0.size ≤ h0.size := Nat.le_refl _
  have K1 : ∀ t, own_S p e below s₁ (mkF m 1 #[.val (.ref r0), .val (.ref r1), .val (.long q2), .second, .val (.int p3)] [(.ref r0)]) t → Steps p.tables e below SE t := by
    intro t k
    refine K0 _ ?_
    refine XS.aloadN X0.here hx rfl (hb hby d2_0) rfl rfl ?_
    exact k
  obtain ⟨T2, X2, e2, st2⟩ := initO X0 hx hZ hown (hw _ (List.mem_of_getElem? (i := 15) rfl)) (hw _ (List.mem_of_getElem? (i := 16) rfl)) (hw _ (List.mem_of_getElem? (i := 17) rfl)) e0 (g := (mkF m 1 #[.val (.ref r0), .val (.ref r1), .val (.long q2), .second, .val (.int p3)] [(.ref r0)])) rfl (by rw [hml]; rfl) rfl (hb hby d2_1) (by decide) (W := 0) (by show 2 * 0 + _ ≤ _; exact Nat.le_of_eq rfl) (by decide)
  have K2 : ∀ t, own_S p e below T2 (mkF m 4 #[.val (.ref r0), .val (.ref r1), .val (.long q2), .second, .val (.int p3)] []) t → Steps p.tables e below SE t := fun t k => K1 _ (st2 _ k)
  have K3 : ∀ t, own_S p e below T2 (mkF m 6 #[.val (.ref r0), .val (.ref r1), .val (.long q2), .second, .val (.int p3)] [(.ref r1), (.ref r0)]) t → Steps p.tables e below SE t := by
    intro t k
    refine K2 _ ?_
    refine XS.aloadN X2.here hx rfl (hb hby d2_4) rfl rfl ?_
    show own_S p e below T2 (mkF m 5 #[.val (.ref r0), .val (.ref r1), .val (.long q2), .second, .val (.int p3)] [(.ref r0)]) _
    refine XS.aloadN X2.here hx rfl (hb hby d2_5) rfl rfl ?_
    exact k
  obtain ⟨b4, T4, h4, k1_4, X4, e4, E4, hS, hk, hZ, hown, st4⟩ := ldcS X2 hx hZ hown (hw _ (List.mem_of_getElem? (i := 18) rfl)) (own_wS hw) e2 hS hk (g := (mkF m 6 #[.val (.ref r0), .val (.ref r1), .val (.long q2), .second, .val (.int p3)] [(.ref r1), (.ref r0)])) rfl (hb hby d2_6) (n := 24) (by decide +kernel) (by decide) (by decide) (by decide)
  have Kp4 : Keep h0 h4 [r0] := Keep.ext (Keep.refl h0 [r0]) E4
  have K4 : ∀ t, own_S p e below T4 (mkF m 8 #[.val (.ref r0), .val (.ref r1), .val (.long q2), .second, .val (.int p3)] [(.ref b4), (.ref r1), (.ref r0)]) t → Steps p.tables e below SE t := fun t k => K3 _ (st4 _ k)
  obtain ⟨_, _, ⟨T5, L5, k5, n5⟩, -, X5, ⟨Lc5, hQ5, l5, y5, z5⟩, st5⟩ := Jvm.LawKit.callS X4 hx (y := (⟨"java/util/Objects", "requireNonNull", "(Ljava/lang/Object;Ljava/lang/String;)Ljava/lang/Object;"⟩ : MethodName)) hown (mvT hZ (hw _ (List.mem_of_getElem? (i := 26) rfl))) (mvT hZ (hw _ (List.mem_of_getElem? (i := 27) rfl))) (mvT hZ (hw _ (List.mem_of_getElem? (i := 28) rfl))) (mvT hZ (hw _ (List.mem_of_getElem? (i := 29) rfl))) (by decide) (backOf (W := 1) (rm4 l Z a0 hw [] r1 b4 h4 n0 (Nat.le_trans Z0 Kp4.1)) hZ (hw _ (List.mem_of_getElem? (i := 29) rfl)) (hw _ (List.mem_of_getElem? (i := 28) rfl)) (by decide) (by decide)) (g := (mkF m 8 #[.val (.ref r0), .val (.ref r1), .val (.long q2), .second, .val (.int p3)] [(.ref b4), (.ref r1), (.ref r0)])) rfl (by rw [hml]; rfl) (argsL := [(.ref r1), (.ref b4)]) (rest := [(.ref r0)]) (lenOf pd_2_0 rfl) rfl (by show 2 * 0 + _ ≤ _; exact Nat.le_of_eq rfl) (hb hby d2_8) (fun _ _ => ⟨rfl, e4, (by decide : 2 + 0 ≤ _), (by decide : 28 + 0 ≤ _)⟩)
  dsimp only [Pt.U, Pt.locs, Pt.cells, Pt.slots] at X5 l5 y5 z5 st5 hQ5
  subst l5 y5 z5
  obtain ⟨rfl, Nq5, e5⟩ := hQ5
  have N5 := Fr.app N0 Nq5
  have K5 : ∀ t, own_S p e below T5 (mkF m 11 #[.val (.ref r0), .val (.ref r1), .val (.long q2), .second, .val (.int p3)] [(.ref r1), (.ref r0)]) t → Steps p.tables e below SE t := fun t k => K4 _ (st5 _ k)
  obtain ⟨T6, X6, e6, st6⟩ := castY X5 hx hZ hown (hw _ (List.mem_of_getElem? (i := 30) rfl)) e5 (Ins.self (E_r1.ext E4)) (g := (mkF m 11 #[.val (.ref r0), .val (.ref r1), .val (.long q2), .second, .val (.int p3)] [(.ref r1), (.ref r0)])) rfl rfl (hb hby d2_11)
  have K6 : ∀ t, own_S p e below T6 (mkF m 14 #[.val (.ref r0), .val (.ref r1), .val (.long q2), .second, .val (.int p3)] [(.ref r1), (.ref r0)]) t → Steps p.tables e below SE t := fun t k => K5 _ (st6 _ k)
  obtain ⟨T7, h7, X7, e7, W7, st7⟩ := putF X6 hx hZ hown (host := "") (Or.inl (hw _ (List.mem_of_getElem? (i := 32) rfl))) Via.refl e6 (F0.ext E4) (E_r0.ext E4) (Or.inr ⟨(hw _ (List.mem_of_getElem? (i := 33) rfl)), rfl, hnm⟩) (hw _ (List.mem_of_getElem? (i := 3) rfl)) (ty := (.object "com/example/aswan/aswan/token/TokenStatus")) (by decide) rfl rfl (g := (mkF m 14 #[.val (.ref r0), .val (.ref r1), .val (.long q2), .second, .val (.int p3)] [(.ref r1), (.ref r0)])) rfl rfl (hb hby d2_14)
  have Fw7 := Fld.same W7 (F0.ext E4)
  have N7 := Fr.snoc X7 N5 g_r0
  have Kp7 : Keep h0 h7 [r0] := Keep.wr Kp4 W7 (Or.inl (List.mem_of_getElem? (i := 0) rfl))
  have K7 : ∀ t, own_S p e below T7 (mkF m 17 #[.val (.ref r0), .val (.ref r1), .val (.long q2), .second, .val (.int p3)] []) t → Steps p.tables e below SE t := fun t k => K6 _ (st7 _ k)
  have K8 : ∀ t, own_S p e below T7 (mkF m 19 #[.val (.ref r0), .val (.ref r1), .val (.long q2), .second, .val (.int p3)] [(.long q2), (.ref r0)]) t → Steps p.tables e below SE t := by
    intro t k
    refine K7 _ ?_
    refine XS.aloadN X7.here hx rfl (hb hby d2_17) rfl rfl ?_
    show own_S p e below T7 (mkF m 18 #[.val (.ref r0), .val (.ref r1), .val (.long q2), .second, .val (.int p3)] [(.ref r0)]) _
    refine XS.lloadN X7.here hx rfl (hb hby d2_18) rfl ?_
    exact k
  obtain ⟨T9, h9, X9, e9, W9, st9⟩ := putF X7 hx hZ hown (host := "") (Or.inl (hw _ (List.mem_of_getElem? (i := 34) rfl))) Via.refl e7 ((F1.ext E4).other W7 (Or.inr (slot_ne (Or.inr (hw _ (List.mem_of_getElem? (i := 35) rfl))) (Or.inr (hw _ (List.mem_of_getElem? (i := 33) rfl))) (by decide) (t := .long) (t' := (.object "com/example/aswan/aswan/token/TokenStatus")) (by decide) (by decide)))) ((E_r0.ext E4).wr W7) (Or.inr ⟨(hw _ (List.mem_of_getElem? (i := 35) rfl)), rfl, hnm⟩) (hw _ (List.mem_of_getElem? (i := 3) rfl)) (ty := .long) (by decide) rfl rfl (g := (mkF m 19 #[.val (.ref r0), .val (.ref r1), .val (.long q2), .second, .val (.int p3)] [(.long q2), (.ref r0)])) rfl rfl (hb hby d2_19)
  have Fw9 := Fld.same W9 ((F1.ext E4).other W7 (Or.inr (slot_ne (Or.inr (hw _ (List.mem_of_getElem? (i := 35) rfl))) (Or.inr (hw _ (List.mem_of_getElem? (i := 33) rfl))) (by decide) (t := .long) (t' := (.object "com/example/aswan/aswan/token/TokenStatus")) (by decide) (by decide))))
  have N9 := Fr.snoc X9 N7 g_r0
  have Kp9 : Keep h0 h9 [r0] := Keep.wr Kp7 W9 (Or.inl (List.mem_of_getElem? (i := 0) rfl))
  have K9 : ∀ t, own_S p e below T9 (mkF m 22 #[.val (.ref r0), .val (.ref r1), .val (.long q2), .second, .val (.int p3)] []) t → Steps p.tables e below SE t := fun t k => K8 _ (st9 _ k)
  have K10 : ∀ t, own_S p e below T9 (mkF m 25 #[.val (.ref r0), .val (.ref r1), .val (.long q2), .second, .val (.int p3)] [(.int p3), (.ref r0)]) t → Steps p.tables e below SE t := by
    intro t k
    refine K9 _ ?_
    refine XS.aloadN X9.here hx rfl (hb hby d2_22) rfl rfl ?_
    show own_S p e below T9 (mkF m 23 #[.val (.ref r0), .val (.ref r1), .val (.long q2), .second, .val (.int p3)] [(.ref r0)]) _
    refine XS.iload X9.here hx rfl (hb hby d2_23) rfl ?_
    exact k
  obtain ⟨T11, h11, X11, e11, W11, st11⟩ := putF X9 hx hZ hown (host := "") (Or.inl (hw _ (List.mem_of_getElem? (i := 36) rfl))) Via.refl e9 (((F2.ext E4).other W7 (Or.inr (slot_ne (Or.inr (hw _ (List.mem_of_getElem? (i := 37) rfl))) (Or.inr (hw _ (List.mem_of_getElem? (i := 33) rfl))) (by decide) (t := .int) (t' := (.object "com/example/aswan/aswan/token/TokenStatus")) (by decide) (by decide)))).other W9 (Or.inr (slot_ne (Or.inr (hw _ (List.mem_of_getElem? (i := 37) rfl))) (Or.inr (hw _ (List.mem_of_getElem? (i := 35) rfl))) (by decide) (t := .int) (t' := .long) (by decide) (by decide)))) (((E_r0.ext E4).wr W7).wr W9) (Or.inr ⟨(hw _ (List.mem_of_getElem? (i := 37) rfl)), rfl, hnm⟩) (hw _ (List.mem_of_getElem? (i := 3) rfl)) (ty := .int) (by decide) rfl rfl (g := (mkF m 25 #[.val (.ref r0), .val (.ref r1), .val (.long q2), .second, .val (.int p3)] [(.int p3), (.ref r0)])) rfl rfl (hb hby d2_25)
  have Fw11 := Fld.same W11 (((F2.ext E4).other W7 (Or.inr (slot_ne (Or.inr (hw _ (List.mem_of_getElem? (i := 37) rfl))) (Or.inr (hw _ (List.mem_of_getElem? (i := 33) rfl))) (by decide) (t := .int) (t' := (.object "com/example/aswan/aswan/token/TokenStatus")) (by decide) (by decide)))).other W9 (Or.inr (slot_ne (Or.inr (hw _ (List.mem_of_getElem? (i := 37) rfl))) (Or.inr (hw _ (List.mem_of_getElem? (i := 35) rfl))) (by decide) (t := .int) (t' := .long) (by decide) (by decide))))
  have N11 := Fr.snoc X11 N9 g_r0
  have Kp11 : Keep h0 h11 [r0] := Keep.wr Kp9 W11 (Or.inl (List.mem_of_getElem? (i := 0) rfl))
  have K11 : ∀ t, own_S p e below T11 (mkF m 28 #[.val (.ref r0), .val (.ref r1), .val (.long q2), .second, .val (.int p3)] []) t → Steps p.tables e below SE t := fun t k => K10 _ (st11 _ k)
  obtain ⟨fs, hr, hrun, hended, hRW⟩ := X11.leaveW hS (by rw [e11]; exact (Nat.le_trans (Nat.le_trans (Nat.le_trans hk (Nat.le_of_eq W7.size.symm)) (Nat.le_of_eq W9.size.symm)) (Nat.le_of_eq W11.size.symm))) (v := none) (fun _ => rfl)
  refine ⟨_, _, K11 _ ?_, hrun, hended, _, _, rfl, ?_, hRW.1, hRW.2.1, hRW.2.2.1, hRW.2.2.2.mono (by decide) (by decide)⟩
  · exact X11.returnOut hx Bd.returns (hb hby d2_28) hr
  · show Q2 Z r0 r1 q2 p3 h0 n0 _ T11.heap _
    rw [e11]
    exact ⟨rfl, N11, Kp11, ((((E_r0.ext E4).wr W7).wr W9).wr W11), ((Fw7.other W9 (Or.inr (slot_ne (Or.inr (hw _ (List.mem_of_getElem? (i := 33) rfl))) (Or.inr (hw _ (List.mem_of_getElem? (i := 35) rfl))) (by decide) (t := (.object "com/example/aswan/aswan/token/TokenStatus")) (t' := .long) (by decide) (by decide)))).other W11 (Or.inr (slot_ne (Or.inr (hw _ (List.mem_of_getElem? (i := 33) rfl))) (Or.inr (hw _ (List.mem_of_getElem? (i := 37) rfl))) (by decide) (t := (.object "com/example/aswan/aswan/token/TokenStatus")) (t' := .int) (by decide) (by decide)))), (Fw9.other W11 (Or.inr (slot_ne (Or.inr (hw _ (List.mem_of_getElem? (i := 35) rfl))) (Or.inr (hw _ (List.mem_of_getElem? (i := 37) rfl))) (by decide) (t := .long) (t' := .int) (by decide) (by decide)))), Fw11⟩
theorem d5_0 : decode prog_30_method_5_code 0 = .ok (.aload_n 1, 1) := by decide +kernel
theorem d5_1 : decode prog_30_method_5_code 1 = .ok (.instanceof 18, 3) := by decide +kernel
theorem d5_4 : decode prog_30_method_5_code 4 = .ok (.ifCond .eq 46, 3) := by decide +kernel
theorem d5_7 : decode prog_30_method_5_code 7 = .ok (.aload_n 1, 1) := by decide +kernel
theorem d5_8 : decode prog_30_method_5_code 8 = .ok (.checkcast 18, 3) := by decide +kernel
theorem d5_11 : decode prog_30_method_5_code 11 = .ok (.astore_n 2, 1) := by decide +kernel
theorem d5_12 : decode prog_30_method_5_code 12 = .ok (.aload_n 0, 1) := by decide +kernel
theorem d5_13 : decode prog_30_method_5_code 13 = .ok (.getfield 17, 3) := by decide +kernel
theorem d5_16 : decode prog_30_method_5_code 16 = .ok (.aload_n 2, 1) := by decide +kernel
theorem d5_17 : decode prog_30_method_5_code 17 = .ok (.getfield 17, 3) := by decide +kernel
theorem d5_20 : decode prog_30_method_5_code 20 = .ok (.if_acmp .ne 30, 3) := by decide +kernel
theorem d5_23 : decode prog_30_method_5_code 23 = .ok (.aload_n 0, 1) := by decide +kernel
theorem d5_24 : decode prog_30_method_5_code 24 = .ok (.getfield 22, 3) := by decide +kernel
theorem d5_27 : decode prog_30_method_5_code 27 = .ok (.aload_n 2, 1) := by decide +kernel
theorem d5_28 : decode prog_30_method_5_code 28 = .ok (.getfield 22, 3) := by decide +kernel
theorem d5_31 : decode prog_30_method_5_code 31 = .ok (.lcmp, 1) := by decide +kernel
theorem d5_32 : decode prog_30_method_5_code 32 = .ok (.ifCond .ne 18, 3) := by decide +kernel
theorem d5_35 : decode prog_30_method_5_code 35 = .ok (.aload_n 0, 1) := by decide +kernel
theorem d5_36 : decode prog_30_method_5_code 36 = .ok (.getfield 26, 3) := by decide +kernel
theorem d5_39 : decode prog_30_method_5_code 39 = .ok (.aload_n 2, 1) := by decide +kernel
theorem d5_40 : decode prog_30_method_5_code 40 = .ok (.getfield 26, 3) := by decide +kernel
theorem d5_43 : decode prog_30_method_5_code 43 = .ok (.if_icmp .ne 7, 3) := by decide +kernel
theorem d5_46 : decode prog_30_method_5_code 46 = .ok (.iconst 1, 1) := by decide +kernel
theorem d5_47 : decode prog_30_method_5_code 47 = .ok (.goto 4, 3) := by decide +kernel
theorem d5_50 : decode prog_30_method_5_code 50 = .ok (.iconst 0, 1) := by decide +kernel
theorem d5_51 : decode prog_30_method_5_code 51 = .ok (.ireturn, 1) := by decide +kernel
theorem ef_5 (m : MethodId) (r0 : Addr) (r1 : Addr) : entryFrame m #[(.ref r0), (.ref r1)] 3 = mkF m 0 #[.val (.ref r0), .val (.ref r1), .unset] [] := by first | (simp [entryFrame, mkF, argsToLocals, Value.category]; done) | rfl
def Q5 (Z : State) (r0 : Addr) (r1 : Addr) (sa : Addr) (ra : Int64) (wa : Int32) (sb : Addr) (rb : Int64) (wb : Int32) (h0 : Heap) (n0 : Nat) (v : Option Value) (h : Heap) (L : List Loc) : Prop := v = some (.int (if sa = sb then (if ra = rb then (if wa = wb then (1 : Int32) else (0 : Int32)) else (0 : Int32)) else (0 : Int32))) ∧ Fr n0 L ∧ h = h0
set_option maxRecDepth 65536 in
set_option maxHeartbeats 40000000 in
theorem rm5 (l : Launch) (Z : State) (a0 : Array Value) (hw : ∀ d ∈ tables_1, d.before a0 Z = true) (ws : List Jvm.Cond) (r0 : Addr) (r1 : Addr) (sa : Addr) (ra : Int64) (wa : Int32) (sb : Addr) (rb : Int64) (wb : Int32) (h0 : Heap) (n0 : Nat) (Z0 : n0 ≤ h0.size) (E_r1 : Exa Z h0 r1 "com/example/aswan/aswan/token/TokenResult") (F0 : Fld Z h0 r0 "com/example/aswan/aswan/token/TokenResult" "status" "Lcom/example/aswan/aswan/token/TokenStatus;" (.ref sa)) (F1 : Fld Z h0 r0 "com/example/aswan/aswan/token/TokenResult" "remaining" "J" (.long ra)) (F2 : Fld Z h0 r0 "com/example/aswan/aswan/token/TokenResult" "waitInMs" "I" (.int wa)) (G0 : Fld Z h0 r1 "com/example/aswan/aswan/token/TokenResult" "status" "Lcom/example/aswan/aswan/token/TokenStatus;" (.ref sb)) (G1 : Fld Z h0 r1 "com/example/aswan/aswan/token/TokenResult" "remaining" "J" (.long rb)) (G2 : Fld Z h0 r1 "com/example/aswan/aswan/token/TokenResult" "waitInMs" "I" (.int wb)) :
    MetFree l (⟨"com/example/aswan/aswan/token/TokenResult", "equals", "(Ljava/lang/Object;)Z"⟩ : MethodName) (head1 (Jvm.Cond.code (⟨"com/example/aswan/aswan/token/TokenResult", "equals", "(Ljava/lang/Object;)Z"⟩ : MethodName) prog_30_method_5_code 3 (some .boolean) :: ws) ({ frames := 0, cells := 0, slots := 0, locals := 0 } : Room)) (fun a U => a = #[(.ref r0), (.ref r1)] ∧ Z.Warmed39 U.vm ∧ U.heap = h0) (fun _ _ _ _ _ => True) (fun _ U o U' => ∃ v L, o = .returned v ∧ Q5 Z r0 r1 sa ra wa sb rb wb h0 n0 v U'.heap L ∧ FrameEnd U o U' L ({ frames := 0, cells := 0, slots := 0, locals := 0 } : Room).cells ({ frames := 0, cells := 0, slots := 0, locals := 0 } : Room).slots) := by
  refine MetFree.of_bodySF (plainFor_of_name pn_2) hisR ?_
  intro p e s m args below meth c s₁ Bd hml0 hP hK
  obtain ⟨rfl, hZ, hh⟩ := hP
  have hx := Bd.exec
  have hby := Bd.bytes
  have hml : c.maxLocals = 3 := hml0
  have hown : s.vm.findClass "com/example/aswan/aswan/token/TokenResult" = some m.cls := findClass_of_methodNamed Bd.named
  have hnm := (name_of_methodNamed Bd.named Bd.method).1
  have X0 : Stand p l e ({ frames := 0, cells := 0, slots := 0, locals := 0 } : Room) s m #[(.ref r0), (.ref r1)] below meth c s₁ [] 0 0 := Stand.of_body Bd
  have e0 : s₁.heap = h0 := by rw [← hh, Bd.state]; rfl
  have N0 := Fr.nil n0
  have K0 : ∀ t, Steps p.tables e below (s₁.setTop (mkF m 0 #[.val (.ref r0), .val (.ref r1), .unset] [])) t → Steps p.tables e below (s₁.setTop (entryFrame m #[(.ref r0), (.ref r1)] 3)) t := fun t k => castTop (ef_5 m r0 r1) k
  generalize s₁.setTop (entryFrame m #[(.ref r0), (.ref r1)] 3) = SE at K0 ⊢
  have K1 : ∀ t, own_S p e below s₁ (mkF m 1 #[.val (.ref r0), .val (.ref r1), .unset] [(.ref r1)]) t → Steps p.tables e below SE t := by
    intro t k
    refine K0 _ ?_
    refine XS.aloadN X0.here hx rfl (hb hby d5_0) rfl rfl ?_
    exact k
  obtain ⟨T2, X2, e2, st2⟩ := instY X0 hx hZ hown (hw _ (List.mem_of_getElem? (i := 43) rfl)) e0 (Ins.self E_r1) (g := (mkF m 1 #[.val (.ref r0), .val (.ref r1), .unset] [(.ref r1)])) rfl rfl (hb hby d5_1)
  have K2 : ∀ t, own_S p e below T2 (mkF m 4 #[.val (.ref r0), .val (.ref r1), .unset] [(.int (1 : Int32))]) t → Steps p.tables e below SE t := fun t k => K1 _ (st2 _ k)
  have K3 : ∀ t, own_S p e below T2 (mkF m 8 #[.val (.ref r0), .val (.ref r1), .unset] [(.ref r1)]) t → Steps p.tables e below SE t := by
    intro t k
    refine K2 _ ?_
    refine XS.ifNo X2.here hx rfl (hb hby d5_4) rfl (XT.i0_eq_f (by decide : ¬ ((1 : Int32) = 0))) ?_
    show own_S p e below T2 (mkF m 7 #[.val (.ref r0), .val (.ref r1), .unset] []) _
    refine XS.aloadN X2.here hx rfl (hb hby d5_7) rfl rfl ?_
    exact k
  obtain ⟨T4, X4, e4, st4⟩ := castY X2 hx hZ hown (hw _ (List.mem_of_getElem? (i := 43) rfl)) e2 (Ins.self E_r1) (g := (mkF m 8 #[.val (.ref r0), .val (.ref r1), .unset] [(.ref r1)])) rfl rfl (hb hby d5_8)
  have K4 : ∀ t, own_S p e below T4 (mkF m 11 #[.val (.ref r0), .val (.ref r1), .unset] [(.ref r1)]) t → Steps p.tables e below SE t := fun t k => K3 _ (st4 _ k)
  have K5 : ∀ t, own_S p e below T4 (mkF m 13 #[.val (.ref r0), .val (.ref r1), .val (.ref r1)] [(.ref r0)]) t → Steps p.tables e below SE t := by
    intro t k
    refine K4 _ ?_
    refine XS.astoreN X4.here hx rfl (hb hby d5_11) rfl rfl (l' := #[.val (.ref r0), .val (.ref r1), .val (.ref r1)]) rfl ?_
    show own_S p e below T4 (mkF m 12 #[.val (.ref r0), .val (.ref r1), .val (.ref r1)] []) _
    refine XS.aloadN X4.here hx rfl (hb hby d5_12) rfl rfl ?_
    exact k
  obtain ⟨T6, X6, e6, st6⟩ := getF X4 hx hZ hown (host := "") (Or.inl (hw _ (List.mem_of_getElem? (i := 32) rfl))) Via.refl e4 F0 (g := (mkF m 13 #[.val (.ref r0), .val (.ref r1), .val (.ref r1)] [(.ref r0)])) rfl rfl (hb hby d5_13)
  have K6 : ∀ t, own_S p e below T6 (mkF m 16 #[.val (.ref r0), .val (.ref r1), .val (.ref r1)] [(.ref sa)]) t → Steps p.tables e below SE t := fun t k => K5 _ (st6 _ k)
  have K7 : ∀ t, own_S p e below T6 (mkF m 17 #[.val (.ref r0), .val (.ref r1), .val (.ref r1)] [(.ref r1), (.ref sa)]) t → Steps p.tables e below SE t := by
    intro t k
    refine K6 _ ?_
    refine XS.aloadN X6.here hx rfl (hb hby d5_16) rfl rfl ?_
    exact k
  obtain ⟨T8, X8, e8, st8⟩ := getF X6 hx hZ hown (host := "") (Or.inl (hw _ (List.mem_of_getElem? (i := 32) rfl))) Via.refl e6 G0 (g := (mkF m 17 #[.val (.ref r0), .val (.ref r1), .val (.ref r1)] [(.ref r1), (.ref sa)])) rfl rfl (hb hby d5_17)
  have K8 : ∀ t, own_S p e below T8 (mkF m 20 #[.val (.ref r0), .val (.ref r1), .val (.ref r1)] [(.ref sb), (.ref sa)]) t → Steps p.tables e below SE t := fun t k => K7 _ (st8 _ k)
  by_cases c20_9 : sa = sb
  · skip
    have K10 : ∀ t, own_S p e below T8 (mkF m 24 #[.val (.ref r0), .val (.ref r1), .val (.ref r1)] [(.ref r0)]) t → Steps p.tables e below SE t := by
      intro t k
      refine K8 _ ?_
      refine Jvm.RoadKit.acmp (g := (mkF m 20 #[.val (.ref r0), .val (.ref r1), .val (.ref r1)] [(.ref sb), (.ref sa)])) X8 hx rfl rfl rfl (pc0 := 20) (pc' := 23) (same := true) rfl (hb hby d5_20) rfl (decide_eq_true (congrArg Value.ref c20_9)) (by decide) (by decide) ?_
      show own_S p e below T8 (mkF m 23 #[.val (.ref r0), .val (.ref r1), .val (.ref r1)] []) _
      refine XS.aloadN X8.here hx rfl (hb hby d5_23) rfl rfl ?_
      exact k
    obtain ⟨T11, X11, e11, st11⟩ := getF X8 hx hZ hown (host := "") (Or.inl (hw _ (List.mem_of_getElem? (i := 34) rfl))) Via.refl e8 F1 (g := (mkF m 24 #[.val (.ref r0), .val (.ref r1), .val (.ref r1)] [(.ref r0)])) rfl rfl (hb hby d5_24)
    have K11 : ∀ t, own_S p e below T11 (mkF m 27 #[.val (.ref r0), .val (.ref r1), .val (.ref r1)] [(.long ra)]) t → Steps p.tables e below SE t := fun t k => K10 _ (st11 _ k)
    have K12 : ∀ t, own_S p e below T11 (mkF m 28 #[.val (.ref r0), .val (.ref r1), .val (.ref r1)] [(.ref r1), (.long ra)]) t → Steps p.tables e below SE t := by
      intro t k
      refine K11 _ ?_
      refine XS.aloadN X11.here hx rfl (hb hby d5_27) rfl rfl ?_
      exact k
    obtain ⟨T13, X13, e13, st13⟩ := getF X11 hx hZ hown (host := "") (Or.inl (hw _ (List.mem_of_getElem? (i := 34) rfl))) Via.refl e11 G1 (g := (mkF m 28 #[.val (.ref r0), .val (.ref r1), .val (.ref r1)] [(.ref r1), (.long ra)])) rfl rfl (hb hby d5_28)
    have K13 : ∀ t, own_S p e below T13 (mkF m 31 #[.val (.ref r0), .val (.ref r1), .val (.ref r1)] [(.long rb), (.long ra)]) t → Steps p.tables e below SE t := fun t k => K12 _ (st13 _ k)
    have K15 : ∀ t, own_S p e below T13 (mkF m 32 #[.val (.ref r0), .val (.ref r1), .val (.ref r1)] [(.int (XT.cmpL ra rb))]) t → Steps p.tables e below SE t := by
      intro t k
      refine K13 _ ?_
      refine XT.lcmp X13.here hx rfl (hb hby d5_31) rfl ?_
      exact k
    by_cases c32_14 : ra = rb
    · skip
      have K16 : ∀ t, own_S p e below T13 (mkF m 36 #[.val (.ref r0), .val (.ref r1), .val (.ref r1)] [(.ref r0)]) t → Steps p.tables e below SE t := by
        intro t k
        refine K15 _ ?_
        refine XS.ifNo X13.here hx rfl (hb hby d5_32) rfl (XT.ll_ne_f c32_14) ?_
        show own_S p e below T13 (mkF m 35 #[.val (.ref r0), .val (.ref r1), .val (.ref r1)] []) _
        refine XS.aloadN X13.here hx rfl (hb hby d5_35) rfl rfl ?_
        exact k
      obtain ⟨T17, X17, e17, st17⟩ := getF X13 hx hZ hown (host := "") (Or.inl (hw _ (List.mem_of_getElem? (i := 36) rfl))) Via.refl e13 F2 (g := (mkF m 36 #[.val (.ref r0), .val (.ref r1), .val (.ref r1)] [(.ref r0)])) rfl rfl (hb hby d5_36)
      have K17 : ∀ t, own_S p e below T17 (mkF m 39 #[.val (.ref r0), .val (.ref r1), .val (.ref r1)] [(.int wa)]) t → Steps p.tables e below SE t := fun t k => K16 _ (st17 _ k)
      have K18 : ∀ t, own_S p e below T17 (mkF m 40 #[.val (.ref r0), .val (.ref r1), .val (.ref r1)] [(.ref r1), (.int wa)]) t → Steps p.tables e below SE t := by
        intro t k
        refine K17 _ ?_
        refine XS.aloadN X17.here hx rfl (hb hby d5_39) rfl rfl ?_
        exact k
      obtain ⟨T19, X19, e19, st19⟩ := getF X17 hx hZ hown (host := "") (Or.inl (hw _ (List.mem_of_getElem? (i := 36) rfl))) Via.refl e17 G2 (g := (mkF m 40 #[.val (.ref r0), .val (.ref r1), .val (.ref r1)] [(.ref r1), (.int wa)])) rfl rfl (hb hby d5_40)
      have K19 : ∀ t, own_S p e below T19 (mkF m 43 #[.val (.ref r0), .val (.ref r1), .val (.ref r1)] [(.int wb), (.int wa)]) t → Steps p.tables e below SE t := fun t k => K18 _ (st19 _ k)
      by_cases c43_20 : wa = wb
      · skip
        have K21 : ∀ t, own_S p e below T19 (mkF m 51 #[.val (.ref r0), .val (.ref r1), .val (.ref r1)] [(.int (1 : Int32))]) t → Steps p.tables e below SE t := by
          intro t k
          refine K19 _ ?_
          refine XS.icmpNo X19.here hx rfl (hb hby d5_43) rfl (XT.ii_ne_f c43_20) ?_
          show own_S p e below T19 (mkF m 46 #[.val (.ref r0), .val (.ref r1), .val (.ref r1)] []) _
          refine XS.iconst X19.here hx rfl (hb hby d5_46) ?_
          show own_S p e below T19 (mkF m 47 #[.val (.ref r0), .val (.ref r1), .val (.ref r1)] [(.int (1 : Int32))]) _
          refine XS.goto X19.here hx rfl (pc0 := 47) (pc' := 51) rfl (hb hby d5_47) (by decide) (by decide) ?_
          exact k
        obtain ⟨fs, hr, hrun, hended, hW, hsame⟩ := X19.leave (v := some (.int (1 : Int32))) (fun h => by rw [Bd.returns] at h; cases h)
        refine ⟨_, _, K21 _ ?_, hrun, hended, _, _, rfl, ?_, ⟨_, rfl⟩, hW, hsame.mono (by decide) (by decide)⟩
        · exact retN X19 hx (t := .boolean) Bd.returns (by simp) (hb hby d5_51) hr
        · show Q5 Z r0 r1 sa ra wa sb rb wb h0 n0 _ T19.heap _
          rw [e19]
          exact ⟨(by simp only [if_pos c20_9, if_pos c32_14, if_pos c43_20]), N0, rfl⟩
      · skip
        have K22 : ∀ t, own_S p e below T19 (mkF m 51 #[.val (.ref r0), .val (.ref r1), .val (.ref r1)] [(.int (0 : Int32))]) t → Steps p.tables e below SE t := by
          intro t k
          refine K19 _ ?_
          refine XS.icmpYes X19.here hx rfl (pc0 := 43) (pc' := 50) rfl (hb hby d5_43) rfl (XT.ii_ne_t c43_20) (by decide) (by decide) ?_
          show own_S p e below T19 (mkF m 50 #[.val (.ref r0), .val (.ref r1), .val (.ref r1)] []) _
          refine XS.iconst X19.here hx rfl (hb hby d5_50) ?_
          exact k
        obtain ⟨fs, hr, hrun, hended, hW, hsame⟩ := X19.leave (v := some (.int (0 : Int32))) (fun h => by rw [Bd.returns] at h; cases h)
        refine ⟨_, _, K22 _ ?_, hrun, hended, _, _, rfl, ?_, ⟨_, rfl⟩, hW, hsame.mono (by decide) (by decide)⟩
        · exact retN X19 hx (t := .boolean) Bd.returns (by simp) (hb hby d5_51) hr
        · show Q5 Z r0 r1 sa ra wa sb rb wb h0 n0 _ T19.heap _
          rw [e19]
          exact ⟨(by simp only [if_pos c20_9, if_pos c32_14, if_neg c43_20]), N0, rfl⟩
    · skip
      have K23 : ∀ t, own_S p e below T13 (mkF m 51 #[.val (.ref r0), .val (.ref r1), .val (.ref r1)] [(.int (0 : Int32))]) t → Steps p.tables e below SE t := by
        intro t k
        refine K15 _ ?_
        refine XS.ifYes X13.here hx rfl (pc0 := 32) (pc' := 50) rfl (hb hby d5_32) rfl (XT.ll_ne_t c32_14) (by decide) (by decide) ?_
        show own_S p e below T13 (mkF m 50 #[.val (.ref r0), .val (.ref r1), .val (.ref r1)] []) _
        refine XS.iconst X13.here hx rfl (hb hby d5_50) ?_
        exact k
      obtain ⟨fs, hr, hrun, hended, hW, hsame⟩ := X13.leave (v := some (.int (0 : Int32))) (fun h => by rw [Bd.returns] at h; cases h)
      refine ⟨_, _, K23 _ ?_, hrun, hended, _, _, rfl, ?_, ⟨_, rfl⟩, hW, hsame.mono (by decide) (by decide)⟩
      · exact retN X13 hx (t := .boolean) Bd.returns (by simp) (hb hby d5_51) hr
      · show Q5 Z r0 r1 sa ra wa sb rb wb h0 n0 _ T13.heap _
        rw [e13]
        exact ⟨(by simp only [if_pos c20_9, if_neg c32_14]), N0, rfl⟩
  · skip
    have K24 : ∀ t, own_S p e below T8 (mkF m 51 #[.val (.ref r0), .val (.ref r1), .val (.ref r1)] [(.int (0 : Int32))]) t → Steps p.tables e below SE t := by
      intro t k
      refine K8 _ ?_
      refine Jvm.RoadKit.acmp (g := (mkF m 20 #[.val (.ref r0), .val (.ref r1), .val (.ref r1)] [(.ref sb), (.ref sa)])) X8 hx rfl rfl rfl (pc0 := 20) (pc' := 50) (same := false) rfl (hb hby d5_20) rfl (decide_eq_false fun q => c20_9 (Value.ref.inj q)) (by decide) (by decide) ?_
      show own_S p e below T8 (mkF m 50 #[.val (.ref r0), .val (.ref r1), .val (.ref r1)] []) _
      refine XS.iconst X8.here hx rfl (hb hby d5_50) ?_
      exact k
    obtain ⟨fs, hr, hrun, hended, hW, hsame⟩ := X8.leave (v := some (.int (0 : Int32))) (fun h => by rw [Bd.returns] at h; cases h)
    refine ⟨_, _, K24 _ ?_, hrun, hended, _, _, rfl, ?_, ⟨_, rfl⟩, hW, hsame.mono (by decide) (by decide)⟩
    · exact retN X8 hx (t := .boolean) Bd.returns (by simp) (hb hby d5_51) hr
    · show Q5 Z r0 r1 sa ra wa sb rb wb h0 n0 _ T8.heap _
      rw [e8]
      exact ⟨(by simp only [if_neg c20_9]), N0, rfl⟩
theorem ef_5n (m : MethodId) (r0 : Addr) : entryFrame m #[(.ref r0), .null] 3 = mkF m 0 #[.val (.ref r0), .val .null, .unset] [] := by first | (simp [entryFrame, mkF, argsToLocals, Value.category]; done) | rfl
def Q5n (Z : State) (r0 : Addr) (h0 : Heap) (n0 : Nat) (v : Option Value) (h : Heap) (L : List Loc) : Prop := v = some (.int (0 : Int32)) ∧ Fr n0 L ∧ h = h0
set_option maxRecDepth 65536 in
set_option maxHeartbeats 40000000 in
theorem rm5n (l : Launch) (Z : State) (a0 : Array Value) (hw : ∀ d ∈ tables_1, d.before a0 Z = true) (ws : List Jvm.Cond) (r0 : Addr) (h0 : Heap) (n0 : Nat) (Z0 : n0 ≤ h0.size) :
    MetFree l (⟨"com/example/aswan/aswan/token/TokenResult", "equals", "(Ljava/lang/Object;)Z"⟩ : MethodName) (head1 (Jvm.Cond.code (⟨"com/example/aswan/aswan/token/TokenResult", "equals", "(Ljava/lang/Object;)Z"⟩ : MethodName) prog_30_method_5_code 3 (some .boolean) :: ws) ({ frames := 0, cells := 0, slots := 0, locals := 0 } : Room)) (fun a U => a = #[(.ref r0), .null] ∧ Z.Warmed39 U.vm ∧ U.heap = h0) (fun _ _ _ _ _ => True) (fun _ U o U' => ∃ v L, o = .returned v ∧ Q5n Z r0 h0 n0 v U'.heap L ∧ FrameEnd U o U' L ({ frames := 0, cells := 0, slots := 0, locals := 0 } : Room).cells ({ frames := 0, cells := 0, slots := 0, locals := 0 } : Room).slots) := by
  refine MetFree.of_bodySF (plainFor_of_name pn_2) hisR ?_
  intro p e s m args below meth c s₁ Bd hml0 hP hK
  obtain ⟨rfl, hZ, hh⟩ := hP
  have hx := Bd.exec
  have hby := Bd.bytes
  have hml : c.maxLocals = 3 := hml0
  have hown : s.vm.findClass "com/example/aswan/aswan/token/TokenResult" = some m.cls := findClass_of_methodNamed Bd.named
  have hnm := (name_of_methodNamed Bd.named Bd.method).1
  have X0 : Stand p l e ({ frames := 0, cells := 0, slots := 0, locals := 0 } : Room) s m #[(.ref r0), .null] below meth c s₁ [] 0 0 := Stand.of_body Bd
  have e0 : s₁.heap = h0 := by rw [← hh, Bd.state]; rfl
  have N0 := Fr.nil n0
  have K0 : ∀ t, Steps p.tables e below (s₁.setTop (mkF m 0 #[.val (.ref r0), .val .null, .unset] [])) t → Steps p.tables e below (s₁.setTop (entryFrame m #[(.ref r0), .null] 3)) t := fun t k => castTop (ef_5n m r0) k
  generalize s₁.setTop (entryFrame m #[(.ref r0), .null] 3) = SE at K0 ⊢
  have K1 : ∀ t, own_S p e below s₁ (mkF m 1 #[.val (.ref r0), .val .null, .unset] [.null]) t → Steps p.tables e below SE t := by
    intro t k
    refine K0 _ ?_
    refine XS.aloadN X0.here hx rfl (hb hby d5_0) rfl rfl ?_
    exact k
  have K2 : ∀ t, own_S p e below s₁ (mkF m 51 #[.val (.ref r0), .val .null, .unset] [(.int (0 : Int32))]) t → Steps p.tables e below SE t := by
    intro t k
    refine K1 _ ?_
    refine X0.instanceofNull hx (g := (mkF m 1 #[.val (.ref r0), .val .null, .unset] [.null])) rfl rfl (hb hby d5_1) _ ?_
    show own_S p e below s₁ (mkF m 4 #[.val (.ref r0), .val .null, .unset] [(.int (0 : Int32))]) _
    refine XS.ifYes X0.here hx rfl (pc0 := 4) (pc' := 50) rfl (hb hby d5_4) rfl (XT.i0_eq_t (by decide : (0 : Int32) = 0)) (by decide) (by decide) ?_
    show own_S p e below s₁ (mkF m 50 #[.val (.ref r0), .val .null, .unset] []) _
    refine XS.iconst X0.here hx rfl (hb hby d5_50) ?_
    exact k
  obtain ⟨fs, hr, hrun, hended, hW, hsame⟩ := X0.leave (v := some (.int (0 : Int32))) (fun h => by rw [Bd.returns] at h; cases h)
  refine ⟨_, _, K2 _ ?_, hrun, hended, _, _, rfl, ?_, ⟨_, rfl⟩, hW, hsame.mono (by decide) (by decide)⟩
  · exact retN X0 hx (t := .boolean) Bd.returns (by simp) (hb hby d5_51) hr
  · show Q5n Z r0 h0 n0 _ s₁.heap _
    rw [e0]
    exact ⟨rfl, N0, rfl⟩
theorem ef_5i (m : MethodId) (r0 : Addr) (r1 : Addr) : entryFrame m #[(.ref r0), (.ref r1)] 3 = mkF m 0 #[.val (.ref r0), .val (.ref r1), .unset] [] := by first | (simp [entryFrame, mkF, argsToLocals, Value.category]; done) | rfl
def Q5i (Z : State) (r0 : Addr) (r1 : Addr) (h0 : Heap) (n0 : Nat) (v : Option Value) (h : Heap) (L : List Loc) : Prop := v = some (.int (0 : Int32)) ∧ Fr n0 L ∧ h = h0
set_option maxRecDepth 65536 in
set_option maxHeartbeats 40000000 in
theorem rm5i (l : Launch) (Z : State) (a0 : Array Value) (hw : ∀ d ∈ tables_1, d.before a0 Z = true) (ws : List Jvm.Cond) (r0 : Addr) (r1 : Addr) (h0 : Heap) (n0 : Nat) (Z0 : n0 ≤ h0.size) (E_r1 : Exa Z h0 r1 "java/lang/Integer") :
    MetFree l (⟨"com/example/aswan/aswan/token/TokenResult", "equals", "(Ljava/lang/Object;)Z"⟩ : MethodName) (head1 (Jvm.Cond.code (⟨"com/example/aswan/aswan/token/TokenResult", "equals", "(Ljava/lang/Object;)Z"⟩ : MethodName) prog_30_method_5_code 3 (some .boolean) :: ws) ({ frames := 0, cells := 0, slots := 0, locals := 0 } : Room)) (fun a U => a = #[(.ref r0), (.ref r1)] ∧ Z.Warmed39 U.vm ∧ U.heap = h0) (fun _ _ _ _ _ => True) (fun _ U o U' => ∃ v L, o = .returned v ∧ Q5i Z r0 r1 h0 n0 v U'.heap L ∧ FrameEnd U o U' L ({ frames := 0, cells := 0, slots := 0, locals := 0 } : Room).cells ({ frames := 0, cells := 0, slots := 0, locals := 0 } : Room).slots) := by
  refine MetFree.of_bodySF (plainFor_of_name pn_2) hisR ?_
  intro p e s m args below meth c s₁ Bd hml0 hP hK
  obtain ⟨rfl, hZ, hh⟩ := hP
  have hx := Bd.exec
  have hby := Bd.bytes
  have hml : c.maxLocals = 3 := hml0
  have hown : s.vm.findClass "com/example/aswan/aswan/token/TokenResult" = some m.cls := findClass_of_methodNamed Bd.named
  have hnm := (name_of_methodNamed Bd.named Bd.method).1
  have X0 : Stand p l e ({ frames := 0, cells := 0, slots := 0, locals := 0 } : Room) s m #[(.ref r0), (.ref r1)] below meth c s₁ [] 0 0 := Stand.of_body Bd
  have e0 : s₁.heap = h0 := by rw [← hh, Bd.state]; rfl
  have N0 := Fr.nil n0
  have K0 : ∀ t, Steps p.tables e below (s₁.setTop (mkF m 0 #[.val (.ref r0), .val (.ref r1), .unset] [])) t → Steps p.tables e below (s₁.setTop (entryFrame m #[(.ref r0), (.ref r1)] 3)) t := fun t k => castTop (ef_5i m r0 r1) k
  generalize s₁.setTop (entryFrame m #[(.ref r0), (.ref r1)] 3) = SE at K0 ⊢
  have K1 : ∀ t, own_S p e below s₁ (mkF m 1 #[.val (.ref r0), .val (.ref r1), .unset] [(.ref r1)]) t → Steps p.tables e below SE t := by
    intro t k
    refine K0 _ ?_
    refine XS.aloadN X0.here hx rfl (hb hby d5_0) rfl rfl ?_
    exact k
  obtain ⟨T2, X2, e2, st2⟩ := instNo X0 hx hZ hown (hw _ (List.mem_of_getElem? (i := 43) rfl)) e0 E_r1 (own_no (hw _ (List.mem_of_getElem? (i := 54) rfl)) (hw _ (List.mem_of_getElem? (i := 53) rfl)) (hw _ (List.mem_of_getElem? (i := 52) rfl)) (hw _ (List.mem_of_getElem? (i := 3) rfl)) (by decide) (by decide) (by decide)) (g := (mkF m 1 #[.val (.ref r0), .val (.ref r1), .unset] [(.ref r1)])) rfl rfl (hb hby d5_1)
  have K2 : ∀ t, own_S p e below T2 (mkF m 4 #[.val (.ref r0), .val (.ref r1), .unset] [(.int (0 : Int32))]) t → Steps p.tables e below SE t := fun t k => K1 _ (st2 _ k)
  have K3 : ∀ t, own_S p e below T2 (mkF m 51 #[.val (.ref r0), .val (.ref r1), .unset] [(.int (0 : Int32))]) t → Steps p.tables e below SE t := by
    intro t k
    refine K2 _ ?_
    refine XS.ifYes X2.here hx rfl (pc0 := 4) (pc' := 50) rfl (hb hby d5_4) rfl (XT.i0_eq_t (by decide : (0 : Int32) = 0)) (by decide) (by decide) ?_
    show own_S p e below T2 (mkF m 50 #[.val (.ref r0), .val (.ref r1), .unset] []) _
    refine XS.iconst X2.here hx rfl (hb hby d5_50) ?_
    exact k
  obtain ⟨fs, hr, hrun, hended, hW, hsame⟩ := X2.leave (v := some (.int (0 : Int32))) (fun h => by rw [Bd.returns] at h; cases h)
  refine ⟨_, _, K3 _ ?_, hrun, hended, _, _, rfl, ?_, ⟨_, rfl⟩, hW, hsame.mono (by decide) (by decide)⟩
  · exact retN X2 hx (t := .boolean) Bd.returns (by simp) (hb hby d5_51) hr
  · show Q5i Z r0 r1 h0 n0 _ T2.heap _
    rw [e2]
    exact ⟨rfl, N0, rfl⟩
theorem d8_0 : decode jdk_18_method_1_code 0 = .ok (.aload_n 0, 1) := by decide +kernel
theorem d8_1 : decode jdk_18_method_1_code 1 = .ok (.invokespecial 1, 3) := by decide +kernel
theorem d8_4 : decode jdk_18_method_1_code 4 = .ok (.return_, 1) := by decide +kernel
theorem pn_8 : plainName "java/lang/Number" = true := by first | (simp [plainName, overriddenIn]; done) | decide +kernel
theorem ef_8 (m : MethodId) (r0 : Addr) : entryFrame m #[(.ref r0)] 1 = mkF m 0 #[.val (.ref r0)] [] := by first | (simp [entryFrame, mkF, argsToLocals, Value.category]; done) | rfl
def Q8 (Z : State) (r0 : Addr) (h0 : Heap) (n0 : Nat) (v : Option Value) (h : Heap) (L : List Loc) : Prop := v = none ∧ Fr n0 L ∧ h = h0
set_option maxRecDepth 65536 in
set_option maxHeartbeats 40000000 in
theorem rm8 (l : Launch) (Z : State) (a0 : Array Value) (hw : ∀ d ∈ tables_1, d.before a0 Z = true) (ws : List Jvm.Cond) (r0 : Addr) (h0 : Heap) (n0 : Nat) (Z0 : n0 ≤ h0.size) :
    MetFree l (⟨"java/lang/Number", "<init>", "()V"⟩ : MethodName) (head1 (Jvm.Cond.code (⟨"java/lang/Number", "<init>", "()V"⟩ : MethodName) jdk_18_method_1_code 1 none :: ws) ({ frames := 1, cells := 0, slots := 0, locals := 12 } : Room)) (fun a U => a = #[(.ref r0)] ∧ Z.Warmed39 U.vm ∧ U.heap = h0) (fun _ _ _ _ _ => True) (fun _ U o U' => ∃ v L, o = .returned v ∧ Q8 Z r0 h0 n0 v U'.heap L ∧ FrameEnd U o U' L ({ frames := 1, cells := 0, slots := 0, locals := 12 } : Room).cells ({ frames := 1, cells := 0, slots := 0, locals := 12 } : Room).slots) := by
  refine MetFree.of_bodySF (plainFor_of_name pn_8) hisR ?_
  intro p e s m args below meth c s₁ Bd hml0 hP hK
  obtain ⟨rfl, hZ, hh⟩ := hP
  have hx := Bd.exec
  have hby := Bd.bytes
  have hml : c.maxLocals = 1 := hml0
  have hown : s.vm.findClass "java/lang/Number" = some m.cls := findClass_of_methodNamed Bd.named
  have hnm := (name_of_methodNamed Bd.named Bd.method).1
  have X0 : Stand p l e ({ frames := 1, cells := 0, slots := 0, locals := 12 } : Room) s m #[(.ref r0)] below meth c s₁ [] 0 0 := Stand.of_body Bd
  have e0 : s₁.heap = h0 := by rw [← hh, Bd.state]; rfl
  have N0 := Fr.nil n0
  have K0 : ∀ t, Steps p.tables e below (s₁.setTop (mkF m 0 #[.val (.ref r0)] [])) t → Steps p.tables e below (s₁.setTop (entryFrame m #[(.ref r0)] 1)) t := fun t k => castTop (ef_8 m r0) k
  generalize s₁.setTop (entryFrame m #[(.ref r0)] 1) = SE at K0 ⊢
  have K1 : ∀ t, own_S p e below s₁ (mkF m 1 #[.val (.ref r0)] [(.ref r0)]) t → Steps p.tables e below SE t := by
    intro t k
    refine K0 _ ?_
    refine XS.aloadN X0.here hx rfl (hb hby d8_0) rfl rfl ?_
    exact k
  obtain ⟨T2, X2, e2, st2⟩ := initO X0 hx hZ hown (hw _ (List.mem_of_getElem? (i := 71) rfl)) (hw _ (List.mem_of_getElem? (i := 16) rfl)) (hw _ (List.mem_of_getElem? (i := 17) rfl)) e0 (g := (mkF m 1 #[.val (.ref r0)] [(.ref r0)])) rfl (by rw [hml]; rfl) rfl (hb hby d8_1) (by decide) (W := 0) (by show 2 * 0 + _ ≤ _; exact Nat.le_of_eq rfl) (by decide)
  have K2 : ∀ t, own_S p e below T2 (mkF m 4 #[.val (.ref r0)] []) t → Steps p.tables e below SE t := fun t k => K1 _ (st2 _ k)
  obtain ⟨fs, hr, hrun, hended, hW, hsame⟩ := X2.leave (v := none) (fun _ => rfl)
  refine ⟨_, _, K2 _ ?_, hrun, hended, _, _, rfl, ?_, ⟨_, rfl⟩, hW, hsame.mono (by decide) (by decide)⟩
  · exact X2.returnOut hx Bd.returns (hb hby d8_4) hr
  · show Q8 Z r0 h0 n0 _ T2.heap _
    rw [e2]
    exact ⟨rfl, N0, rfl⟩
theorem d7_0 : decode jdk_33_method_23_code 0 = .ok (.aload_n 0, 1) := by decide +kernel
theorem d7_1 : decode jdk_33_method_23_code 1 = .ok (.invokespecial 202, 3) := by decide +kernel
theorem d7_4 : decode jdk_33_method_23_code 4 = .ok (.aload_n 0, 1) := by decide +kernel
theorem d7_5 : decode jdk_33_method_23_code 5 = .ok (.iload_n 1, 1) := by decide +kernel
theorem d7_6 : decode jdk_33_method_23_code 6 = .ok (.putfield 205, 3) := by decide +kernel
theorem d7_9 : decode jdk_33_method_23_code 9 = .ok (.return_, 1) := by decide +kernel
theorem pn_7 : plainName "java/lang/Integer" = true := by first | (simp [plainName, overriddenIn]; done) | decide +kernel
theorem pd_7_0 : parseMethodDescriptor "()V" = some ⟨[], none⟩ := by decide +kernel
theorem ef_7 (m : MethodId) (r0 : Addr) (p1 : Int32) : entryFrame m #[(.ref r0), (.int p1)] 2 = mkF m 0 #[.val (.ref r0), .val (.int p1)] [] := by first | (simp [entryFrame, mkF, argsToLocals, Value.category]; done) | rfl
def Q7 (Z : State) (r0 : Addr) (p1 : Int32) (h0 : Heap) (n0 : Nat) (v : Option Value) (h : Heap) (L : List Loc) : Prop := v = none ∧ Fr n0 L ∧ Keep h0 h [r0] ∧ Exa Z h r0 "java/lang/Integer"
set_option maxRecDepth 65536 in
set_option maxHeartbeats 40000000 in
theorem rm7 (l : Launch) (Z : State) (a0 : Array Value) (hw : ∀ d ∈ tables_1, d.before a0 Z = true) (ws : List Jvm.Cond) (r0 : Addr) (p1 : Int32) (h0 : Heap) (n0 : Nat) (Z0 : n0 ≤ h0.size) (E_r0 : Exa Z h0 r0 "java/lang/Integer") (Fv : Fld Z h0 r0 "java/lang/Integer" "value" "I" (.int (0 : Int32))) (g_r0 : n0 ≤ r0) :
    MetFree l (⟨"java/lang/Integer", "<init>", "(I)V"⟩ : MethodName) (head1 (Jvm.Cond.code (⟨"java/lang/Integer", "<init>", "(I)V"⟩ : MethodName) jdk_33_method_23_code 2 none :: ws) ({ frames := 2, cells := 0, slots := 0, locals := 24 } : Room)) (fun a U => a = #[(.ref r0), (.int p1)] ∧ Z.Warmed39 U.vm ∧ U.heap = h0) (fun _ _ _ _ _ => True) (fun _ U o U' => ∃ v L, o = .returned v ∧ Q7 Z r0 p1 h0 n0 v U'.heap L ∧ FrameEnd U o U' L ({ frames := 2, cells := 0, slots := 0, locals := 24 } : Room).cells ({ frames := 2, cells := 0, slots := 0, locals := 24 } : Room).slots) := by
  refine MetFree.of_bodySF (plainFor_of_name pn_7) hisR ?_
  intro p e s m args below meth c s₁ Bd hml0 hP hK
  obtain ⟨rfl, hZ, hh⟩ := hP
  have hx := Bd.exec
  have hby := Bd.bytes
  have hml : c.maxLocals = 2 := hml0
  have hown : s.vm.findClass "java/lang/Integer" = some m.cls := findClass_of_methodNamed Bd.named
  have hnm := (name_of_methodNamed Bd.named Bd.method).1
  have X0 : Stand p l e ({ frames := 2, cells := 0, slots := 0, locals := 24 } : Room) s m #[(.ref r0), (.int p1)] below meth c s₁ [] 0 0 := Stand.of_body Bd
  have e0 : s₁.heap = h0 := by rw [← hh, Bd.state]; rfl
  have N0 := Fr.nil n0
  have K0 : ∀ t, Steps p.tables e below (s₁.setTop (mkF m 0 #[.val (.ref r0), .val (.int p1)] [])) t → Steps p.tables e below (s₁.setTop (entryFrame m #[(.ref r0), (.int p1)] 2)) t := fun t k => castTop (ef_7 m r0 p1) k
  generalize s₁.setTop (entryFrame m #[(.ref r0), (.int p1)] 2) = SE at K0 ⊢
  have K1 : ∀ t, own_S p e below s₁ (mkF m 1 #[.val (.ref r0), .val (.int p1)] [(.ref r0)]) t → Steps p.tables e below SE t := by
    intro t k
    refine K0 _ ?_
    refine XS.aloadN X0.here hx rfl (hb hby d7_0) rfl rfl ?_
    exact k
  obtain ⟨_, _, ⟨T2, L2, k2, n2⟩, -, X2, ⟨Lc2, hQ2, l2, y2, z2⟩, st2⟩ := X0.specialBack hx (y := (⟨"java/lang/Number", "<init>", "()V"⟩ : MethodName)) rfl hown (mvT hZ (hw _ (List.mem_of_getElem? (i := 65) rfl))) (mvT hZ (hw _ (List.mem_of_getElem? (i := 66) rfl))) (mvT hZ (hw _ (List.mem_of_getElem? (i := 70) rfl))) (by decide) (backOf (W := 0) (rm8 l Z a0 hw [] r0 h0 n0 Z0) hZ (hw _ (List.mem_of_getElem? (i := 70) rfl)) (hw _ (List.mem_of_getElem? (i := 69) rfl)) (by decide) (by decide)) (g := (mkF m 1 #[.val (.ref r0), .val (.int p1)] [(.ref r0)])) rfl (by rw [hml]; rfl) (Steps.refl _) (a := r0) (argsL := []) (rest := []) (lenOf pd_7_0 rfl) rfl (by show 2 * 0 + _ ≤ _; exact Nat.le_of_eq rfl) (hb hby d7_1) (fun _ _ => ⟨rfl, e0, (by decide : 0 + 0 ≤ _), (by decide : 0 + 0 ≤ _)⟩)
  dsimp only [Pt.U, Pt.locs, Pt.cells, Pt.slots] at X2 l2 y2 z2 st2 hQ2
  subst l2 y2 z2
  obtain ⟨rfl, Nq2, e2⟩ := hQ2
  have N2 := Fr.app N0 Nq2
  have K2 : ∀ t, own_S p e below T2 (mkF m 4 #[.val (.ref r0), .val (.int p1)] []) t → Steps p.tables e below SE t := fun t k => K1 _ (st2.trans k)
  have K3 : ∀ t, own_S p e below T2 (mkF m 6 #[.val (.ref r0), .val (.int p1)] [(.int p1), (.ref r0)]) t → Steps p.tables e below SE t := by
    intro t k
    refine K2 _ ?_
    refine XS.aloadN X2.here hx rfl (hb hby d7_4) rfl rfl ?_
    show own_S p e below T2 (mkF m 5 #[.val (.ref r0), .val (.int p1)] [(.ref r0)]) _
    refine XS.iloadN X2.here hx rfl (hb hby d7_5) rfl ?_
    exact k
  obtain ⟨T4, h4, X4, e4, W4, st4⟩ := putF X2 hx hZ hown (host := "") (Or.inl (hw _ (List.mem_of_getElem? (i := 72) rfl))) Via.refl e2 Fv E_r0 (Or.inr ⟨(hw _ (List.mem_of_getElem? (i := 73) rfl)), rfl, hnm⟩) (hw _ (List.mem_of_getElem? (i := 60) rfl)) (ty := .int) (by decide) rfl rfl (g := (mkF m 6 #[.val (.ref r0), .val (.int p1)] [(.int p1), (.ref r0)])) rfl rfl (hb hby d7_6)
  have Fw4 := Fld.same W4 Fv
  have N4 := Fr.snoc X4 N2 g_r0
  have Kp4 : Keep h0 h4 [r0] := Keep.wr (Keep.refl h0 [r0]) W4 (Or.inl (List.mem_of_getElem? (i := 0) rfl))
  have K4 : ∀ t, own_S p e below T4 (mkF m 9 #[.val (.ref r0), .val (.int p1)] []) t → Steps p.tables e below SE t := fun t k => K3 _ (st4 _ k)
  obtain ⟨fs, hr, hrun, hended, hW, hsame⟩ := X4.leave (v := none) (fun _ => rfl)
  refine ⟨_, _, K4 _ ?_, hrun, hended, _, _, rfl, ?_, ⟨_, rfl⟩, hW, hsame.mono (by decide) (by decide)⟩
  · exact X4.returnOut hx Bd.returns (hb hby d7_9) hr
  · show Q7 Z r0 p1 h0 n0 _ T4.heap _
    rw [e4]
    exact ⟨rfl, N4, Kp4, (E_r0.wr W4)⟩
theorem d6_0 : decode jdk_33_method_22_code 0 = .ok (.iload_n 0, 1) := by decide +kernel
theorem d6_1 : decode jdk_33_method_22_code 1 = .ok (.bipush (-128), 2) := by decide +kernel
theorem d6_3 : decode jdk_33_method_22_code 3 = .ok (.if_icmp .lt 20, 3) := by decide +kernel
theorem d6_6 : decode jdk_33_method_22_code 6 = .ok (.iload_n 0, 1) := by decide +kernel
theorem d6_7 : decode jdk_33_method_22_code 7 = .ok (.getstatic 191, 3) := by decide +kernel
theorem d6_10 : decode jdk_33_method_22_code 10 = .ok (.if_icmp .gt 13, 3) := by decide +kernel
theorem d6_13 : decode jdk_33_method_22_code 13 = .ok (.getstatic 195, 3) := by decide +kernel
theorem d6_16 : decode jdk_33_method_22_code 16 = .ok (.iload_n 0, 1) := by decide +kernel
theorem d6_17 : decode jdk_33_method_22_code 17 = .ok (.sipush 128, 3) := by decide +kernel
theorem d6_20 : decode jdk_33_method_22_code 20 = .ok (.iadd, 1) := by decide +kernel
theorem d6_21 : decode jdk_33_method_22_code 21 = .ok (.aaload, 1) := by decide +kernel
theorem d6_22 : decode jdk_33_method_22_code 22 = .ok (.areturn, 1) := by decide +kernel
theorem ef_6c (m : MethodId) (p0 : Int32) : entryFrame m #[(.int p0)] 1 = mkF m 0 #[.val (.int p0)] [] := by first | (simp [entryFrame, mkF, argsToLocals, Value.category]; done) | rfl
def Q6c (Z : State) (p0 : Int32) (oc : Addr) (cc : Cell) (ar : Addr) (h0 : Heap) (n0 : Nat) (v : Option Value) (h : Heap) (L : List Loc) : Prop := v = some (.ref ar) ∧ Fr n0 L ∧ h = h0
set_option maxRecDepth 65536 in
set_option maxHeartbeats 40000000 in
theorem rm6c (l : Launch) (Z : State) (a0 : Array Value) (hw : ∀ d ∈ tables_1, d.before a0 Z = true) (ws : List Jvm.Cond) (p0 : Int32) (oc : Addr) (cc : Cell) (ar : Addr) (h0 : Heap) (n0 : Nat) (Z0 : n0 ≤ h0.size) (Sh : Sta Z h0 "java/lang/Integer$IntegerCache" "high" "I" (.int (127 : Int32))) (Sc : Sta Z h0 "java/lang/Integer$IntegerCache" "cache" "[Ljava/lang/Integer;" (.ref oc)) (AC : Arr Z h0 oc cc (.object "java/lang/Integer")) (hlo : ¬ p0 < (-128 : Int32)) (hhi : ¬ (127 : Int32) < p0) (hin : ¬ ((p0 + (128 : Int32)) < 0 ∨ cc.slots.size ≤ (p0 + (128 : Int32)).toNatClampNeg)) (hat : cc.slots[(p0 + (128 : Int32)).toNatClampNeg]? = some (.ref ar)) :
    MetFree l (⟨"java/lang/Integer", "valueOf", "(I)Ljava/lang/Integer;"⟩ : MethodName) (head1 (Jvm.Cond.code (⟨"java/lang/Integer", "valueOf", "(I)Ljava/lang/Integer;"⟩ : MethodName) jdk_33_method_22_code 1 (some (.object "java/lang/Integer")) :: ws) ({ frames := 0, cells := 0, slots := 0, locals := 0 } : Room)) (fun a U => a = #[(.int p0)] ∧ Z.Warmed39 U.vm ∧ U.heap = h0) (fun _ _ _ _ _ => True) (fun _ U o U' => ∃ v L, o = .returned v ∧ Q6c Z p0 oc cc ar h0 n0 v U'.heap L ∧ FrameEnd U o U' L ({ frames := 0, cells := 0, slots := 0, locals := 0 } : Room).cells ({ frames := 0, cells := 0, slots := 0, locals := 0 } : Room).slots) := by
  refine MetFree.of_bodySF (plainFor_of_name pn_7) hisR ?_
  intro p e s m args below meth c s₁ Bd hml0 hP hK
  obtain ⟨rfl, hZ, hh⟩ := hP
  have hx := Bd.exec
  have hby := Bd.bytes
  have hml : c.maxLocals = 1 := hml0
  have hown : s.vm.findClass "java/lang/Integer" = some m.cls := findClass_of_methodNamed Bd.named
  have hnm := (name_of_methodNamed Bd.named Bd.method).1
  have X0 : Stand p l e ({ frames := 0, cells := 0, slots := 0, locals := 0 } : Room) s m #[(.int p0)] below meth c s₁ [] 0 0 := Stand.of_body Bd
  have e0 : s₁.heap = h0 := by rw [← hh, Bd.state]; rfl
  have N0 := Fr.nil n0
  have K0 : ∀ t, Steps p.tables e below (s₁.setTop (mkF m 0 #[.val (.int p0)] [])) t → Steps p.tables e below (s₁.setTop (entryFrame m #[(.int p0)] 1)) t := fun t k => castTop (ef_6c m p0) k
  generalize s₁.setTop (entryFrame m #[(.int p0)] 1) = SE at K0 ⊢
  have K1 : ∀ t, own_S p e below s₁ (mkF m 7 #[.val (.int p0)] [(.int p0)]) t → Steps p.tables e below SE t := by
    intro t k
    refine K0 _ ?_
    refine XS.iloadN X0.here hx rfl (hb hby d6_0) rfl ?_
    show own_S p e below s₁ (mkF m 1 #[.val (.int p0)] [(.int p0)]) _
    refine XS.bipush X0.here hx rfl (hb hby d6_1) ?_
    show own_S p e below s₁ (mkF m 3 #[.val (.int p0)] [(.int (-128 : Int32)), (.int p0)]) _
    refine XS.icmpNo X0.here hx rfl (hb hby d6_3) rfl (XT.ii_lt_f hlo) ?_
    show own_S p e below s₁ (mkF m 6 #[.val (.int p0)] []) _
    refine XS.iloadN X0.here hx rfl (hb hby d6_6) rfl ?_
    exact k
  obtain ⟨T2, X2, e2, st2⟩ := getS2 X0 hx hZ hown (host := "") (Or.inl (hw _ (List.mem_of_getElem? (i := 49) rfl))) Via.refl e0 Sh (g := (mkF m 7 #[.val (.int p0)] [(.int p0)])) rfl (hb hby d6_7)
  have K2 : ∀ t, own_S p e below T2 (mkF m 10 #[.val (.int p0)] [(.int (127 : Int32)), (.int p0)]) t → Steps p.tables e below SE t := fun t k => K1 _ (st2 _ k)
  have K3 : ∀ t, own_S p e below T2 (mkF m 13 #[.val (.int p0)] []) t → Steps p.tables e below SE t := by
    intro t k
    refine K2 _ ?_
    refine XS.icmpNo X2.here hx rfl (hb hby d6_10) rfl (XT.ii_gt_f hhi) ?_
    exact k
  obtain ⟨T4, X4, e4, st4⟩ := getS2 X2 hx hZ hown (host := "") (Or.inl (hw _ (List.mem_of_getElem? (i := 51) rfl))) Via.refl e2 Sc (g := (mkF m 13 #[.val (.int p0)] [])) rfl (hb hby d6_13)
  have K4 : ∀ t, own_S p e below T4 (mkF m 16 #[.val (.int p0)] [(.ref oc)]) t → Steps p.tables e below SE t := fun t k => K3 _ (st4 _ k)
  have K5 : ∀ t, own_S p e below T4 (mkF m 21 #[.val (.int p0)] [(.int (p0 + (128 : Int32))), (.ref oc)]) t → Steps p.tables e below SE t := by
    intro t k
    refine K4 _ ?_
    refine XS.iloadN X4.here hx rfl (hb hby d6_16) rfl ?_
    show own_S p e below T4 (mkF m 17 #[.val (.int p0)] [(.int p0), (.ref oc)]) _
    refine XS.sipush X4.here hx rfl (hb hby d6_17) ?_
    show own_S p e below T4 (mkF m 20 #[.val (.int p0)] [(.int (128 : Int32)), (.int p0), (.ref oc)]) _
    refine XS.iadd X4.here hx rfl (hb hby d6_20) rfl ?_
    exact k
  have K6 : ∀ t, own_S p e below T4 (mkF m 22 #[.val (.int p0)] [(.ref ar)]) t → Steps p.tables e below SE t := by
    intro t k
    refine K5 _ ?_
    refine X4.aaload hx (j := (p0 + (128 : Int32))) (v := (.ref ar)) (by rw [e4]; exact AC.1) (State.isArrayOf_alike hZ.alike AC.2.1) rfl AC.2.2 hin hat (g := (mkF m 21 #[.val (.int p0)] [(.int (p0 + (128 : Int32))), (.ref oc)])) rfl rfl (hb hby d6_21) _ ?_
    exact k
  obtain ⟨fs, hr, hrun, hended, hW, hsame⟩ := X4.leave (v := some (.ref ar)) (fun h => by rw [Bd.returns] at h; cases h)
  refine ⟨_, _, K6 _ ?_, hrun, hended, _, _, rfl, ?_, ⟨_, rfl⟩, hW, hsame.mono (by decide) (by decide)⟩
  · show Steps p.tables e below (T4.setTop (mkF m 22 #[.val (.int p0)] [(.ref ar)])) _
    jvm_step X4.here [X4.here.top, hx, (hb hby d6_22), X4.method', Bd.returns, Value.isRef, FieldType.isReference]
    first | (intro acts; rw [hr _ acts rfl rfl rfl]) | rw [hr _ _ rfl rfl rfl]
    exact Steps.refl _
  · show Q6c Z p0 oc cc ar h0 n0 _ T4.heap _
    rw [e4]
    exact ⟨rfl, N0, rfl⟩
theorem d6_23 : decode jdk_33_method_22_code 23 = .ok (.new 1, 3) := by decide +kernel
theorem d6_26 : decode jdk_33_method_22_code 26 = .ok (.dup, 1) := by decide +kernel
theorem d6_27 : decode jdk_33_method_22_code 27 = .ok (.iload_n 0, 1) := by decide +kernel
theorem d6_28 : decode jdk_33_method_22_code 28 = .ok (.invokespecial 199, 3) := by decide +kernel
theorem d6_31 : decode jdk_33_method_22_code 31 = .ok (.areturn, 1) := by decide +kernel
theorem pd_6n_0 : parseMethodDescriptor "(I)V" = some ⟨[.int], none⟩ := by decide +kernel
theorem ef_6n (m : MethodId) (p0 : Int32) : entryFrame m #[(.int p0)] 1 = mkF m 0 #[.val (.int p0)] [] := by first | (simp [entryFrame, mkF, argsToLocals, Value.category]; done) | rfl
def Q6n (Z : State) (p0 : Int32) (h0 : Heap) (n0 : Nat) (v : Option Value) (h : Heap) (L : List Loc) : Prop := v = some (.ref h0.size) ∧ Fr n0 L ∧ Keep h0 h [] ∧ Exa Z h h0.size "java/lang/Integer"
set_option maxRecDepth 65536 in
set_option maxHeartbeats 40000000 in
theorem rm6n (l : Launch) (Z : State) (a0 : Array Value) (hw : ∀ d ∈ tables_1, d.before a0 Z = true) (ws : List Jvm.Cond) (p0 : Int32) (h0 : Heap) (n0 : Nat) (Z0 : n0 ≤ h0.size) (Sh : Sta Z h0 "java/lang/Integer$IntegerCache" "high" "I" (.int (127 : Int32))) (hout : p0 < (-128 : Int32) ∨ (127 : Int32) < p0) :
    MetFree l (⟨"java/lang/Integer", "valueOf", "(I)Ljava/lang/Integer;"⟩ : MethodName) (head1 (Jvm.Cond.code (⟨"java/lang/Integer", "valueOf", "(I)Ljava/lang/Integer;"⟩ : MethodName) jdk_33_method_22_code 1 (some (.object "java/lang/Integer")) :: ws) ({ frames := 3, cells := 1, slots := 1, locals := 38 } : Room)) (fun a U => a = #[(.int p0)] ∧ Z.Warmed39 U.vm ∧ U.heap = h0) (fun _ _ _ _ _ => True) (fun _ U o U' => ∃ v L, o = .returned v ∧ Q6n Z p0 h0 n0 v U'.heap L ∧ FrameEnd U o U' L ({ frames := 3, cells := 1, slots := 1, locals := 38 } : Room).cells ({ frames := 3, cells := 1, slots := 1, locals := 38 } : Room).slots) := by
  refine MetFree.of_bodySF (plainFor_of_name pn_7) hisR ?_
  intro p e s m args below meth c s₁ Bd hml0 hP hK
  obtain ⟨rfl, hZ, hh⟩ := hP
  have hx := Bd.exec
  have hby := Bd.bytes
  have hml : c.maxLocals = 1 := hml0
  have hown : s.vm.findClass "java/lang/Integer" = some m.cls := findClass_of_methodNamed Bd.named
  have hnm := (name_of_methodNamed Bd.named Bd.method).1
  have X0 : Stand p l e ({ frames := 3, cells := 1, slots := 1, locals := 38 } : Room) s m #[(.int p0)] below meth c s₁ [] 0 0 := Stand.of_body Bd
  have e0 : s₁.heap = h0 := by rw [← hh, Bd.state]; rfl
  have N0 := Fr.nil n0
  have K0 : ∀ t, Steps p.tables e below (s₁.setTop (mkF m 0 #[.val (.int p0)] [])) t → Steps p.tables e below (s₁.setTop (entryFrame m #[(.int p0)] 1)) t := fun t k => castTop (ef_6n m p0) k
  generalize s₁.setTop (entryFrame m #[(.int p0)] 1) = SE at K0 ⊢
  have K1 : ∀ t, own_S p e below s₁ (mkF m 3 #[.val (.int p0)] [(.int (-128 : Int32)), (.int p0)]) t → Steps p.tables e below SE t := by
    intro t k
    refine K0 _ ?_
    refine XS.iloadN X0.here hx rfl (hb hby d6_0) rfl ?_
    show own_S p e below s₁ (mkF m 1 #[.val (.int p0)] [(.int p0)]) _
    refine XS.bipush X0.here hx rfl (hb hby d6_1) ?_
    exact k
  by_cases clo : p0 < (-128 : Int32)
  · skip
    have K2 : ∀ t, own_S p e below s₁ (mkF m 23 #[.val (.int p0)] []) t → Steps p.tables e below SE t := by
      intro t k
      refine K1 _ ?_
      refine XS.icmpYes X0.here hx rfl (pc0 := 3) (pc' := 23) rfl (hb hby d6_3) rfl (XT.ii_lt_t clo) (by decide) (by decide) ?_
      exact k
    obtain ⟨T3, h3, X3, e3, E3, A3, D3, -, st3⟩ := newO X0 hx hZ hown (hw _ (List.mem_of_getElem? (i := 59) rfl)) (hw _ (List.mem_of_getElem? (i := 60) rfl)) (hw _ (List.mem_of_getElem? (i := 47) rfl)) e0 (g := (mkF m 23 #[.val (.int p0)] [])) rfl (hb hby d6_23) (by decide) (by decide)
    obtain ⟨b3, g3⟩ : ∃ z, z = h0.size := ⟨_, rfl⟩
    rw [← g3] at A3 D3 st3
    have g_b3 : n0 ≤ b3 := Nat.le_trans Z0 (Nat.le_of_eq g3.symm)
    have sz_b3 : h0.size ≤ b3 := Nat.le_trans (Nat.le_refl _) (Nat.le_of_eq g3.symm)
    have Kp3 : Keep h0 h3 [] := Keep.ext (Keep.refl h0 []) E3
    have F_value_b3 : Fld Z h3 b3 "java/lang/Integer" "value" "I" (.int (0 : Int32)) := D3 (Or.inr (hw _ (List.mem_of_getElem? (i := 73) rfl))) (ty := .int) (by decide)
    have K3 : ∀ t, own_S p e below T3 (mkF m 26 #[.val (.int p0)] [(.ref b3)]) t → Steps p.tables e below SE t := fun t k => K2 _ (st3 _ k)
    have K4 : ∀ t, own_S p e below T3 (mkF m 28 #[.val (.int p0)] [(.int p0), (.ref b3), (.ref b3)]) t → Steps p.tables e below SE t := by
      intro t k
      refine K3 _ ?_
      refine XS.dup X3.here hx rfl (hb hby d6_26) rfl rfl ?_
      show own_S p e below T3 (mkF m 27 #[.val (.int p0)] [(.ref b3), (.ref b3)]) _
      refine XS.iloadN X3.here hx rfl (hb hby d6_27) rfl ?_
      exact k
    obtain ⟨_, _, ⟨T5, L5, k5, n5⟩, -, X5, ⟨Lc5, hQ5, l5, y5, z5⟩, st5⟩ := X3.specialBack hx (y := (⟨"java/lang/Integer", "<init>", "(I)V"⟩ : MethodName)) rfl hown (mvT hZ (hw _ (List.mem_of_getElem? (i := 61) rfl))) (mvT hZ (hw _ (List.mem_of_getElem? (i := 62) rfl))) (mvT hZ (hw _ (List.mem_of_getElem? (i := 64) rfl))) (by decide) (backOf (W := 1) (rm7 l Z a0 hw [] b3 p0 h3 n0 (Nat.le_trans Z0 Kp3.1) A3 F_value_b3 g_b3) hZ (hw _ (List.mem_of_getElem? (i := 64) rfl)) (hw _ (List.mem_of_getElem? (i := 47) rfl)) (by decide) (by decide)) (g := (mkF m 28 #[.val (.int p0)] [(.int p0), (.ref b3), (.ref b3)])) rfl (by rw [hml]; rfl) (Steps.refl _) (a := b3) (argsL := [(.int p0)]) (rest := [(.ref b3)]) (lenOf pd_6n_0 rfl) rfl (by show 2 * 0 + _ ≤ _; exact Nat.le_of_eq rfl) (hb hby d6_28) (fun _ _ => ⟨rfl, e3, (by decide : 1 + 0 ≤ _), (by decide : 1 + 0 ≤ _)⟩)
    dsimp only [Pt.U, Pt.locs, Pt.cells, Pt.slots] at X5 l5 y5 z5 st5 hQ5
    subst l5 y5 z5
    obtain ⟨rfl, Nq5, Kq5, Ex5⟩ := hQ5
    have N5 := Fr.app N0 Nq5
    have Kp5 : Keep h0 T5.heap [] := Keep.trans Kp3 Kq5 (allS (Or.inr sz_b3) all0)
    have K5 : ∀ t, own_S p e below T5 (mkF m 31 #[.val (.int p0)] [(.ref b3)]) t → Steps p.tables e below SE t := fun t k => K4 _ (st5.trans k)
    obtain ⟨fs, hr, hrun, hended, hW, hsame⟩ := X5.leave (v := some (.ref b3)) (fun h => by rw [Bd.returns] at h; cases h)
    refine ⟨_, _, K5 _ ?_, hrun, hended, _, _, rfl, ?_, ⟨_, rfl⟩, hW, hsame.mono (by decide) (by decide)⟩
    · show Steps p.tables e below (T5.setTop (mkF m 31 #[.val (.int p0)] [(.ref b3)])) _
      jvm_step X5.here [X5.here.top, hx, (hb hby d6_31), X5.method', Bd.returns, Value.isRef, FieldType.isReference]
      first | (intro acts; rw [hr _ acts rfl rfl rfl]) | rw [hr _ _ rfl rfl rfl]
      exact Steps.refl _
    · show Q6n Z p0 h0 n0 _ T5.heap _
      exact ⟨congrArg (fun z => some (Value.ref z)) g3, N5, Kp5, (g3 ▸ Ex5)⟩
  · skip
    have K6 : ∀ t, own_S p e below s₁ (mkF m 7 #[.val (.int p0)] [(.int p0)]) t → Steps p.tables e below SE t := by
      intro t k
      refine K1 _ ?_
      refine XS.icmpNo X0.here hx rfl (hb hby d6_3) rfl (XT.ii_lt_f clo) ?_
      show own_S p e below s₁ (mkF m 6 #[.val (.int p0)] []) _
      refine XS.iloadN X0.here hx rfl (hb hby d6_6) rfl ?_
      exact k
    obtain ⟨T7, X7, e7, st7⟩ := getS2 X0 hx hZ hown (host := "") (Or.inl (hw _ (List.mem_of_getElem? (i := 49) rfl))) Via.refl e0 Sh (g := (mkF m 7 #[.val (.int p0)] [(.int p0)])) rfl (hb hby d6_7)
    have K7 : ∀ t, own_S p e below T7 (mkF m 10 #[.val (.int p0)] [(.int (127 : Int32)), (.int p0)]) t → Steps p.tables e below SE t := fun t k => K6 _ (st7 _ k)
    have K8 : ∀ t, own_S p e below T7 (mkF m 23 #[.val (.int p0)] []) t → Steps p.tables e below SE t := by
      intro t k
      refine K7 _ ?_
      refine XS.icmpYes X7.here hx rfl (pc0 := 10) (pc' := 23) rfl (hb hby d6_10) rfl (XT.ii_gt_t (hout.resolve_left clo)) (by decide) (by decide) ?_
      exact k
    obtain ⟨T9, h9, X9, e9, E9, A9, D9, -, st9⟩ := newO X7 hx hZ hown (hw _ (List.mem_of_getElem? (i := 59) rfl)) (hw _ (List.mem_of_getElem? (i := 60) rfl)) (hw _ (List.mem_of_getElem? (i := 47) rfl)) e7 (g := (mkF m 23 #[.val (.int p0)] [])) rfl (hb hby d6_23) (by decide) (by decide)
    obtain ⟨b9, g9⟩ : ∃ z, z = h0.size := ⟨_, rfl⟩
    rw [← g9] at A9 D9 st9
    have g_b9 : n0 ≤ b9 := Nat.le_trans Z0 (Nat.le_of_eq g9.symm)
    have sz_b9 : h0.size ≤ b9 := Nat.le_trans (Nat.le_refl _) (Nat.le_of_eq g9.symm)
    have Kp9 : Keep h0 h9 [] := Keep.ext (Keep.refl h0 []) E9
    have F_value_b9 : Fld Z h9 b9 "java/lang/Integer" "value" "I" (.int (0 : Int32)) := D9 (Or.inr (hw _ (List.mem_of_getElem? (i := 73) rfl))) (ty := .int) (by decide)
    have K9 : ∀ t, own_S p e below T9 (mkF m 26 #[.val (.int p0)] [(.ref b9)]) t → Steps p.tables e below SE t := fun t k => K8 _ (st9 _ k)
    have K10 : ∀ t, own_S p e below T9 (mkF m 28 #[.val (.int p0)] [(.int p0), (.ref b9), (.ref b9)]) t → Steps p.tables e below SE t := by
      intro t k
      refine K9 _ ?_
      refine XS.dup X9.here hx rfl (hb hby d6_26) rfl rfl ?_
      show own_S p e below T9 (mkF m 27 #[.val (.int p0)] [(.ref b9), (.ref b9)]) _
      refine XS.iloadN X9.here hx rfl (hb hby d6_27) rfl ?_
      exact k
    obtain ⟨_, _, ⟨T11, L11, k11, n11⟩, -, X11, ⟨Lc11, hQ11, l11, y11, z11⟩, st11⟩ := X9.specialBack hx (y := (⟨"java/lang/Integer", "<init>", "(I)V"⟩ : MethodName)) rfl hown (mvT hZ (hw _ (List.mem_of_getElem? (i := 61) rfl))) (mvT hZ (hw _ (List.mem_of_getElem? (i := 62) rfl))) (mvT hZ (hw _ (List.mem_of_getElem? (i := 64) rfl))) (by decide) (backOf (W := 1) (rm7 l Z a0 hw [] b9 p0 h9 n0 (Nat.le_trans Z0 Kp9.1) A9 F_value_b9 g_b9) hZ (hw _ (List.mem_of_getElem? (i := 64) rfl)) (hw _ (List.mem_of_getElem? (i := 47) rfl)) (by decide) (by decide)) (g := (mkF m 28 #[.val (.int p0)] [(.int p0), (.ref b9), (.ref b9)])) rfl (by rw [hml]; rfl) (Steps.refl _) (a := b9) (argsL := [(.int p0)]) (rest := [(.ref b9)]) (lenOf pd_6n_0 rfl) rfl (by show 2 * 0 + _ ≤ _; exact Nat.le_of_eq rfl) (hb hby d6_28) (fun _ _ => ⟨rfl, e9, (by decide : 1 + 0 ≤ _), (by decide : 1 + 0 ≤ _)⟩)
    dsimp only [Pt.U, Pt.locs, Pt.cells, Pt.slots] at X11 l11 y11 z11 st11 hQ11
    subst l11 y11 z11
    obtain ⟨rfl, Nq11, Kq11, Ex11⟩ := hQ11
    have N11 := Fr.app N0 Nq11
    have Kp11 : Keep h0 T11.heap [] := Keep.trans Kp9 Kq11 (allS (Or.inr sz_b9) all0)
    have K11 : ∀ t, own_S p e below T11 (mkF m 31 #[.val (.int p0)] [(.ref b9)]) t → Steps p.tables e below SE t := fun t k => K10 _ (st11.trans k)
    obtain ⟨fs, hr, hrun, hended, hW, hsame⟩ := X11.leave (v := some (.ref b9)) (fun h => by rw [Bd.returns] at h; cases h)
    refine ⟨_, _, K11 _ ?_, hrun, hended, _, _, rfl, ?_, ⟨_, rfl⟩, hW, hsame.mono (by decide) (by decide)⟩
    · show Steps p.tables e below (T11.setTop (mkF m 31 #[.val (.int p0)] [(.ref b9)])) _
      jvm_step X11.here [X11.here.top, hx, (hb hby d6_31), X11.method', Bd.returns, Value.isRef, FieldType.isReference]
      first | (intro acts; rw [hr _ acts rfl rfl rfl]) | rw [hr _ _ rfl rfl rfl]
      exact Steps.refl _
    · show Q6n Z p0 h0 n0 _ T11.heap _
      exact ⟨congrArg (fun z => some (Value.ref z)) g9, N11, Kp11, (g9 ▸ Ex11)⟩
theorem own_inb (p : Int32) {cc : Cell} (hlo : ¬ p < (-128 : Int32)) (hhi : ¬ (127 : Int32) < p) (hCs : cc.slots.size = 256) : ¬ ((p + (128 : Int32)) < 0 ∨ cc.slots.size ≤ (p + (128 : Int32)).toNatClampNeg) := by
  have c1 : (-128 : Int32).toInt = -128 := by decide
  have c2 : (127 : Int32).toInt = 127 := by decide
  have c3 : (128 : Int32).toInt = 128 := by decide
  have c0 : (0 : Int32).toInt = 0 := by decide
  have c4 : (256 : Int32).toInt = 256 := by decide
  rw [Int32.lt_iff_toInt_lt, c1] at hlo
  rw [Int32.lt_iff_toInt_lt, c2] at hhi
  have e : (p + (128 : Int32)).toInt = p.toInt + (128 : Int32).toInt := Jvm.Kit.i32_add (by omega) (by omega)
  refine inb_of (z := (256 : Int32)) (hCs.trans rfl) ⟨?_, ?_⟩
  · rw [Int32.lt_iff_toInt_lt, e, c0]; omega
  · rw [Int32.lt_iff_toInt_lt, e, c4]; omega
theorem pd_0_0 : parseMethodDescriptor "(I)Lcom/example/aswan/aswan/token/TokenStatus;" = some ⟨[.int], some (.object "com/example/aswan/aswan/token/TokenStatus")⟩ := by decide +kernel
theorem pd_0_1 : parseMethodDescriptor "(Lcom/example/aswan/aswan/token/TokenStatus;JI)V" = some ⟨[(.object "com/example/aswan/aswan/token/TokenStatus"), .long, .int], none⟩ := by decide +kernel
theorem pd_0_2 : parseMethodDescriptor "(Ljava/lang/Object;)Z" = some ⟨[(.object "java/lang/Object")], some .boolean⟩ := by decide +kernel
theorem pd_0_3 : parseMethodDescriptor "(I)Ljava/lang/Integer;" = some ⟨[.int], some (.object "java/lang/Integer")⟩ := by decide +kernel
theorem ef_0 (m : MethodId) (p0 : Int32) (q1 : Int64) (p2 : Int32) (q3 : Int64) (p4 : Int32) (p5 : Int32) : entryFrame m #[(.int p0), (.long q1), (.int p2), (.long q3), (.int p4), (.int p5)] maxLocals = mkF m 0 #[.val (.int p0), .val (.long q1), .second, .val (.int p2), .val (.long q3), .second, .val (.int p4), .val (.int p5), .unset, .unset, .unset, .unset, .unset, .unset, .unset, .unset, .unset, .unset, .unset] [] := by first | (simp [entryFrame, mkF, argsToLocals, Value.category, maxLocals]; done) | rfl
def Q0 (Z : State) (p0 : Int32) (q1 : Int64) (p2 : Int32) (q3 : Int64) (p4 : Int32) (p5 : Int32) (oOK : Addr) (oNO_RULE_EXISTS : Addr) (oTOO_MANY_REQUEST : Addr) (oSHOULD_WAIT : Addr) (oFAIL : Addr) (oBLOCKED : Addr) (oBAD_REQUEST : Addr) (oc : Addr) (cc : Cell) (h0 : Heap) (n0 : Nat) (v : Option Value) (h : Heap) (L : List Loc) : Prop := v = some (.int 1) ∧ Fr n0 L
set_option maxRecDepth 65536 in
set_option maxHeartbeats 40000000 in
theorem rm0 (l : Launch) (Z : State) (a0 : Array Value) (hw : ∀ d ∈ tables_1, d.before a0 Z = true) (ws : List Jvm.Cond) (p0 : Int32) (q1 : Int64) (p2 : Int32) (q3 : Int64) (p4 : Int32) (p5 : Int32) (oOK : Addr) (oNO_RULE_EXISTS : Addr) (oTOO_MANY_REQUEST : Addr) (oSHOULD_WAIT : Addr) (oFAIL : Addr) (oBLOCKED : Addr) (oBAD_REQUEST : Addr) (oc : Addr) (cc : Cell) (h0 : Heap) (n0 : Nat) (Z0 : n0 ≤ h0.size) (ST_OK : Sta Z h0 "com/example/aswan/aswan/token/TokenStatus" "OK" "Lcom/example/aswan/aswan/token/TokenStatus;" (.ref oOK)) (EX_oOK : Exa Z h0 oOK "com/example/aswan/aswan/token/TokenStatus") (ST_NO_RULE_EXISTS : Sta Z h0 "com/example/aswan/aswan/token/TokenStatus" "NO_RULE_EXISTS" "Lcom/example/aswan/aswan/token/TokenStatus;" (.ref oNO_RULE_EXISTS)) (EX_oNO_RULE_EXISTS : Exa Z h0 oNO_RULE_EXISTS "com/example/aswan/aswan/token/TokenStatus") (ST_TOO_MANY_REQUEST : Sta Z h0 "com/example/aswan/aswan/token/TokenStatus" "TOO_MANY_REQUEST" "Lcom/example/aswan/aswan/token/TokenStatus;" (.ref oTOO_MANY_REQUEST)) (EX_oTOO_MANY_REQUEST : Exa Z h0 oTOO_MANY_REQUEST "com/example/aswan/aswan/token/TokenStatus") (ST_SHOULD_WAIT : Sta Z h0 "com/example/aswan/aswan/token/TokenStatus" "SHOULD_WAIT" "Lcom/example/aswan/aswan/token/TokenStatus;" (.ref oSHOULD_WAIT)) (EX_oSHOULD_WAIT : Exa Z h0 oSHOULD_WAIT "com/example/aswan/aswan/token/TokenStatus") (ST_FAIL : Sta Z h0 "com/example/aswan/aswan/token/TokenStatus" "FAIL" "Lcom/example/aswan/aswan/token/TokenStatus;" (.ref oFAIL)) (EX_oFAIL : Exa Z h0 oFAIL "com/example/aswan/aswan/token/TokenStatus") (FL_oFAIL_ordinal : Fld Z h0 oFAIL "java/lang/Enum" "ordinal" "I" (.int (5 : Int32))) (FL_oNO_RULE_EXISTS_ordinal : Fld Z h0 oNO_RULE_EXISTS "java/lang/Enum" "ordinal" "I" (.int (3 : Int32))) (FL_oSHOULD_WAIT_ordinal : Fld Z h0 oSHOULD_WAIT "java/lang/Enum" "ordinal" "I" (.int (2 : Int32))) (FL_oOK_ordinal : Fld Z h0 oOK "java/lang/Enum" "ordinal" "I" (.int (0 : Int32))) (ST_BLOCKED : Sta Z h0 "com/example/aswan/aswan/token/TokenStatus" "BLOCKED" "Lcom/example/aswan/aswan/token/TokenStatus;" (.ref oBLOCKED)) (EX_oBLOCKED : Exa Z h0 oBLOCKED "com/example/aswan/aswan/token/TokenStatus") (FL_oBLOCKED_ordinal : Fld Z h0 oBLOCKED "java/lang/Enum" "ordinal" "I" (.int (1 : Int32))) (ST_BAD_REQUEST : Sta Z h0 "com/example/aswan/aswan/token/TokenStatus" "BAD_REQUEST" "Lcom/example/aswan/aswan/token/TokenStatus;" (.ref oBAD_REQUEST)) (EX_oBAD_REQUEST : Exa Z h0 oBAD_REQUEST "com/example/aswan/aswan/token/TokenStatus") (FL_oBAD_REQUEST_ordinal : Fld Z h0 oBAD_REQUEST "java/lang/Enum" "ordinal" "I" (.int (4 : Int32))) (FL_oTOO_MANY_REQUEST_ordinal : Fld Z h0 oTOO_MANY_REQUEST "java/lang/Enum" "ordinal" "I" (.int (6 : Int32))) (Sh : Sta Z h0 "java/lang/Integer$IntegerCache" "high" "I" (.int (127 : Int32))) (Sc : Sta Z h0 "java/lang/Integer$IntegerCache" "cache" "[Ljava/lang/Integer;" (.ref oc)) (AC : Arr Z h0 oc cc (.object "java/lang/Integer")) (hC : ∀ j : Int32, ¬ (j < 0 ∨ cc.slots.size ≤ j.toNatClampNeg) → ∃ ar, cc.slots[j.toNatClampNeg]? = some (.ref ar) ∧ Exa Z h0 ar "java/lang/Integer") (hCs : cc.slots.size = 256) :
    MetFree l x (head1 (Jvm.Cond.code x code maxLocals ret :: ws) room_1) (fun a U => a = #[(.int p0), (.long q1), (.int p2), (.long q3), (.int p4), (.int p5)] ∧ Z.Warmed39 U.vm ∧ U.heap = h0) (fun _ _ _ _ _ => True) (fun _ U o U' => ∃ v L, o = .returned v ∧ Q0 Z p0 q1 p2 q3 p4 p5 oOK oNO_RULE_EXISTS oTOO_MANY_REQUEST oSHOULD_WAIT oFAIL oBLOCKED oBAD_REQUEST oc cc h0 n0 v U'.heap L ∧ ReturnedEndW U o U' L room_1.cells room_1.slots) := by
  refine MetFree.of_bodySF (plainFor_of_name pn_1) hisR ?_
  intro p e s m args below meth c s₁ Bd hml0 hP hK
  obtain ⟨rfl, hZ, hh⟩ := hP
  have hx := Bd.exec
  have hby := Bd.bytes
  have hml : c.maxLocals = 19 := hml0
  have hown : s.vm.findClass "com/example/aswan/aswan/token/TokenResultEqualsPinLaw" = some m.cls := findClass_of_methodNamed Bd.named
  have hnm := (name_of_methodNamed Bd.named Bd.method).1
  have X0 : Stand p l e room_1 (s.setVm s.vm) m #[(.int p0), (.long q1), (.int p2), (.long q3), (.int p4), (.int p5)] below meth c s₁ [] 0 0 := Stand.of_body Bd
  have e0 : s₁.heap = h0 := by rw [← hh, Bd.state]; rfl
  have N0 := Fr.nil n0
  have K0 : ∀ t, Steps p.tables e below (s₁.setTop (mkF m 0 #[.val (.int p0), .val (.long q1), .second, .val (.int p2), .val (.long q3), .second, .val (.int p4), .val (.int p5), .unset, .unset, .unset, .unset, .unset, .unset, .unset, .unset, .unset, .unset, .unset] [])) t → Steps p.tables e below (s₁.setTop (entryFrame m #[(.int p0), (.long q1), (.int p2), (.long q3), (.int p4), (.int p5)] maxLocals)) t := fun t k => castTop (ef_0 m p0 q1 p2 q3 p4 p5) k
  generalize s₁.setTop (entryFrame m #[(.int p0), (.long q1), (.int p2), (.long q3), (.int p4), (.int p5)] maxLocals) = SE at K0 ⊢
  have hS : s.Since s.vm h0.size := State.WarmedH.since (State.WarmedH.refl s) _
  have hk : h0.size ≤ h0.size := Nat.le_refl _
  have K1 : ∀ t, own_S p e below s₁ (mkF m 10 #[.val (.int p0), .val (.long q1), .second, .val (.int p2), .val (.long q3), .second, .val (.int p4), .val (.int p5), .val (.int ((p0 &&& (255 : Int32)) % (7 : Int32))), .unset, .unset, .unset, .unset, .unset, .unset, .unset, .unset, .unset, .unset] []) t → Steps p.tables e below SE t := by
    intro t k
    refine K0 _ ?_
    refine XS.iloadN X0.here hx rfl (hb hby at_0) rfl ?_
    show own_S p e below s₁ (mkF m 1 #[.val (.int p0), .val (.long q1), .second, .val (.int p2), .val (.long q3), .second, .val (.int p4), .val (.int p5), .unset, .unset, .unset, .unset, .unset, .unset, .unset, .unset, .unset, .unset, .unset] [(.int p0)]) _
    refine XS.sipush X0.here hx rfl (hb hby at_1) ?_
    show own_S p e below s₁ (mkF m 4 #[.val (.int p0), .val (.long q1), .second, .val (.int p2), .val (.long q3), .second, .val (.int p4), .val (.int p5), .unset, .unset, .unset, .unset, .unset, .unset, .unset, .unset, .unset, .unset, .unset] [(.int (255 : Int32)), (.int p0)]) _
    refine XS.iand X0.here hx rfl (hb hby at_4) rfl ?_
    show own_S p e below s₁ (mkF m 5 #[.val (.int p0), .val (.long q1), .second, .val (.int p2), .val (.long q3), .second, .val (.int p4), .val (.int p5), .unset, .unset, .unset, .unset, .unset, .unset, .unset, .unset, .unset, .unset, .unset] [(.int (p0 &&& (255 : Int32)))]) _
    refine XS.bipush X0.here hx rfl (hb hby at_5) ?_
    show own_S p e below s₁ (mkF m 7 #[.val (.int p0), .val (.long q1), .second, .val (.int p2), .val (.long q3), .second, .val (.int p4), .val (.int p5), .unset, .unset, .unset, .unset, .unset, .unset, .unset, .unset, .unset, .unset, .unset] [(.int (7 : Int32)), (.int (p0 &&& (255 : Int32)))]) _
    refine iremM X0 hx rfl (hb hby at_7) rfl (by decide) ?_
    show own_S p e below s₁ (mkF m 8 #[.val (.int p0), .val (.long q1), .second, .val (.int p2), .val (.long q3), .second, .val (.int p4), .val (.int p5), .unset, .unset, .unset, .unset, .unset, .unset, .unset, .unset, .unset, .unset, .unset] [(.int ((p0 &&& (255 : Int32)) % (7 : Int32)))]) _
    refine XS.istore X0.here hx rfl (hb hby at_8) rfl (l' := #[.val (.int p0), .val (.long q1), .second, .val (.int p2), .val (.long q3), .second, .val (.int p4), .val (.int p5), .val (.int ((p0 &&& (255 : Int32)) % (7 : Int32))), .unset, .unset, .unset, .unset, .unset, .unset, .unset, .unset, .unset, .unset]) rfl ?_
    exact k
  obtain ⟨ia, hia⟩ : ∃ z : Int32, z = ((p0 &&& (255 : Int32)) % (7 : Int32)) := ⟨_, rfl⟩
  rw [← hia] at K1
  have K2 : ∀ t, own_S p e below s₁ (mkF m 23 #[.val (.int p0), .val (.long q1), .second, .val (.int p2), .val (.long q3), .second, .val (.int p4), .val (.int p5), .val (.int ia), .val (.int ((((p0.toUInt32 >>> ((8 : Int32) &&& 31).toUInt32).toInt32) &&& (255 : Int32)) % (7 : Int32))), .unset, .unset, .unset, .unset, .unset, .unset, .unset, .unset, .unset] []) t → Steps p.tables e below SE t := by
    intro t k
    refine K1 _ ?_
    refine XS.iloadN X0.here hx rfl (hb hby at_10) rfl ?_
    show own_S p e below s₁ (mkF m 11 #[.val (.int p0), .val (.long q1), .second, .val (.int p2), .val (.long q3), .second, .val (.int p4), .val (.int p5), .val (.int ia), .unset, .unset, .unset, .unset, .unset, .unset, .unset, .unset, .unset, .unset] [(.int p0)]) _
    refine XS.bipush X0.here hx rfl (hb hby at_11) ?_
    show own_S p e below s₁ (mkF m 13 #[.val (.int p0), .val (.long q1), .second, .val (.int p2), .val (.long q3), .second, .val (.int p4), .val (.int p5), .val (.int ia), .unset, .unset, .unset, .unset, .unset, .unset, .unset, .unset, .unset, .unset] [(.int (8 : Int32)), (.int p0)]) _
    refine XS.iushr X0.here hx rfl (hb hby at_13) rfl ?_
    show own_S p e below s₁ (mkF m 14 #[.val (.int p0), .val (.long q1), .second, .val (.int p2), .val (.long q3), .second, .val (.int p4), .val (.int p5), .val (.int ia), .unset, .unset, .unset, .unset, .unset, .unset, .unset, .unset, .unset, .unset] [(.int ((p0.toUInt32 >>> ((8 : Int32) &&& 31).toUInt32).toInt32))]) _
    refine XS.sipush X0.here hx rfl (hb hby at_14) ?_
    show own_S p e below s₁ (mkF m 17 #[.val (.int p0), .val (.long q1), .second, .val (.int p2), .val (.long q3), .second, .val (.int p4), .val (.int p5), .val (.int ia), .unset, .unset, .unset, .unset, .unset, .unset, .unset, .unset, .unset, .unset] [(.int (255 : Int32)), (.int ((p0.toUInt32 >>> ((8 : Int32) &&& 31).toUInt32).toInt32))]) _
    refine XS.iand X0.here hx rfl (hb hby at_17) rfl ?_
    show own_S p e below s₁ (mkF m 18 #[.val (.int p0), .val (.long q1), .second, .val (.int p2), .val (.long q3), .second, .val (.int p4), .val (.int p5), .val (.int ia), .unset, .unset, .unset, .unset, .unset, .unset, .unset, .unset, .unset, .unset] [(.int (((p0.toUInt32 >>> ((8 : Int32) &&& 31).toUInt32).toInt32) &&& (255 : Int32)))]) _
    refine XS.bipush X0.here hx rfl (hb hby at_18) ?_
    show own_S p e below s₁ (mkF m 20 #[.val (.int p0), .val (.long q1), .second, .val (.int p2), .val (.long q3), .second, .val (.int p4), .val (.int p5), .val (.int ia), .unset, .unset, .unset, .unset, .unset, .unset, .unset, .unset, .unset, .unset] [(.int (7 : Int32)), (.int (((p0.toUInt32 >>> ((8 : Int32) &&& 31).toUInt32).toInt32) &&& (255 : Int32)))]) _
    refine iremM X0 hx rfl (hb hby at_20) rfl (by decide) ?_
    show own_S p e below s₁ (mkF m 21 #[.val (.int p0), .val (.long q1), .second, .val (.int p2), .val (.long q3), .second, .val (.int p4), .val (.int p5), .val (.int ia), .unset, .unset, .unset, .unset, .unset, .unset, .unset, .unset, .unset, .unset] [(.int ((((p0.toUInt32 >>> ((8 : Int32) &&& 31).toUInt32).toInt32) &&& (255 : Int32)) % (7 : Int32)))]) _
    refine XS.istore X0.here hx rfl (hb hby at_21) rfl (l' := #[.val (.int p0), .val (.long q1), .second, .val (.int p2), .val (.long q3), .second, .val (.int p4), .val (.int p5), .val (.int ia), .val (.int ((((p0.toUInt32 >>> ((8 : Int32) &&& 31).toUInt32).toInt32) &&& (255 : Int32)) % (7 : Int32))), .unset, .unset, .unset, .unset, .unset, .unset, .unset, .unset, .unset]) rfl ?_
    exact k
  obtain ⟨ib, hib⟩ : ∃ z : Int32, z = ((((p0.toUInt32 >>> ((8 : Int32) &&& 31).toUInt32).toInt32) &&& (255 : Int32)) % (7 : Int32)) := ⟨_, rfl⟩
  rw [← hib] at K2
  have hia7 := own_m7 _ ia hia
  have hib7 := own_m7 _ ib hib
  obtain ⟨rb2, hrb2, K4⟩ : ∃ rb2 : Int64, rb2 = (if (p0 &&& (65536 : Int32)) = 0 then q3 else q1) ∧ ∀ t, own_S p e below s₁ (mkF m 36 #[.val (.int p0), .val (.long q1), .second, .val (.int p2), .val (.long q3), .second, .val (.int p4), .val (.int p5), .val (.int ia), .val (.int ib), .unset, .unset, .unset, .unset, .unset, .unset, .unset, .unset, .unset] [(.long rb2)]) t → Steps p.tables e below SE t := by
    have K6 : ∀ t, own_S p e below s₁ (mkF m 27 #[.val (.int p0), .val (.long q1), .second, .val (.int p2), .val (.long q3), .second, .val (.int p4), .val (.int p5), .val (.int ia), .val (.int ib), .unset, .unset, .unset, .unset, .unset, .unset, .unset, .unset, .unset] [(.int (p0 &&& (65536 : Int32)))]) t → Steps p.tables e below SE t := by
      intro t k
      refine K2 _ ?_
      refine XS.iloadN X0.here hx rfl (hb hby at_23) rfl ?_
      show own_S p e below s₁ (mkF m 24 #[.val (.int p0), .val (.long q1), .second, .val (.int p2), .val (.long q3), .second, .val (.int p4), .val (.int p5), .val (.int ia), .val (.int ib), .unset, .unset, .unset, .unset, .unset, .unset, .unset, .unset, .unset] [(.int p0)]) _
      refine Stand.ldcI X0 hx hown (mvT hZ (hw _ (List.mem_of_getElem? (i := 0) rfl))) (v := (65536 : Int32)) (g := (mkF m 24 #[.val (.int p0), .val (.long q1), .second, .val (.int p2), .val (.long q3), .second, .val (.int p4), .val (.int p5), .val (.int ia), .val (.int ib), .unset, .unset, .unset, .unset, .unset, .unset, .unset, .unset, .unset] [(.int p0)])) rfl (hb hby at_24) ?_
      show own_S p e below s₁ (mkF m 26 #[.val (.int p0), .val (.long q1), .second, .val (.int p2), .val (.long q3), .second, .val (.int p4), .val (.int p5), .val (.int ia), .val (.int ib), .unset, .unset, .unset, .unset, .unset, .unset, .unset, .unset, .unset] [(.int (65536 : Int32)), (.int p0)]) _
      refine XS.iand X0.here hx rfl (hb hby at_26) rfl ?_
      exact k
    by_cases c27_5 : (p0 &&& (65536 : Int32)) = 0
    · skip
      have K7 : ∀ t, own_S p e below s₁ (mkF m 36 #[.val (.int p0), .val (.long q1), .second, .val (.int p2), .val (.long q3), .second, .val (.int p4), .val (.int p5), .val (.int ia), .val (.int ib), .unset, .unset, .unset, .unset, .unset, .unset, .unset, .unset, .unset] [(.long q3)]) t → Steps p.tables e below SE t := by
        intro t k
        refine K6 _ ?_
        refine XS.ifYes X0.here hx rfl (pc0 := 27) (pc' := 34) rfl (hb hby at_27) rfl (XT.i0_eq_t c27_5) (by decide) (by decide) ?_
        show own_S p e below s₁ (mkF m 34 #[.val (.int p0), .val (.long q1), .second, .val (.int p2), .val (.long q3), .second, .val (.int p4), .val (.int p5), .val (.int ia), .val (.int ib), .unset, .unset, .unset, .unset, .unset, .unset, .unset, .unset, .unset] []) _
        refine XS.lload X0.here hx rfl (hb hby at_34) rfl ?_
        exact k
      exact ⟨q3, (by simp only [if_pos c27_5]), K7⟩
    · skip
      have K8 : ∀ t, own_S p e below s₁ (mkF m 36 #[.val (.int p0), .val (.long q1), .second, .val (.int p2), .val (.long q3), .second, .val (.int p4), .val (.int p5), .val (.int ia), .val (.int ib), .unset, .unset, .unset, .unset, .unset, .unset, .unset, .unset, .unset] [(.long q1)]) t → Steps p.tables e below SE t := by
        intro t k
        refine K6 _ ?_
        refine XS.ifNo X0.here hx rfl (hb hby at_27) rfl (XT.i0_eq_f c27_5) ?_
        show own_S p e below s₁ (mkF m 30 #[.val (.int p0), .val (.long q1), .second, .val (.int p2), .val (.long q3), .second, .val (.int p4), .val (.int p5), .val (.int ia), .val (.int ib), .unset, .unset, .unset, .unset, .unset, .unset, .unset, .unset, .unset] []) _
        refine XS.lloadN X0.here hx rfl (hb hby at_30) rfl ?_
        show own_S p e below s₁ (mkF m 31 #[.val (.int p0), .val (.long q1), .second, .val (.int p2), .val (.long q3), .second, .val (.int p4), .val (.int p5), .val (.int ia), .val (.int ib), .unset, .unset, .unset, .unset, .unset, .unset, .unset, .unset, .unset] [(.long q1)]) _
        refine XS.goto X0.here hx rfl (pc0 := 31) (pc' := 36) rfl (hb hby at_31) (by decide) (by decide) ?_
        exact k
      exact ⟨q1, (by simp only [if_neg c27_5]), K8⟩
  obtain ⟨wb2, hwb2, K10⟩ : ∃ wb2 : Int32, wb2 = (if (p0 &&& (131072 : Int32)) = 0 then p4 else p2) ∧ ∀ t, own_S p e below s₁ (mkF m 51 #[.val (.int p0), .val (.long q1), .second, .val (.int p2), .val (.long q3), .second, .val (.int p4), .val (.int p5), .val (.int ia), .val (.int ib), .val (.long rb2), .second, .unset, .unset, .unset, .unset, .unset, .unset, .unset] [(.int wb2)]) t → Steps p.tables e below SE t := by
    have K12 : ∀ t, own_S p e below s₁ (mkF m 42 #[.val (.int p0), .val (.long q1), .second, .val (.int p2), .val (.long q3), .second, .val (.int p4), .val (.int p5), .val (.int ia), .val (.int ib), .val (.long rb2), .second, .unset, .unset, .unset, .unset, .unset, .unset, .unset] [(.int (p0 &&& (131072 : Int32)))]) t → Steps p.tables e below SE t := by
      intro t k
      refine K4 _ ?_
      refine XS.lstore X0.here hx rfl (hb hby at_36) rfl (l' := #[.val (.int p0), .val (.long q1), .second, .val (.int p2), .val (.long q3), .second, .val (.int p4), .val (.int p5), .val (.int ia), .val (.int ib), .val (.long rb2), .second, .unset, .unset, .unset, .unset, .unset, .unset, .unset]) rfl ?_
      show own_S p e below s₁ (mkF m 38 #[.val (.int p0), .val (.long q1), .second, .val (.int p2), .val (.long q3), .second, .val (.int p4), .val (.int p5), .val (.int ia), .val (.int ib), .val (.long rb2), .second, .unset, .unset, .unset, .unset, .unset, .unset, .unset] []) _
      refine XS.iloadN X0.here hx rfl (hb hby at_38) rfl ?_
      show own_S p e below s₁ (mkF m 39 #[.val (.int p0), .val (.long q1), .second, .val (.int p2), .val (.long q3), .second, .val (.int p4), .val (.int p5), .val (.int ia), .val (.int ib), .val (.long rb2), .second, .unset, .unset, .unset, .unset, .unset, .unset, .unset] [(.int p0)]) _
      refine Stand.ldcI X0 hx hown (mvT hZ (hw _ (List.mem_of_getElem? (i := 1) rfl))) (v := (131072 : Int32)) (g := (mkF m 39 #[.val (.int p0), .val (.long q1), .second, .val (.int p2), .val (.long q3), .second, .val (.int p4), .val (.int p5), .val (.int ia), .val (.int ib), .val (.long rb2), .second, .unset, .unset, .unset, .unset, .unset, .unset, .unset] [(.int p0)])) rfl (hb hby at_39) ?_
      show own_S p e below s₁ (mkF m 41 #[.val (.int p0), .val (.long q1), .second, .val (.int p2), .val (.long q3), .second, .val (.int p4), .val (.int p5), .val (.int ia), .val (.int ib), .val (.long rb2), .second, .unset, .unset, .unset, .unset, .unset, .unset, .unset] [(.int (131072 : Int32)), (.int p0)]) _
      refine XS.iand X0.here hx rfl (hb hby at_41) rfl ?_
      exact k
    by_cases c42_11 : (p0 &&& (131072 : Int32)) = 0
    · skip
      have K13 : ∀ t, own_S p e below s₁ (mkF m 51 #[.val (.int p0), .val (.long q1), .second, .val (.int p2), .val (.long q3), .second, .val (.int p4), .val (.int p5), .val (.int ia), .val (.int ib), .val (.long rb2), .second, .unset, .unset, .unset, .unset, .unset, .unset, .unset] [(.int p4)]) t → Steps p.tables e below SE t := by
        intro t k
        refine K12 _ ?_
        refine XS.ifYes X0.here hx rfl (pc0 := 42) (pc' := 49) rfl (hb hby at_42) rfl (XT.i0_eq_t c42_11) (by decide) (by decide) ?_
        show own_S p e below s₁ (mkF m 49 #[.val (.int p0), .val (.long q1), .second, .val (.int p2), .val (.long q3), .second, .val (.int p4), .val (.int p5), .val (.int ia), .val (.int ib), .val (.long rb2), .second, .unset, .unset, .unset, .unset, .unset, .unset, .unset] []) _
        refine XS.iload X0.here hx rfl (hb hby at_49) rfl ?_
        exact k
      exact ⟨p4, (by simp only [if_pos c42_11]), K13⟩
    · skip
      have K14 : ∀ t, own_S p e below s₁ (mkF m 51 #[.val (.int p0), .val (.long q1), .second, .val (.int p2), .val (.long q3), .second, .val (.int p4), .val (.int p5), .val (.int ia), .val (.int ib), .val (.long rb2), .second, .unset, .unset, .unset, .unset, .unset, .unset, .unset] [(.int p2)]) t → Steps p.tables e below SE t := by
        intro t k
        refine K12 _ ?_
        refine XS.ifNo X0.here hx rfl (hb hby at_42) rfl (XT.i0_eq_f c42_11) ?_
        show own_S p e below s₁ (mkF m 45 #[.val (.int p0), .val (.long q1), .second, .val (.int p2), .val (.long q3), .second, .val (.int p4), .val (.int p5), .val (.int ia), .val (.int ib), .val (.long rb2), .second, .unset, .unset, .unset, .unset, .unset, .unset, .unset] []) _
        refine XS.iloadN X0.here hx rfl (hb hby at_45) rfl ?_
        show own_S p e below s₁ (mkF m 46 #[.val (.int p0), .val (.long q1), .second, .val (.int p2), .val (.long q3), .second, .val (.int p4), .val (.int p5), .val (.int ia), .val (.int ib), .val (.long rb2), .second, .unset, .unset, .unset, .unset, .unset, .unset, .unset] [(.int p2)]) _
        refine XS.goto X0.here hx rfl (pc0 := 46) (pc' := 51) rfl (hb hby at_46) (by decide) (by decide) ?_
        exact k
      exact ⟨p2, (by simp only [if_neg c42_11]), K14⟩
  have K15 : ∀ t, own_S p e below s₁ (mkF m 53 #[.val (.int p0), .val (.long q1), .second, .val (.int p2), .val (.long q3), .second, .val (.int p4), .val (.int p5), .val (.int ia), .val (.int ib), .val (.long rb2), .second, .val (.int wb2), .unset, .unset, .unset, .unset, .unset, .unset] []) t → Steps p.tables e below SE t := by
    intro t k
    refine K10 _ ?_
    refine XS.istore X0.here hx rfl (hb hby at_51) rfl (l' := #[.val (.int p0), .val (.long q1), .second, .val (.int p2), .val (.long q3), .second, .val (.int p4), .val (.int p5), .val (.int ia), .val (.int ib), .val (.long rb2), .second, .val (.int wb2), .unset, .unset, .unset, .unset, .unset, .unset]) rfl ?_
    exact k
  obtain ⟨T16, h16, X16, e16, E16, A16, D16, -, st16⟩ := newO X0 hx hZ hown (hw _ (List.mem_of_getElem? (i := 2) rfl)) (hw _ (List.mem_of_getElem? (i := 3) rfl)) (hw _ (List.mem_of_getElem? (i := 4) rfl)) e0 (g := (mkF m 53 #[.val (.int p0), .val (.long q1), .second, .val (.int p2), .val (.long q3), .second, .val (.int p4), .val (.int p5), .val (.int ia), .val (.int ib), .val (.long rb2), .second, .val (.int wb2), .unset, .unset, .unset, .unset, .unset, .unset] [])) rfl (hb hby at_53) (by decide) (by decide)
  obtain ⟨b16, g16⟩ : ∃ z, z = h0.size := ⟨_, rfl⟩
  rw [← g16] at A16 D16 st16
  have g_b16 : n0 ≤ b16 := Nat.le_trans Z0 (Nat.le_of_eq g16.symm)
  have sz_b16 : h0.size ≤ b16 := Nat.le_trans (Nat.le_refl _) (Nat.le_of_eq g16.symm)
  have own_ne_oTOO_MANY_REQUEST_b16 : oTOO_MANY_REQUEST ≠ b16 := Nat.ne_of_lt (Nat.lt_of_lt_of_le EX_oTOO_MANY_REQUEST.lt (Nat.le_of_eq g16.symm))
  have own_ne_oNO_RULE_EXISTS_b16 : oNO_RULE_EXISTS ≠ b16 := Nat.ne_of_lt (Nat.lt_of_lt_of_le EX_oNO_RULE_EXISTS.lt (Nat.le_of_eq g16.symm))
  have own_ne_oBAD_REQUEST_b16 : oBAD_REQUEST ≠ b16 := Nat.ne_of_lt (Nat.lt_of_lt_of_le EX_oBAD_REQUEST.lt (Nat.le_of_eq g16.symm))
  have own_ne_oFAIL_b16 : oFAIL ≠ b16 := Nat.ne_of_lt (Nat.lt_of_lt_of_le EX_oFAIL.lt (Nat.le_of_eq g16.symm))
  have own_ne_oSHOULD_WAIT_b16 : oSHOULD_WAIT ≠ b16 := Nat.ne_of_lt (Nat.lt_of_lt_of_le EX_oSHOULD_WAIT.lt (Nat.le_of_eq g16.symm))
  have own_ne_oBLOCKED_b16 : oBLOCKED ≠ b16 := Nat.ne_of_lt (Nat.lt_of_lt_of_le EX_oBLOCKED.lt (Nat.le_of_eq g16.symm))
  have own_ne_oOK_b16 : oOK ≠ b16 := Nat.ne_of_lt (Nat.lt_of_lt_of_le EX_oOK.lt (Nat.le_of_eq g16.symm))
  have Kp16 : Keep h0 h16 [] := Keep.ext (Keep.refl h0 []) E16
  have F_status_b16 : Fld Z h16 b16 "com/example/aswan/aswan/token/TokenResult" "status" "Lcom/example/aswan/aswan/token/TokenStatus;" .null := D16 (Or.inr (hw _ (List.mem_of_getElem? (i := 33) rfl))) (ty := (.object "com/example/aswan/aswan/token/TokenStatus")) (by decide)
  have F_remaining_b16 : Fld Z h16 b16 "com/example/aswan/aswan/token/TokenResult" "remaining" "J" (.long (0 : Int64)) := D16 (Or.inr (hw _ (List.mem_of_getElem? (i := 35) rfl))) (ty := .long) (by decide)
  have F_waitInMs_b16 : Fld Z h16 b16 "com/example/aswan/aswan/token/TokenResult" "waitInMs" "I" (.int (0 : Int32)) := D16 (Or.inr (hw _ (List.mem_of_getElem? (i := 37) rfl))) (ty := .int) (by decide)
  have K16 : ∀ t, own_S p e below T16 (mkF m 56 #[.val (.int p0), .val (.long q1), .second, .val (.int p2), .val (.long q3), .second, .val (.int p4), .val (.int p5), .val (.int ia), .val (.int ib), .val (.long rb2), .second, .val (.int wb2), .unset, .unset, .unset, .unset, .unset, .unset] [(.ref b16)]) t → Steps p.tables e below SE t := fun t k => K15 _ (st16 _ k)
  have K17 : ∀ t, own_S p e below T16 (mkF m 59 #[.val (.int p0), .val (.long q1), .second, .val (.int p2), .val (.long q3), .second, .val (.int p4), .val (.int p5), .val (.int ia), .val (.int ib), .val (.long rb2), .second, .val (.int wb2), .unset, .unset, .unset, .unset, .unset, .unset] [(.int ia), (.ref b16), (.ref b16)]) t → Steps p.tables e below SE t := by
    intro t k
    refine K16 _ ?_
    refine XS.dup X16.here hx rfl (hb hby at_56) rfl rfl ?_
    show own_S p e below T16 (mkF m 57 #[.val (.int p0), .val (.long q1), .second, .val (.int p2), .val (.long q3), .second, .val (.int p4), .val (.int p5), .val (.int ia), .val (.int ib), .val (.long rb2), .second, .val (.int wb2), .unset, .unset, .unset, .unset, .unset, .unset] [(.ref b16), (.ref b16)]) _
    refine XS.iload X16.here hx rfl (hb hby at_57) rfl ?_
    exact k
  obtain ⟨_, _, ⟨T18, L18, k18, n18⟩, -, X18, ⟨Lc18, hQ18, l18, y18, z18⟩, st18⟩ := Jvm.LawKit.callS X16 hx (y := (⟨"com/example/aswan/aswan/token/TokenResultEqualsPinLaw", "st", "(I)Lcom/example/aswan/aswan/token/TokenStatus;"⟩ : MethodName)) hown (mvT hZ (hw _ (List.mem_of_getElem? (i := 5) rfl))) (mvT hZ (hw _ (List.mem_of_getElem? (i := 6) rfl))) (mvT hZ (hw _ (List.mem_of_getElem? (i := 7) rfl))) (mvT hZ (hw _ (List.mem_of_getElem? (i := 8) rfl))) (by decide) (backOf (W := 2) (rm1 l Z a0 hw [] ia oOK oBLOCKED oSHOULD_WAIT oNO_RULE_EXISTS oBAD_REQUEST oFAIL oTOO_MANY_REQUEST h16 n0 (Nat.le_trans Z0 Kp16.1) (ST_OK.ext (own_ext Kp16)) (ST_BLOCKED.ext (own_ext Kp16)) (ST_SHOULD_WAIT.ext (own_ext Kp16)) (ST_NO_RULE_EXISTS.ext (own_ext Kp16)) (ST_BAD_REQUEST.ext (own_ext Kp16)) (ST_FAIL.ext (own_ext Kp16)) (ST_TOO_MANY_REQUEST.ext (own_ext Kp16))) hZ (hw _ (List.mem_of_getElem? (i := 8) rfl)) (hw _ (List.mem_of_getElem? (i := 7) rfl)) (by decide) (by decide)) (g := (mkF m 59 #[.val (.int p0), .val (.long q1), .second, .val (.int p2), .val (.long q3), .second, .val (.int p4), .val (.int p5), .val (.int ia), .val (.int ib), .val (.long rb2), .second, .val (.int wb2), .unset, .unset, .unset, .unset, .unset, .unset] [(.int ia), (.ref b16), (.ref b16)])) rfl (by rw [hml]; rfl) (argsL := [(.int ia)]) (rest := [(.ref b16), (.ref b16)]) (lenOf pd_0_0 rfl) rfl (by show 2 * 0 + _ ≤ _; exact Nat.le_of_eq rfl) (hb hby at_59) (fun _ _ => ⟨rfl, e16, (by decide : 1 + 0 ≤ _), (by decide : 3 + 0 ≤ _)⟩)
  dsimp only [Pt.U, Pt.locs, Pt.cells, Pt.slots] at X18 l18 y18 z18 st18 hQ18
  subst l18 y18 z18
  obtain ⟨rfl, Nq18, e18⟩ := hQ18
  have N18 := Fr.app N0 Nq18
  have K18 : ∀ t, own_S p e below T18 (mkF m 62 #[.val (.int p0), .val (.long q1), .second, .val (.int p2), .val (.long q3), .second, .val (.int p4), .val (.int p5), .val (.int ia), .val (.int ib), .val (.long rb2), .second, .val (.int wb2), .unset, .unset, .unset, .unset, .unset, .unset] [(.ref (own_st oOK oBLOCKED oSHOULD_WAIT oNO_RULE_EXISTS oBAD_REQUEST oFAIL oTOO_MANY_REQUEST ia)), (.ref b16), (.ref b16)]) t → Steps p.tables e below SE t := fun t k => K17 _ (st18 _ k)
  obtain ⟨oa, hoa⟩ : ∃ z : Addr, z = (own_st oOK oBLOCKED oSHOULD_WAIT oNO_RULE_EXISTS oBAD_REQUEST oFAIL oTOO_MANY_REQUEST ia) := ⟨_, rfl⟩
  rw [← hoa] at K18
  have EXoa : Exa Z h0 oa "com/example/aswan/aswan/token/TokenStatus" := by rw [hoa]; exact own_exa oOK oBLOCKED oSHOULD_WAIT oNO_RULE_EXISTS oBAD_REQUEST oFAIL oTOO_MANY_REQUEST ia EX_oOK EX_oBLOCKED EX_oSHOULD_WAIT EX_oNO_RULE_EXISTS EX_oBAD_REQUEST EX_oFAIL EX_oTOO_MANY_REQUEST
  have ORoa : Fld Z h0 oa "java/lang/Enum" "ordinal" "I" (.int ia) := by rw [hoa]; exact own_ord oOK oBLOCKED oSHOULD_WAIT oNO_RULE_EXISTS oBAD_REQUEST oFAIL oTOO_MANY_REQUEST ia hia7 FL_oOK_ordinal FL_oBLOCKED_ordinal FL_oSHOULD_WAIT_ordinal FL_oNO_RULE_EXISTS_ordinal FL_oBAD_REQUEST_ordinal FL_oFAIL_ordinal FL_oTOO_MANY_REQUEST_ordinal
  have K19 : ∀ t, own_S p e below T18 (mkF m 64 #[.val (.int p0), .val (.long q1), .second, .val (.int p2), .val (.long q3), .second, .val (.int p4), .val (.int p5), .val (.int ia), .val (.int ib), .val (.long rb2), .second, .val (.int wb2), .unset, .unset, .unset, .unset, .unset, .unset] [(.int p2), (.long q1), (.ref oa), (.ref b16), (.ref b16)]) t → Steps p.tables e below SE t := by
    intro t k
    refine K18 _ ?_
    refine XS.lloadN X18.here hx rfl (hb hby at_62) rfl ?_
    show own_S p e below T18 (mkF m 63 #[.val (.int p0), .val (.long q1), .second, .val (.int p2), .val (.long q3), .second, .val (.int p4), .val (.int p5), .val (.int ia), .val (.int ib), .val (.long rb2), .second, .val (.int wb2), .unset, .unset, .unset, .unset, .unset, .unset] [(.long q1), (.ref oa), (.ref b16), (.ref b16)]) _
    refine XS.iloadN X18.here hx rfl (hb hby at_63) rfl ?_
    exact k
  obtain ⟨_, _, ⟨T20, L20, k20, n20⟩, -, X20, hSq20, gq20, ⟨Lc20, hQ20, l20, y20, z20⟩, st20⟩ := X18.specialBackS hx (y := (⟨"com/example/aswan/aswan/token/TokenResult", "<init>", "(Lcom/example/aswan/aswan/token/TokenStatus;JI)V"⟩ : MethodName)) rfl hown (mvT hZ (hw _ (List.mem_of_getElem? (i := 12) rfl))) (mvT hZ (hw _ (List.mem_of_getElem? (i := 13) rfl))) (mvT hZ (hw _ (List.mem_of_getElem? (i := 14) rfl))) (by decide) (backOfS (W := 1) (rm2 l Z a0 hw [] b16 oa q1 p2 h16 n0 (Nat.le_trans Z0 Kp16.1) A16 F_status_b16 F_remaining_b16 F_waitInMs_b16 g_b16 (EXoa.ext (own_ext Kp16))) hZ (hw _ (List.mem_of_getElem? (i := 14) rfl)) (hw _ (List.mem_of_getElem? (i := 4) rfl)) (by decide) (by decide)) (g := (mkF m 64 #[.val (.int p0), .val (.long q1), .second, .val (.int p2), .val (.long q3), .second, .val (.int p4), .val (.int p5), .val (.int ia), .val (.int ib), .val (.long rb2), .second, .val (.int wb2), .unset, .unset, .unset, .unset, .unset, .unset] [(.int p2), (.long q1), (.ref oa), (.ref b16), (.ref b16)])) rfl (by rw [hml]; rfl) (Steps.refl _) (a := b16) (argsL := [(.ref oa), (.long q1), (.int p2)]) (rest := [(.ref b16)]) (lenOf pd_0_1 rfl) rfl (by show 2 * 0 + _ ≤ _; exact Nat.le_of_eq rfl) (hb hby at_64) (fun _ _ => ⟨rfl, e18, (by decide : 1 + 2 ≤ _), (by decide : 3 + 28 ≤ _)⟩)
  dsimp only [Pt.U, Pt.locs, Pt.cells, Pt.slots] at X20 l20 y20 z20 st20 hQ20 hSq20 gq20
  subst l20 y20 z20
  obtain ⟨X20, hS, hZ, hown⟩ := rebS hS (by rw [e18]; exact (Nat.le_trans hk E16.1)) X20 hSq20 gq20 hZ hown
  obtain ⟨rfl, Nq20, Kq20, Ex20, Fa20, Fb20, Fc20⟩ := hQ20
  have N20 := Fr.app N18 Nq20
  have Kp20 : Keep h0 T20.heap [] := Keep.trans Kp16 Kq20 (allS (Or.inr sz_b16) all0)
  have K20 : ∀ t, own_S p e below T20 (mkF m 67 #[.val (.int p0), .val (.long q1), .second, .val (.int p2), .val (.long q3), .second, .val (.int p4), .val (.int p5), .val (.int ia), .val (.int ib), .val (.long rb2), .second, .val (.int wb2), .unset, .unset, .unset, .unset, .unset, .unset] [(.ref b16)]) t → Steps p.tables e below SE t := fun t k => K19 _ (st20.trans k)
  have K21 : ∀ t, own_S p e below T20 (mkF m 75 #[.val (.int p0), .val (.long q1), .second, .val (.int p2), .val (.long q3), .second, .val (.int p4), .val (.int p5), .val (.int ia), .val (.int ib), .val (.long rb2), .second, .val (.int wb2), .val (.ref b16), .val (.int (p5 &&& (3 : Int32))), .unset, .unset, .unset, .unset] []) t → Steps p.tables e below SE t := by
    intro t k
    refine K20 _ ?_
    refine XS.astore X20.here hx rfl (hb hby at_67) rfl rfl (l' := #[.val (.int p0), .val (.long q1), .second, .val (.int p2), .val (.long q3), .second, .val (.int p4), .val (.int p5), .val (.int ia), .val (.int ib), .val (.long rb2), .second, .val (.int wb2), .val (.ref b16), .unset, .unset, .unset, .unset, .unset]) rfl ?_
    show own_S p e below T20 (mkF m 69 #[.val (.int p0), .val (.long q1), .second, .val (.int p2), .val (.long q3), .second, .val (.int p4), .val (.int p5), .val (.int ia), .val (.int ib), .val (.long rb2), .second, .val (.int wb2), .val (.ref b16), .unset, .unset, .unset, .unset, .unset] []) _
    refine XS.iload X20.here hx rfl (hb hby at_69) rfl ?_
    show own_S p e below T20 (mkF m 71 #[.val (.int p0), .val (.long q1), .second, .val (.int p2), .val (.long q3), .second, .val (.int p4), .val (.int p5), .val (.int ia), .val (.int ib), .val (.long rb2), .second, .val (.int wb2), .val (.ref b16), .unset, .unset, .unset, .unset, .unset] [(.int p5)]) _
    refine XS.iconst X20.here hx rfl (hb hby at_71) ?_
    show own_S p e below T20 (mkF m 72 #[.val (.int p0), .val (.long q1), .second, .val (.int p2), .val (.long q3), .second, .val (.int p4), .val (.int p5), .val (.int ia), .val (.int ib), .val (.long rb2), .second, .val (.int wb2), .val (.ref b16), .unset, .unset, .unset, .unset, .unset] [(.int (3 : Int32)), (.int p5)]) _
    refine XS.iand X20.here hx rfl (hb hby at_72) rfl ?_
    show own_S p e below T20 (mkF m 73 #[.val (.int p0), .val (.long q1), .second, .val (.int p2), .val (.long q3), .second, .val (.int p4), .val (.int p5), .val (.int ia), .val (.int ib), .val (.long rb2), .second, .val (.int wb2), .val (.ref b16), .unset, .unset, .unset, .unset, .unset] [(.int (p5 &&& (3 : Int32)))]) _
    refine XS.istore X20.here hx rfl (hb hby at_73) rfl (l' := #[.val (.int p0), .val (.long q1), .second, .val (.int p2), .val (.long q3), .second, .val (.int p4), .val (.int p5), .val (.int ia), .val (.int ib), .val (.long rb2), .second, .val (.int wb2), .val (.ref b16), .val (.int (p5 &&& (3 : Int32))), .unset, .unset, .unset, .unset]) rfl ?_
    exact k
  obtain ⟨kd, hkd⟩ : ∃ z : Int32, z = (p5 &&& (3 : Int32)) := ⟨_, rfl⟩
  rw [← hkd] at K21
  have K22 : ∀ t, own_S p e below T20 (mkF m 77 #[.val (.int p0), .val (.long q1), .second, .val (.int p2), .val (.long q3), .second, .val (.int p4), .val (.int p5), .val (.int ia), .val (.int ib), .val (.long rb2), .second, .val (.int wb2), .val (.ref b16), .val (.int kd), .unset, .unset, .unset, .unset] [(.int kd)]) t → Steps p.tables e below SE t := by
    intro t k
    refine K21 _ ?_
    refine XS.iload X20.here hx rfl (hb hby at_75) rfl ?_
    exact k
  by_cases k0 : kd = 0
  · skip
    have K23 : ∀ t, own_S p e below T20 (mkF m 80 #[.val (.int p0), .val (.long q1), .second, .val (.int p2), .val (.long q3), .second, .val (.int p4), .val (.int p5), .val (.int ia), .val (.int ib), .val (.long rb2), .second, .val (.int wb2), .val (.ref b16), .val (.int kd), .unset, .unset, .unset, .unset] []) t → Steps p.tables e below SE t := by
      intro t k
      refine K22 _ ?_
      refine XS.ifNo X20.here hx rfl (hb hby at_77) rfl (XT.i0_ne_f k0) ?_
      exact k
    obtain ⟨T24, h24, X24, e24, E24, A24, D24, -, st24⟩ := newO X20 hx hZ hown (hw _ (List.mem_of_getElem? (i := 2) rfl)) (hw _ (List.mem_of_getElem? (i := 3) rfl)) (hw _ (List.mem_of_getElem? (i := 4) rfl)) rfl (g := (mkF m 80 #[.val (.int p0), .val (.long q1), .second, .val (.int p2), .val (.long q3), .second, .val (.int p4), .val (.int p5), .val (.int ia), .val (.int ib), .val (.long rb2), .second, .val (.int wb2), .val (.ref b16), .val (.int kd), .unset, .unset, .unset, .unset] [])) rfl (hb hby at_80) (by decide) (by decide)
    obtain ⟨b24, g24⟩ : ∃ z, z = T20.heap.size := ⟨_, rfl⟩
    rw [← g24] at A24 D24 st24
    have g_b24 : n0 ≤ b24 := Nat.le_trans (Nat.le_trans Z0 Kp20.1) (Nat.le_of_eq g24.symm)
    have sz_b24 : h0.size ≤ b24 := Nat.le_trans Kp20.1 (Nat.le_of_eq g24.symm)
    have own_ne_b16_b24 : b16 ≠ b24 := Nat.ne_of_lt (Nat.lt_of_lt_of_le Ex20.lt (Nat.le_of_eq g24.symm))
    have own_ne_oTOO_MANY_REQUEST_b24 : oTOO_MANY_REQUEST ≠ b24 := Nat.ne_of_lt (Nat.lt_of_lt_of_le (EX_oTOO_MANY_REQUEST.ext (own_ext Kp20)).lt (Nat.le_of_eq g24.symm))
    have own_ne_oNO_RULE_EXISTS_b24 : oNO_RULE_EXISTS ≠ b24 := Nat.ne_of_lt (Nat.lt_of_lt_of_le (EX_oNO_RULE_EXISTS.ext (own_ext Kp20)).lt (Nat.le_of_eq g24.symm))
    have own_ne_oBAD_REQUEST_b24 : oBAD_REQUEST ≠ b24 := Nat.ne_of_lt (Nat.lt_of_lt_of_le (EX_oBAD_REQUEST.ext (own_ext Kp20)).lt (Nat.le_of_eq g24.symm))
    have own_ne_oFAIL_b24 : oFAIL ≠ b24 := Nat.ne_of_lt (Nat.lt_of_lt_of_le (EX_oFAIL.ext (own_ext Kp20)).lt (Nat.le_of_eq g24.symm))
    have own_ne_oSHOULD_WAIT_b24 : oSHOULD_WAIT ≠ b24 := Nat.ne_of_lt (Nat.lt_of_lt_of_le (EX_oSHOULD_WAIT.ext (own_ext Kp20)).lt (Nat.le_of_eq g24.symm))
    have own_ne_oBLOCKED_b24 : oBLOCKED ≠ b24 := Nat.ne_of_lt (Nat.lt_of_lt_of_le (EX_oBLOCKED.ext (own_ext Kp20)).lt (Nat.le_of_eq g24.symm))
    have own_ne_oa_b24 : oa ≠ b24 := Nat.ne_of_lt (Nat.lt_of_lt_of_le (EXoa.ext (own_ext Kp20)).lt (Nat.le_of_eq g24.symm))
    have own_ne_oOK_b24 : oOK ≠ b24 := Nat.ne_of_lt (Nat.lt_of_lt_of_le (EX_oOK.ext (own_ext Kp20)).lt (Nat.le_of_eq g24.symm))
    have Kp24 : Keep h0 h24 [] := Keep.ext Kp20 E24
    have F_status_b24 : Fld Z h24 b24 "com/example/aswan/aswan/token/TokenResult" "status" "Lcom/example/aswan/aswan/token/TokenStatus;" .null := D24 (Or.inr (hw _ (List.mem_of_getElem? (i := 33) rfl))) (ty := (.object "com/example/aswan/aswan/token/TokenStatus")) (by decide)
    have F_remaining_b24 : Fld Z h24 b24 "com/example/aswan/aswan/token/TokenResult" "remaining" "J" (.long (0 : Int64)) := D24 (Or.inr (hw _ (List.mem_of_getElem? (i := 35) rfl))) (ty := .long) (by decide)
    have F_waitInMs_b24 : Fld Z h24 b24 "com/example/aswan/aswan/token/TokenResult" "waitInMs" "I" (.int (0 : Int32)) := D24 (Or.inr (hw _ (List.mem_of_getElem? (i := 37) rfl))) (ty := .int) (by decide)
    have K24 : ∀ t, own_S p e below T24 (mkF m 83 #[.val (.int p0), .val (.long q1), .second, .val (.int p2), .val (.long q3), .second, .val (.int p4), .val (.int p5), .val (.int ia), .val (.int ib), .val (.long rb2), .second, .val (.int wb2), .val (.ref b16), .val (.int kd), .unset, .unset, .unset, .unset] [(.ref b24)]) t → Steps p.tables e below SE t := fun t k => K23 _ (st24 _ k)
    have K25 : ∀ t, own_S p e below T24 (mkF m 86 #[.val (.int p0), .val (.long q1), .second, .val (.int p2), .val (.long q3), .second, .val (.int p4), .val (.int p5), .val (.int ia), .val (.int ib), .val (.long rb2), .second, .val (.int wb2), .val (.ref b16), .val (.int kd), .unset, .unset, .unset, .unset] [(.int ib), (.ref b24), (.ref b24)]) t → Steps p.tables e below SE t := by
      intro t k
      refine K24 _ ?_
      refine XS.dup X24.here hx rfl (hb hby at_83) rfl rfl ?_
      show own_S p e below T24 (mkF m 84 #[.val (.int p0), .val (.long q1), .second, .val (.int p2), .val (.long q3), .second, .val (.int p4), .val (.int p5), .val (.int ia), .val (.int ib), .val (.long rb2), .second, .val (.int wb2), .val (.ref b16), .val (.int kd), .unset, .unset, .unset, .unset] [(.ref b24), (.ref b24)]) _
      refine XS.iload X24.here hx rfl (hb hby at_84) rfl ?_
      exact k
    obtain ⟨_, _, ⟨T26, L26, k26, n26⟩, -, X26, ⟨Lc26, hQ26, l26, y26, z26⟩, st26⟩ := Jvm.LawKit.callS X24 hx (y := (⟨"com/example/aswan/aswan/token/TokenResultEqualsPinLaw", "st", "(I)Lcom/example/aswan/aswan/token/TokenStatus;"⟩ : MethodName)) hown (mvT hZ (hw _ (List.mem_of_getElem? (i := 5) rfl))) (mvT hZ (hw _ (List.mem_of_getElem? (i := 6) rfl))) (mvT hZ (hw _ (List.mem_of_getElem? (i := 7) rfl))) (mvT hZ (hw _ (List.mem_of_getElem? (i := 8) rfl))) (by decide) (backOf (W := 2) (rm1 l Z a0 hw [] ib oOK oBLOCKED oSHOULD_WAIT oNO_RULE_EXISTS oBAD_REQUEST oFAIL oTOO_MANY_REQUEST h24 n0 (Nat.le_trans Z0 Kp24.1) (ST_OK.ext (own_ext Kp24)) (ST_BLOCKED.ext (own_ext Kp24)) (ST_SHOULD_WAIT.ext (own_ext Kp24)) (ST_NO_RULE_EXISTS.ext (own_ext Kp24)) (ST_BAD_REQUEST.ext (own_ext Kp24)) (ST_FAIL.ext (own_ext Kp24)) (ST_TOO_MANY_REQUEST.ext (own_ext Kp24))) hZ (hw _ (List.mem_of_getElem? (i := 8) rfl)) (hw _ (List.mem_of_getElem? (i := 7) rfl)) (by decide) (by decide)) (g := (mkF m 86 #[.val (.int p0), .val (.long q1), .second, .val (.int p2), .val (.long q3), .second, .val (.int p4), .val (.int p5), .val (.int ia), .val (.int ib), .val (.long rb2), .second, .val (.int wb2), .val (.ref b16), .val (.int kd), .unset, .unset, .unset, .unset] [(.int ib), (.ref b24), (.ref b24)])) rfl (by rw [hml]; rfl) (argsL := [(.int ib)]) (rest := [(.ref b24), (.ref b24)]) (lenOf pd_0_0 rfl) rfl (by show 2 * 0 + _ ≤ _; exact Nat.le_of_eq rfl) (hb hby at_86) (fun _ _ => ⟨rfl, e24, (by decide : 4 + 0 ≤ _), (by decide : 34 + 0 ≤ _)⟩)
    dsimp only [Pt.U, Pt.locs, Pt.cells, Pt.slots] at X26 l26 y26 z26 st26 hQ26
    subst l26 y26 z26
    obtain ⟨rfl, Nq26, e26⟩ := hQ26
    have N26 := Fr.app N20 Nq26
    have K26 : ∀ t, own_S p e below T26 (mkF m 89 #[.val (.int p0), .val (.long q1), .second, .val (.int p2), .val (.long q3), .second, .val (.int p4), .val (.int p5), .val (.int ia), .val (.int ib), .val (.long rb2), .second, .val (.int wb2), .val (.ref b16), .val (.int kd), .unset, .unset, .unset, .unset] [(.ref (own_st oOK oBLOCKED oSHOULD_WAIT oNO_RULE_EXISTS oBAD_REQUEST oFAIL oTOO_MANY_REQUEST ib)), (.ref b24), (.ref b24)]) t → Steps p.tables e below SE t := fun t k => K25 _ (st26 _ k)
    obtain ⟨ob, hob⟩ : ∃ z : Addr, z = (own_st oOK oBLOCKED oSHOULD_WAIT oNO_RULE_EXISTS oBAD_REQUEST oFAIL oTOO_MANY_REQUEST ib) := ⟨_, rfl⟩
    rw [← hob] at K26
    have EXob : Exa Z h0 ob "com/example/aswan/aswan/token/TokenStatus" := by rw [hob]; exact own_exa oOK oBLOCKED oSHOULD_WAIT oNO_RULE_EXISTS oBAD_REQUEST oFAIL oTOO_MANY_REQUEST ib EX_oOK EX_oBLOCKED EX_oSHOULD_WAIT EX_oNO_RULE_EXISTS EX_oBAD_REQUEST EX_oFAIL EX_oTOO_MANY_REQUEST
    have ORob : Fld Z h0 ob "java/lang/Enum" "ordinal" "I" (.int ib) := by rw [hob]; exact own_ord oOK oBLOCKED oSHOULD_WAIT oNO_RULE_EXISTS oBAD_REQUEST oFAIL oTOO_MANY_REQUEST ib hib7 FL_oOK_ordinal FL_oBLOCKED_ordinal FL_oSHOULD_WAIT_ordinal FL_oNO_RULE_EXISTS_ordinal FL_oBAD_REQUEST_ordinal FL_oFAIL_ordinal FL_oTOO_MANY_REQUEST_ordinal
    have K27 : ∀ t, own_S p e below T26 (mkF m 93 #[.val (.int p0), .val (.long q1), .second, .val (.int p2), .val (.long q3), .second, .val (.int p4), .val (.int p5), .val (.int ia), .val (.int ib), .val (.long rb2), .second, .val (.int wb2), .val (.ref b16), .val (.int kd), .unset, .unset, .unset, .unset] [(.int wb2), (.long rb2), (.ref ob), (.ref b24), (.ref b24)]) t → Steps p.tables e below SE t := by
      intro t k
      refine K26 _ ?_
      refine XS.lload X26.here hx rfl (hb hby at_89) rfl ?_
      show own_S p e below T26 (mkF m 91 #[.val (.int p0), .val (.long q1), .second, .val (.int p2), .val (.long q3), .second, .val (.int p4), .val (.int p5), .val (.int ia), .val (.int ib), .val (.long rb2), .second, .val (.int wb2), .val (.ref b16), .val (.int kd), .unset, .unset, .unset, .unset] [(.long rb2), (.ref ob), (.ref b24), (.ref b24)]) _
      refine XS.iload X26.here hx rfl (hb hby at_91) rfl ?_
      exact k
    obtain ⟨_, _, ⟨T28, L28, k28, n28⟩, -, X28, hSq28, gq28, ⟨Lc28, hQ28, l28, y28, z28⟩, st28⟩ := X26.specialBackS hx (y := (⟨"com/example/aswan/aswan/token/TokenResult", "<init>", "(Lcom/example/aswan/aswan/token/TokenStatus;JI)V"⟩ : MethodName)) rfl hown (mvT hZ (hw _ (List.mem_of_getElem? (i := 12) rfl))) (mvT hZ (hw _ (List.mem_of_getElem? (i := 13) rfl))) (mvT hZ (hw _ (List.mem_of_getElem? (i := 14) rfl))) (by decide) (backOfS (W := 1) (rm2 l Z a0 hw [] b24 ob rb2 wb2 h24 n0 (Nat.le_trans Z0 Kp24.1) A24 F_status_b24 F_remaining_b24 F_waitInMs_b24 g_b24 (EXob.ext (own_ext Kp24))) hZ (hw _ (List.mem_of_getElem? (i := 14) rfl)) (hw _ (List.mem_of_getElem? (i := 4) rfl)) (by decide) (by decide)) (g := (mkF m 93 #[.val (.int p0), .val (.long q1), .second, .val (.int p2), .val (.long q3), .second, .val (.int p4), .val (.int p5), .val (.int ia), .val (.int ib), .val (.long rb2), .second, .val (.int wb2), .val (.ref b16), .val (.int kd), .unset, .unset, .unset, .unset] [(.int wb2), (.long rb2), (.ref ob), (.ref b24), (.ref b24)])) rfl (by rw [hml]; rfl) (Steps.refl _) (a := b24) (argsL := [(.ref ob), (.long rb2), (.int wb2)]) (rest := [(.ref b24)]) (lenOf pd_0_1 rfl) rfl (by show 2 * 0 + _ ≤ _; exact Nat.le_of_eq rfl) (hb hby at_93) (fun _ _ => ⟨rfl, e26, (by decide : 4 + 2 ≤ _), (by decide : 34 + 28 ≤ _)⟩)
    dsimp only [Pt.U, Pt.locs, Pt.cells, Pt.slots] at X28 l28 y28 z28 st28 hQ28 hSq28 gq28
    subst l28 y28 z28
    obtain ⟨X28, hS, hZ, hown⟩ := rebS hS (by rw [e26]; exact (Nat.le_trans (Nat.le_refl _) E24.1)) X28 hSq28 gq28 hZ hown
    obtain ⟨rfl, Nq28, Kq28, Ex28, Fa28, Fb28, Fc28⟩ := hQ28
    have N28 := Fr.app N26 Nq28
    have Kp28 : Keep h0 T28.heap [] := Keep.trans Kp24 Kq28 (allS (Or.inr sz_b24) all0)
    have K28 : ∀ t, own_S p e below T28 (mkF m 96 #[.val (.int p0), .val (.long q1), .second, .val (.int p2), .val (.long q3), .second, .val (.int p4), .val (.int p5), .val (.int ia), .val (.int ib), .val (.long rb2), .second, .val (.int wb2), .val (.ref b16), .val (.int kd), .unset, .unset, .unset, .unset] [(.ref b24)]) t → Steps p.tables e below SE t := fun t k => K27 _ (st28.trans k)
    have K30 : ∀ t, own_S p e below T28 (mkF m 98 #[.val (.int p0), .val (.long q1), .second, .val (.int p2), .val (.long q3), .second, .val (.int p4), .val (.int p5), .val (.int ia), .val (.int ib), .val (.long rb2), .second, .val (.int wb2), .val (.ref b16), .val (.int kd), .val (.ref b24), .unset, .unset, .unset] []) t → Steps p.tables e below SE t := by
      intro t k
      refine K28 _ ?_
      refine XS.astore X28.here hx rfl (hb hby at_96) rfl rfl (l' := #[.val (.int p0), .val (.long q1), .second, .val (.int p2), .val (.long q3), .second, .val (.int p4), .val (.int p5), .val (.int ia), .val (.int ib), .val (.long rb2), .second, .val (.int wb2), .val (.ref b16), .val (.int kd), .val (.ref b24), .unset, .unset, .unset]) rfl ?_
      exact k
    obtain ⟨ex, hex, K31⟩ : ∃ ex : Int32, ex = (if ia = ib then (if q1 = rb2 then (if p2 = wb2 then (1 : Int32) else (0 : Int32)) else (0 : Int32)) else (0 : Int32)) ∧ ∀ t, own_S p e below T28 (mkF m 123 #[.val (.int p0), .val (.long q1), .second, .val (.int p2), .val (.long q3), .second, .val (.int p4), .val (.int p5), .val (.int ia), .val (.int ib), .val (.long rb2), .second, .val (.int wb2), .val (.ref b16), .val (.int kd), .val (.ref b24), .unset, .unset, .unset] [(.int ex)]) t → Steps p.tables e below SE t := by
      have K33 : ∀ t, own_S p e below T28 (mkF m 102 #[.val (.int p0), .val (.long q1), .second, .val (.int p2), .val (.long q3), .second, .val (.int p4), .val (.int p5), .val (.int ia), .val (.int ib), .val (.long rb2), .second, .val (.int wb2), .val (.ref b16), .val (.int kd), .val (.ref b24), .unset, .unset, .unset] [(.int ib), (.int ia)]) t → Steps p.tables e below SE t := by
        intro t k
        refine K30 _ ?_
        refine XS.iload X28.here hx rfl (hb hby at_98) rfl ?_
        show own_S p e below T28 (mkF m 100 #[.val (.int p0), .val (.long q1), .second, .val (.int p2), .val (.long q3), .second, .val (.int p4), .val (.int p5), .val (.int ia), .val (.int ib), .val (.long rb2), .second, .val (.int wb2), .val (.ref b16), .val (.int kd), .val (.ref b24), .unset, .unset, .unset] [(.int ia)]) _
        refine XS.iload X28.here hx rfl (hb hby at_100) rfl ?_
        exact k
      by_cases c102_32 : ia = ib
      · skip
        have K35 : ∀ t, own_S p e below T28 (mkF m 109 #[.val (.int p0), .val (.long q1), .second, .val (.int p2), .val (.long q3), .second, .val (.int p4), .val (.int p5), .val (.int ia), .val (.int ib), .val (.long rb2), .second, .val (.int wb2), .val (.ref b16), .val (.int kd), .val (.ref b24), .unset, .unset, .unset] [(.int (XT.cmpL q1 rb2))]) t → Steps p.tables e below SE t := by
          intro t k
          refine K33 _ ?_
          refine XS.icmpNo X28.here hx rfl (hb hby at_102) rfl (XT.ii_ne_f c102_32) ?_
          show own_S p e below T28 (mkF m 105 #[.val (.int p0), .val (.long q1), .second, .val (.int p2), .val (.long q3), .second, .val (.int p4), .val (.int p5), .val (.int ia), .val (.int ib), .val (.long rb2), .second, .val (.int wb2), .val (.ref b16), .val (.int kd), .val (.ref b24), .unset, .unset, .unset] []) _
          refine XS.lloadN X28.here hx rfl (hb hby at_105) rfl ?_
          show own_S p e below T28 (mkF m 106 #[.val (.int p0), .val (.long q1), .second, .val (.int p2), .val (.long q3), .second, .val (.int p4), .val (.int p5), .val (.int ia), .val (.int ib), .val (.long rb2), .second, .val (.int wb2), .val (.ref b16), .val (.int kd), .val (.ref b24), .unset, .unset, .unset] [(.long q1)]) _
          refine XS.lload X28.here hx rfl (hb hby at_106) rfl ?_
          show own_S p e below T28 (mkF m 108 #[.val (.int p0), .val (.long q1), .second, .val (.int p2), .val (.long q3), .second, .val (.int p4), .val (.int p5), .val (.int ia), .val (.int ib), .val (.long rb2), .second, .val (.int wb2), .val (.ref b16), .val (.int kd), .val (.ref b24), .unset, .unset, .unset] [(.long rb2), (.long q1)]) _
          refine XT.lcmp X28.here hx rfl (hb hby at_108) rfl ?_
          exact k
        by_cases c109_34 : q1 = rb2
        · skip
          have K37 : ∀ t, own_S p e below T28 (mkF m 115 #[.val (.int p0), .val (.long q1), .second, .val (.int p2), .val (.long q3), .second, .val (.int p4), .val (.int p5), .val (.int ia), .val (.int ib), .val (.long rb2), .second, .val (.int wb2), .val (.ref b16), .val (.int kd), .val (.ref b24), .unset, .unset, .unset] [(.int wb2), (.int p2)]) t → Steps p.tables e below SE t := by
            intro t k
            refine K35 _ ?_
            refine XS.ifNo X28.here hx rfl (hb hby at_109) rfl (XT.ll_ne_f c109_34) ?_
            show own_S p e below T28 (mkF m 112 #[.val (.int p0), .val (.long q1), .second, .val (.int p2), .val (.long q3), .second, .val (.int p4), .val (.int p5), .val (.int ia), .val (.int ib), .val (.long rb2), .second, .val (.int wb2), .val (.ref b16), .val (.int kd), .val (.ref b24), .unset, .unset, .unset] []) _
            refine XS.iloadN X28.here hx rfl (hb hby at_112) rfl ?_
            show own_S p e below T28 (mkF m 113 #[.val (.int p0), .val (.long q1), .second, .val (.int p2), .val (.long q3), .second, .val (.int p4), .val (.int p5), .val (.int ia), .val (.int ib), .val (.long rb2), .second, .val (.int wb2), .val (.ref b16), .val (.int kd), .val (.ref b24), .unset, .unset, .unset] [(.int p2)]) _
            refine XS.iload X28.here hx rfl (hb hby at_113) rfl ?_
            exact k
          by_cases c115_36 : p2 = wb2
          · skip
            have K38 : ∀ t, own_S p e below T28 (mkF m 123 #[.val (.int p0), .val (.long q1), .second, .val (.int p2), .val (.long q3), .second, .val (.int p4), .val (.int p5), .val (.int ia), .val (.int ib), .val (.long rb2), .second, .val (.int wb2), .val (.ref b16), .val (.int kd), .val (.ref b24), .unset, .unset, .unset] [(.int (1 : Int32))]) t → Steps p.tables e below SE t := by
              intro t k
              refine K37 _ ?_
              refine XS.icmpNo X28.here hx rfl (hb hby at_115) rfl (XT.ii_ne_f c115_36) ?_
              show own_S p e below T28 (mkF m 118 #[.val (.int p0), .val (.long q1), .second, .val (.int p2), .val (.long q3), .second, .val (.int p4), .val (.int p5), .val (.int ia), .val (.int ib), .val (.long rb2), .second, .val (.int wb2), .val (.ref b16), .val (.int kd), .val (.ref b24), .unset, .unset, .unset] []) _
              refine XS.iconst X28.here hx rfl (hb hby at_118) ?_
              show own_S p e below T28 (mkF m 119 #[.val (.int p0), .val (.long q1), .second, .val (.int p2), .val (.long q3), .second, .val (.int p4), .val (.int p5), .val (.int ia), .val (.int ib), .val (.long rb2), .second, .val (.int wb2), .val (.ref b16), .val (.int kd), .val (.ref b24), .unset, .unset, .unset] [(.int (1 : Int32))]) _
              refine XS.goto X28.here hx rfl (pc0 := 119) (pc' := 123) rfl (hb hby at_119) (by decide) (by decide) ?_
              exact k
            exact ⟨(1 : Int32), (by simp only [if_pos c102_32, if_pos c109_34, if_pos c115_36]), K38⟩
          · skip
            have K39 : ∀ t, own_S p e below T28 (mkF m 123 #[.val (.int p0), .val (.long q1), .second, .val (.int p2), .val (.long q3), .second, .val (.int p4), .val (.int p5), .val (.int ia), .val (.int ib), .val (.long rb2), .second, .val (.int wb2), .val (.ref b16), .val (.int kd), .val (.ref b24), .unset, .unset, .unset] [(.int (0 : Int32))]) t → Steps p.tables e below SE t := by
              intro t k
              refine K37 _ ?_
              refine XS.icmpYes X28.here hx rfl (pc0 := 115) (pc' := 122) rfl (hb hby at_115) rfl (XT.ii_ne_t c115_36) (by decide) (by decide) ?_
              show own_S p e below T28 (mkF m 122 #[.val (.int p0), .val (.long q1), .second, .val (.int p2), .val (.long q3), .second, .val (.int p4), .val (.int p5), .val (.int ia), .val (.int ib), .val (.long rb2), .second, .val (.int wb2), .val (.ref b16), .val (.int kd), .val (.ref b24), .unset, .unset, .unset] []) _
              refine XS.iconst X28.here hx rfl (hb hby at_122) ?_
              exact k
            exact ⟨(0 : Int32), (by simp only [if_pos c102_32, if_pos c109_34, if_neg c115_36]), K39⟩
        · skip
          have K40 : ∀ t, own_S p e below T28 (mkF m 123 #[.val (.int p0), .val (.long q1), .second, .val (.int p2), .val (.long q3), .second, .val (.int p4), .val (.int p5), .val (.int ia), .val (.int ib), .val (.long rb2), .second, .val (.int wb2), .val (.ref b16), .val (.int kd), .val (.ref b24), .unset, .unset, .unset] [(.int (0 : Int32))]) t → Steps p.tables e below SE t := by
            intro t k
            refine K35 _ ?_
            refine XS.ifYes X28.here hx rfl (pc0 := 109) (pc' := 122) rfl (hb hby at_109) rfl (XT.ll_ne_t c109_34) (by decide) (by decide) ?_
            show own_S p e below T28 (mkF m 122 #[.val (.int p0), .val (.long q1), .second, .val (.int p2), .val (.long q3), .second, .val (.int p4), .val (.int p5), .val (.int ia), .val (.int ib), .val (.long rb2), .second, .val (.int wb2), .val (.ref b16), .val (.int kd), .val (.ref b24), .unset, .unset, .unset] []) _
            refine XS.iconst X28.here hx rfl (hb hby at_122) ?_
            exact k
          exact ⟨(0 : Int32), (by simp only [if_pos c102_32, if_neg c109_34]), K40⟩
      · skip
        have K41 : ∀ t, own_S p e below T28 (mkF m 123 #[.val (.int p0), .val (.long q1), .second, .val (.int p2), .val (.long q3), .second, .val (.int p4), .val (.int p5), .val (.int ia), .val (.int ib), .val (.long rb2), .second, .val (.int wb2), .val (.ref b16), .val (.int kd), .val (.ref b24), .unset, .unset, .unset] [(.int (0 : Int32))]) t → Steps p.tables e below SE t := by
          intro t k
          refine K33 _ ?_
          refine XS.icmpYes X28.here hx rfl (pc0 := 102) (pc' := 122) rfl (hb hby at_102) rfl (XT.ii_ne_t c102_32) (by decide) (by decide) ?_
          show own_S p e below T28 (mkF m 122 #[.val (.int p0), .val (.long q1), .second, .val (.int p2), .val (.long q3), .second, .val (.int p4), .val (.int p5), .val (.int ia), .val (.int ib), .val (.long rb2), .second, .val (.int wb2), .val (.ref b16), .val (.int kd), .val (.ref b24), .unset, .unset, .unset] []) _
          refine XS.iconst X28.here hx rfl (hb hby at_122) ?_
          exact k
        exact ⟨(0 : Int32), (by simp only [if_neg c102_32]), K41⟩
    have hab : oa = ob ↔ ia = ib := by
      constructor
      · intro q
        by_cases w : ia = ib
        · exact w
        · exact absurd q (Fld.ne ORoa ORob (fun z => w (Value.int.inj z)))
      · intro q
        rw [hoa, hob, q]
    have hf1 : (if oa = ob then (if q1 = rb2 then (if p2 = wb2 then (1 : Int32) else (0 : Int32)) else (0 : Int32)) else (0 : Int32)) = ex := by rw [hex]; simp only [hab]
    have hf2 : (if ob = oa then (if rb2 = q1 then (if wb2 = p2 then (1 : Int32) else (0 : Int32)) else (0 : Int32)) else (0 : Int32)) = ex := by
      rw [hex]
      by_cases w1 : ia = ib <;> by_cases w2 : q1 = rb2 <;> by_cases w3 : p2 = wb2 <;> simp [hab, eq_comm (a := ob), eq_comm (a := rb2), eq_comm (a := wb2), w1, w2, w3]
    have K42 : ∀ t, own_S p e below T28 (mkF m 129 #[.val (.int p0), .val (.long q1), .second, .val (.int p2), .val (.long q3), .second, .val (.int p4), .val (.int p5), .val (.int ia), .val (.int ib), .val (.long rb2), .second, .val (.int wb2), .val (.ref b16), .val (.int kd), .val (.ref b24), .val (.int ex), .unset, .unset] [(.ref b24), (.ref b16)]) t → Steps p.tables e below SE t := by
      intro t k
      refine K31 _ ?_
      refine XS.istore X28.here hx rfl (hb hby at_123) rfl (l' := #[.val (.int p0), .val (.long q1), .second, .val (.int p2), .val (.long q3), .second, .val (.int p4), .val (.int p5), .val (.int ia), .val (.int ib), .val (.long rb2), .second, .val (.int wb2), .val (.ref b16), .val (.int kd), .val (.ref b24), .val (.int ex), .unset, .unset]) rfl ?_
      show own_S p e below T28 (mkF m 125 #[.val (.int p0), .val (.long q1), .second, .val (.int p2), .val (.long q3), .second, .val (.int p4), .val (.int p5), .val (.int ia), .val (.int ib), .val (.long rb2), .second, .val (.int wb2), .val (.ref b16), .val (.int kd), .val (.ref b24), .val (.int ex), .unset, .unset] []) _
      refine XS.aload X28.here hx rfl (hb hby at_125) rfl rfl ?_
      show own_S p e below T28 (mkF m 127 #[.val (.int p0), .val (.long q1), .second, .val (.int p2), .val (.long q3), .second, .val (.int p4), .val (.int p5), .val (.int ia), .val (.int ib), .val (.long rb2), .second, .val (.int wb2), .val (.ref b16), .val (.int kd), .val (.ref b24), .val (.int ex), .unset, .unset] [(.ref b16)]) _
      refine XS.aload X28.here hx rfl (hb hby at_127) rfl rfl ?_
      exact k
    obtain ⟨cq43, kq43, q43a, q43b, q43c⟩ := isOf hZ rfl ((Ex20.ext E24).keep Kq28)
    obtain ⟨_, _, ⟨T43, L43, k43, n43⟩, -, X43, ⟨Lc43, hQ43, l43, y43, z43⟩, st43⟩ := X28.virtualBack hx (y := (⟨"com/example/aswan/aswan/token/TokenResult", "equals", "(Ljava/lang/Object;)Z"⟩ : MethodName)) (z := (⟨"com/example/aswan/aswan/token/TokenResult", "equals", "(Ljava/lang/Object;)Z"⟩ : MethodName)) hown (mvT hZ (hw _ (List.mem_of_getElem? (i := 38) rfl))) (mvT hZ (hw _ (List.mem_of_getElem? (i := 39) rfl))) (notFace_of_selects (args := #[]) (mvT hZ (hw _ (List.mem_of_getElem? (i := 41) rfl)))) (mvT hZ (hw _ (List.mem_of_getElem? (i := 41) rfl))) (mvT hZ (hw _ (List.mem_of_getElem? (i := 40) rfl))) (by decide) (backOf (W := 0) (rm5 l Z a0 hw [] b16 b24 oa q1 p2 ob rb2 wb2 T28.heap n0 (Nat.le_trans Z0 Kp28.1) Ex28 ((Fa20.ext E24).keep Kq28 (ninS (own_ne_b16_b24) nin0)) ((Fb20.ext E24).keep Kq28 (ninS (own_ne_b16_b24) nin0)) ((Fc20.ext E24).keep Kq28 (ninS (own_ne_b16_b24) nin0)) Fa28 Fb28 Fc28) hZ (hw _ (List.mem_of_getElem? (i := 42) rfl)) (hw _ (List.mem_of_getElem? (i := 4) rfl)) (by decide) (by decide)) q43a q43c (g := (mkF m 129 #[.val (.int p0), .val (.long q1), .second, .val (.int p2), .val (.long q3), .second, .val (.int p4), .val (.int p5), .val (.int ia), .val (.int ib), .val (.long rb2), .second, .val (.int wb2), .val (.ref b16), .val (.int kd), .val (.ref b24), .val (.int ex), .unset, .unset] [(.ref b24), (.ref b16)])) rfl (by rw [hml]; rfl) (Steps.refl _) (argsL := [(.ref b24)]) (rest := []) (lenOf pd_0_2 rfl) rfl (by show 2 * 0 + _ ≤ _; exact Nat.le_of_eq rfl) (hb hby at_129) (fun _ _ => ⟨rfl, rfl, (by decide : 6 + 0 ≤ _), (by decide : 62 + 0 ≤ _)⟩)
    dsimp only [Pt.U, Pt.locs, Pt.cells, Pt.slots] at X43 l43 y43 z43 st43 hQ43
    subst l43 y43 z43
    obtain ⟨rfl, Nq43, e43⟩ := hQ43
    have N43 := Fr.app N28 Nq43
    have K43 : ∀ t, own_S p e below T43 (mkF m 132 #[.val (.int p0), .val (.long q1), .second, .val (.int p2), .val (.long q3), .second, .val (.int p4), .val (.int p5), .val (.int ia), .val (.int ib), .val (.long rb2), .second, .val (.int wb2), .val (.ref b16), .val (.int kd), .val (.ref b24), .val (.int ex), .unset, .unset] [(.int (if oa = ob then (if q1 = rb2 then (if p2 = wb2 then (1 : Int32) else (0 : Int32)) else (0 : Int32)) else (0 : Int32)))]) t → Steps p.tables e below SE t := fun t k => K42 _ (st43.trans k)
    have K44 : ∀ t, own_S p e below T43 (mkF m 138 #[.val (.int p0), .val (.long q1), .second, .val (.int p2), .val (.long q3), .second, .val (.int p4), .val (.int p5), .val (.int ia), .val (.int ib), .val (.long rb2), .second, .val (.int wb2), .val (.ref b16), .val (.int kd), .val (.ref b24), .val (.int ex), .val (.int (if oa = ob then (if q1 = rb2 then (if p2 = wb2 then (1 : Int32) else (0 : Int32)) else (0 : Int32)) else (0 : Int32))), .unset] [(.ref b16), (.ref b24)]) t → Steps p.tables e below SE t := by
      intro t k
      refine K43 _ ?_
      refine XS.istore X43.here hx rfl (hb hby at_132) rfl (l' := #[.val (.int p0), .val (.long q1), .second, .val (.int p2), .val (.long q3), .second, .val (.int p4), .val (.int p5), .val (.int ia), .val (.int ib), .val (.long rb2), .second, .val (.int wb2), .val (.ref b16), .val (.int kd), .val (.ref b24), .val (.int ex), .val (.int (if oa = ob then (if q1 = rb2 then (if p2 = wb2 then (1 : Int32) else (0 : Int32)) else (0 : Int32)) else (0 : Int32))), .unset]) rfl ?_
      show own_S p e below T43 (mkF m 134 #[.val (.int p0), .val (.long q1), .second, .val (.int p2), .val (.long q3), .second, .val (.int p4), .val (.int p5), .val (.int ia), .val (.int ib), .val (.long rb2), .second, .val (.int wb2), .val (.ref b16), .val (.int kd), .val (.ref b24), .val (.int ex), .val (.int (if oa = ob then (if q1 = rb2 then (if p2 = wb2 then (1 : Int32) else (0 : Int32)) else (0 : Int32)) else (0 : Int32))), .unset] []) _
      refine XS.aload X43.here hx rfl (hb hby at_134) rfl rfl ?_
      show own_S p e below T43 (mkF m 136 #[.val (.int p0), .val (.long q1), .second, .val (.int p2), .val (.long q3), .second, .val (.int p4), .val (.int p5), .val (.int ia), .val (.int ib), .val (.long rb2), .second, .val (.int wb2), .val (.ref b16), .val (.int kd), .val (.ref b24), .val (.int ex), .val (.int (if oa = ob then (if q1 = rb2 then (if p2 = wb2 then (1 : Int32) else (0 : Int32)) else (0 : Int32)) else (0 : Int32))), .unset] [(.ref b24)]) _
      refine XS.aload X43.here hx rfl (hb hby at_136) rfl rfl ?_
      exact k
    obtain ⟨cq45, kq45, q45a, q45b, q45c⟩ := isOf hZ e43 Ex28
    obtain ⟨_, _, ⟨T45, L45, k45, n45⟩, -, X45, ⟨Lc45, hQ45, l45, y45, z45⟩, st45⟩ := X43.virtualBack hx (y := (⟨"com/example/aswan/aswan/token/TokenResult", "equals", "(Ljava/lang/Object;)Z"⟩ : MethodName)) (z := (⟨"com/example/aswan/aswan/token/TokenResult", "equals", "(Ljava/lang/Object;)Z"⟩ : MethodName)) hown (mvT hZ (hw _ (List.mem_of_getElem? (i := 38) rfl))) (mvT hZ (hw _ (List.mem_of_getElem? (i := 39) rfl))) (notFace_of_selects (args := #[]) (mvT hZ (hw _ (List.mem_of_getElem? (i := 41) rfl)))) (mvT hZ (hw _ (List.mem_of_getElem? (i := 41) rfl))) (mvT hZ (hw _ (List.mem_of_getElem? (i := 40) rfl))) (by decide) (backOf (W := 0) (rm5 l Z a0 hw [] b24 b16 ob rb2 wb2 oa q1 p2 T28.heap n0 (Nat.le_trans Z0 Kp28.1) ((Ex20.ext E24).keep Kq28) Fa28 Fb28 Fc28 ((Fa20.ext E24).keep Kq28 (ninS (own_ne_b16_b24) nin0)) ((Fb20.ext E24).keep Kq28 (ninS (own_ne_b16_b24) nin0)) ((Fc20.ext E24).keep Kq28 (ninS (own_ne_b16_b24) nin0))) hZ (hw _ (List.mem_of_getElem? (i := 42) rfl)) (hw _ (List.mem_of_getElem? (i := 4) rfl)) (by decide) (by decide)) q45a q45c (g := (mkF m 138 #[.val (.int p0), .val (.long q1), .second, .val (.int p2), .val (.long q3), .second, .val (.int p4), .val (.int p5), .val (.int ia), .val (.int ib), .val (.long rb2), .second, .val (.int wb2), .val (.ref b16), .val (.int kd), .val (.ref b24), .val (.int ex), .val (.int (if oa = ob then (if q1 = rb2 then (if p2 = wb2 then (1 : Int32) else (0 : Int32)) else (0 : Int32)) else (0 : Int32))), .unset] [(.ref b16), (.ref b24)])) rfl (by rw [hml]; rfl) (Steps.refl _) (argsL := [(.ref b16)]) (rest := []) (lenOf pd_0_2 rfl) rfl (by show 2 * 0 + _ ≤ _; exact Nat.le_of_eq rfl) (hb hby at_138) (fun _ _ => ⟨rfl, e43, (by decide : 6 + 0 ≤ _), (by decide : 62 + 0 ≤ _)⟩)
    dsimp only [Pt.U, Pt.locs, Pt.cells, Pt.slots] at X45 l45 y45 z45 st45 hQ45
    subst l45 y45 z45
    obtain ⟨rfl, Nq45, e45⟩ := hQ45
    have N45 := Fr.app N43 Nq45
    have K45 : ∀ t, own_S p e below T45 (mkF m 141 #[.val (.int p0), .val (.long q1), .second, .val (.int p2), .val (.long q3), .second, .val (.int p4), .val (.int p5), .val (.int ia), .val (.int ib), .val (.long rb2), .second, .val (.int wb2), .val (.ref b16), .val (.int kd), .val (.ref b24), .val (.int ex), .val (.int (if oa = ob then (if q1 = rb2 then (if p2 = wb2 then (1 : Int32) else (0 : Int32)) else (0 : Int32)) else (0 : Int32))), .unset] [(.int (if ob = oa then (if rb2 = q1 then (if wb2 = p2 then (1 : Int32) else (0 : Int32)) else (0 : Int32)) else (0 : Int32)))]) t → Steps p.tables e below SE t := fun t k => K44 _ (st45.trans k)
    have K46 : ∀ t, own_S p e below T45 (mkF m 162 #[.val (.int p0), .val (.long q1), .second, .val (.int p2), .val (.long q3), .second, .val (.int p4), .val (.int p5), .val (.int ia), .val (.int ib), .val (.long rb2), .second, .val (.int wb2), .val (.ref b16), .val (.int kd), .val (.ref b24), .val (.int ex), .val (.int (if oa = ob then (if q1 = rb2 then (if p2 = wb2 then (1 : Int32) else (0 : Int32)) else (0 : Int32)) else (0 : Int32))), .val (.int (if ob = oa then (if rb2 = q1 then (if wb2 = p2 then (1 : Int32) else (0 : Int32)) else (0 : Int32)) else (0 : Int32)))] [(.int (1 : Int32))]) t → Steps p.tables e below SE t := by
      intro t k
      refine K45 _ ?_
      refine XS.istore X45.here hx rfl (hb hby at_141) rfl (l' := #[.val (.int p0), .val (.long q1), .second, .val (.int p2), .val (.long q3), .second, .val (.int p4), .val (.int p5), .val (.int ia), .val (.int ib), .val (.long rb2), .second, .val (.int wb2), .val (.ref b16), .val (.int kd), .val (.ref b24), .val (.int ex), .val (.int (if oa = ob then (if q1 = rb2 then (if p2 = wb2 then (1 : Int32) else (0 : Int32)) else (0 : Int32)) else (0 : Int32))), .val (.int (if ob = oa then (if rb2 = q1 then (if wb2 = p2 then (1 : Int32) else (0 : Int32)) else (0 : Int32)) else (0 : Int32)))]) rfl ?_
      show own_S p e below T45 (mkF m 143 #[.val (.int p0), .val (.long q1), .second, .val (.int p2), .val (.long q3), .second, .val (.int p4), .val (.int p5), .val (.int ia), .val (.int ib), .val (.long rb2), .second, .val (.int wb2), .val (.ref b16), .val (.int kd), .val (.ref b24), .val (.int ex), .val (.int (if oa = ob then (if q1 = rb2 then (if p2 = wb2 then (1 : Int32) else (0 : Int32)) else (0 : Int32)) else (0 : Int32))), .val (.int (if ob = oa then (if rb2 = q1 then (if wb2 = p2 then (1 : Int32) else (0 : Int32)) else (0 : Int32)) else (0 : Int32)))] []) _
      refine XS.iload X45.here hx rfl (hb hby at_143) rfl ?_
      show own_S p e below T45 (mkF m 145 #[.val (.int p0), .val (.long q1), .second, .val (.int p2), .val (.long q3), .second, .val (.int p4), .val (.int p5), .val (.int ia), .val (.int ib), .val (.long rb2), .second, .val (.int wb2), .val (.ref b16), .val (.int kd), .val (.ref b24), .val (.int ex), .val (.int (if oa = ob then (if q1 = rb2 then (if p2 = wb2 then (1 : Int32) else (0 : Int32)) else (0 : Int32)) else (0 : Int32))), .val (.int (if ob = oa then (if rb2 = q1 then (if wb2 = p2 then (1 : Int32) else (0 : Int32)) else (0 : Int32)) else (0 : Int32)))] [(.int (if oa = ob then (if q1 = rb2 then (if p2 = wb2 then (1 : Int32) else (0 : Int32)) else (0 : Int32)) else (0 : Int32)))]) _
      refine XS.iload X45.here hx rfl (hb hby at_145) rfl ?_
      show own_S p e below T45 (mkF m 147 #[.val (.int p0), .val (.long q1), .second, .val (.int p2), .val (.long q3), .second, .val (.int p4), .val (.int p5), .val (.int ia), .val (.int ib), .val (.long rb2), .second, .val (.int wb2), .val (.ref b16), .val (.int kd), .val (.ref b24), .val (.int ex), .val (.int (if oa = ob then (if q1 = rb2 then (if p2 = wb2 then (1 : Int32) else (0 : Int32)) else (0 : Int32)) else (0 : Int32))), .val (.int (if ob = oa then (if rb2 = q1 then (if wb2 = p2 then (1 : Int32) else (0 : Int32)) else (0 : Int32)) else (0 : Int32)))] [(.int ex), (.int (if oa = ob then (if q1 = rb2 then (if p2 = wb2 then (1 : Int32) else (0 : Int32)) else (0 : Int32)) else (0 : Int32)))]) _
      refine XS.icmpNo X45.here hx rfl (hb hby at_147) rfl (XT.ii_ne_f hf1) ?_
      show own_S p e below T45 (mkF m 150 #[.val (.int p0), .val (.long q1), .second, .val (.int p2), .val (.long q3), .second, .val (.int p4), .val (.int p5), .val (.int ia), .val (.int ib), .val (.long rb2), .second, .val (.int wb2), .val (.ref b16), .val (.int kd), .val (.ref b24), .val (.int ex), .val (.int (if oa = ob then (if q1 = rb2 then (if p2 = wb2 then (1 : Int32) else (0 : Int32)) else (0 : Int32)) else (0 : Int32))), .val (.int (if ob = oa then (if rb2 = q1 then (if wb2 = p2 then (1 : Int32) else (0 : Int32)) else (0 : Int32)) else (0 : Int32)))] []) _
      refine XS.iload X45.here hx rfl (hb hby at_150) rfl ?_
      show own_S p e below T45 (mkF m 152 #[.val (.int p0), .val (.long q1), .second, .val (.int p2), .val (.long q3), .second, .val (.int p4), .val (.int p5), .val (.int ia), .val (.int ib), .val (.long rb2), .second, .val (.int wb2), .val (.ref b16), .val (.int kd), .val (.ref b24), .val (.int ex), .val (.int (if oa = ob then (if q1 = rb2 then (if p2 = wb2 then (1 : Int32) else (0 : Int32)) else (0 : Int32)) else (0 : Int32))), .val (.int (if ob = oa then (if rb2 = q1 then (if wb2 = p2 then (1 : Int32) else (0 : Int32)) else (0 : Int32)) else (0 : Int32)))] [(.int (if ob = oa then (if rb2 = q1 then (if wb2 = p2 then (1 : Int32) else (0 : Int32)) else (0 : Int32)) else (0 : Int32)))]) _
      refine XS.iload X45.here hx rfl (hb hby at_152) rfl ?_
      show own_S p e below T45 (mkF m 154 #[.val (.int p0), .val (.long q1), .second, .val (.int p2), .val (.long q3), .second, .val (.int p4), .val (.int p5), .val (.int ia), .val (.int ib), .val (.long rb2), .second, .val (.int wb2), .val (.ref b16), .val (.int kd), .val (.ref b24), .val (.int ex), .val (.int (if oa = ob then (if q1 = rb2 then (if p2 = wb2 then (1 : Int32) else (0 : Int32)) else (0 : Int32)) else (0 : Int32))), .val (.int (if ob = oa then (if rb2 = q1 then (if wb2 = p2 then (1 : Int32) else (0 : Int32)) else (0 : Int32)) else (0 : Int32)))] [(.int ex), (.int (if ob = oa then (if rb2 = q1 then (if wb2 = p2 then (1 : Int32) else (0 : Int32)) else (0 : Int32)) else (0 : Int32)))]) _
      refine XS.icmpNo X45.here hx rfl (hb hby at_154) rfl (XT.ii_ne_f hf2) ?_
      show own_S p e below T45 (mkF m 157 #[.val (.int p0), .val (.long q1), .second, .val (.int p2), .val (.long q3), .second, .val (.int p4), .val (.int p5), .val (.int ia), .val (.int ib), .val (.long rb2), .second, .val (.int wb2), .val (.ref b16), .val (.int kd), .val (.ref b24), .val (.int ex), .val (.int (if oa = ob then (if q1 = rb2 then (if p2 = wb2 then (1 : Int32) else (0 : Int32)) else (0 : Int32)) else (0 : Int32))), .val (.int (if ob = oa then (if rb2 = q1 then (if wb2 = p2 then (1 : Int32) else (0 : Int32)) else (0 : Int32)) else (0 : Int32)))] []) _
      refine XS.iconst X45.here hx rfl (hb hby at_157) ?_
      show own_S p e below T45 (mkF m 158 #[.val (.int p0), .val (.long q1), .second, .val (.int p2), .val (.long q3), .second, .val (.int p4), .val (.int p5), .val (.int ia), .val (.int ib), .val (.long rb2), .second, .val (.int wb2), .val (.ref b16), .val (.int kd), .val (.ref b24), .val (.int ex), .val (.int (if oa = ob then (if q1 = rb2 then (if p2 = wb2 then (1 : Int32) else (0 : Int32)) else (0 : Int32)) else (0 : Int32))), .val (.int (if ob = oa then (if rb2 = q1 then (if wb2 = p2 then (1 : Int32) else (0 : Int32)) else (0 : Int32)) else (0 : Int32)))] [(.int (1 : Int32))]) _
      refine XS.goto X45.here hx rfl (pc0 := 158) (pc' := 162) rfl (hb hby at_158) (by decide) (by decide) ?_
      exact k
    obtain ⟨fs, hr, hrun, hended, hRW⟩ := X45.leaveW hS (by rw [e45]; exact (Nat.le_refl _)) (v := some (.int (1 : Int32))) (fun h => by rw [Bd.returns] at h; cases h)
    refine ⟨_, _, K46 _ ?_, hrun, hended, _, _, rfl, ?_, hRW.1, hRW.2.1, hRW.2.2.1, hRW.2.2.2.mono (by decide) (by decide)⟩
    · exact retN X45 hx (t := .boolean) Bd.returns (by simp) (hb hby at_162) hr
    · show Q0 Z p0 q1 p2 q3 p4 p5 oOK oNO_RULE_EXISTS oTOO_MANY_REQUEST oSHOULD_WAIT oFAIL oBLOCKED oBAD_REQUEST oc cc h0 n0 _ T45.heap _
      rw [e45]
      exact ⟨rfl, N45⟩
  · skip
    have K47 : ∀ t, own_S p e below T20 (mkF m 166 #[.val (.int p0), .val (.long q1), .second, .val (.int p2), .val (.long q3), .second, .val (.int p4), .val (.int p5), .val (.int ia), .val (.int ib), .val (.long rb2), .second, .val (.int wb2), .val (.ref b16), .val (.int kd), .unset, .unset, .unset, .unset] [(.int (1 : Int32)), (.int kd)]) t → Steps p.tables e below SE t := by
      intro t k
      refine K22 _ ?_
      refine XS.ifYes X20.here hx rfl (pc0 := 77) (pc' := 163) rfl (hb hby at_77) rfl (XT.i0_ne_t k0) (by decide) (by decide) ?_
      show own_S p e below T20 (mkF m 163 #[.val (.int p0), .val (.long q1), .second, .val (.int p2), .val (.long q3), .second, .val (.int p4), .val (.int p5), .val (.int ia), .val (.int ib), .val (.long rb2), .second, .val (.int wb2), .val (.ref b16), .val (.int kd), .unset, .unset, .unset, .unset] []) _
      refine XS.iload X20.here hx rfl (hb hby at_163) rfl ?_
      show own_S p e below T20 (mkF m 165 #[.val (.int p0), .val (.long q1), .second, .val (.int p2), .val (.long q3), .second, .val (.int p4), .val (.int p5), .val (.int ia), .val (.int ib), .val (.long rb2), .second, .val (.int wb2), .val (.ref b16), .val (.int kd), .unset, .unset, .unset, .unset] [(.int kd)]) _
      refine XS.iconst X20.here hx rfl (hb hby at_165) ?_
      exact k
    by_cases k1 : kd = (1 : Int32)
    · skip
      have K48 : ∀ t, own_S p e below T20 (mkF m 172 #[.val (.int p0), .val (.long q1), .second, .val (.int p2), .val (.long q3), .second, .val (.int p4), .val (.int p5), .val (.int ia), .val (.int ib), .val (.long rb2), .second, .val (.int wb2), .val (.ref b16), .val (.int kd), .unset, .unset, .unset, .unset] [.null, (.ref b16)]) t → Steps p.tables e below SE t := by
        intro t k
        refine K47 _ ?_
        refine XS.icmpNo X20.here hx rfl (hb hby at_166) rfl (XT.ii_ne_f k1) ?_
        show own_S p e below T20 (mkF m 169 #[.val (.int p0), .val (.long q1), .second, .val (.int p2), .val (.long q3), .second, .val (.int p4), .val (.int p5), .val (.int ia), .val (.int ib), .val (.long rb2), .second, .val (.int wb2), .val (.ref b16), .val (.int kd), .unset, .unset, .unset, .unset] []) _
        refine XS.aload X20.here hx rfl (hb hby at_169) rfl rfl ?_
        show own_S p e below T20 (mkF m 171 #[.val (.int p0), .val (.long q1), .second, .val (.int p2), .val (.long q3), .second, .val (.int p4), .val (.int p5), .val (.int ia), .val (.int ib), .val (.long rb2), .second, .val (.int wb2), .val (.ref b16), .val (.int kd), .unset, .unset, .unset, .unset] [(.ref b16)]) _
        refine XS.aconstNull X20.here hx rfl (hb hby at_171) ?_
        exact k
      obtain ⟨cq49, kq49, q49a, q49b, q49c⟩ := isOf hZ rfl Ex20
      obtain ⟨_, _, ⟨T49, L49, k49, n49⟩, -, X49, ⟨Lc49, hQ49, l49, y49, z49⟩, st49⟩ := X20.virtualBack hx (y := (⟨"com/example/aswan/aswan/token/TokenResult", "equals", "(Ljava/lang/Object;)Z"⟩ : MethodName)) (z := (⟨"com/example/aswan/aswan/token/TokenResult", "equals", "(Ljava/lang/Object;)Z"⟩ : MethodName)) hown (mvT hZ (hw _ (List.mem_of_getElem? (i := 38) rfl))) (mvT hZ (hw _ (List.mem_of_getElem? (i := 39) rfl))) (notFace_of_selects (args := #[]) (mvT hZ (hw _ (List.mem_of_getElem? (i := 41) rfl)))) (mvT hZ (hw _ (List.mem_of_getElem? (i := 41) rfl))) (mvT hZ (hw _ (List.mem_of_getElem? (i := 40) rfl))) (by decide) (backOf (W := 0) (rm5n l Z a0 hw [] b16 T20.heap n0 (Nat.le_trans Z0 Kp20.1)) hZ (hw _ (List.mem_of_getElem? (i := 42) rfl)) (hw _ (List.mem_of_getElem? (i := 4) rfl)) (by decide) (by decide)) q49a q49c (g := (mkF m 172 #[.val (.int p0), .val (.long q1), .second, .val (.int p2), .val (.long q3), .second, .val (.int p4), .val (.int p5), .val (.int ia), .val (.int ib), .val (.long rb2), .second, .val (.int wb2), .val (.ref b16), .val (.int kd), .unset, .unset, .unset, .unset] [.null, (.ref b16)])) rfl (by rw [hml]; rfl) (Steps.refl _) (argsL := [.null]) (rest := []) (lenOf pd_0_2 rfl) rfl (by show 2 * 0 + _ ≤ _; exact Nat.le_of_eq rfl) (hb hby at_172) (fun _ _ => ⟨rfl, rfl, (by decide : 3 + 0 ≤ _), (by decide : 31 + 0 ≤ _)⟩)
      dsimp only [Pt.U, Pt.locs, Pt.cells, Pt.slots] at X49 l49 y49 z49 st49 hQ49
      subst l49 y49 z49
      obtain ⟨rfl, Nq49, e49⟩ := hQ49
      have N49 := Fr.app N20 Nq49
      have K49 : ∀ t, own_S p e below T49 (mkF m 175 #[.val (.int p0), .val (.long q1), .second, .val (.int p2), .val (.long q3), .second, .val (.int p4), .val (.int p5), .val (.int ia), .val (.int ib), .val (.long rb2), .second, .val (.int wb2), .val (.ref b16), .val (.int kd), .unset, .unset, .unset, .unset] [(.int (0 : Int32))]) t → Steps p.tables e below SE t := fun t k => K48 _ (st49.trans k)
      have K50 : ∀ t, own_S p e below T49 (mkF m 183 #[.val (.int p0), .val (.long q1), .second, .val (.int p2), .val (.long q3), .second, .val (.int p4), .val (.int p5), .val (.int ia), .val (.int ib), .val (.long rb2), .second, .val (.int wb2), .val (.ref b16), .val (.int kd), .unset, .unset, .unset, .unset] [(.int (1 : Int32))]) t → Steps p.tables e below SE t := by
        intro t k
        refine K49 _ ?_
        refine XS.ifNo X49.here hx rfl (hb hby at_175) rfl (XT.i0_ne_f (by decide : (0 : Int32) = 0)) ?_
        show own_S p e below T49 (mkF m 178 #[.val (.int p0), .val (.long q1), .second, .val (.int p2), .val (.long q3), .second, .val (.int p4), .val (.int p5), .val (.int ia), .val (.int ib), .val (.long rb2), .second, .val (.int wb2), .val (.ref b16), .val (.int kd), .unset, .unset, .unset, .unset] []) _
        refine XS.iconst X49.here hx rfl (hb hby at_178) ?_
        show own_S p e below T49 (mkF m 179 #[.val (.int p0), .val (.long q1), .second, .val (.int p2), .val (.long q3), .second, .val (.int p4), .val (.int p5), .val (.int ia), .val (.int ib), .val (.long rb2), .second, .val (.int wb2), .val (.ref b16), .val (.int kd), .unset, .unset, .unset, .unset] [(.int (1 : Int32))]) _
        refine XS.goto X49.here hx rfl (pc0 := 179) (pc' := 183) rfl (hb hby at_179) (by decide) (by decide) ?_
        exact k
      obtain ⟨fs, hr, hrun, hended, hRW⟩ := X49.leaveW hS (by rw [e49]; exact (Nat.le_refl _)) (v := some (.int (1 : Int32))) (fun h => by rw [Bd.returns] at h; cases h)
      refine ⟨_, _, K50 _ ?_, hrun, hended, _, _, rfl, ?_, hRW.1, hRW.2.1, hRW.2.2.1, hRW.2.2.2.mono (by decide) (by decide)⟩
      · exact retN X49 hx (t := .boolean) Bd.returns (by simp) (hb hby at_183) hr
      · show Q0 Z p0 q1 p2 q3 p4 p5 oOK oNO_RULE_EXISTS oTOO_MANY_REQUEST oSHOULD_WAIT oFAIL oBLOCKED oBAD_REQUEST oc cc h0 n0 _ T49.heap _
        rw [e49]
        exact ⟨rfl, N49⟩
    · skip
      have K51 : ∀ t, own_S p e below T20 (mkF m 187 #[.val (.int p0), .val (.long q1), .second, .val (.int p2), .val (.long q3), .second, .val (.int p4), .val (.int p5), .val (.int ia), .val (.int ib), .val (.long rb2), .second, .val (.int wb2), .val (.ref b16), .val (.int kd), .unset, .unset, .unset, .unset] [(.int (2 : Int32)), (.int kd)]) t → Steps p.tables e below SE t := by
        intro t k
        refine K47 _ ?_
        refine XS.icmpYes X20.here hx rfl (pc0 := 166) (pc' := 184) rfl (hb hby at_166) rfl (XT.ii_ne_t k1) (by decide) (by decide) ?_
        show own_S p e below T20 (mkF m 184 #[.val (.int p0), .val (.long q1), .second, .val (.int p2), .val (.long q3), .second, .val (.int p4), .val (.int p5), .val (.int ia), .val (.int ib), .val (.long rb2), .second, .val (.int wb2), .val (.ref b16), .val (.int kd), .unset, .unset, .unset, .unset] []) _
        refine XS.iload X20.here hx rfl (hb hby at_184) rfl ?_
        show own_S p e below T20 (mkF m 186 #[.val (.int p0), .val (.long q1), .second, .val (.int p2), .val (.long q3), .second, .val (.int p4), .val (.int p5), .val (.int ia), .val (.int ib), .val (.long rb2), .second, .val (.int wb2), .val (.ref b16), .val (.int kd), .unset, .unset, .unset, .unset] [(.int kd)]) _
        refine XS.iconst X20.here hx rfl (hb hby at_186) ?_
        exact k
      by_cases k2 : kd = (2 : Int32)
      · skip
        have K52 : ∀ t, own_S p e below T20 (mkF m 191 #[.val (.int p0), .val (.long q1), .second, .val (.int p2), .val (.long q3), .second, .val (.int p4), .val (.int p5), .val (.int ia), .val (.int ib), .val (.long rb2), .second, .val (.int wb2), .val (.ref b16), .val (.int kd), .unset, .unset, .unset, .unset] [(.int p2)]) t → Steps p.tables e below SE t := by
          intro t k
          refine K51 _ ?_
          refine XS.icmpNo X20.here hx rfl (hb hby at_187) rfl (XT.ii_ne_f k2) ?_
          show own_S p e below T20 (mkF m 190 #[.val (.int p0), .val (.long q1), .second, .val (.int p2), .val (.long q3), .second, .val (.int p4), .val (.int p5), .val (.int ia), .val (.int ib), .val (.long rb2), .second, .val (.int wb2), .val (.ref b16), .val (.int kd), .unset, .unset, .unset, .unset] []) _
          refine XS.iloadN X20.here hx rfl (hb hby at_190) rfl ?_
          exact k
        by_cases hout : p2 < (-128 : Int32) ∨ (127 : Int32) < p2
        · skip
          obtain ⟨_, _, ⟨T53, L53, k53, n53⟩, -, X53, ⟨Lc53, hQ53, l53, y53, z53⟩, st53⟩ := Jvm.LawKit.callS X20 hx (y := (⟨"java/lang/Integer", "valueOf", "(I)Ljava/lang/Integer;"⟩ : MethodName)) hown (mvT hZ (hw _ (List.mem_of_getElem? (i := 45) rfl))) (mvT hZ (hw _ (List.mem_of_getElem? (i := 46) rfl))) (mvT hZ (hw _ (List.mem_of_getElem? (i := 47) rfl))) (mvT hZ (hw _ (List.mem_of_getElem? (i := 48) rfl))) (by decide) (backOf (W := 0) (rm6n l Z a0 hw [] p2 T20.heap n0 (Nat.le_trans Z0 Kp20.1) (Sh.ext (own_ext Kp20)) hout) hZ (hw _ (List.mem_of_getElem? (i := 48) rfl)) (hw _ (List.mem_of_getElem? (i := 47) rfl)) (by decide) (by decide)) (g := (mkF m 191 #[.val (.int p0), .val (.long q1), .second, .val (.int p2), .val (.long q3), .second, .val (.int p4), .val (.int p5), .val (.int ia), .val (.int ib), .val (.long rb2), .second, .val (.int wb2), .val (.ref b16), .val (.int kd), .unset, .unset, .unset, .unset] [(.int p2)])) rfl (by rw [hml]; rfl) (argsL := [(.int p2)]) (rest := []) (lenOf pd_0_3 rfl) rfl (by show 2 * 0 + _ ≤ _; exact Nat.le_of_eq rfl) (hb hby at_191) (fun _ _ => ⟨rfl, rfl, (by decide : 3 + 1 ≤ _), (by decide : 31 + 1 ≤ _)⟩)
          dsimp only [Pt.U, Pt.locs, Pt.cells, Pt.slots] at X53 l53 y53 z53 st53 hQ53
          subst l53 y53 z53
          obtain ⟨rfl, Nq53, Kq53, Ex53⟩ := hQ53
          have N53 := Fr.app N20 Nq53
          have Kp53 : Keep h0 T53.heap [] := Keep.trans Kp20 Kq53 all0
          have K53 : ∀ t, own_S p e below T53 (mkF m 194 #[.val (.int p0), .val (.long q1), .second, .val (.int p2), .val (.long q3), .second, .val (.int p4), .val (.int p5), .val (.int ia), .val (.int ib), .val (.long rb2), .second, .val (.int wb2), .val (.ref b16), .val (.int kd), .unset, .unset, .unset, .unset] [(.ref T20.heap.size)]) t → Steps p.tables e below SE t := fun t k => K52 _ (st53 _ k)
          obtain ⟨bi, gbi⟩ : ∃ z, z = T20.heap.size := ⟨_, rfl⟩
          rw [← gbi] at K53 Ex53
          have K54 : ∀ t, own_S p e below T53 (mkF m 200 #[.val (.int p0), .val (.long q1), .second, .val (.int p2), .val (.long q3), .second, .val (.int p4), .val (.int p5), .val (.int ia), .val (.int ib), .val (.long rb2), .second, .val (.int wb2), .val (.ref b16), .val (.int kd), .val (.ref bi), .unset, .unset, .unset] [(.ref bi), (.ref b16)]) t → Steps p.tables e below SE t := by
            intro t k
            refine K53 _ ?_
            refine XS.astore X53.here hx rfl (hb hby at_194) rfl rfl (l' := #[.val (.int p0), .val (.long q1), .second, .val (.int p2), .val (.long q3), .second, .val (.int p4), .val (.int p5), .val (.int ia), .val (.int ib), .val (.long rb2), .second, .val (.int wb2), .val (.ref b16), .val (.int kd), .val (.ref bi), .unset, .unset, .unset]) rfl ?_
            show own_S p e below T53 (mkF m 196 #[.val (.int p0), .val (.long q1), .second, .val (.int p2), .val (.long q3), .second, .val (.int p4), .val (.int p5), .val (.int ia), .val (.int ib), .val (.long rb2), .second, .val (.int wb2), .val (.ref b16), .val (.int kd), .val (.ref bi), .unset, .unset, .unset] []) _
            refine XS.aload X53.here hx rfl (hb hby at_196) rfl rfl ?_
            show own_S p e below T53 (mkF m 198 #[.val (.int p0), .val (.long q1), .second, .val (.int p2), .val (.long q3), .second, .val (.int p4), .val (.int p5), .val (.int ia), .val (.int ib), .val (.long rb2), .second, .val (.int wb2), .val (.ref b16), .val (.int kd), .val (.ref bi), .unset, .unset, .unset] [(.ref b16)]) _
            refine XS.aload X53.here hx rfl (hb hby at_198) rfl rfl ?_
            exact k
          obtain ⟨cq55, kq55, q55a, q55b, q55c⟩ := isOf hZ rfl (Ex20.keep Kq53)
          obtain ⟨_, _, ⟨T55, L55, k55, n55⟩, -, X55, ⟨Lc55, hQ55, l55, y55, z55⟩, st55⟩ := X53.virtualBack hx (y := (⟨"com/example/aswan/aswan/token/TokenResult", "equals", "(Ljava/lang/Object;)Z"⟩ : MethodName)) (z := (⟨"com/example/aswan/aswan/token/TokenResult", "equals", "(Ljava/lang/Object;)Z"⟩ : MethodName)) hown (mvT hZ (hw _ (List.mem_of_getElem? (i := 38) rfl))) (mvT hZ (hw _ (List.mem_of_getElem? (i := 39) rfl))) (notFace_of_selects (args := #[]) (mvT hZ (hw _ (List.mem_of_getElem? (i := 41) rfl)))) (mvT hZ (hw _ (List.mem_of_getElem? (i := 41) rfl))) (mvT hZ (hw _ (List.mem_of_getElem? (i := 40) rfl))) (by decide) (backOf (W := 0) (rm5i l Z a0 hw [] b16 bi T53.heap n0 (Nat.le_trans Z0 Kp53.1) Ex53) hZ (hw _ (List.mem_of_getElem? (i := 42) rfl)) (hw _ (List.mem_of_getElem? (i := 4) rfl)) (by decide) (by decide)) q55a q55c (g := (mkF m 200 #[.val (.int p0), .val (.long q1), .second, .val (.int p2), .val (.long q3), .second, .val (.int p4), .val (.int p5), .val (.int ia), .val (.int ib), .val (.long rb2), .second, .val (.int wb2), .val (.ref b16), .val (.int kd), .val (.ref bi), .unset, .unset, .unset] [(.ref bi), (.ref b16)])) rfl (by rw [hml]; rfl) (Steps.refl _) (argsL := [(.ref bi)]) (rest := []) (lenOf pd_0_2 rfl) rfl (by show 2 * 0 + _ ≤ _; exact Nat.le_of_eq rfl) (hb hby at_200) (fun _ _ => ⟨rfl, rfl, (by decide : 4 + 0 ≤ _), (by decide : 32 + 0 ≤ _)⟩)
          dsimp only [Pt.U, Pt.locs, Pt.cells, Pt.slots] at X55 l55 y55 z55 st55 hQ55
          subst l55 y55 z55
          obtain ⟨rfl, Nq55, e55⟩ := hQ55
          have N55 := Fr.app N53 Nq55
          have K55 : ∀ t, own_S p e below T55 (mkF m 203 #[.val (.int p0), .val (.long q1), .second, .val (.int p2), .val (.long q3), .second, .val (.int p4), .val (.int p5), .val (.int ia), .val (.int ib), .val (.long rb2), .second, .val (.int wb2), .val (.ref b16), .val (.int kd), .val (.ref bi), .unset, .unset, .unset] [(.int (0 : Int32))]) t → Steps p.tables e below SE t := fun t k => K54 _ (st55.trans k)
          have K56 : ∀ t, own_S p e below T55 (mkF m 211 #[.val (.int p0), .val (.long q1), .second, .val (.int p2), .val (.long q3), .second, .val (.int p4), .val (.int p5), .val (.int ia), .val (.int ib), .val (.long rb2), .second, .val (.int wb2), .val (.ref b16), .val (.int kd), .val (.ref bi), .unset, .unset, .unset] [(.int (1 : Int32))]) t → Steps p.tables e below SE t := by
            intro t k
            refine K55 _ ?_
            refine XS.ifNo X55.here hx rfl (hb hby at_203) rfl (XT.i0_ne_f (by decide : (0 : Int32) = 0)) ?_
            show own_S p e below T55 (mkF m 206 #[.val (.int p0), .val (.long q1), .second, .val (.int p2), .val (.long q3), .second, .val (.int p4), .val (.int p5), .val (.int ia), .val (.int ib), .val (.long rb2), .second, .val (.int wb2), .val (.ref b16), .val (.int kd), .val (.ref bi), .unset, .unset, .unset] []) _
            refine XS.iconst X55.here hx rfl (hb hby at_206) ?_
            show own_S p e below T55 (mkF m 207 #[.val (.int p0), .val (.long q1), .second, .val (.int p2), .val (.long q3), .second, .val (.int p4), .val (.int p5), .val (.int ia), .val (.int ib), .val (.long rb2), .second, .val (.int wb2), .val (.ref b16), .val (.int kd), .val (.ref bi), .unset, .unset, .unset] [(.int (1 : Int32))]) _
            refine XS.goto X55.here hx rfl (pc0 := 207) (pc' := 211) rfl (hb hby at_207) (by decide) (by decide) ?_
            exact k
          obtain ⟨fs, hr, hrun, hended, hRW⟩ := X55.leaveW hS (by rw [e55]; exact (Nat.le_trans (Nat.le_refl _) Kq53.1)) (v := some (.int (1 : Int32))) (fun h => by rw [Bd.returns] at h; cases h)
          refine ⟨_, _, K56 _ ?_, hrun, hended, _, _, rfl, ?_, hRW.1, hRW.2.1, hRW.2.2.1, hRW.2.2.2.mono (by decide) (by decide)⟩
          · exact retN X55 hx (t := .boolean) Bd.returns (by simp) (hb hby at_211) hr
          · show Q0 Z p0 q1 p2 q3 p4 p5 oOK oNO_RULE_EXISTS oTOO_MANY_REQUEST oSHOULD_WAIT oFAIL oBLOCKED oBAD_REQUEST oc cc h0 n0 _ T55.heap _
            rw [e55]
            exact ⟨rfl, N55⟩
        · skip
          have hlo : ¬ p2 < (-128 : Int32) := fun z => hout (Or.inl z)
          have hhi : ¬ (127 : Int32) < p2 := fun z => hout (Or.inr z)
          have hin : ¬ ((p2 + (128 : Int32)) < 0 ∨ cc.slots.size ≤ (p2 + (128 : Int32)).toNatClampNeg) := own_inb p2 hlo hhi hCs
          obtain ⟨ar, hat, EXar⟩ := hC (p2 + (128 : Int32)) hin
          obtain ⟨_, _, ⟨T57, L57, k57, n57⟩, -, X57, ⟨Lc57, hQ57, l57, y57, z57⟩, st57⟩ := Jvm.LawKit.callS X20 hx (y := (⟨"java/lang/Integer", "valueOf", "(I)Ljava/lang/Integer;"⟩ : MethodName)) hown (mvT hZ (hw _ (List.mem_of_getElem? (i := 45) rfl))) (mvT hZ (hw _ (List.mem_of_getElem? (i := 46) rfl))) (mvT hZ (hw _ (List.mem_of_getElem? (i := 47) rfl))) (mvT hZ (hw _ (List.mem_of_getElem? (i := 48) rfl))) (by decide) (backOf (W := 0) (rm6c l Z a0 hw [] p2 oc cc ar T20.heap n0 (Nat.le_trans Z0 Kp20.1) (Sh.ext (own_ext Kp20)) (Sc.ext (own_ext Kp20)) (AC.ext (own_ext Kp20)) hlo hhi hin hat) hZ (hw _ (List.mem_of_getElem? (i := 48) rfl)) (hw _ (List.mem_of_getElem? (i := 47) rfl)) (by decide) (by decide)) (g := (mkF m 191 #[.val (.int p0), .val (.long q1), .second, .val (.int p2), .val (.long q3), .second, .val (.int p4), .val (.int p5), .val (.int ia), .val (.int ib), .val (.long rb2), .second, .val (.int wb2), .val (.ref b16), .val (.int kd), .unset, .unset, .unset, .unset] [(.int p2)])) rfl (by rw [hml]; rfl) (argsL := [(.int p2)]) (rest := []) (lenOf pd_0_3 rfl) rfl (by show 2 * 0 + _ ≤ _; exact Nat.le_of_eq rfl) (hb hby at_191) (fun _ _ => ⟨rfl, rfl, (by decide : 3 + 0 ≤ _), (by decide : 31 + 0 ≤ _)⟩)
          dsimp only [Pt.U, Pt.locs, Pt.cells, Pt.slots] at X57 l57 y57 z57 st57 hQ57
          subst l57 y57 z57
          obtain ⟨rfl, Nq57, e57⟩ := hQ57
          have N57 := Fr.app N20 Nq57
          have K57 : ∀ t, own_S p e below T57 (mkF m 194 #[.val (.int p0), .val (.long q1), .second, .val (.int p2), .val (.long q3), .second, .val (.int p4), .val (.int p5), .val (.int ia), .val (.int ib), .val (.long rb2), .second, .val (.int wb2), .val (.ref b16), .val (.int kd), .unset, .unset, .unset, .unset] [(.ref ar)]) t → Steps p.tables e below SE t := fun t k => K52 _ (st57 _ k)
          have K58 : ∀ t, own_S p e below T57 (mkF m 200 #[.val (.int p0), .val (.long q1), .second, .val (.int p2), .val (.long q3), .second, .val (.int p4), .val (.int p5), .val (.int ia), .val (.int ib), .val (.long rb2), .second, .val (.int wb2), .val (.ref b16), .val (.int kd), .val (.ref ar), .unset, .unset, .unset] [(.ref ar), (.ref b16)]) t → Steps p.tables e below SE t := by
            intro t k
            refine K57 _ ?_
            refine XS.astore X57.here hx rfl (hb hby at_194) rfl rfl (l' := #[.val (.int p0), .val (.long q1), .second, .val (.int p2), .val (.long q3), .second, .val (.int p4), .val (.int p5), .val (.int ia), .val (.int ib), .val (.long rb2), .second, .val (.int wb2), .val (.ref b16), .val (.int kd), .val (.ref ar), .unset, .unset, .unset]) rfl ?_
            show own_S p e below T57 (mkF m 196 #[.val (.int p0), .val (.long q1), .second, .val (.int p2), .val (.long q3), .second, .val (.int p4), .val (.int p5), .val (.int ia), .val (.int ib), .val (.long rb2), .second, .val (.int wb2), .val (.ref b16), .val (.int kd), .val (.ref ar), .unset, .unset, .unset] []) _
            refine XS.aload X57.here hx rfl (hb hby at_196) rfl rfl ?_
            show own_S p e below T57 (mkF m 198 #[.val (.int p0), .val (.long q1), .second, .val (.int p2), .val (.long q3), .second, .val (.int p4), .val (.int p5), .val (.int ia), .val (.int ib), .val (.long rb2), .second, .val (.int wb2), .val (.ref b16), .val (.int kd), .val (.ref ar), .unset, .unset, .unset] [(.ref b16)]) _
            refine XS.aload X57.here hx rfl (hb hby at_198) rfl rfl ?_
            exact k
          obtain ⟨cq59, kq59, q59a, q59b, q59c⟩ := isOf hZ e57 Ex20
          obtain ⟨_, _, ⟨T59, L59, k59, n59⟩, -, X59, ⟨Lc59, hQ59, l59, y59, z59⟩, st59⟩ := X57.virtualBack hx (y := (⟨"com/example/aswan/aswan/token/TokenResult", "equals", "(Ljava/lang/Object;)Z"⟩ : MethodName)) (z := (⟨"com/example/aswan/aswan/token/TokenResult", "equals", "(Ljava/lang/Object;)Z"⟩ : MethodName)) hown (mvT hZ (hw _ (List.mem_of_getElem? (i := 38) rfl))) (mvT hZ (hw _ (List.mem_of_getElem? (i := 39) rfl))) (notFace_of_selects (args := #[]) (mvT hZ (hw _ (List.mem_of_getElem? (i := 41) rfl)))) (mvT hZ (hw _ (List.mem_of_getElem? (i := 41) rfl))) (mvT hZ (hw _ (List.mem_of_getElem? (i := 40) rfl))) (by decide) (backOf (W := 0) (rm5i l Z a0 hw [] b16 ar T20.heap n0 (Nat.le_trans Z0 Kp20.1) (EXar.ext (own_ext Kp20))) hZ (hw _ (List.mem_of_getElem? (i := 42) rfl)) (hw _ (List.mem_of_getElem? (i := 4) rfl)) (by decide) (by decide)) q59a q59c (g := (mkF m 200 #[.val (.int p0), .val (.long q1), .second, .val (.int p2), .val (.long q3), .second, .val (.int p4), .val (.int p5), .val (.int ia), .val (.int ib), .val (.long rb2), .second, .val (.int wb2), .val (.ref b16), .val (.int kd), .val (.ref ar), .unset, .unset, .unset] [(.ref ar), (.ref b16)])) rfl (by rw [hml]; rfl) (Steps.refl _) (argsL := [(.ref ar)]) (rest := []) (lenOf pd_0_2 rfl) rfl (by show 2 * 0 + _ ≤ _; exact Nat.le_of_eq rfl) (hb hby at_200) (fun _ _ => ⟨rfl, e57, (by decide : 3 + 0 ≤ _), (by decide : 31 + 0 ≤ _)⟩)
          dsimp only [Pt.U, Pt.locs, Pt.cells, Pt.slots] at X59 l59 y59 z59 st59 hQ59
          subst l59 y59 z59
          obtain ⟨rfl, Nq59, e59⟩ := hQ59
          have N59 := Fr.app N57 Nq59
          have K59 : ∀ t, own_S p e below T59 (mkF m 203 #[.val (.int p0), .val (.long q1), .second, .val (.int p2), .val (.long q3), .second, .val (.int p4), .val (.int p5), .val (.int ia), .val (.int ib), .val (.long rb2), .second, .val (.int wb2), .val (.ref b16), .val (.int kd), .val (.ref ar), .unset, .unset, .unset] [(.int (0 : Int32))]) t → Steps p.tables e below SE t := fun t k => K58 _ (st59.trans k)
          have K60 : ∀ t, own_S p e below T59 (mkF m 211 #[.val (.int p0), .val (.long q1), .second, .val (.int p2), .val (.long q3), .second, .val (.int p4), .val (.int p5), .val (.int ia), .val (.int ib), .val (.long rb2), .second, .val (.int wb2), .val (.ref b16), .val (.int kd), .val (.ref ar), .unset, .unset, .unset] [(.int (1 : Int32))]) t → Steps p.tables e below SE t := by
            intro t k
            refine K59 _ ?_
            refine XS.ifNo X59.here hx rfl (hb hby at_203) rfl (XT.i0_ne_f (by decide : (0 : Int32) = 0)) ?_
            show own_S p e below T59 (mkF m 206 #[.val (.int p0), .val (.long q1), .second, .val (.int p2), .val (.long q3), .second, .val (.int p4), .val (.int p5), .val (.int ia), .val (.int ib), .val (.long rb2), .second, .val (.int wb2), .val (.ref b16), .val (.int kd), .val (.ref ar), .unset, .unset, .unset] []) _
            refine XS.iconst X59.here hx rfl (hb hby at_206) ?_
            show own_S p e below T59 (mkF m 207 #[.val (.int p0), .val (.long q1), .second, .val (.int p2), .val (.long q3), .second, .val (.int p4), .val (.int p5), .val (.int ia), .val (.int ib), .val (.long rb2), .second, .val (.int wb2), .val (.ref b16), .val (.int kd), .val (.ref ar), .unset, .unset, .unset] [(.int (1 : Int32))]) _
            refine XS.goto X59.here hx rfl (pc0 := 207) (pc' := 211) rfl (hb hby at_207) (by decide) (by decide) ?_
            exact k
          obtain ⟨fs, hr, hrun, hended, hRW⟩ := X59.leaveW hS (by rw [e59]; exact (Nat.le_refl _)) (v := some (.int (1 : Int32))) (fun h => by rw [Bd.returns] at h; cases h)
          refine ⟨_, _, K60 _ ?_, hrun, hended, _, _, rfl, ?_, hRW.1, hRW.2.1, hRW.2.2.1, hRW.2.2.2.mono (by decide) (by decide)⟩
          · exact retN X59 hx (t := .boolean) Bd.returns (by simp) (hb hby at_211) hr
          · show Q0 Z p0 q1 p2 q3 p4 p5 oOK oNO_RULE_EXISTS oTOO_MANY_REQUEST oSHOULD_WAIT oFAIL oBLOCKED oBAD_REQUEST oc cc h0 n0 _ T59.heap _
            rw [e59]
            exact ⟨rfl, N59⟩
      · skip
        have K61 : ∀ t, own_S p e below T20 (mkF m 216 #[.val (.int p0), .val (.long q1), .second, .val (.int p2), .val (.long q3), .second, .val (.int p4), .val (.int p5), .val (.int ia), .val (.int ib), .val (.long rb2), .second, .val (.int wb2), .val (.ref b16), .val (.int kd), .unset, .unset, .unset, .unset] [(.ref b16), (.ref b16)]) t → Steps p.tables e below SE t := by
          intro t k
          refine K51 _ ?_
          refine XS.icmpYes X20.here hx rfl (pc0 := 187) (pc' := 212) rfl (hb hby at_187) rfl (XT.ii_ne_t k2) (by decide) (by decide) ?_
          show own_S p e below T20 (mkF m 212 #[.val (.int p0), .val (.long q1), .second, .val (.int p2), .val (.long q3), .second, .val (.int p4), .val (.int p5), .val (.int ia), .val (.int ib), .val (.long rb2), .second, .val (.int wb2), .val (.ref b16), .val (.int kd), .unset, .unset, .unset, .unset] []) _
          refine XS.aload X20.here hx rfl (hb hby at_212) rfl rfl ?_
          show own_S p e below T20 (mkF m 214 #[.val (.int p0), .val (.long q1), .second, .val (.int p2), .val (.long q3), .second, .val (.int p4), .val (.int p5), .val (.int ia), .val (.int ib), .val (.long rb2), .second, .val (.int wb2), .val (.ref b16), .val (.int kd), .unset, .unset, .unset, .unset] [(.ref b16)]) _
          refine XS.aload X20.here hx rfl (hb hby at_214) rfl rfl ?_
          exact k
        obtain ⟨cq62, kq62, q62a, q62b, q62c⟩ := isOf hZ rfl Ex20
        obtain ⟨_, _, ⟨T62, L62, k62, n62⟩, -, X62, ⟨Lc62, hQ62, l62, y62, z62⟩, st62⟩ := X20.virtualBack hx (y := (⟨"com/example/aswan/aswan/token/TokenResult", "equals", "(Ljava/lang/Object;)Z"⟩ : MethodName)) (z := (⟨"com/example/aswan/aswan/token/TokenResult", "equals", "(Ljava/lang/Object;)Z"⟩ : MethodName)) hown (mvT hZ (hw _ (List.mem_of_getElem? (i := 38) rfl))) (mvT hZ (hw _ (List.mem_of_getElem? (i := 39) rfl))) (notFace_of_selects (args := #[]) (mvT hZ (hw _ (List.mem_of_getElem? (i := 41) rfl)))) (mvT hZ (hw _ (List.mem_of_getElem? (i := 41) rfl))) (mvT hZ (hw _ (List.mem_of_getElem? (i := 40) rfl))) (by decide) (backOf (W := 0) (rm5 l Z a0 hw [] b16 b16 oa q1 p2 oa q1 p2 T20.heap n0 (Nat.le_trans Z0 Kp20.1) Ex20 Fa20 Fb20 Fc20 Fa20 Fb20 Fc20) hZ (hw _ (List.mem_of_getElem? (i := 42) rfl)) (hw _ (List.mem_of_getElem? (i := 4) rfl)) (by decide) (by decide)) q62a q62c (g := (mkF m 216 #[.val (.int p0), .val (.long q1), .second, .val (.int p2), .val (.long q3), .second, .val (.int p4), .val (.int p5), .val (.int ia), .val (.int ib), .val (.long rb2), .second, .val (.int wb2), .val (.ref b16), .val (.int kd), .unset, .unset, .unset, .unset] [(.ref b16), (.ref b16)])) rfl (by rw [hml]; rfl) (Steps.refl _) (argsL := [(.ref b16)]) (rest := []) (lenOf pd_0_2 rfl) rfl (by show 2 * 0 + _ ≤ _; exact Nat.le_of_eq rfl) (hb hby at_216) (fun _ _ => ⟨rfl, rfl, (by decide : 3 + 0 ≤ _), (by decide : 31 + 0 ≤ _)⟩)
        dsimp only [Pt.U, Pt.locs, Pt.cells, Pt.slots] at X62 l62 y62 z62 st62 hQ62
        subst l62 y62 z62
        obtain ⟨rfl, Nq62, e62⟩ := hQ62
        have N62 := Fr.app N20 Nq62
        have K62 : ∀ t, own_S p e below T62 (mkF m 219 #[.val (.int p0), .val (.long q1), .second, .val (.int p2), .val (.long q3), .second, .val (.int p4), .val (.int p5), .val (.int ia), .val (.int ib), .val (.long rb2), .second, .val (.int wb2), .val (.ref b16), .val (.int kd), .unset, .unset, .unset, .unset] [(.int (if oa = oa then (if q1 = q1 then (if p2 = p2 then (1 : Int32) else (0 : Int32)) else (0 : Int32)) else (0 : Int32)))]) t → Steps p.tables e below SE t := fun t k => K61 _ (st62.trans k)
        rw [(by simp only [if_true] : (if oa = oa then (if q1 = q1 then (if p2 = p2 then (1 : Int32) else (0 : Int32)) else (0 : Int32)) else (0 : Int32)) = (1 : Int32))] at K62
        obtain ⟨fs, hr, hrun, hended, hRW⟩ := X62.leaveW hS (by rw [e62]; exact (Nat.le_refl _)) (v := some (.int (1 : Int32))) (fun h => by rw [Bd.returns] at h; cases h)
        refine ⟨_, _, K62 _ ?_, hrun, hended, _, _, rfl, ?_, hRW.1, hRW.2.1, hRW.2.2.1, hRW.2.2.2.mono (by decide) (by decide)⟩
        · exact retN X62 hx (t := .boolean) Bd.returns (by simp) (hb hby at_219) hr
        · show Q0 Z p0 q1 p2 q3 p4 p5 oOK oNO_RULE_EXISTS oTOO_MANY_REQUEST oSHOULD_WAIT oFAIL oBLOCKED oBAD_REQUEST oc cc h0 n0 _ T62.heap _
          rw [e62]
          exact ⟨rfl, N62⟩
theorem own_all {args : Array Value} {s : State} {T : Term} {oc : Addr} {cc : Cell} {ty : FieldType} {q : Jvm.Cond} (evc : T.eval args s none [] s = some (.ref oc)) (AC : Arr s s.heap oc cc ty) (hall : (Jvm.Cond.all T q).value args s none s [] = some true) {j : Int32} (hj : ¬ (j < 0 ∨ cc.slots.size ≤ j.toNatClampNeg)) : q.value args s none s [j.toNatClampNeg] = some true :=
  Cond.all_elim evc (IntBox.arrayAt_of AC.1 AC.2.1 AC.2.2) hall _ (Nat.lt_of_not_le fun q => hj (Or.inr q))
theorem own_cache {args : Array Value} {s : State} {oc : Addr} {cc : Cell} {q : Jvm.Cond} {C n d K : String} {ty : FieldType} (evc : (Term.static C n d).eval args s none [] s = some (.ref oc)) (AC : Arr s s.heap oc cc ty)
    (hall : (Jvm.Cond.all (.static C n d) (.and (.exactly (.elem (.static C n d) (.index 0)) K) q)).value args s none s [] = some true) (j : Int32) (hj : ¬ (j < 0 ∨ cc.slots.size ≤ j.toNatClampNeg)) :
    ∃ ar, cc.slots[j.toNatClampNeg]? = some (.ref ar) ∧ Exa s s.heap ar K := by
  have hjn : ¬ j < 0 := fun q => hj (Or.inl q)
  obtain ⟨h2, -⟩ := and_e (own_all evc AC hall hj)
  obtain ⟨x, ev⟩ := exa_v h2
  have b := back32 hjn
  have hs : (Term.static C n d).eval args s none [j.toNatClampNeg] s = (Term.static C n d).eval args s none [] s := by simp only [Term.eval]
  have hi : (Term.index 0).eval args s none [j.toNatClampNeg] s = (Term.int j).eval args s none [] s := by
    simp [Term.eval, b.1, b.2]
  have e2 : (Term.elem (.static C n d) (.int j)).eval args s none [] s = (Term.elem (.static C n d) (.index 0)).eval args s none [j.toNatClampNeg] s := by
    simp only [Term.eval] at hs hi ⊢
    simp only [hs, hi]
  have h3 : (Jvm.Cond.exactly (.elem (.static C n d) (.int j)) K).value args s none s [] = some true := by
    rw [← h2]
    simp only [Cond.value, e2]
  exact ⟨x, (elem_in (e2.trans ev) evc (Term.int_eval _) AC.1).2, Exa.start (e2.trans ev) h3⟩

theorem own_len {args : Array Value} {s : State} {t : Term} {x : Addr} {cl : Cell} {z : Int32} (ht : t.eval args s none [] s = some (.ref x)) (ha : s.arrayAt? x = some cl) (h : (Term.length t).eval args s none [] s = some (.int z)) : cl.slots.size < 2 ^ 31 ∧ cl.slots.size.toInt32 = z := by
  simp [Term.eval, ht, ha] at h
  exact h
set_option maxRecDepth 65536 in
set_option maxHeartbeats 40000000 in
theorem comes_1 {Post : Tables → Env → Array Value → State → Outcome → State → Prop} (hpost : ∀ tb e args s v u, (limb_1_1.after args s (.returned v) u = true ∧ limb_1_2.after args s (.returned v) u = true ∧ True) → ReturnedEndW s (.returned v) u (Jvm.fieldLocs frame_1_writes args s ++ Jvm.arrayLocs frame_1_arrays args s ++ Jvm.staticLocs frame_1_statics s) 16 1152 → Post tb e args s (.returned v) u) :
    ArmFor flags0 classFile x code maxLocals ret World_1 tables_1 room_1 Calls_1 rest_1 Pre_1 Post := by
  intro l hfl _ _ p e ha hc hk s m args below hf hA hF happ hP
  obtain ⟨hcalls, hrest, hpre⟩ := hP
  obtain ⟨-, -, -, hnamed, -, -, -, hat⟩ := (Spec.applies_iff hf).mp happ
  obtain ⟨hg, hn⟩ := and_e (Cond.before_iff.mp (show (Jvm.Cond.and given_1 narrow_1).before args s = true from hpre))
  obtain ⟨hcount, hg0⟩ := and_e hg
  obtain ⟨ha0, hg1⟩ := and_e hg0
  obtain ⟨ha1, hg2⟩ := and_e hg1
  obtain ⟨ha2, hg3⟩ := and_e hg2
  obtain ⟨ha3, hg4⟩ := and_e hg3
  obtain ⟨ha4, hg5⟩ := and_e hg4
  obtain ⟨w0, w1, w2, w3, w4, w5, rfl⟩ : ∃ w0 w1 w2 w3 w4 w5 : Value, args = #[w0, w1, w2, w3, w4, w5] := by
    have hs : args.size = 6 := by simpa [Cond.value, given_1] using hcount
    obtain ⟨L⟩ := args
    match L, hs with
    | [w0, w1, w2, w3, w4, w5], _ => exact ⟨w0, w1, w2, w3, w4, w5, rfl⟩
  have hw := fun d (hd : d ∈ tables_1) => atoms_spec (ws := Jvm.Cond.code x code maxLocals ret :: tables_1) hat d (List.mem_cons_of_mem _ hd)
  have hfit : Fit s := fun {y c} hc i hi => by
    obtain ⟨ha, rfl⟩ := Array.getElem?_eq_some_iff.mp hc
    have q := List.all_eq_true.mp ((Array.all_eq_true_iff_forall_mem.mp hF) _ (Array.getElem_mem ha)) i (List.mem_range.mpr hi)
    simpa [Array.getElem?_eq_getElem hi] using q
  obtain ⟨i0, ei0⟩ := is_v ha0
  obtain rfl : w0 = (.int i0) := Option.some.inj ei0
  obtain ⟨i1, ei1⟩ := isL_v ha1
  obtain rfl : w1 = (.long i1) := Option.some.inj ei1
  obtain ⟨i2, ei2⟩ := is_v ha2
  obtain rfl : w2 = (.int i2) := Option.some.inj ei2
  obtain ⟨i3, ei3⟩ := isL_v ha3
  obtain rfl : w3 = (.long i3) := Option.some.inj ei3
  obtain ⟨i4, ei4⟩ := is_v ha4
  obtain rfl : w4 = (.int i4) := Option.some.inj ei4
  obtain ⟨i5, ei5⟩ := is_v hg5
  obtain rfl : w5 = (.int i5) := Option.some.inj ei5
  obtain ⟨hc0, hcr0⟩ := and_e hn
  obtain ⟨hc1, hcr1⟩ := and_e hcr0
  obtain ⟨hc2, hcr2⟩ := and_e hcr1
  obtain ⟨hc3, hcr3⟩ := and_e hcr2
  obtain ⟨hc4, hcr4⟩ := and_e hcr3
  obtain ⟨hc5, hcr5⟩ := and_e hcr4
  obtain ⟨hc6, hcr6⟩ := and_e hcr5
  obtain ⟨hc7, hcr7⟩ := and_e hcr6
  obtain ⟨hc8, hcr8⟩ := and_e hcr7
  obtain ⟨hc9, hcr9⟩ := and_e hcr8
  obtain ⟨hc10, hcr10⟩ := and_e hcr9
  obtain ⟨hc11, hcr11⟩ := and_e hcr10
  obtain ⟨hc12, hcr12⟩ := and_e hcr11
  obtain ⟨oOK, ev_oOK⟩ := exa_v hc0
  have ST_OK : Sta s s.heap "com/example/aswan/aswan/token/TokenStatus" "OK" "Lcom/example/aswan/aswan/token/TokenStatus;" (.ref oOK) := Sta.start ev_oOK (Or.inr ⟨(hw _ (List.mem_of_getElem? (i := 10) rfl)), (hw _ (List.mem_of_getElem? (i := 11) rfl))⟩)
  have EX_oOK : Exa s s.heap oOK "com/example/aswan/aswan/token/TokenStatus" := Exa.start ev_oOK hc0
  obtain ⟨oNO_RULE_EXISTS, ev_oNO_RULE_EXISTS⟩ := exa_v hc1
  have ST_NO_RULE_EXISTS : Sta s s.heap "com/example/aswan/aswan/token/TokenStatus" "NO_RULE_EXISTS" "Lcom/example/aswan/aswan/token/TokenStatus;" (.ref oNO_RULE_EXISTS) := Sta.start ev_oNO_RULE_EXISTS (Or.inr ⟨(hw _ (List.mem_of_getElem? (i := 10) rfl)), (hw _ (List.mem_of_getElem? (i := 56) rfl))⟩)
  have EX_oNO_RULE_EXISTS : Exa s s.heap oNO_RULE_EXISTS "com/example/aswan/aswan/token/TokenStatus" := Exa.start ev_oNO_RULE_EXISTS hc1
  obtain ⟨oTOO_MANY_REQUEST, ev_oTOO_MANY_REQUEST⟩ := exa_v hc2
  have ST_TOO_MANY_REQUEST : Sta s s.heap "com/example/aswan/aswan/token/TokenStatus" "TOO_MANY_REQUEST" "Lcom/example/aswan/aswan/token/TokenStatus;" (.ref oTOO_MANY_REQUEST) := Sta.start ev_oTOO_MANY_REQUEST (Or.inr ⟨(hw _ (List.mem_of_getElem? (i := 10) rfl)), (hw _ (List.mem_of_getElem? (i := 58) rfl))⟩)
  have EX_oTOO_MANY_REQUEST : Exa s s.heap oTOO_MANY_REQUEST "com/example/aswan/aswan/token/TokenStatus" := Exa.start ev_oTOO_MANY_REQUEST hc2
  obtain ⟨oSHOULD_WAIT, ev_oSHOULD_WAIT⟩ := exa_v hc3
  have ST_SHOULD_WAIT : Sta s s.heap "com/example/aswan/aswan/token/TokenStatus" "SHOULD_WAIT" "Lcom/example/aswan/aswan/token/TokenStatus;" (.ref oSHOULD_WAIT) := Sta.start ev_oSHOULD_WAIT (Or.inr ⟨(hw _ (List.mem_of_getElem? (i := 10) rfl)), (hw _ (List.mem_of_getElem? (i := 75) rfl))⟩)
  have EX_oSHOULD_WAIT : Exa s s.heap oSHOULD_WAIT "com/example/aswan/aswan/token/TokenStatus" := Exa.start ev_oSHOULD_WAIT hc3
  obtain ⟨oFAIL, ev_oFAIL⟩ := exa_v hc4
  have ST_FAIL : Sta s s.heap "com/example/aswan/aswan/token/TokenStatus" "FAIL" "Lcom/example/aswan/aswan/token/TokenStatus;" (.ref oFAIL) := Sta.start ev_oFAIL (Or.inr ⟨(hw _ (List.mem_of_getElem? (i := 10) rfl)), (hw _ (List.mem_of_getElem? (i := 77) rfl))⟩)
  have EX_oFAIL : Exa s s.heap oFAIL "com/example/aswan/aswan/token/TokenStatus" := Exa.start ev_oFAIL hc4
  have evn1 := own_eqI hc5
  have FL_oFAIL_ordinal : Fld s s.heap oFAIL "java/lang/Enum" "ordinal" "I" (.int (5 : Int32)) := Fld.start ((fld_at ev_oFAIL).symm.trans evn1)
  have evn2 := own_eqI hc6
  have FL_oNO_RULE_EXISTS_ordinal : Fld s s.heap oNO_RULE_EXISTS "java/lang/Enum" "ordinal" "I" (.int (3 : Int32)) := Fld.start ((fld_at ev_oNO_RULE_EXISTS).symm.trans evn2)
  have evn3 := own_eqI hc7
  have FL_oSHOULD_WAIT_ordinal : Fld s s.heap oSHOULD_WAIT "java/lang/Enum" "ordinal" "I" (.int (2 : Int32)) := Fld.start ((fld_at ev_oSHOULD_WAIT).symm.trans evn3)
  have evn4 := own_eqI hc8
  have FL_oOK_ordinal : Fld s s.heap oOK "java/lang/Enum" "ordinal" "I" (.int (0 : Int32)) := Fld.start ((fld_at ev_oOK).symm.trans evn4)
  obtain ⟨oBLOCKED, ev_oBLOCKED⟩ := exa_v hc9
  have ST_BLOCKED : Sta s s.heap "com/example/aswan/aswan/token/TokenStatus" "BLOCKED" "Lcom/example/aswan/aswan/token/TokenStatus;" (.ref oBLOCKED) := Sta.start ev_oBLOCKED (Or.inr ⟨(hw _ (List.mem_of_getElem? (i := 10) rfl)), (hw _ (List.mem_of_getElem? (i := 79) rfl))⟩)
  have EX_oBLOCKED : Exa s s.heap oBLOCKED "com/example/aswan/aswan/token/TokenStatus" := Exa.start ev_oBLOCKED hc9
  have evn5 := own_eqI hc10
  have FL_oBLOCKED_ordinal : Fld s s.heap oBLOCKED "java/lang/Enum" "ordinal" "I" (.int (1 : Int32)) := Fld.start ((fld_at ev_oBLOCKED).symm.trans evn5)
  obtain ⟨oBAD_REQUEST, ev_oBAD_REQUEST⟩ := exa_v hc11
  have ST_BAD_REQUEST : Sta s s.heap "com/example/aswan/aswan/token/TokenStatus" "BAD_REQUEST" "Lcom/example/aswan/aswan/token/TokenStatus;" (.ref oBAD_REQUEST) := Sta.start ev_oBAD_REQUEST (Or.inr ⟨(hw _ (List.mem_of_getElem? (i := 10) rfl)), (hw _ (List.mem_of_getElem? (i := 81) rfl))⟩)
  have EX_oBAD_REQUEST : Exa s s.heap oBAD_REQUEST "com/example/aswan/aswan/token/TokenStatus" := Exa.start ev_oBAD_REQUEST hc11
  have evn6 := own_eqI hc12
  have FL_oBAD_REQUEST_ordinal : Fld s s.heap oBAD_REQUEST "java/lang/Enum" "ordinal" "I" (.int (4 : Int32)) := Fld.start ((fld_at ev_oBAD_REQUEST).symm.trans evn6)
  have evn7 := own_eqI hcr12
  have FL_oTOO_MANY_REQUEST_ordinal : Fld s s.heap oTOO_MANY_REQUEST "java/lang/Enum" "ordinal" "I" (.int (6 : Int32)) := Fld.start ((fld_at ev_oTOO_MANY_REQUEST).symm.trans evn7)
  have hsets := (atoms_of jdkStatics_1 (own := restOwn_1) (args := _) (s := s) (by rw [← rest_1_c_eq]; exact hrest)).1
  have evh := own_eqI (Cond.before_iff.mp (hsets _ (List.mem_of_getElem? (i := 3) rfl)))
  have Sh : Sta s s.heap "java/lang/Integer$IntegerCache" "high" "I" (.int (127 : Int32)) := Sta.start evh (Or.inr ⟨(hw _ (List.mem_of_getElem? (i := 50) rfl)), hsets _ (List.mem_of_getElem? (i := 0) rfl)⟩)
  have hco := Cond.before_iff.mp (hsets _ (List.mem_of_getElem? (i := 4) rfl))
  obtain ⟨oc, evc⟩ := arr_v hco
  obtain ⟨cc, AC⟩ := Arr.start evc hco
  have Sc : Sta s s.heap "java/lang/Integer$IntegerCache" "cache" "[Ljava/lang/Integer;" (.ref oc) := Sta.start evc (Or.inr ⟨(hw _ (List.mem_of_getElem? (i := 50) rfl)), hsets _ (List.mem_of_getElem? (i := 2) rfl)⟩)
  have evl := own_eqI (Cond.before_iff.mp (hsets _ (List.mem_of_getElem? (i := 6) rfl)))
  obtain ⟨hsz, hln⟩ := own_len evc (IntBox.arrayAt_of AC.1 AC.2.1 AC.2.2) evl
  have hCs : cc.slots.size = 256 := by
    have q := congrArg Int32.toInt hln
    rw [len_toInt hsz] at q
    have c : (256 : Int32).toInt = 256 := by decide
    omega
  have hall := Cond.before_iff.mp (hsets _ (List.mem_of_getElem? (i := 7) rfl))
  have hC := own_cache evc AC hall
  obtain ⟨n, o, h1, h2, h3, _, L, rfl, ⟨rfl, N⟩, hq⟩ := rm0 l s _ hw tables_1 i0 i1 i2 i3 i4 i5 oOK oNO_RULE_EXISTS oTOO_MANY_REQUEST oSHOULD_WAIT oFAIL oBLOCKED oBAD_REQUEST oc cc s.heap s.heap.size (Nat.le_refl _) ST_OK EX_oOK ST_NO_RULE_EXISTS EX_oNO_RULE_EXISTS ST_TOO_MANY_REQUEST EX_oTOO_MANY_REQUEST ST_SHOULD_WAIT EX_oSHOULD_WAIT ST_FAIL EX_oFAIL FL_oFAIL_ordinal FL_oNO_RULE_EXISTS_ordinal FL_oSHOULD_WAIT_ordinal FL_oOK_ordinal ST_BLOCKED EX_oBLOCKED FL_oBLOCKED_ordinal ST_BAD_REQUEST EX_oBAD_REQUEST FL_oBAD_REQUEST_ordinal FL_oTOO_MANY_REQUEST_ordinal Sh Sc AC hC hCs p e ha hc hk s m _ below hf ((Spec.applies_iff_loose hf).mp happ).1 ⟨rfl, State.Warmed39.refl s, rfl⟩ trivial
  refine ⟨n, _, h1, h2, h3, hpost _ _ _ _ _ _ ⟨Cond.after_iff.mpr rfl, Cond.after_iff.mpr (eq_i res_at (Term.int_eval (1)) rfl), trivial⟩ ⟨hq.1, hq.2.1, hq.2.2.1, (hq.2.2.2.sift fun y hy => Or.inr (N y hy)).mono (by decide) (by decide)⟩⟩
theorem main_1_1 : Claimed_1_1 := comes_1 fun _ _ _ _ _ _ h hF => ⟨h.1, hF⟩
theorem main_1_2 : Claimed_1_2 := comes_1 fun _ _ _ _ _ _ h hF => ⟨h.2.1, hF⟩
end Jvm.Pilot.@@N@@
namespace Jvm.Pilot.@@N@@
open Jvm Jvm.ClassFile Sem Op Lib Jvm.Free Jvm.Stand Jvm.Pilot.@@N@@.Jvm.D
/-! MADE BY PROGRAM (witnessworld.py) out of the Statement's table words and the real class files: 21 classes; the members and pool entries that the words name. The judged class is class 1, her method 2. -/
namespace start1
open Jvm.ClassFile
def u (s : String) : CpInfo := .utf8 (stringToUtf16 s)
/-- a pool by its gaps: so many unusable entries, then the entry; so many at the end -/
def gap : Nat → List CpInfo → List CpInfo
  | 0, r => r
  | n + 1, r => .unusable :: gap n r
def poolList (es : List (Nat × CpInfo)) (last : Nat) : List CpInfo := es.foldr (fun e r => gap e.1 (e.2 :: r)) (gap last [])
def pool (es : List (Nat × CpInfo)) (last : Nat) : Array CpInfo := ⟨poolList es last⟩
def fileOf (pool : Array CpInfo) (this : Nat) (attrs : Array Attribute := #[]) (ms : Array MethodInfo := #[]) (fl : Nat := 33) (sup : Nat := 0) (ifs : Array Nat := #[]) (fds : Array FieldInfo := #[]) : ClassFile where
  minorVersion := 0
  majorVersion := 65
  constantPool := pool
  accessFlags := fl
  thisClass := this
  superClass := sup
  interfaces := ifs
  fields := fds
  methods := ms
  attributes := attrs
def plain (name : String) (sup : Option ClassId) : Class where
  name := name
  kind := .ordinary
  loader := none
  accessFlags := 33
  super := sup
  interfaces := #[]
  cf := none
  fields := #[]
  methods := #[]
  instanceTypes := #[]
  staticTypes := #[]
  resolved := #[]
  callSites := []
  init := .initialized
  statics := none
  mirror := none

def pool0 : Array CpInfo := pool [(5, u "<init>"), (0, u "()V"), (1, .class_ 10), (1, u "java/lang/Object")] 113

def k0c0 : Code := { maxStack := 0, maxLocals := 1, code := object_method_1_code, exceptionTable := #[], attributes := #[] }
def k0m0 : Method := { name := "<init>", desc := "()V", sig := { parameters := [], returnType := none }, accessFlags := 1, code := some k0c0 }
/-- java/lang/Object -/
def k0 : Class := { plain "java/lang/Object" none with
  accessFlags := 33
  interfaces := #[]
  cf := some (fileOf pool0 8 #[] #[{ accessFlags := 1, nameIndex := 5, descriptorIndex := 6, attributes := #[] }] 33 0 #[] #[])
  fields := #[]
  methods := #[k0m0]
  instanceTypes := #[]
  staticTypes := #[]
  resolved := Array.replicate 124 none
  statics := none }

def pool1 : Array CpInfo := pool [(2, .class_ 4), (1, u "java/lang/Object"), (0, u "<init>"), (0, u "()V"), (0, .fieldref 8 9), (0, .class_ 10), (0, .nameAndType 11 12), (0, u "com/example/aswan/aswan/token/TokenStatus"), (0, u "OK"), (0, u "Lcom/example/aswan/aswan/token/TokenStatus;"), (0, .fieldref 8 14), (0, .nameAndType 15 12), (0, u "BLOCKED"), (0, .fieldref 8 17), (0, .nameAndType 18 12), (0, u "SHOULD_WAIT"), (0, .fieldref 8 20), (0, .nameAndType 21 12), (0, u "NO_RULE_EXISTS"), (0, .fieldref 8 23), (0, .nameAndType 24 12), (0, u "BAD_REQUEST"), (0, .fieldref 8 26), (0, .nameAndType 27 12), (0, u "FAIL"), (0, .fieldref 8 29), (0, .nameAndType 30 12), (0, u "TOO_MANY_REQUEST"), (0, .integer 65536), (0, .integer 131072), (0, .class_ 34), (0, u "com/example/aswan/aswan/token/TokenResult"), (0, .methodref 36 37), (0, .class_ 38), (0, .nameAndType 39 40), (0, u "com/example/aswan/aswan/token/TokenResultEqualsPinLaw"), (0, u "st"), (0, u "(I)Lcom/example/aswan/aswan/token/TokenStatus;"), (0, .methodref 33 42), (0, .nameAndType 5 43), (0, u "(Lcom/example/aswan/aswan/token/TokenStatus;JI)V"), (0, .methodref 33 45), (0, .nameAndType 46 47), (0, u "equals"), (0, u "(Ljava/lang/Object;)Z"), (0, .methodref 49 50), (0, .class_ 51), (0, .nameAndType 52 53), (0, u "java/lang/Integer"), (0, u "valueOf"), (0, u "(I)Ljava/lang/Integer;"), (3, u "law"), (0, u "(IJIJII)Z")] 2

def k1m0 : Method := { name := "<init>", desc := "()V", sig := { parameters := [], returnType := none }, accessFlags := 1, code := none }
def k1c1 : Code := { maxStack := 2, maxLocals := 1, code := method_2_code, exceptionTable := #[], attributes := #[] }
def k1m1 : Method := { name := "st", desc := "(I)Lcom/example/aswan/aswan/token/TokenStatus;", sig := { parameters := [.int], returnType := some (.object "com/example/aswan/aswan/token/TokenStatus") }, accessFlags := 10, code := some k1c1 }
def k1c2 : Code := { maxStack := 6, maxLocals := 19, code := code, exceptionTable := #[], attributes := #[] }
def k1m2 : Method := { name := "law", desc := "(IJIJII)Z", sig := { parameters := [.int, .long, .int, .long, .int, .int], returnType := some .boolean }, accessFlags := 9, code := some k1c2 }
/-- com/example/aswan/aswan/token/TokenResultEqualsPinLaw -/
def k1 : Class := { plain "com/example/aswan/aswan/token/TokenResultEqualsPinLaw" (some 0) with
  accessFlags := 49
  interfaces := #[]
  cf := some (fileOf pool1 36 #[] #[{ accessFlags := 1, nameIndex := 5, descriptorIndex := 6, attributes := #[] }, { accessFlags := 10, nameIndex := 39, descriptorIndex := 40, attributes := #[] }, { accessFlags := 9, nameIndex := 57, descriptorIndex := 58, attributes := #[] }] 49 2 #[] #[])
  fields := #[]
  methods := #[k1m0, k1m1, k1m2]
  instanceTypes := #[]
  staticTypes := #[]
  resolved := Array.replicate 61 none
  statics := none }

def pool2 : Array CpInfo := pool [(1, .methodref 2 3), (0, .class_ 4), (0, .nameAndType 5 6), (0, u "java/lang/Object"), (0, u "<init>"), (0, u "()V"), (0, .string 8), (0, u "status"), (0, .methodref 10 11), (0, .class_ 12), (0, .nameAndType 13 14), (0, u "java/util/Objects"), (0, u "requireNonNull"), (0, u "(Ljava/lang/Object;Ljava/lang/String;)Ljava/lang/Object;"), (0, .class_ 16), (0, u "com/example/aswan/aswan/token/TokenStatus"), (0, .fieldref 18 19), (0, .class_ 20), (0, .nameAndType 8 21), (0, u "com/example/aswan/aswan/token/TokenResult"), (0, u "Lcom/example/aswan/aswan/token/TokenStatus;"), (0, .fieldref 18 23), (0, .nameAndType 24 25), (0, u "remaining"), (0, u "J"), (0, .fieldref 18 27), (0, .nameAndType 28 29), (0, u "waitInMs"), (0, u "I"), (24, u "(Lcom/example/aswan/aswan/token/TokenStatus;JI)V"), (8, u "equals"), (0, u "(Ljava/lang/Object;)Z")] 21

def k2c0 : Code := { maxStack := 3, maxLocals := 5, code := prog_30_method_1_code, exceptionTable := #[], attributes := #[] }
def k2m0 : Method := { name := "<init>", desc := "(Lcom/example/aswan/aswan/token/TokenStatus;JI)V", sig := { parameters := [(.object "com/example/aswan/aswan/token/TokenStatus"), .long, .int], returnType := none }, accessFlags := 1, code := some k2c0 }
def k2c1 : Code := { maxStack := 4, maxLocals := 3, code := prog_30_method_5_code, exceptionTable := #[], attributes := #[] }
def k2m1 : Method := { name := "equals", desc := "(Ljava/lang/Object;)Z", sig := { parameters := [(.object "java/lang/Object")], returnType := some .boolean }, accessFlags := 1, code := some k2c1 }
/-- com/example/aswan/aswan/token/TokenResult -/
def k2 : Class := { plain "com/example/aswan/aswan/token/TokenResult" (some 0) with
  accessFlags := 49
  interfaces := #[]
  cf := some (fileOf pool2 18 #[] #[{ accessFlags := 1, nameIndex := 5, descriptorIndex := 54, attributes := #[] }, { accessFlags := 1, nameIndex := 63, descriptorIndex := 64, attributes := #[] }] 49 2 #[] #[{ accessFlags := 18, nameIndex := 8, descriptorIndex := 21, attributes := #[] }, { accessFlags := 18, nameIndex := 24, descriptorIndex := 25, attributes := #[] }, { accessFlags := 18, nameIndex := 28, descriptorIndex := 29, attributes := #[] }])
  fields := #[{ name := "status", type := (.object "com/example/aswan/aswan/token/TokenStatus"), accessFlags := 18, slot := 0, constantValue := 0 }, { name := "remaining", type := .long, accessFlags := 18, slot := 1, constantValue := 0 }, { name := "waitInMs", type := .int, accessFlags := 18, slot := 2, constantValue := 0 }]
  methods := #[k2m0, k2m1]
  instanceTypes := #[(.object "com/example/aswan/aswan/token/TokenStatus"), .long, .int]
  staticTypes := #[]
  resolved := Array.replicate 86 none
  statics := none }

def pool3 : Array CpInfo := pool [(1, .class_ 2), (0, u "java/lang/constant/Constable"), (0, .class_ 4), (0, u "java/lang/Object")] 6

/-- java/lang/constant/Constable -/
def k3 : Class := { plain "java/lang/constant/Constable" (some 0) with
  accessFlags := 1537
  interfaces := #[]
  cf := some (fileOf pool3 1 #[] #[] 1537 3 #[] #[])
  fields := #[]
  methods := #[]
  instanceTypes := #[]
  staticTypes := #[]
  resolved := Array.replicate 11 none
  statics := none }

def pool4 : Array CpInfo := pool [(1, .class_ 2), (0, u "java/lang/Comparable"), (0, .class_ 4), (0, u "java/lang/Object")] 7

/-- java/lang/Comparable -/
def k4 : Class := { plain "java/lang/Comparable" (some 0) with
  accessFlags := 1537
  interfaces := #[]
  cf := some (fileOf pool4 1 #[] #[] 1537 3 #[] #[])
  fields := #[]
  methods := #[]
  instanceTypes := #[]
  staticTypes := #[]
  resolved := Array.replicate 12 none
  statics := none }

def pool5 : Array CpInfo := pool [(1, .class_ 2), (0, u "java/io/Serializable"), (0, .class_ 4), (0, u "java/lang/Object")] 2

/-- java/io/Serializable -/
def k5 : Class := { plain "java/io/Serializable" (some 0) with
  accessFlags := 1537
  interfaces := #[]
  cf := some (fileOf pool5 1 #[] #[] 1537 3 #[] #[])
  fields := #[]
  methods := #[]
  instanceTypes := #[]
  staticTypes := #[]
  resolved := Array.replicate 7 none
  statics := none }

def pool6 : Array CpInfo := pool [(2, .class_ 4), (1, u "java/lang/Enum"), (0, u "name"), (0, u "Ljava/lang/String;"), (2, u "ordinal"), (0, u "I"), (1, .class_ 14), (1, u "java/lang/Object"), (4, u "hash"), (86, .class_ 108), (1, u "java/lang/Enum$EnumDesc"), (2, .class_ 112), (0, u "java/lang/constant/Constable"), (0, .class_ 114), (0, u "java/lang/Comparable"), (0, .class_ 116), (0, u "java/io/Serializable")] 87

/-- java/lang/Enum -/
def k6 : Class := { plain "java/lang/Enum" (some 0) with
  accessFlags := 1057
  interfaces := #[3, 4, 5]
  cf := some (fileOf pool6 2 #[.nestMembers #[106]] #[] 1057 12 #[111, 113, 115] #[{ accessFlags := 18, nameIndex := 5, descriptorIndex := 6, attributes := #[] }, { accessFlags := 18, nameIndex := 9, descriptorIndex := 10, attributes := #[] }, { accessFlags := 2, nameIndex := 19, descriptorIndex := 10, attributes := #[] }])
  fields := #[{ name := "name", type := (.object "java/lang/String"), accessFlags := 18, slot := 0, constantValue := 0 }, { name := "ordinal", type := .int, accessFlags := 18, slot := 1, constantValue := 0 }, { name := "hash", type := .int, accessFlags := 2, slot := 2, constantValue := 0 }]
  methods := #[]
  instanceTypes := #[(.object "java/lang/String"), .int, .int]
  staticTypes := #[]
  resolved := Array.replicate 204 none
  statics := none }

def pool7 : Array CpInfo := pool [(1, .class_ 2), (0, u "com/example/aswan/aswan/token/TokenStatus"), (2, u "OK"), (0, u "Lcom/example/aswan/aswan/token/TokenStatus;"), (2, u "BLOCKED"), (2, u "SHOULD_WAIT"), (2, u "NO_RULE_EXISTS"), (2, u "BAD_REQUEST"), (2, u "FAIL"), (2, u "TOO_MANY_REQUEST"), (2, u "$VALUES"), (0, u "[Lcom/example/aswan/aswan/token/TokenStatus;"), (6, .class_ 37), (1, u "java/lang/Enum")] 29

/-- com/example/aswan/aswan/token/TokenStatus -/
def k7 : Class := { plain "com/example/aswan/aswan/token/TokenStatus" (some 6) with
  accessFlags := 16433
  interfaces := #[]
  cf := some (fileOf pool7 1 #[] #[] 16433 35 #[] #[{ accessFlags := 16409, nameIndex := 5, descriptorIndex := 6, attributes := #[] }, { accessFlags := 16409, nameIndex := 9, descriptorIndex := 6, attributes := #[] }, { accessFlags := 16409, nameIndex := 12, descriptorIndex := 6, attributes := #[] }, { accessFlags := 16409, nameIndex := 15, descriptorIndex := 6, attributes := #[] }, { accessFlags := 16409, nameIndex := 18, descriptorIndex := 6, attributes := #[] }, { accessFlags := 16409, nameIndex := 21, descriptorIndex := 6, attributes := #[] }, { accessFlags := 16409, nameIndex := 24, descriptorIndex := 6, attributes := #[] }, { accessFlags := 4122, nameIndex := 27, descriptorIndex := 28, attributes := #[] }])
  fields := #[{ name := "OK", type := (.object "com/example/aswan/aswan/token/TokenStatus"), accessFlags := 16409, slot := 0, constantValue := 0 }, { name := "BLOCKED", type := (.object "com/example/aswan/aswan/token/TokenStatus"), accessFlags := 16409, slot := 1, constantValue := 0 }, { name := "SHOULD_WAIT", type := (.object "com/example/aswan/aswan/token/TokenStatus"), accessFlags := 16409, slot := 2, constantValue := 0 }, { name := "NO_RULE_EXISTS", type := (.object "com/example/aswan/aswan/token/TokenStatus"), accessFlags := 16409, slot := 3, constantValue := 0 }, { name := "BAD_REQUEST", type := (.object "com/example/aswan/aswan/token/TokenStatus"), accessFlags := 16409, slot := 4, constantValue := 0 }, { name := "FAIL", type := (.object "com/example/aswan/aswan/token/TokenStatus"), accessFlags := 16409, slot := 5, constantValue := 0 }, { name := "TOO_MANY_REQUEST", type := (.object "com/example/aswan/aswan/token/TokenStatus"), accessFlags := 16409, slot := 6, constantValue := 0 }, { name := "$VALUES", type := (.array (.object "com/example/aswan/aswan/token/TokenStatus")), accessFlags := 4122, slot := 7, constantValue := 0 }]
  methods := #[]
  instanceTypes := #[(.object "java/lang/String"), .int, .int]
  staticTypes := #[(.object "com/example/aswan/aswan/token/TokenStatus"), (.object "com/example/aswan/aswan/token/TokenStatus"), (.object "com/example/aswan/aswan/token/TokenStatus"), (.object "com/example/aswan/aswan/token/TokenStatus"), (.object "com/example/aswan/aswan/token/TokenStatus"), (.object "com/example/aswan/aswan/token/TokenStatus"), (.object "com/example/aswan/aswan/token/TokenStatus"), (.array (.object "com/example/aswan/aswan/token/TokenStatus"))]
  resolved := Array.replicate 67 none
  statics := some 0 }

def pool8 : Array CpInfo := pool [(2, .class_ 4), (1, u "java/lang/CharSequence"), (42, .class_ 48), (0, u "java/lang/CharSequence$1CodePointIterator"), (10, .class_ 60), (0, u "java/lang/CharSequence$1CharIterator"), (5, .class_ 67), (0, u "java/lang/Object")] 63

/-- java/lang/CharSequence -/
def k8 : Class := { plain "java/lang/CharSequence" (some 0) with
  accessFlags := 1537
  interfaces := #[]
  cf := some (fileOf pool8 2 #[.nestMembers #[47, 59]] #[] 1537 66 #[] #[])
  fields := #[]
  methods := #[]
  instanceTypes := #[]
  staticTypes := #[]
  resolved := Array.replicate 131 none
  statics := none }

def pool9 : Array CpInfo := pool [(1, .class_ 2), (0, u "java/lang/constant/ConstantDesc"), (0, .class_ 4), (0, u "java/lang/Object")] 32

/-- java/lang/constant/ConstantDesc -/
def k9 : Class := { plain "java/lang/constant/ConstantDesc" (some 0) with
  accessFlags := 1537
  interfaces := #[]
  cf := some (fileOf pool9 1 #[] #[] 1537 3 #[] #[])
  fields := #[]
  methods := #[]
  instanceTypes := #[]
  staticTypes := #[]
  resolved := Array.replicate 37 none
  statics := none }

def pool10 : Array CpInfo := pool [(2, .class_ 4), (1, u "java/lang/Object"), (0, u "<init>"), (0, u "()V"), (3, .class_ 12), (1, u "java/lang/String"), (0, u "value"), (0, u "[B"), (2, u "coder"), (0, u "B"), (2, u "hash"), (0, u "I"), (2, u "hashIsZero"), (0, u "Z"), (13, u "COMPACT_STRINGS"), (534, .class_ 576), (0, u "java/lang/CharSequence"), (22, u "CASE_INSENSITIVE_ORDER"), (0, u "Ljava/util/Comparator;"), (500, u "serialPersistentFields"), (0, u "[Ljava/io/ObjectStreamField;"), (0, .class_ 1104), (0, u "java/lang/String$CaseInsensitiveComparator"), (1, .class_ 1107), (0, u "java/io/Serializable"), (0, .class_ 1109), (0, u "java/lang/Comparable"), (0, .class_ 1111), (0, u "java/lang/constant/Constable"), (0, .class_ 1113), (0, u "java/lang/constant/ConstantDesc"), (2, u "serialVersionUID"), (0, u "J"), (3, u "REPL"), (0, u "C"), (2, u "LATIN1"), (1, u "UTF16")] 323

def k10m0 : Method := { name := "<init>", desc := "()V", sig := { parameters := [], returnType := none }, accessFlags := 1, code := none }
/-- java/lang/String -/
def k10 : Class := { plain "java/lang/String" (some 0) with
  accessFlags := 49
  interfaces := #[5, 4, 8, 3, 9]
  cf := some (fileOf pool10 10 #[.nestMembers #[1103]] #[{ accessFlags := 1, nameIndex := 5, descriptorIndex := 6, attributes := #[] }] 49 2 #[1106, 1108, 575, 1110, 1112] #[{ accessFlags := 18, nameIndex := 13, descriptorIndex := 14, attributes := #[] }, { accessFlags := 18, nameIndex := 17, descriptorIndex := 18, attributes := #[] }, { accessFlags := 2, nameIndex := 21, descriptorIndex := 22, attributes := #[] }, { accessFlags := 2, nameIndex := 25, descriptorIndex := 26, attributes := #[] }, { accessFlags := 26, nameIndex := 1116, descriptorIndex := 1117, attributes := #[] }, { accessFlags := 24, nameIndex := 40, descriptorIndex := 26, attributes := #[] }, { accessFlags := 26, nameIndex := 1101, descriptorIndex := 1102, attributes := #[] }, { accessFlags := 26, nameIndex := 1121, descriptorIndex := 1122, attributes := #[] }, { accessFlags := 25, nameIndex := 599, descriptorIndex := 600, attributes := #[] }, { accessFlags := 24, nameIndex := 1125, descriptorIndex := 18, attributes := #[] }, { accessFlags := 24, nameIndex := 1127, descriptorIndex := 18, attributes := #[] }])
  fields := #[{ name := "value", type := (.array .byte), accessFlags := 18, slot := 0, constantValue := 0 }, { name := "coder", type := .byte, accessFlags := 18, slot := 1, constantValue := 0 }, { name := "hash", type := .int, accessFlags := 2, slot := 2, constantValue := 0 }, { name := "hashIsZero", type := .boolean, accessFlags := 2, slot := 3, constantValue := 0 }, { name := "serialVersionUID", type := .long, accessFlags := 26, slot := 0, constantValue := 0 }, { name := "COMPACT_STRINGS", type := .boolean, accessFlags := 24, slot := 1, constantValue := 0 }, { name := "serialPersistentFields", type := (.array (.object "java/io/ObjectStreamField")), accessFlags := 26, slot := 2, constantValue := 0 }, { name := "REPL", type := .char, accessFlags := 26, slot := 3, constantValue := 0 }, { name := "CASE_INSENSITIVE_ORDER", type := (.object "java/util/Comparator"), accessFlags := 25, slot := 4, constantValue := 0 }, { name := "LATIN1", type := .byte, accessFlags := 24, slot := 5, constantValue := 0 }, { name := "UTF16", type := .byte, accessFlags := 24, slot := 6, constantValue := 0 }]
  methods := #[k10m0]
  instanceTypes := #[(.array .byte), .byte, .int, .boolean]
  staticTypes := #[.long, .boolean, (.array (.object "java/io/ObjectStreamField")), .char, (.object "java/util/Comparator"), .byte, .byte]
  resolved := Array.replicate 1451 none
  statics := none }

def pool11 : Array CpInfo := pool [(2, .class_ 4), (1, u "java/lang/Object"), (0, u "<init>"), (0, u "()V"), (35, .class_ 44), (1, u "java/util/Objects"), (0, u "requireNonNull"), (48, u "(Ljava/lang/Object;Ljava/lang/String;)Ljava/lang/Object;")] 89

def k11m0 : Method := { name := "<init>", desc := "()V", sig := { parameters := [], returnType := none }, accessFlags := 2, code := none }
def k11c1 : Code := { maxStack := 3, maxLocals := 2, code := jdk_31_method_11_code, exceptionTable := #[], attributes := #[] }
def k11m1 : Method := { name := "requireNonNull", desc := "(Ljava/lang/Object;Ljava/lang/String;)Ljava/lang/Object;", sig := { parameters := [(.object "java/lang/Object"), (.object "java/lang/String")], returnType := some (.object "java/lang/Object") }, accessFlags := 9, code := some k11c1 }
/-- java/util/Objects -/
def k11 : Class := { plain "java/util/Objects" (some 0) with
  accessFlags := 49
  interfaces := #[]
  cf := some (fileOf pool11 42 #[] #[{ accessFlags := 2, nameIndex := 5, descriptorIndex := 6, attributes := #[] }, { accessFlags := 9, nameIndex := 45, descriptorIndex := 94, attributes := #[] }] 49 2 #[] #[])
  fields := #[]
  methods := #[k11m0, k11m1]
  instanceTypes := #[]
  staticTypes := #[]
  resolved := Array.replicate 184 none
  statics := none }

def pool12 : Array CpInfo := pool [(1, .methodref 2 3), (0, .class_ 4), (0, .nameAndType 5 6), (0, u "java/lang/Object"), (0, u "<init>"), (0, u "()V"), (1, .class_ 10), (1, u "java/lang/Number"), (2, .class_ 14), (0, u "java/io/Serializable"), (0, u "serialVersionUID"), (0, u "J")] 20

def k12c0 : Code := { maxStack := 1, maxLocals := 1, code := jdk_18_method_1_code, exceptionTable := #[], attributes := #[] }
def k12m0 : Method := { name := "<init>", desc := "()V", sig := { parameters := [], returnType := none }, accessFlags := 1, code := some k12c0 }
/-- java/lang/Number -/
def k12 : Class := { plain "java/lang/Number" (some 0) with
  accessFlags := 1057
  interfaces := #[5]
  cf := some (fileOf pool12 8 #[] #[{ accessFlags := 1, nameIndex := 5, descriptorIndex := 6, attributes := #[] }] 1057 2 #[13] #[{ accessFlags := 26, nameIndex := 15, descriptorIndex := 16, attributes := #[] }])
  fields := #[{ name := "serialVersionUID", type := .long, accessFlags := 26, slot := 0, constantValue := 0 }]
  methods := #[k12m0]
  instanceTypes := #[]
  staticTypes := #[.long]
  resolved := Array.replicate 37 none
  statics := none }

def pool13 : Array CpInfo := pool [(1, .class_ 2), (0, u "java/lang/Integer"), (16, u "digits"), (0, u "[C"), (46, u "<init>"), (17, u "DigitOnes"), (0, u "[B"), (2, u "DigitTens"), (10, .nameAndType 67 101), (0, u "()V"), (85, u "valueOf"), (0, u "(I)Ljava/lang/Integer;"), (0, .class_ 190), (0, u "java/lang/Integer$IntegerCache"), (0, .fieldref 189 192), (0, .nameAndType 193 194), (0, u "high"), (0, u "I"), (0, .fieldref 189 196), (0, .nameAndType 197 198), (0, u "cache"), (0, u "[Ljava/lang/Integer;"), (0, .methodref 1 200), (0, .nameAndType 67 201), (0, u "(I)V"), (0, .methodref 203 100), (0, .class_ 204), (0, u "java/lang/Number"), (0, .fieldref 1 206), (0, .nameAndType 207 194), (0, u "value"), (94, u "TYPE"), (0, u "Ljava/lang/Class;"), (0, .class_ 305), (0, u "java/lang/Comparable"), (0, .class_ 307), (0, u "java/lang/constant/Constable"), (0, .class_ 309), (0, u "java/lang/constant/ConstantDesc"), (0, u "MIN_VALUE"), (1, u "MAX_VALUE"), (3, u "SIZE"), (1, u "BYTES"), (1, u "serialVersionUID"), (0, u "J")] 131

def k13c0 : Code := { maxStack := 3, maxLocals := 1, code := jdk_33_method_22_code, exceptionTable := #[], attributes := #[] }
def k13m0 : Method := { name := "valueOf", desc := "(I)Ljava/lang/Integer;", sig := { parameters := [.int], returnType := some (.object "java/lang/Integer") }, accessFlags := 9, code := some k13c0 }
def k13c1 : Code := { maxStack := 2, maxLocals := 2, code := jdk_33_method_23_code, exceptionTable := #[], attributes := #[] }
def k13m1 : Method := { name := "<init>", desc := "(I)V", sig := { parameters := [.int], returnType := none }, accessFlags := 1, code := some k13c1 }
/-- java/lang/Integer -/
def k13 : Class := { plain "java/lang/Integer" (some 12) with
  accessFlags := 49
  interfaces := #[4, 3, 9]
  cf := some (fileOf pool13 1 #[.nestMembers #[189]] #[{ accessFlags := 9, nameIndex := 187, descriptorIndex := 188, attributes := #[] }, { accessFlags := 1, nameIndex := 67, descriptorIndex := 201, attributes := #[] }] 49 203 #[304, 306, 308] #[{ accessFlags := 25, nameIndex := 310, descriptorIndex := 194, attributes := #[] }, { accessFlags := 25, nameIndex := 312, descriptorIndex := 194, attributes := #[] }, { accessFlags := 25, nameIndex := 302, descriptorIndex := 303, attributes := #[] }, { accessFlags := 24, nameIndex := 19, descriptorIndex := 20, attributes := #[] }, { accessFlags := 24, nameIndex := 89, descriptorIndex := 86, attributes := #[] }, { accessFlags := 24, nameIndex := 85, descriptorIndex := 86, attributes := #[] }, { accessFlags := 18, nameIndex := 207, descriptorIndex := 194, attributes := #[] }, { accessFlags := 25, nameIndex := 316, descriptorIndex := 194, attributes := #[] }, { accessFlags := 25, nameIndex := 318, descriptorIndex := 194, attributes := #[] }, { accessFlags := 26, nameIndex := 320, descriptorIndex := 321, attributes := #[] }])
  fields := #[{ name := "MIN_VALUE", type := .int, accessFlags := 25, slot := 0, constantValue := 0 }, { name := "MAX_VALUE", type := .int, accessFlags := 25, slot := 1, constantValue := 0 }, { name := "TYPE", type := (.object "java/lang/Class"), accessFlags := 25, slot := 2, constantValue := 0 }, { name := "digits", type := (.array .char), accessFlags := 24, slot := 3, constantValue := 0 }, { name := "DigitTens", type := (.array .byte), accessFlags := 24, slot := 4, constantValue := 0 }, { name := "DigitOnes", type := (.array .byte), accessFlags := 24, slot := 5, constantValue := 0 }, { name := "value", type := .int, accessFlags := 18, slot := 0, constantValue := 0 }, { name := "SIZE", type := .int, accessFlags := 25, slot := 6, constantValue := 0 }, { name := "BYTES", type := .int, accessFlags := 25, slot := 7, constantValue := 0 }, { name := "serialVersionUID", type := .long, accessFlags := 26, slot := 8, constantValue := 0 }]
  methods := #[k13m0, k13m1]
  instanceTypes := #[.int]
  staticTypes := #[.int, .int, (.object "java/lang/Class"), (.array .char), (.array .byte), (.array .byte), .int, .int, .long]
  resolved := Array.replicate 453 none
  statics := none }

def pool14 : Array CpInfo := pool [(2, .class_ 4), (1, u "java/lang/Object"), (0, u "<init>"), (0, u "()V"), (0, .class_ 8), (0, u "java/lang/Integer"), (7, .class_ 18), (1, u "java/lang/Integer$IntegerCache"), (0, u "$assertionsDisabled"), (0, u "Z"), (26, u "high"), (0, u "I"), (8, u "archivedCache"), (0, u "[Ljava/lang/Integer;"), (12, u "cache"), (0, u "low")] 27

def k14m0 : Method := { name := "<init>", desc := "()V", sig := { parameters := [], returnType := none }, accessFlags := 2, code := none }
/-- java/lang/Integer$IntegerCache -/
def k14 : Class := { plain "java/lang/Integer$IntegerCache" (some 0) with
  accessFlags := 48
  interfaces := #[]
  cf := some (fileOf pool14 16 #[.nestHost 7] #[{ accessFlags := 2, nameIndex := 5, descriptorIndex := 6, attributes := #[] }] 48 2 #[] #[{ accessFlags := 24, nameIndex := 72, descriptorIndex := 48, attributes := #[] }, { accessFlags := 24, nameIndex := 47, descriptorIndex := 48, attributes := #[] }, { accessFlags := 24, nameIndex := 71, descriptorIndex := 58, attributes := #[] }, { accessFlags := 8, nameIndex := 57, descriptorIndex := 58, attributes := #[] }, { accessFlags := 4120, nameIndex := 19, descriptorIndex := 20, attributes := #[] }])
  fields := #[{ name := "low", type := .int, accessFlags := 24, slot := 0, constantValue := 0 }, { name := "high", type := .int, accessFlags := 24, slot := 1, constantValue := 0 }, { name := "cache", type := (.array (.object "java/lang/Integer")), accessFlags := 24, slot := 2, constantValue := 0 }, { name := "archivedCache", type := (.array (.object "java/lang/Integer")), accessFlags := 8, slot := 3, constantValue := 0 }, { name := "$assertionsDisabled", type := .boolean, accessFlags := 4120, slot := 4, constantValue := 0 }]
  methods := #[k14m0]
  instanceTypes := #[]
  staticTypes := #[.int, .int, (.array (.object "java/lang/Integer")), (.array (.object "java/lang/Integer")), .boolean]
  resolved := Array.replicate 100 none
  statics := some 1 }

def pool15 : Array CpInfo := pool [(1, u "java/lang/Cloneable"), (0, .class_ 1), (0, u "java/lang/Object"), (0, .class_ 3)] 3

/-- java/lang/Cloneable -/
def k15 : Class := { plain "java/lang/Cloneable" (some 0) with
  accessFlags := 1537
  interfaces := #[]
  cf := some (fileOf pool15 2 #[] #[] 1537 4 #[] #[])
  fields := #[]
  methods := #[]
  instanceTypes := #[]
  staticTypes := #[]
  resolved := Array.replicate 8 none
  statics := none }

/-- the primitive byte -/
def k16 : Class := { plain "byte" none with kind := .primitive 'B', accessFlags := 0x411 }
/-- [B -/
def k17 : Class := { plain "[B" (some 0) with kind := .array 16 .byte, interfaces := #[15, 5], accessFlags := 1041 }

/-- the primitive int -/
def k18 : Class := { plain "int" none with kind := .primitive 'I', accessFlags := 0x411 }
/-- [I -/
def k19 : Class := { plain "[I" (some 0) with kind := .array 18 .int, interfaces := #[15, 5], accessFlags := 1041 }

/-- [Ljava/lang/Integer; -/
def k20 : Class := { plain "[Ljava/lang/Integer;" (some 0) with kind := .array 13 (.object "java/lang/Integer"), interfaces := #[15, 5], accessFlags := 1041 }

def heap : Heap := #[{ cls := 7, slots := #[.ref 259, .ref 260, .ref 261, .ref 262, .ref 263, .ref 264, .ref 265, .null], vm := .statics 7 },
  { cls := 14, slots := #[.int 0, .int 127, .ref 2, .null, .int 0], vm := .statics 14 },
  { cls := 20, slots := #[.ref 3, .ref 4, .ref 5, .ref 6, .ref 7, .ref 8, .ref 9, .ref 10, .ref 11, .ref 12, .ref 13, .ref 14, .ref 15, .ref 16, .ref 17, .ref 18, .ref 19, .ref 20, .ref 21, .ref 22, .ref 23, .ref 24, .ref 25, .ref 26, .ref 27, .ref 28, .ref 29, .ref 30, .ref 31, .ref 32, .ref 33, .ref 34, .ref 35, .ref 36, .ref 37, .ref 38, .ref 39, .ref 40, .ref 41, .ref 42, .ref 43, .ref 44, .ref 45, .ref 46, .ref 47, .ref 48, .ref 49, .ref 50, .ref 51, .ref 52, .ref 53, .ref 54, .ref 55, .ref 56, .ref 57, .ref 58, .ref 59, .ref 60, .ref 61, .ref 62, .ref 63, .ref 64, .ref 65, .ref 66, .ref 67, .ref 68, .ref 69, .ref 70, .ref 71, .ref 72, .ref 73, .ref 74, .ref 75, .ref 76, .ref 77, .ref 78, .ref 79, .ref 80, .ref 81, .ref 82, .ref 83, .ref 84, .ref 85, .ref 86, .ref 87, .ref 88, .ref 89, .ref 90, .ref 91, .ref 92, .ref 93, .ref 94, .ref 95, .ref 96, .ref 97, .ref 98, .ref 99, .ref 100, .ref 101, .ref 102, .ref 103, .ref 104, .ref 105, .ref 106, .ref 107, .ref 108, .ref 109, .ref 110, .ref 111, .ref 112, .ref 113, .ref 114, .ref 115, .ref 116, .ref 117, .ref 118, .ref 119, .ref 120, .ref 121, .ref 122, .ref 123, .ref 124, .ref 125, .ref 126, .ref 127, .ref 128, .ref 129, .ref 130, .ref 131, .ref 132, .ref 133, .ref 134, .ref 135, .ref 136, .ref 137, .ref 138, .ref 139, .ref 140, .ref 141, .ref 142, .ref 143, .ref 144, .ref 145, .ref 146, .ref 147, .ref 148, .ref 149, .ref 150, .ref 151, .ref 152, .ref 153, .ref 154, .ref 155, .ref 156, .ref 157, .ref 158, .ref 159, .ref 160, .ref 161, .ref 162, .ref 163, .ref 164, .ref 165, .ref 166, .ref 167, .ref 168, .ref 169, .ref 170, .ref 171, .ref 172, .ref 173, .ref 174, .ref 175, .ref 176, .ref 177, .ref 178, .ref 179, .ref 180, .ref 181, .ref 182, .ref 183, .ref 184, .ref 185, .ref 186, .ref 187, .ref 188, .ref 189, .ref 190, .ref 191, .ref 192, .ref 193, .ref 194, .ref 195, .ref 196, .ref 197, .ref 198, .ref 199, .ref 200, .ref 201, .ref 202, .ref 203, .ref 204, .ref 205, .ref 206, .ref 207, .ref 208, .ref 209, .ref 210, .ref 211, .ref 212, .ref 213, .ref 214, .ref 215, .ref 216, .ref 217, .ref 218, .ref 219, .ref 220, .ref 221, .ref 222, .ref 223, .ref 224, .ref 225, .ref 226, .ref 227, .ref 228, .ref 229, .ref 230, .ref 231, .ref 232, .ref 233, .ref 234, .ref 235, .ref 236, .ref 237, .ref 238, .ref 239, .ref 240, .ref 241, .ref 242, .ref 243, .ref 244, .ref 245, .ref 246, .ref 247, .ref 248, .ref 249, .ref 250, .ref 251, .ref 252, .ref 253, .ref 254, .ref 255, .ref 256, .ref 257, .ref 258], vm := .none },
  { cls := 13, slots := #[.int (-128)], vm := .none },
  { cls := 13, slots := #[.int (-127)], vm := .none },
  { cls := 13, slots := #[.int (-126)], vm := .none },
  { cls := 13, slots := #[.int (-125)], vm := .none },
  { cls := 13, slots := #[.int (-124)], vm := .none },
  { cls := 13, slots := #[.int (-123)], vm := .none },
  { cls := 13, slots := #[.int (-122)], vm := .none },
  { cls := 13, slots := #[.int (-121)], vm := .none },
  { cls := 13, slots := #[.int (-120)], vm := .none },
  { cls := 13, slots := #[.int (-119)], vm := .none },
  { cls := 13, slots := #[.int (-118)], vm := .none },
  { cls := 13, slots := #[.int (-117)], vm := .none },
  { cls := 13, slots := #[.int (-116)], vm := .none },
  { cls := 13, slots := #[.int (-115)], vm := .none },
  { cls := 13, slots := #[.int (-114)], vm := .none },
  { cls := 13, slots := #[.int (-113)], vm := .none },
  { cls := 13, slots := #[.int (-112)], vm := .none },
  { cls := 13, slots := #[.int (-111)], vm := .none },
  { cls := 13, slots := #[.int (-110)], vm := .none },
  { cls := 13, slots := #[.int (-109)], vm := .none },
  { cls := 13, slots := #[.int (-108)], vm := .none },
  { cls := 13, slots := #[.int (-107)], vm := .none },
  { cls := 13, slots := #[.int (-106)], vm := .none },
  { cls := 13, slots := #[.int (-105)], vm := .none },
  { cls := 13, slots := #[.int (-104)], vm := .none },
  { cls := 13, slots := #[.int (-103)], vm := .none },
  { cls := 13, slots := #[.int (-102)], vm := .none },
  { cls := 13, slots := #[.int (-101)], vm := .none },
  { cls := 13, slots := #[.int (-100)], vm := .none },
  { cls := 13, slots := #[.int (-99)], vm := .none },
  { cls := 13, slots := #[.int (-98)], vm := .none },
  { cls := 13, slots := #[.int (-97)], vm := .none },
  { cls := 13, slots := #[.int (-96)], vm := .none },
  { cls := 13, slots := #[.int (-95)], vm := .none },
  { cls := 13, slots := #[.int (-94)], vm := .none },
  { cls := 13, slots := #[.int (-93)], vm := .none },
  { cls := 13, slots := #[.int (-92)], vm := .none },
  { cls := 13, slots := #[.int (-91)], vm := .none },
  { cls := 13, slots := #[.int (-90)], vm := .none },
  { cls := 13, slots := #[.int (-89)], vm := .none },
  { cls := 13, slots := #[.int (-88)], vm := .none },
  { cls := 13, slots := #[.int (-87)], vm := .none },
  { cls := 13, slots := #[.int (-86)], vm := .none },
  { cls := 13, slots := #[.int (-85)], vm := .none },
  { cls := 13, slots := #[.int (-84)], vm := .none },
  { cls := 13, slots := #[.int (-83)], vm := .none },
  { cls := 13, slots := #[.int (-82)], vm := .none },
  { cls := 13, slots := #[.int (-81)], vm := .none },
  { cls := 13, slots := #[.int (-80)], vm := .none },
  { cls := 13, slots := #[.int (-79)], vm := .none },
  { cls := 13, slots := #[.int (-78)], vm := .none },
  { cls := 13, slots := #[.int (-77)], vm := .none },
  { cls := 13, slots := #[.int (-76)], vm := .none },
  { cls := 13, slots := #[.int (-75)], vm := .none },
  { cls := 13, slots := #[.int (-74)], vm := .none },
  { cls := 13, slots := #[.int (-73)], vm := .none },
  { cls := 13, slots := #[.int (-72)], vm := .none },
  { cls := 13, slots := #[.int (-71)], vm := .none },
  { cls := 13, slots := #[.int (-70)], vm := .none },
  { cls := 13, slots := #[.int (-69)], vm := .none },
  { cls := 13, slots := #[.int (-68)], vm := .none },
  { cls := 13, slots := #[.int (-67)], vm := .none },
  { cls := 13, slots := #[.int (-66)], vm := .none },
  { cls := 13, slots := #[.int (-65)], vm := .none },
  { cls := 13, slots := #[.int (-64)], vm := .none },
  { cls := 13, slots := #[.int (-63)], vm := .none },
  { cls := 13, slots := #[.int (-62)], vm := .none },
  { cls := 13, slots := #[.int (-61)], vm := .none },
  { cls := 13, slots := #[.int (-60)], vm := .none },
  { cls := 13, slots := #[.int (-59)], vm := .none },
  { cls := 13, slots := #[.int (-58)], vm := .none },
  { cls := 13, slots := #[.int (-57)], vm := .none },
  { cls := 13, slots := #[.int (-56)], vm := .none },
  { cls := 13, slots := #[.int (-55)], vm := .none },
  { cls := 13, slots := #[.int (-54)], vm := .none },
  { cls := 13, slots := #[.int (-53)], vm := .none },
  { cls := 13, slots := #[.int (-52)], vm := .none },
  { cls := 13, slots := #[.int (-51)], vm := .none },
  { cls := 13, slots := #[.int (-50)], vm := .none },
  { cls := 13, slots := #[.int (-49)], vm := .none },
  { cls := 13, slots := #[.int (-48)], vm := .none },
  { cls := 13, slots := #[.int (-47)], vm := .none },
  { cls := 13, slots := #[.int (-46)], vm := .none },
  { cls := 13, slots := #[.int (-45)], vm := .none },
  { cls := 13, slots := #[.int (-44)], vm := .none },
  { cls := 13, slots := #[.int (-43)], vm := .none },
  { cls := 13, slots := #[.int (-42)], vm := .none },
  { cls := 13, slots := #[.int (-41)], vm := .none },
  { cls := 13, slots := #[.int (-40)], vm := .none },
  { cls := 13, slots := #[.int (-39)], vm := .none },
  { cls := 13, slots := #[.int (-38)], vm := .none },
  { cls := 13, slots := #[.int (-37)], vm := .none },
  { cls := 13, slots := #[.int (-36)], vm := .none },
  { cls := 13, slots := #[.int (-35)], vm := .none },
  { cls := 13, slots := #[.int (-34)], vm := .none },
  { cls := 13, slots := #[.int (-33)], vm := .none },
  { cls := 13, slots := #[.int (-32)], vm := .none },
  { cls := 13, slots := #[.int (-31)], vm := .none },
  { cls := 13, slots := #[.int (-30)], vm := .none },
  { cls := 13, slots := #[.int (-29)], vm := .none },
  { cls := 13, slots := #[.int (-28)], vm := .none },
  { cls := 13, slots := #[.int (-27)], vm := .none },
  { cls := 13, slots := #[.int (-26)], vm := .none },
  { cls := 13, slots := #[.int (-25)], vm := .none },
  { cls := 13, slots := #[.int (-24)], vm := .none },
  { cls := 13, slots := #[.int (-23)], vm := .none },
  { cls := 13, slots := #[.int (-22)], vm := .none },
  { cls := 13, slots := #[.int (-21)], vm := .none },
  { cls := 13, slots := #[.int (-20)], vm := .none },
  { cls := 13, slots := #[.int (-19)], vm := .none },
  { cls := 13, slots := #[.int (-18)], vm := .none },
  { cls := 13, slots := #[.int (-17)], vm := .none },
  { cls := 13, slots := #[.int (-16)], vm := .none },
  { cls := 13, slots := #[.int (-15)], vm := .none },
  { cls := 13, slots := #[.int (-14)], vm := .none },
  { cls := 13, slots := #[.int (-13)], vm := .none },
  { cls := 13, slots := #[.int (-12)], vm := .none },
  { cls := 13, slots := #[.int (-11)], vm := .none },
  { cls := 13, slots := #[.int (-10)], vm := .none },
  { cls := 13, slots := #[.int (-9)], vm := .none },
  { cls := 13, slots := #[.int (-8)], vm := .none },
  { cls := 13, slots := #[.int (-7)], vm := .none },
  { cls := 13, slots := #[.int (-6)], vm := .none },
  { cls := 13, slots := #[.int (-5)], vm := .none },
  { cls := 13, slots := #[.int (-4)], vm := .none },
  { cls := 13, slots := #[.int (-3)], vm := .none },
  { cls := 13, slots := #[.int (-2)], vm := .none },
  { cls := 13, slots := #[.int (-1)], vm := .none },
  { cls := 13, slots := #[.int (0)], vm := .none },
  { cls := 13, slots := #[.int (1)], vm := .none },
  { cls := 13, slots := #[.int (2)], vm := .none },
  { cls := 13, slots := #[.int (3)], vm := .none },
  { cls := 13, slots := #[.int (4)], vm := .none },
  { cls := 13, slots := #[.int (5)], vm := .none },
  { cls := 13, slots := #[.int (6)], vm := .none },
  { cls := 13, slots := #[.int (7)], vm := .none },
  { cls := 13, slots := #[.int (8)], vm := .none },
  { cls := 13, slots := #[.int (9)], vm := .none },
  { cls := 13, slots := #[.int (10)], vm := .none },
  { cls := 13, slots := #[.int (11)], vm := .none },
  { cls := 13, slots := #[.int (12)], vm := .none },
  { cls := 13, slots := #[.int (13)], vm := .none },
  { cls := 13, slots := #[.int (14)], vm := .none },
  { cls := 13, slots := #[.int (15)], vm := .none },
  { cls := 13, slots := #[.int (16)], vm := .none },
  { cls := 13, slots := #[.int (17)], vm := .none },
  { cls := 13, slots := #[.int (18)], vm := .none },
  { cls := 13, slots := #[.int (19)], vm := .none },
  { cls := 13, slots := #[.int (20)], vm := .none },
  { cls := 13, slots := #[.int (21)], vm := .none },
  { cls := 13, slots := #[.int (22)], vm := .none },
  { cls := 13, slots := #[.int (23)], vm := .none },
  { cls := 13, slots := #[.int (24)], vm := .none },
  { cls := 13, slots := #[.int (25)], vm := .none },
  { cls := 13, slots := #[.int (26)], vm := .none },
  { cls := 13, slots := #[.int (27)], vm := .none },
  { cls := 13, slots := #[.int (28)], vm := .none },
  { cls := 13, slots := #[.int (29)], vm := .none },
  { cls := 13, slots := #[.int (30)], vm := .none },
  { cls := 13, slots := #[.int (31)], vm := .none },
  { cls := 13, slots := #[.int (32)], vm := .none },
  { cls := 13, slots := #[.int (33)], vm := .none },
  { cls := 13, slots := #[.int (34)], vm := .none },
  { cls := 13, slots := #[.int (35)], vm := .none },
  { cls := 13, slots := #[.int (36)], vm := .none },
  { cls := 13, slots := #[.int (37)], vm := .none },
  { cls := 13, slots := #[.int (38)], vm := .none },
  { cls := 13, slots := #[.int (39)], vm := .none },
  { cls := 13, slots := #[.int (40)], vm := .none },
  { cls := 13, slots := #[.int (41)], vm := .none },
  { cls := 13, slots := #[.int (42)], vm := .none },
  { cls := 13, slots := #[.int (43)], vm := .none },
  { cls := 13, slots := #[.int (44)], vm := .none },
  { cls := 13, slots := #[.int (45)], vm := .none },
  { cls := 13, slots := #[.int (46)], vm := .none },
  { cls := 13, slots := #[.int (47)], vm := .none },
  { cls := 13, slots := #[.int (48)], vm := .none },
  { cls := 13, slots := #[.int (49)], vm := .none },
  { cls := 13, slots := #[.int (50)], vm := .none },
  { cls := 13, slots := #[.int (51)], vm := .none },
  { cls := 13, slots := #[.int (52)], vm := .none },
  { cls := 13, slots := #[.int (53)], vm := .none },
  { cls := 13, slots := #[.int (54)], vm := .none },
  { cls := 13, slots := #[.int (55)], vm := .none },
  { cls := 13, slots := #[.int (56)], vm := .none },
  { cls := 13, slots := #[.int (57)], vm := .none },
  { cls := 13, slots := #[.int (58)], vm := .none },
  { cls := 13, slots := #[.int (59)], vm := .none },
  { cls := 13, slots := #[.int (60)], vm := .none },
  { cls := 13, slots := #[.int (61)], vm := .none },
  { cls := 13, slots := #[.int (62)], vm := .none },
  { cls := 13, slots := #[.int (63)], vm := .none },
  { cls := 13, slots := #[.int (64)], vm := .none },
  { cls := 13, slots := #[.int (65)], vm := .none },
  { cls := 13, slots := #[.int (66)], vm := .none },
  { cls := 13, slots := #[.int (67)], vm := .none },
  { cls := 13, slots := #[.int (68)], vm := .none },
  { cls := 13, slots := #[.int (69)], vm := .none },
  { cls := 13, slots := #[.int (70)], vm := .none },
  { cls := 13, slots := #[.int (71)], vm := .none },
  { cls := 13, slots := #[.int (72)], vm := .none },
  { cls := 13, slots := #[.int (73)], vm := .none },
  { cls := 13, slots := #[.int (74)], vm := .none },
  { cls := 13, slots := #[.int (75)], vm := .none },
  { cls := 13, slots := #[.int (76)], vm := .none },
  { cls := 13, slots := #[.int (77)], vm := .none },
  { cls := 13, slots := #[.int (78)], vm := .none },
  { cls := 13, slots := #[.int (79)], vm := .none },
  { cls := 13, slots := #[.int (80)], vm := .none },
  { cls := 13, slots := #[.int (81)], vm := .none },
  { cls := 13, slots := #[.int (82)], vm := .none },
  { cls := 13, slots := #[.int (83)], vm := .none },
  { cls := 13, slots := #[.int (84)], vm := .none },
  { cls := 13, slots := #[.int (85)], vm := .none },
  { cls := 13, slots := #[.int (86)], vm := .none },
  { cls := 13, slots := #[.int (87)], vm := .none },
  { cls := 13, slots := #[.int (88)], vm := .none },
  { cls := 13, slots := #[.int (89)], vm := .none },
  { cls := 13, slots := #[.int (90)], vm := .none },
  { cls := 13, slots := #[.int (91)], vm := .none },
  { cls := 13, slots := #[.int (92)], vm := .none },
  { cls := 13, slots := #[.int (93)], vm := .none },
  { cls := 13, slots := #[.int (94)], vm := .none },
  { cls := 13, slots := #[.int (95)], vm := .none },
  { cls := 13, slots := #[.int (96)], vm := .none },
  { cls := 13, slots := #[.int (97)], vm := .none },
  { cls := 13, slots := #[.int (98)], vm := .none },
  { cls := 13, slots := #[.int (99)], vm := .none },
  { cls := 13, slots := #[.int (100)], vm := .none },
  { cls := 13, slots := #[.int (101)], vm := .none },
  { cls := 13, slots := #[.int (102)], vm := .none },
  { cls := 13, slots := #[.int (103)], vm := .none },
  { cls := 13, slots := #[.int (104)], vm := .none },
  { cls := 13, slots := #[.int (105)], vm := .none },
  { cls := 13, slots := #[.int (106)], vm := .none },
  { cls := 13, slots := #[.int (107)], vm := .none },
  { cls := 13, slots := #[.int (108)], vm := .none },
  { cls := 13, slots := #[.int (109)], vm := .none },
  { cls := 13, slots := #[.int (110)], vm := .none },
  { cls := 13, slots := #[.int (111)], vm := .none },
  { cls := 13, slots := #[.int (112)], vm := .none },
  { cls := 13, slots := #[.int (113)], vm := .none },
  { cls := 13, slots := #[.int (114)], vm := .none },
  { cls := 13, slots := #[.int (115)], vm := .none },
  { cls := 13, slots := #[.int (116)], vm := .none },
  { cls := 13, slots := #[.int (117)], vm := .none },
  { cls := 13, slots := #[.int (118)], vm := .none },
  { cls := 13, slots := #[.int (119)], vm := .none },
  { cls := 13, slots := #[.int (120)], vm := .none },
  { cls := 13, slots := #[.int (121)], vm := .none },
  { cls := 13, slots := #[.int (122)], vm := .none },
  { cls := 13, slots := #[.int (123)], vm := .none },
  { cls := 13, slots := #[.int (124)], vm := .none },
  { cls := 13, slots := #[.int (125)], vm := .none },
  { cls := 13, slots := #[.int (126)], vm := .none },
  { cls := 13, slots := #[.int (127)], vm := .none },
  { cls := 7, slots := #[.null, .int 0, .int 0], vm := .none },
  { cls := 7, slots := #[.null, .int 1, .int 0], vm := .none },
  { cls := 7, slots := #[.null, .int 2, .int 0], vm := .none },
  { cls := 7, slots := #[.null, .int 3, .int 0], vm := .none },
  { cls := 7, slots := #[.null, .int 4, .int 0], vm := .none },
  { cls := 7, slots := #[.null, .int 5, .int 0], vm := .none },
  { cls := 7, slots := #[.null, .int 6, .int 0], vm := .none }]
def classes : Array Class := #[k0, k1, k2, k3, k4, k5, k6, k7, k8, k9, k10, k11, k12, k13, k14, k15, k16, k17, k18, k19, k20]
def interned : List (Array UInt16 × Addr) := []
def slotsUsed : Nat := 546
def theMethod : MethodId := ⟨1, 2⟩
def args0 : Array Value := #[.int 5, .long 6, .int 7, .long 8, .int 9, .int 2]
def aboutOver (below : List Frame) : State where
  vm := { classes := classes, interned := interned.toArray }
  heap := heap
  slotsUsed := slotsUsed
  threads := #[{ frames := .invoking theMethod args0 :: below }]
def below0 : List Frame := [.native { method := ⟨0, 0⟩, args := #[] }]
def about1 : State := aboutOver below0
def p0 : Program := .bare "" "" ""
def e0 : Env := launch0.env 0 0 0
theorem w_frames : about1.frames = Frame.invoking theMethod args0 :: below0 := rfl
set_option maxRecDepth 65536 in
theorem w_args : argsFit about1.vm theMethod args0 = true := by decide +kernel
set_option maxRecDepth 65536 in
theorem w_heap : heapFits about1 = true := by decide +kernel
set_option maxRecDepth 65536 in
theorem w_runnable : about1.curStatus? = some .runnable := by decide +kernel
set_option maxRecDepth 65536 in
theorem w_alone : about1.alone = true := by decide +kernel
set_option maxRecDepth 65536 in
theorem w_named : about1.methodNamed? x = some theMethod := by decide +kernel
set_option maxRecDepth 65536 in
theorem w_hears : about1.hears theMethod below0 = true := by decide +kernel
set_option maxRecDepth 65536 in
theorem w_ripe : about1.ripe theMethod args0 below0 = true := by decide +kernel
theorem w_running : about1.status = .running := rfl
set_option maxRecDepth 65536 in
theorem w_room : about1.hasRoom e0.platform room_1 = true :=
  launch0.hasRoom_least _ room_1 (by decide +kernel) (by decide +kernel) (by decide +kernel) (by decide +kernel) (by decide +kernel) (by decide +kernel)
theorem allAtoms_all (ts : List Jvm.Cond) (a : Array Jvm.Value) (st : Jvm.State) : (allAtoms ts).before a st = ts.all (fun c => c.before a st) := by
  induction ts with
  | nil => rfl
  | cons c t ih =>
    show (Jvm.Cond.and c (allAtoms t)).before a st = _
    rw [Jvm.Cond.before_and, ih, List.all_cons]
def words1 : List Jvm.Cond := Jvm.Cond.code x code maxLocals ret :: tables_1
/-- a 'code' word, met by the world's own term for the bytes: nothing is compared byte by byte -/
theorem code_word {y : MethodName} {bytes : ByteArray} {mx : Nat} {rt : Option FieldType} {a : Array Value} {s : State} {m : MethodId} {meth : Method} {c : Code} (h1 : s.methodNamed? y = some m) (h2 : s.vm.method? m = some meth) (h3 : meth.code = some c) (h4 : c.code = bytes)
    (h5 : (c.maxLocals == mx && c.exceptionTable.isEmpty && decide (c.maxStack ≤ mostOperands) && decide (meth.sig.returnType = rt) && !meth.locks && decide (parseMethodDescriptor y.desc = some meth.sig)) = true) : (Jvm.Cond.code y bytes mx rt).before a s = true := by
  simp only [Bool.and_eq_true, beq_iff_eq, Bool.not_eq_true', decide_eq_true_eq] at h5
  obtain ⟨⟨⟨⟨⟨g1, g2⟩, g3⟩, g4⟩, g5⟩, g6⟩ := h5
  simp [Cond.before, Cond.holds, Cond.value, h1, h2, h3, h4, g1, g2, g3, g4, g5, g6]
def isCode : Jvm.Cond → Bool
  | .code _ _ _ _ => true
  | _ => false
theorem all_split {L : List Jvm.Cond} {P : Jvm.Cond → Bool} (h1 : L.all (fun c => isCode c || P c) = true) (h2 : ∀ c ∈ L.filter isCode, P c = true) : L.all P = true := by
  refine List.all_eq_true.mpr fun c hc => ?_
  have h := List.all_eq_true.mp h1 c hc
  rcases Bool.eq_false_or_eq_true (isCode c) with hi | hi
  · exact h2 c (List.mem_filter.mpr ⟨hc, hi⟩)
  · simpa [hi] using h
set_option maxRecDepth 65536 in
theorem w_c0 : (Jvm.Cond.code x code maxLocals ret).before args0 about1 = true := code_word (m := ⟨1, 2⟩) (meth := k1m2) (c := k1c2) (by decide +kernel) rfl rfl rfl (by decide +kernel)
set_option maxRecDepth 65536 in
theorem w_c1 : (Jvm.Cond.code ({ cls := "com/example/aswan/aswan/token/TokenResultEqualsPinLaw", name := "st", desc := "(I)Lcom/example/aswan/aswan/token/TokenStatus;" } : Jvm.MethodName) method_2_code (1 : Nat) (Option.some (Jvm.ClassFile.FieldType.object "com/example/aswan/aswan/token/TokenStatus"))).before args0 about1 = true := code_word (m := ⟨1, 1⟩) (meth := k1m1) (c := k1c1) (by decide +kernel) rfl rfl rfl (by decide +kernel)
set_option maxRecDepth 65536 in
theorem w_c2 : (Jvm.Cond.code ({ cls := "com/example/aswan/aswan/token/TokenResult", name := "<init>", desc := "(Lcom/example/aswan/aswan/token/TokenStatus;JI)V" } : Jvm.MethodName) prog_30_method_1_code (5 : Nat) (Option.none : Option Jvm.ClassFile.FieldType)).before args0 about1 = true := code_word (m := ⟨2, 0⟩) (meth := k2m0) (c := k2c0) (by decide +kernel) rfl rfl rfl (by decide +kernel)
set_option maxRecDepth 65536 in
theorem w_c3 : (Jvm.Cond.code ({ cls := "java/lang/Object", name := "<init>", desc := "()V" } : Jvm.MethodName) object_method_1_code (1 : Nat) (Option.none : Option Jvm.ClassFile.FieldType)).before args0 about1 = true := code_word (m := ⟨0, 0⟩) (meth := k0m0) (c := k0c0) (by decide +kernel) rfl rfl rfl (by decide +kernel)
set_option maxRecDepth 65536 in
theorem w_c4 : (Jvm.Cond.code ({ cls := "java/util/Objects", name := "requireNonNull", desc := "(Ljava/lang/Object;Ljava/lang/String;)Ljava/lang/Object;" } : Jvm.MethodName) jdk_31_method_11_code (2 : Nat) (Option.some (Jvm.ClassFile.FieldType.object "java/lang/Object"))).before args0 about1 = true := code_word (m := ⟨11, 1⟩) (meth := k11m1) (c := k11c1) (by decide +kernel) rfl rfl rfl (by decide +kernel)
set_option maxRecDepth 65536 in
theorem w_c5 : (Jvm.Cond.code ({ cls := "com/example/aswan/aswan/token/TokenResult", name := "equals", desc := "(Ljava/lang/Object;)Z" } : Jvm.MethodName) prog_30_method_5_code (3 : Nat) (Option.some Jvm.ClassFile.FieldType.boolean)).before args0 about1 = true := code_word (m := ⟨2, 1⟩) (meth := k2m1) (c := k2c1) (by decide +kernel) rfl rfl rfl (by decide +kernel)
set_option maxRecDepth 65536 in
theorem w_c6 : (Jvm.Cond.code ({ cls := "java/lang/Integer", name := "valueOf", desc := "(I)Ljava/lang/Integer;" } : Jvm.MethodName) jdk_33_method_22_code (1 : Nat) (Option.some (Jvm.ClassFile.FieldType.object "java/lang/Integer"))).before args0 about1 = true := code_word (m := ⟨13, 0⟩) (meth := k13m0) (c := k13c0) (by decide +kernel) rfl rfl rfl (by decide +kernel)
set_option maxRecDepth 65536 in
theorem w_c7 : (Jvm.Cond.code ({ cls := "java/lang/Integer", name := "<init>", desc := "(I)V" } : Jvm.MethodName) jdk_33_method_23_code (2 : Nat) (Option.none : Option Jvm.ClassFile.FieldType)).before args0 about1 = true := code_word (m := ⟨13, 1⟩) (meth := k13m1) (c := k13c1) (by decide +kernel) rfl rfl rfl (by decide +kernel)
set_option maxRecDepth 65536 in
theorem w_c8 : (Jvm.Cond.code ({ cls := "java/lang/Number", name := "<init>", desc := "()V" } : Jvm.MethodName) jdk_18_method_1_code (1 : Nat) (Option.none : Option Jvm.ClassFile.FieldType)).before args0 about1 = true := code_word (m := ⟨12, 0⟩) (meth := k12m0) (c := k12c0) (by decide +kernel) rfl rfl rfl (by decide +kernel)
def codes1 : List Jvm.Cond := [Jvm.Cond.code x code maxLocals ret, Jvm.Cond.code ({ cls := "com/example/aswan/aswan/token/TokenResultEqualsPinLaw", name := "st", desc := "(I)Lcom/example/aswan/aswan/token/TokenStatus;" } : Jvm.MethodName) method_2_code (1 : Nat) (Option.some (Jvm.ClassFile.FieldType.object "com/example/aswan/aswan/token/TokenStatus")), Jvm.Cond.code ({ cls := "com/example/aswan/aswan/token/TokenResult", name := "<init>", desc := "(Lcom/example/aswan/aswan/token/TokenStatus;JI)V" } : Jvm.MethodName) prog_30_method_1_code (5 : Nat) (Option.none : Option Jvm.ClassFile.FieldType), Jvm.Cond.code ({ cls := "java/lang/Object", name := "<init>", desc := "()V" } : Jvm.MethodName) object_method_1_code (1 : Nat) (Option.none : Option Jvm.ClassFile.FieldType), Jvm.Cond.code ({ cls := "java/util/Objects", name := "requireNonNull", desc := "(Ljava/lang/Object;Ljava/lang/String;)Ljava/lang/Object;" } : Jvm.MethodName) jdk_31_method_11_code (2 : Nat) (Option.some (Jvm.ClassFile.FieldType.object "java/lang/Object")), Jvm.Cond.code ({ cls := "com/example/aswan/aswan/token/TokenResult", name := "equals", desc := "(Ljava/lang/Object;)Z" } : Jvm.MethodName) prog_30_method_5_code (3 : Nat) (Option.some Jvm.ClassFile.FieldType.boolean), Jvm.Cond.code ({ cls := "java/lang/Integer", name := "valueOf", desc := "(I)Ljava/lang/Integer;" } : Jvm.MethodName) jdk_33_method_22_code (1 : Nat) (Option.some (Jvm.ClassFile.FieldType.object "java/lang/Integer")), Jvm.Cond.code ({ cls := "java/lang/Integer", name := "<init>", desc := "(I)V" } : Jvm.MethodName) jdk_33_method_23_code (2 : Nat) (Option.none : Option Jvm.ClassFile.FieldType), Jvm.Cond.code ({ cls := "java/lang/Number", name := "<init>", desc := "()V" } : Jvm.MethodName) jdk_18_method_1_code (1 : Nat) (Option.none : Option Jvm.ClassFile.FieldType)]
set_option maxRecDepth 65536 in
theorem codes_eq : words1.filter isCode = codes1 := rfl
theorem w_codes : ∀ c ∈ words1.filter isCode, c.before args0 about1 = true := by
  rw [codes_eq]
  intro c hc
  simp only [codes1, List.mem_cons, List.not_mem_nil, or_false] at hc
  rcases hc with rfl | rfl | rfl | rfl | rfl | rfl | rfl | rfl | rfl
  · exact w_c0
  · exact w_c1
  · exact w_c2
  · exact w_c3
  · exact w_c4
  · exact w_c5
  · exact w_c6
  · exact w_c7
  · exact w_c8
set_option maxRecDepth 65536 in
theorem w_t1 : (words1.take 24).all (fun c => isCode c || c.before args0 about1) = true := by decide +kernel
set_option maxRecDepth 65536 in
theorem w_t2 : ((words1.drop 24).take 24).all (fun c => isCode c || c.before args0 about1) = true := by decide +kernel
set_option maxRecDepth 65536 in
theorem w_t3 : (((words1.drop 24).drop 24).take 24).all (fun c => isCode c || c.before args0 about1) = true := by decide +kernel
set_option maxRecDepth 65536 in
theorem w_t4 : (((words1.drop 24).drop 24).drop 24).all (fun c => isCode c || c.before args0 about1) = true := by decide +kernel
theorem w_tables : (allAtoms (Jvm.Cond.code x code maxLocals ret :: tables_1)).before args0 about1 = true := by
  rw [allAtoms_all]
  show words1.all (fun c => c.before args0 about1) = true
  refine all_split ?_ w_codes
  rw [← List.take_append_drop 24 words1, List.all_append, w_t1, ← List.take_append_drop 24 (words1.drop 24), List.all_append, w_t2, ← List.take_append_drop 24 ((words1.drop 24).drop 24), List.all_append, w_t3, w_t4]
  rfl
set_option maxRecDepth 65536 in
theorem w_rest : rest_1_c.before args0 about1 = true := by decide +kernel
set_option maxRecDepth 65536 in
theorem w_case : (Jvm.Cond.and given_1 narrow_1).before args0 about1 = true := by decide +kernel
theorem w_applies : (headSpec (Jvm.Cond.code x code maxLocals ret :: tables_1) room_1).applies x e0.platform about1 = true :=
  (Spec.applies_iff w_frames).mpr ⟨w_running, w_runnable, w_alone, w_named, w_hears, w_ripe, w_room, w_tables⟩
theorem atStart : AtStart classFile x code maxLocals ret World_1 tables_1 room_1 Calls_1 rest_1 Pre_1 launch0 p0 e0 about1 theMethod args0 below0 :=
  ⟨lists_1, trivial, launch0.admits_env _ _ _, launch0.least_env, fairChoices_fair.cas, fairChoices_fair.clock, w_frames, w_args, w_heap, w_applies, trivial, w_rest, w_case⟩
end start1
theorem witness_1 : WitnessClaimed_1 := ⟨start1.p0, start1.e0, start1.about1, start1.theMethod, start1.args0, start1.below0, start1.atStart⟩
end Jvm.Pilot.@@N@@
