import JvmDerived
import JvmDerived.Pilot.@@N@@Statement
import JvmDerived.Pilot.@@N@@Code
set_option linter.unusedVariables false
set_option linter.unusedSimpArgs false
@@BLOCK:NumsL.lean.txt@@
namespace Jvm.Pilot.@@N@@
open Jvm Jvm.ClassFile Sem Op Lib Jvm.Free Jvm.Stand Jvm.LawKit Jvm.RoadKit Bundle Jvm.Pilot.@@N@@.Jvm.D
abbrev own_S (p : Program) (e : Env) (below : List Frame) (T : State) (g : JFrame) (t : State) : Prop := Steps p.tables e below (T.setTop g) t

theorem own_shr2 (x : Int64) : (x >>> ((2 : Int32) &&& 0x3f).toInt64).toInt = x.toInt / 2 ^ 2 := Jvm.Kit.i64_shr x _ (k := 2) (by decide)
theorem own_m15 (x : Int64) : ((x &&& (15 : Int64)) - (8 : Int64)).toInt = x.toInt % 16 - 8 := by
  have e : (x &&& (15 : Int64)).toInt = x.toInt % 2 ^ 4 := Jvm.Kit.i64_mask x 15 (k := 4) (by decide) (by decide)
  have c8 : (8 : Int64).toInt = 8 := by decide
  rw [Jvm.Kit.i64_sub (by omega) (by omega)]
  omega
theorem own_bef (q0 bo bef : Int64) (c : Prop) [Decidable c] (h0 : -2 ^ 61 ≤ bo.toInt ∧ bo.toInt < 2 ^ 61) (h : bef = (if c then (q0 >>> ((2 : Int32) &&& 0x3f).toInt64) else (bo + ((q0 &&& (15 : Int64)) - (8 : Int64))))) : -2 ^ 61 - 8 ≤ bef.toInt ∧ bef.toInt < 2 ^ 61 + 8 := by
  have r1 := q0.toInt_lt
  have r2 := q0.le_toInt
  by_cases q : c
  · rw [if_pos q] at h
    rw [h, own_shr2]
    omega
  · rw [if_neg q] at h
    have e := own_m15 q0
    rw [h, Jvm.Kit.i64_add (by omega) (by omega)]
    omega
theorem own_chg (q1 bo bef ch : Int64) (c : Prop) [Decidable c] (h0 : -2 ^ 61 ≤ bo.toInt ∧ bo.toInt < 2 ^ 61) (h1 : -2 ^ 61 - 8 ≤ bef.toInt ∧ bef.toInt < 2 ^ 61 + 8) (h : ch = (if c then (q1 >>> ((2 : Int32) &&& 0x3f).toInt64) else ((bo - bef) + ((q1 &&& (15 : Int64)) - (8 : Int64))))) : -2 ^ 62 - 32 ≤ ch.toInt ∧ ch.toInt < 2 ^ 62 + 32 := by
  have r1 := q1.toInt_lt
  have r2 := q1.le_toInt
  by_cases q : c
  · rw [if_pos q] at h
    rw [h, own_shr2]
    omega
  · rw [if_neg q] at h
    have e := own_m15 q1
    have e2 : (bo - bef).toInt = bo.toInt - bef.toInt := Jvm.Kit.i64_sub (by omega) (by omega)
    rw [h, Jvm.Kit.i64_add (by omega) (by omega)]
    omega
theorem own_law (bo bef ch : Int64) (h0 : -2 ^ 61 ≤ bo.toInt ∧ bo.toInt < 2 ^ 61) (h1 : -2 ^ 61 - 8 ≤ bef.toInt ∧ bef.toInt < 2 ^ 61 + 8) (h2 : -2 ^ 62 - 32 ≤ ch.toInt ∧ ch.toInt < 2 ^ 62 + 32) :
    (if bef < bo then (0 : Int32) else (if (bef + ch) < bo then (1 : Int32) else (0 : Int32))) = (if ch < (0 : Int64) then (if bef < bo then (0 : Int32) else (if (bef - bo) < (-ch) then (1 : Int32) else (0 : Int32))) else (0 : Int32)) := by
  have c0 : (0 : Int64).toInt = 0 := by decide
  have e1 : (bef + ch).toInt = bef.toInt + ch.toInt := Jvm.Kit.i64_add (by omega) (by omega)
  have e2 : (bef - bo).toInt = bef.toInt - bo.toInt := Jvm.Kit.i64_sub (by omega) (by omega)
  have e3 : (-ch).toInt = -ch.toInt := Jvm.Kit.i64_neg (by omega)
  simp only [Int64.lt_iff_toInt_lt, e1, e2, e3, c0]
  repeat' split
  all_goals first | rfl | (exfalso; omega)
theorem d1_0 : decode prog_54_method_12_code 0 = .ok (.lload_n 0, 1) := by decide +kernel
theorem d1_1 : decode prog_54_method_12_code 1 = .ok (.lload 4, 2) := by decide +kernel
theorem d1_3 : decode prog_54_method_12_code 3 = .ok (.lcmp, 1) := by decide +kernel
theorem d1_4 : decode prog_54_method_12_code 4 = .ok (.ifCond .lt 16, 3) := by decide +kernel
theorem d1_7 : decode prog_54_method_12_code 7 = .ok (.lload_n 0, 1) := by decide +kernel
theorem d1_8 : decode prog_54_method_12_code 8 = .ok (.lload_n 2, 1) := by decide +kernel
theorem d1_9 : decode prog_54_method_12_code 9 = .ok (.ladd, 1) := by decide +kernel
theorem d1_10 : decode prog_54_method_12_code 10 = .ok (.lload 4, 2) := by decide +kernel
theorem d1_12 : decode prog_54_method_12_code 12 = .ok (.lcmp, 1) := by decide +kernel
theorem d1_13 : decode prog_54_method_12_code 13 = .ok (.ifCond .ge 7, 3) := by decide +kernel
theorem d1_16 : decode prog_54_method_12_code 16 = .ok (.iconst 1, 1) := by decide +kernel
theorem d1_17 : decode prog_54_method_12_code 17 = .ok (.goto 4, 3) := by decide +kernel
theorem d1_20 : decode prog_54_method_12_code 20 = .ok (.iconst 0, 1) := by decide +kernel
theorem d1_21 : decode prog_54_method_12_code 21 = .ok (.ireturn, 1) := by decide +kernel
theorem pn_1 : plainName "com/example/convene/convene/server/Budget" = true := by first | (simp [plainName, overriddenIn]; done) | decide +kernel
theorem ef_1 (m : MethodId) (q0 : Int64) (q1 : Int64) (q2 : Int64) : entryFrame m #[(.long q0), (.long q1), (.long q2)] 6 = mkF m 0 #[.val (.long q0), .second, .val (.long q1), .second, .val (.long q2), .second] [] := by first | (simp [entryFrame, mkF, argsToLocals, Value.category]; done) | rfl
def Q1 (Z : State) (q0 : Int64) (q1 : Int64) (q2 : Int64) (h0 : Heap) (n0 : Nat) (v : Option Value) (h : Heap) (L : List Loc) : Prop := v = some (.int (if q0 < q2 then (0 : Int32) else (if (q0 + q1) < q2 then (1 : Int32) else (0 : Int32)))) ∧ Fr n0 L ∧ h = h0
set_option maxRecDepth 65536 in
set_option maxHeartbeats 40000000 in
theorem rm1 (l : Launch) (Z : State) (a0 : Array Value) (hw : ∀ d ∈ tables_1, d.before a0 Z = true) (ws : List Jvm.Cond) (q0 : Int64) (q1 : Int64) (q2 : Int64) (h0 : Heap) (n0 : Nat) (Z0 : n0 ≤ h0.size) :
    MetFree l (⟨"com/example/convene/convene/server/Budget", "crossesUnder", "(JJJ)Z"⟩ : MethodName) (head1 (Jvm.Cond.code (⟨"com/example/convene/convene/server/Budget", "crossesUnder", "(JJJ)Z"⟩ : MethodName) prog_54_method_12_code 6 (some .boolean) :: ws) ({ frames := 0, cells := 0, slots := 0, locals := 0 } : Room)) (fun a U => a = #[(.long q0), (.long q1), (.long q2)] ∧ Z.Warmed39 U.vm ∧ U.heap = h0) (fun _ _ _ _ _ => True) (fun _ U o U' => ∃ v L, o = .returned v ∧ Q1 Z q0 q1 q2 h0 n0 v U'.heap L ∧ FrameEnd U o U' L ({ frames := 0, cells := 0, slots := 0, locals := 0 } : Room).cells ({ frames := 0, cells := 0, slots := 0, locals := 0 } : Room).slots) := by
  refine MetFree.of_bodySF (plainFor_of_name pn_1) hisR ?_
  intro p e s m args below meth c s₁ Bd hml0 hP hK
  obtain ⟨rfl, hZ, hh⟩ := hP
  have hx := Bd.exec
  have hby := Bd.bytes
  have hml : c.maxLocals = 6 := hml0
  have hown : s.vm.findClass "com/example/convene/convene/server/Budget" = some m.cls := findClass_of_methodNamed Bd.named
  have hnm := (name_of_methodNamed Bd.named Bd.method).1
  have X0 : Stand p l e ({ frames := 0, cells := 0, slots := 0, locals := 0 } : Room) s m #[(.long q0), (.long q1), (.long q2)] below meth c s₁ [] 0 0 := Stand.of_body Bd
  have e0 : s₁.heap = h0 := by rw [← hh, Bd.state]; rfl
  have N0 := Fr.nil n0
  have K0 : ∀ t, Steps p.tables e below (s₁.setTop (mkF m 0 #[.val (.long q0), .second, .val (.long q1), .second, .val (.long q2), .second] [])) t → Steps p.tables e below (s₁.setTop (entryFrame m #[(.long q0), (.long q1), (.long q2)] 6)) t := fun t k => castTop (ef_1 m q0 q1 q2) k
  generalize s₁.setTop (entryFrame m #[(.long q0), (.long q1), (.long q2)] 6) = SE at K0 ⊢
  have K2 : ∀ t, own_S p e below s₁ (mkF m 4 #[.val (.long q0), .second, .val (.long q1), .second, .val (.long q2), .second] [(.int (XT.cmpL q0 q2))]) t → Steps p.tables e below SE t := by
    intro t k
    refine K0 _ ?_
    refine XS.lloadN X0.here hx rfl (hb hby d1_0) rfl ?_
    show own_S p e below s₁ (mkF m 1 #[.val (.long q0), .second, .val (.long q1), .second, .val (.long q2), .second] [(.long q0)]) _
    refine XS.lload X0.here hx rfl (hb hby d1_1) rfl ?_
    show own_S p e below s₁ (mkF m 3 #[.val (.long q0), .second, .val (.long q1), .second, .val (.long q2), .second] [(.long q2), (.long q0)]) _
    refine XT.lcmp X0.here hx rfl (hb hby d1_3) rfl ?_
    exact k
  by_cases c4_1 : q0 < q2
  · skip
    have K3 : ∀ t, own_S p e below s₁ (mkF m 21 #[.val (.long q0), .second, .val (.long q1), .second, .val (.long q2), .second] [(.int (0 : Int32))]) t → Steps p.tables e below SE t := by
      intro t k
      refine K2 _ ?_
      refine XS.ifYes X0.here hx rfl (pc0 := 4) (pc' := 20) rfl (hb hby d1_4) rfl (XT.ll_lt_t c4_1) (by decide) (by decide) ?_
      show own_S p e below s₁ (mkF m 20 #[.val (.long q0), .second, .val (.long q1), .second, .val (.long q2), .second] []) _
      refine XS.iconst X0.here hx rfl (hb hby d1_20) ?_
      exact k
    obtain ⟨fs, hr, hrun, hended, hW, hsame⟩ := X0.leave (v := some (.int (0 : Int32))) (fun h => by rw [Bd.returns] at h; cases h)
    refine ⟨_, _, K3 _ ?_, hrun, hended, _, _, rfl, ?_, ⟨_, rfl⟩, hW, hsame.mono (by decide) (by decide)⟩
    · exact retN X0 hx (t := .boolean) Bd.returns (by simp) (hb hby d1_21) hr
    · show Q1 Z q0 q1 q2 h0 n0 _ s₁.heap _
      rw [e0]
      exact ⟨(by simp only [if_pos c4_1]), N0, rfl⟩
  · skip
    have K5 : ∀ t, own_S p e below s₁ (mkF m 13 #[.val (.long q0), .second, .val (.long q1), .second, .val (.long q2), .second] [(.int (XT.cmpL (q0 + q1) q2))]) t → Steps p.tables e below SE t := by
      intro t k
      refine K2 _ ?_
      refine XS.ifNo X0.here hx rfl (hb hby d1_4) rfl (XT.ll_lt_f c4_1) ?_
      show own_S p e below s₁ (mkF m 7 #[.val (.long q0), .second, .val (.long q1), .second, .val (.long q2), .second] []) _
      refine XS.lloadN X0.here hx rfl (hb hby d1_7) rfl ?_
      show own_S p e below s₁ (mkF m 8 #[.val (.long q0), .second, .val (.long q1), .second, .val (.long q2), .second] [(.long q0)]) _
      refine XS.lloadN X0.here hx rfl (hb hby d1_8) rfl ?_
      show own_S p e below s₁ (mkF m 9 #[.val (.long q0), .second, .val (.long q1), .second, .val (.long q2), .second] [(.long q1), (.long q0)]) _
      refine XS.ladd X0.here hx rfl (hb hby d1_9) rfl ?_
      show own_S p e below s₁ (mkF m 10 #[.val (.long q0), .second, .val (.long q1), .second, .val (.long q2), .second] [(.long (q0 + q1))]) _
      refine XS.lload X0.here hx rfl (hb hby d1_10) rfl ?_
      show own_S p e below s₁ (mkF m 12 #[.val (.long q0), .second, .val (.long q1), .second, .val (.long q2), .second] [(.long q2), (.long (q0 + q1))]) _
      refine XT.lcmp X0.here hx rfl (hb hby d1_12) rfl ?_
      exact k
    by_cases c13_4 : (q0 + q1) < q2
    · skip
      have K6 : ∀ t, own_S p e below s₁ (mkF m 21 #[.val (.long q0), .second, .val (.long q1), .second, .val (.long q2), .second] [(.int (1 : Int32))]) t → Steps p.tables e below SE t := by
        intro t k
        refine K5 _ ?_
        refine XS.ifNo X0.here hx rfl (hb hby d1_13) rfl (XT.ll_ge_f c13_4) ?_
        show own_S p e below s₁ (mkF m 16 #[.val (.long q0), .second, .val (.long q1), .second, .val (.long q2), .second] []) _
        refine XS.iconst X0.here hx rfl (hb hby d1_16) ?_
        show own_S p e below s₁ (mkF m 17 #[.val (.long q0), .second, .val (.long q1), .second, .val (.long q2), .second] [(.int (1 : Int32))]) _
        refine XS.goto X0.here hx rfl (pc0 := 17) (pc' := 21) rfl (hb hby d1_17) (by decide) (by decide) ?_
        exact k
      obtain ⟨fs, hr, hrun, hended, hW, hsame⟩ := X0.leave (v := some (.int (1 : Int32))) (fun h => by rw [Bd.returns] at h; cases h)
      refine ⟨_, _, K6 _ ?_, hrun, hended, _, _, rfl, ?_, ⟨_, rfl⟩, hW, hsame.mono (by decide) (by decide)⟩
      · exact retN X0 hx (t := .boolean) Bd.returns (by simp) (hb hby d1_21) hr
      · show Q1 Z q0 q1 q2 h0 n0 _ s₁.heap _
        rw [e0]
        exact ⟨(by simp only [if_neg c4_1, if_pos c13_4]), N0, rfl⟩
    · skip
      have K7 : ∀ t, own_S p e below s₁ (mkF m 21 #[.val (.long q0), .second, .val (.long q1), .second, .val (.long q2), .second] [(.int (0 : Int32))]) t → Steps p.tables e below SE t := by
        intro t k
        refine K5 _ ?_
        refine XS.ifYes X0.here hx rfl (pc0 := 13) (pc' := 20) rfl (hb hby d1_13) rfl (XT.ll_ge_t c13_4) (by decide) (by decide) ?_
        show own_S p e below s₁ (mkF m 20 #[.val (.long q0), .second, .val (.long q1), .second, .val (.long q2), .second] []) _
        refine XS.iconst X0.here hx rfl (hb hby d1_20) ?_
        exact k
      obtain ⟨fs, hr, hrun, hended, hW, hsame⟩ := X0.leave (v := some (.int (0 : Int32))) (fun h => by rw [Bd.returns] at h; cases h)
      refine ⟨_, _, K7 _ ?_, hrun, hended, _, _, rfl, ?_, ⟨_, rfl⟩, hW, hsame.mono (by decide) (by decide)⟩
      · exact retN X0 hx (t := .boolean) Bd.returns (by simp) (hb hby d1_21) hr
      · show Q1 Z q0 q1 q2 h0 n0 _ s₁.heap _
        rw [e0]
        exact ⟨(by simp only [if_neg c4_1, if_neg c13_4]), N0, rfl⟩
theorem pn_0 : plainName "com/example/convene/convene/server/BudgetCrossesUnderPinLaw" = true := by first | (simp [plainName, overriddenIn]; done) | decide +kernel
theorem pd_0_0 : parseMethodDescriptor "(JJJ)Z" = some ⟨[.long, .long, .long], some .boolean⟩ := by decide +kernel
theorem ef_0 (m : MethodId) (q0 : Int64) (q1 : Int64) (q2 : Int64) (p3 : Int32) : entryFrame m #[(.long q0), (.long q1), (.long q2), (.int p3)] maxLocals = mkF m 0 #[.val (.long q0), .second, .val (.long q1), .second, .val (.long q2), .second, .val (.int p3), .unset, .unset, .unset, .unset, .unset, .unset, .unset] [] := by first | (simp [entryFrame, mkF, argsToLocals, Value.category, maxLocals]; done) | rfl
def Q0 (Z : State) (q0 : Int64) (q1 : Int64) (q2 : Int64) (p3 : Int32) (h0 : Heap) (n0 : Nat) (v : Option Value) (h : Heap) (L : List Loc) : Prop := v = some (.int 1) ∧ Fr n0 L
set_option maxRecDepth 65536 in
set_option maxHeartbeats 40000000 in
theorem rm0 (l : Launch) (Z : State) (a0 : Array Value) (hw : ∀ d ∈ tables_1, d.before a0 Z = true) (ws : List Jvm.Cond) (q0 : Int64) (q1 : Int64) (q2 : Int64) (p3 : Int32) (h0 : Heap) (n0 : Nat) (Z0 : n0 ≤ h0.size) :
    MetFree l x (head1 (Jvm.Cond.code x code maxLocals ret :: ws) room_1) (fun a U => a = #[(.long q0), (.long q1), (.long q2), (.int p3)] ∧ Z.Warmed39 U.vm ∧ U.heap = h0) (fun _ _ _ _ _ => True) (fun _ U o U' => ∃ v L, o = .returned v ∧ Q0 Z q0 q1 q2 p3 h0 n0 v U'.heap L ∧ FrameEnd U o U' L room_1.cells room_1.slots) := by
  refine MetFree.of_bodySF (plainFor_of_name pn_0) hisR ?_
  intro p e s m args below meth c s₁ Bd hml0 hP hK
  obtain ⟨rfl, hZ, hh⟩ := hP
  have hx := Bd.exec
  have hby := Bd.bytes
  have hml : c.maxLocals = 14 := hml0
  have hown : s.vm.findClass "com/example/convene/convene/server/BudgetCrossesUnderPinLaw" = some m.cls := findClass_of_methodNamed Bd.named
  have hnm := (name_of_methodNamed Bd.named Bd.method).1
  have X0 : Stand p l e room_1 s m #[(.long q0), (.long q1), (.long q2), (.int p3)] below meth c s₁ [] 0 0 := Stand.of_body Bd
  have e0 : s₁.heap = h0 := by rw [← hh, Bd.state]; rfl
  have N0 := Fr.nil n0
  have K0 : ∀ t, Steps p.tables e below (s₁.setTop (mkF m 0 #[.val (.long q0), .second, .val (.long q1), .second, .val (.long q2), .second, .val (.int p3), .unset, .unset, .unset, .unset, .unset, .unset, .unset] [])) t → Steps p.tables e below (s₁.setTop (entryFrame m #[(.long q0), (.long q1), (.long q2), (.int p3)] maxLocals)) t := fun t k => castTop (ef_0 m q0 q1 q2 p3) k
  generalize s₁.setTop (entryFrame m #[(.long q0), (.long q1), (.long q2), (.int p3)] maxLocals) = SE at K0 ⊢
  have K1 : ∀ t, own_S p e below s₁ (mkF m 6 #[.val (.long q0), .second, .val (.long q1), .second, .val (.long q2), .second, .val (.int p3), .val (.long (q2 >>> ((2 : Int32) &&& 0x3f).toInt64)), .second, .unset, .unset, .unset, .unset, .unset] []) t → Steps p.tables e below SE t := by
    intro t k
    refine K0 _ ?_
    refine XS.lload X0.here hx rfl (hb hby at_0) rfl ?_
    show own_S p e below s₁ (mkF m 2 #[.val (.long q0), .second, .val (.long q1), .second, .val (.long q2), .second, .val (.int p3), .unset, .unset, .unset, .unset, .unset, .unset, .unset] [(.long q2)]) _
    refine XS.iconst X0.here hx rfl (hb hby at_2) ?_
    show own_S p e below s₁ (mkF m 3 #[.val (.long q0), .second, .val (.long q1), .second, .val (.long q2), .second, .val (.int p3), .unset, .unset, .unset, .unset, .unset, .unset, .unset] [(.int (2 : Int32)), (.long q2)]) _
    refine XS.lshr X0.here hx rfl (hb hby at_3) rfl ?_
    show own_S p e below s₁ (mkF m 4 #[.val (.long q0), .second, .val (.long q1), .second, .val (.long q2), .second, .val (.int p3), .unset, .unset, .unset, .unset, .unset, .unset, .unset] [(.long (q2 >>> ((2 : Int32) &&& 0x3f).toInt64))]) _
    refine XS.lstore X0.here hx rfl (hb hby at_4) rfl (l' := #[.val (.long q0), .second, .val (.long q1), .second, .val (.long q2), .second, .val (.int p3), .val (.long (q2 >>> ((2 : Int32) &&& 0x3f).toInt64)), .second, .unset, .unset, .unset, .unset, .unset]) rfl ?_
    exact k
  obtain ⟨bo, hbo⟩ : ∃ z : Int64, z = (q2 >>> ((2 : Int32) &&& 0x3f).toInt64) := ⟨_, rfl⟩
  rw [← hbo] at K1
  have hbo' : -2 ^ 61 ≤ bo.toInt ∧ bo.toInt < 2 ^ 61 := by
    rw [hbo, own_shr2]
    have r1 := q2.toInt_lt
    have r2 := q2.le_toInt
    omega
  obtain ⟨bef, hbef, K3⟩ : ∃ bef : Int64, bef = (if (p3 &&& (1 : Int32)) = 0 then (q0 >>> ((2 : Int32) &&& 0x3f).toInt64) else (bo + ((q0 &&& (15 : Int64)) - (8 : Int64)))) ∧ ∀ t, own_S p e below s₁ (mkF m 31 #[.val (.long q0), .second, .val (.long q1), .second, .val (.long q2), .second, .val (.int p3), .val (.long bo), .second, .unset, .unset, .unset, .unset, .unset] [(.long bef)]) t → Steps p.tables e below SE t := by
    have K5 : ∀ t, own_S p e below s₁ (mkF m 10 #[.val (.long q0), .second, .val (.long q1), .second, .val (.long q2), .second, .val (.int p3), .val (.long bo), .second, .unset, .unset, .unset, .unset, .unset] [(.int (p3 &&& (1 : Int32)))]) t → Steps p.tables e below SE t := by
      intro t k
      refine K1 _ ?_
      refine XS.iload X0.here hx rfl (hb hby at_6) rfl ?_
      show own_S p e below s₁ (mkF m 8 #[.val (.long q0), .second, .val (.long q1), .second, .val (.long q2), .second, .val (.int p3), .val (.long bo), .second, .unset, .unset, .unset, .unset, .unset] [(.int p3)]) _
      refine XS.iconst X0.here hx rfl (hb hby at_8) ?_
      show own_S p e below s₁ (mkF m 9 #[.val (.long q0), .second, .val (.long q1), .second, .val (.long q2), .second, .val (.int p3), .val (.long bo), .second, .unset, .unset, .unset, .unset, .unset] [(.int (1 : Int32)), (.int p3)]) _
      refine XS.iand X0.here hx rfl (hb hby at_9) rfl ?_
      exact k
    by_cases c10_4 : (p3 &&& (1 : Int32)) = 0
    · skip
      have K6 : ∀ t, own_S p e below s₁ (mkF m 31 #[.val (.long q0), .second, .val (.long q1), .second, .val (.long q2), .second, .val (.int p3), .val (.long bo), .second, .unset, .unset, .unset, .unset, .unset] [(.long (q0 >>> ((2 : Int32) &&& 0x3f).toInt64))]) t → Steps p.tables e below SE t := by
        intro t k
        refine K5 _ ?_
        refine XS.ifYes X0.here hx rfl (pc0 := 10) (pc' := 28) rfl (hb hby at_10) rfl (XT.i0_eq_t c10_4) (by decide) (by decide) ?_
        show own_S p e below s₁ (mkF m 28 #[.val (.long q0), .second, .val (.long q1), .second, .val (.long q2), .second, .val (.int p3), .val (.long bo), .second, .unset, .unset, .unset, .unset, .unset] []) _
        refine XS.lloadN X0.here hx rfl (hb hby at_28) rfl ?_
        show own_S p e below s₁ (mkF m 29 #[.val (.long q0), .second, .val (.long q1), .second, .val (.long q2), .second, .val (.int p3), .val (.long bo), .second, .unset, .unset, .unset, .unset, .unset] [(.long q0)]) _
        refine XS.iconst X0.here hx rfl (hb hby at_29) ?_
        show own_S p e below s₁ (mkF m 30 #[.val (.long q0), .second, .val (.long q1), .second, .val (.long q2), .second, .val (.int p3), .val (.long bo), .second, .unset, .unset, .unset, .unset, .unset] [(.int (2 : Int32)), (.long q0)]) _
        refine XS.lshr X0.here hx rfl (hb hby at_30) rfl ?_
        exact k
      exact ⟨(q0 >>> ((2 : Int32) &&& 0x3f).toInt64), (by simp only [if_pos c10_4]), K6⟩
    · skip
      have K7 : ∀ t, own_S p e below s₁ (mkF m 31 #[.val (.long q0), .second, .val (.long q1), .second, .val (.long q2), .second, .val (.int p3), .val (.long bo), .second, .unset, .unset, .unset, .unset, .unset] [(.long (bo + ((q0 &&& (15 : Int64)) - (8 : Int64))))]) t → Steps p.tables e below SE t := by
        intro t k
        refine K5 _ ?_
        refine XS.ifNo X0.here hx rfl (hb hby at_10) rfl (XT.i0_eq_f c10_4) ?_
        show own_S p e below s₁ (mkF m 13 #[.val (.long q0), .second, .val (.long q1), .second, .val (.long q2), .second, .val (.int p3), .val (.long bo), .second, .unset, .unset, .unset, .unset, .unset] []) _
        refine XS.lload X0.here hx rfl (hb hby at_13) rfl ?_
        show own_S p e below s₁ (mkF m 15 #[.val (.long q0), .second, .val (.long q1), .second, .val (.long q2), .second, .val (.int p3), .val (.long bo), .second, .unset, .unset, .unset, .unset, .unset] [(.long bo)]) _
        refine XS.lloadN X0.here hx rfl (hb hby at_15) rfl ?_
        show own_S p e below s₁ (mkF m 16 #[.val (.long q0), .second, .val (.long q1), .second, .val (.long q2), .second, .val (.int p3), .val (.long bo), .second, .unset, .unset, .unset, .unset, .unset] [(.long q0), (.long bo)]) _
        refine Stand.ldc2J X0 hx hown (mvT hZ (hw _ (List.mem_of_getElem? (i := 0) rfl))) (v := (15 : Int64)) (g := (mkF m 16 #[.val (.long q0), .second, .val (.long q1), .second, .val (.long q2), .second, .val (.int p3), .val (.long bo), .second, .unset, .unset, .unset, .unset, .unset] [(.long q0), (.long bo)])) rfl (hb hby at_16) ?_
        show own_S p e below s₁ (mkF m 19 #[.val (.long q0), .second, .val (.long q1), .second, .val (.long q2), .second, .val (.int p3), .val (.long bo), .second, .unset, .unset, .unset, .unset, .unset] [(.long (15 : Int64)), (.long q0), (.long bo)]) _
        refine XS.land X0.here hx rfl (hb hby at_19) rfl ?_
        show own_S p e below s₁ (mkF m 20 #[.val (.long q0), .second, .val (.long q1), .second, .val (.long q2), .second, .val (.int p3), .val (.long bo), .second, .unset, .unset, .unset, .unset, .unset] [(.long (q0 &&& (15 : Int64))), (.long bo)]) _
        refine Stand.ldc2J X0 hx hown (mvT hZ (hw _ (List.mem_of_getElem? (i := 1) rfl))) (v := (8 : Int64)) (g := (mkF m 20 #[.val (.long q0), .second, .val (.long q1), .second, .val (.long q2), .second, .val (.int p3), .val (.long bo), .second, .unset, .unset, .unset, .unset, .unset] [(.long (q0 &&& (15 : Int64))), (.long bo)])) rfl (hb hby at_20) ?_
        show own_S p e below s₁ (mkF m 23 #[.val (.long q0), .second, .val (.long q1), .second, .val (.long q2), .second, .val (.int p3), .val (.long bo), .second, .unset, .unset, .unset, .unset, .unset] [(.long (8 : Int64)), (.long (q0 &&& (15 : Int64))), (.long bo)]) _
        refine XS.lsub X0.here hx rfl (hb hby at_23) rfl ?_
        show own_S p e below s₁ (mkF m 24 #[.val (.long q0), .second, .val (.long q1), .second, .val (.long q2), .second, .val (.int p3), .val (.long bo), .second, .unset, .unset, .unset, .unset, .unset] [(.long ((q0 &&& (15 : Int64)) - (8 : Int64))), (.long bo)]) _
        refine XS.ladd X0.here hx rfl (hb hby at_24) rfl ?_
        show own_S p e below s₁ (mkF m 25 #[.val (.long q0), .second, .val (.long q1), .second, .val (.long q2), .second, .val (.int p3), .val (.long bo), .second, .unset, .unset, .unset, .unset, .unset] [(.long (bo + ((q0 &&& (15 : Int64)) - (8 : Int64))))]) _
        refine XS.goto X0.here hx rfl (pc0 := 25) (pc' := 31) rfl (hb hby at_25) (by decide) (by decide) ?_
        exact k
      exact ⟨(bo + ((q0 &&& (15 : Int64)) - (8 : Int64))), (by simp only [if_neg c10_4]), K7⟩
  have hbef' := own_bef q0 bo bef _ hbo' hbef
  obtain ⟨ch, hch, K9⟩ : ∃ ch : Int64, ch = (if (p3 &&& (2 : Int32)) = 0 then (q1 >>> ((2 : Int32) &&& 0x3f).toInt64) else ((bo - bef) + ((q1 &&& (15 : Int64)) - (8 : Int64)))) ∧ ∀ t, own_S p e below s₁ (mkF m 61 #[.val (.long q0), .second, .val (.long q1), .second, .val (.long q2), .second, .val (.int p3), .val (.long bo), .second, .val (.long bef), .second, .unset, .unset, .unset] [(.long ch)]) t → Steps p.tables e below SE t := by
    have K11 : ∀ t, own_S p e below s₁ (mkF m 37 #[.val (.long q0), .second, .val (.long q1), .second, .val (.long q2), .second, .val (.int p3), .val (.long bo), .second, .val (.long bef), .second, .unset, .unset, .unset] [(.int (p3 &&& (2 : Int32)))]) t → Steps p.tables e below SE t := by
      intro t k
      refine K3 _ ?_
      refine XS.lstore X0.here hx rfl (hb hby at_31) rfl (l' := #[.val (.long q0), .second, .val (.long q1), .second, .val (.long q2), .second, .val (.int p3), .val (.long bo), .second, .val (.long bef), .second, .unset, .unset, .unset]) rfl ?_
      show own_S p e below s₁ (mkF m 33 #[.val (.long q0), .second, .val (.long q1), .second, .val (.long q2), .second, .val (.int p3), .val (.long bo), .second, .val (.long bef), .second, .unset, .unset, .unset] []) _
      refine XS.iload X0.here hx rfl (hb hby at_33) rfl ?_
      show own_S p e below s₁ (mkF m 35 #[.val (.long q0), .second, .val (.long q1), .second, .val (.long q2), .second, .val (.int p3), .val (.long bo), .second, .val (.long bef), .second, .unset, .unset, .unset] [(.int p3)]) _
      refine XS.iconst X0.here hx rfl (hb hby at_35) ?_
      show own_S p e below s₁ (mkF m 36 #[.val (.long q0), .second, .val (.long q1), .second, .val (.long q2), .second, .val (.int p3), .val (.long bo), .second, .val (.long bef), .second, .unset, .unset, .unset] [(.int (2 : Int32)), (.int p3)]) _
      refine XS.iand X0.here hx rfl (hb hby at_36) rfl ?_
      exact k
    by_cases c37_10 : (p3 &&& (2 : Int32)) = 0
    · skip
      have K12 : ∀ t, own_S p e below s₁ (mkF m 61 #[.val (.long q0), .second, .val (.long q1), .second, .val (.long q2), .second, .val (.int p3), .val (.long bo), .second, .val (.long bef), .second, .unset, .unset, .unset] [(.long (q1 >>> ((2 : Int32) &&& 0x3f).toInt64))]) t → Steps p.tables e below SE t := by
        intro t k
        refine K11 _ ?_
        refine XS.ifYes X0.here hx rfl (pc0 := 37) (pc' := 58) rfl (hb hby at_37) rfl (XT.i0_eq_t c37_10) (by decide) (by decide) ?_
        show own_S p e below s₁ (mkF m 58 #[.val (.long q0), .second, .val (.long q1), .second, .val (.long q2), .second, .val (.int p3), .val (.long bo), .second, .val (.long bef), .second, .unset, .unset, .unset] []) _
        refine XS.lloadN X0.here hx rfl (hb hby at_58) rfl ?_
        show own_S p e below s₁ (mkF m 59 #[.val (.long q0), .second, .val (.long q1), .second, .val (.long q2), .second, .val (.int p3), .val (.long bo), .second, .val (.long bef), .second, .unset, .unset, .unset] [(.long q1)]) _
        refine XS.iconst X0.here hx rfl (hb hby at_59) ?_
        show own_S p e below s₁ (mkF m 60 #[.val (.long q0), .second, .val (.long q1), .second, .val (.long q2), .second, .val (.int p3), .val (.long bo), .second, .val (.long bef), .second, .unset, .unset, .unset] [(.int (2 : Int32)), (.long q1)]) _
        refine XS.lshr X0.here hx rfl (hb hby at_60) rfl ?_
        exact k
      exact ⟨(q1 >>> ((2 : Int32) &&& 0x3f).toInt64), (by simp only [if_pos c37_10]), K12⟩
    · skip
      have K13 : ∀ t, own_S p e below s₁ (mkF m 61 #[.val (.long q0), .second, .val (.long q1), .second, .val (.long q2), .second, .val (.int p3), .val (.long bo), .second, .val (.long bef), .second, .unset, .unset, .unset] [(.long ((bo - bef) + ((q1 &&& (15 : Int64)) - (8 : Int64))))]) t → Steps p.tables e below SE t := by
        intro t k
        refine K11 _ ?_
        refine XS.ifNo X0.here hx rfl (hb hby at_37) rfl (XT.i0_eq_f c37_10) ?_
        show own_S p e below s₁ (mkF m 40 #[.val (.long q0), .second, .val (.long q1), .second, .val (.long q2), .second, .val (.int p3), .val (.long bo), .second, .val (.long bef), .second, .unset, .unset, .unset] []) _
        refine XS.lload X0.here hx rfl (hb hby at_40) rfl ?_
        show own_S p e below s₁ (mkF m 42 #[.val (.long q0), .second, .val (.long q1), .second, .val (.long q2), .second, .val (.int p3), .val (.long bo), .second, .val (.long bef), .second, .unset, .unset, .unset] [(.long bo)]) _
        refine XS.lload X0.here hx rfl (hb hby at_42) rfl ?_
        show own_S p e below s₁ (mkF m 44 #[.val (.long q0), .second, .val (.long q1), .second, .val (.long q2), .second, .val (.int p3), .val (.long bo), .second, .val (.long bef), .second, .unset, .unset, .unset] [(.long bef), (.long bo)]) _
        refine XS.lsub X0.here hx rfl (hb hby at_44) rfl ?_
        show own_S p e below s₁ (mkF m 45 #[.val (.long q0), .second, .val (.long q1), .second, .val (.long q2), .second, .val (.int p3), .val (.long bo), .second, .val (.long bef), .second, .unset, .unset, .unset] [(.long (bo - bef))]) _
        refine XS.lloadN X0.here hx rfl (hb hby at_45) rfl ?_
        show own_S p e below s₁ (mkF m 46 #[.val (.long q0), .second, .val (.long q1), .second, .val (.long q2), .second, .val (.int p3), .val (.long bo), .second, .val (.long bef), .second, .unset, .unset, .unset] [(.long q1), (.long (bo - bef))]) _
        refine Stand.ldc2J X0 hx hown (mvT hZ (hw _ (List.mem_of_getElem? (i := 0) rfl))) (v := (15 : Int64)) (g := (mkF m 46 #[.val (.long q0), .second, .val (.long q1), .second, .val (.long q2), .second, .val (.int p3), .val (.long bo), .second, .val (.long bef), .second, .unset, .unset, .unset] [(.long q1), (.long (bo - bef))])) rfl (hb hby at_46) ?_
        show own_S p e below s₁ (mkF m 49 #[.val (.long q0), .second, .val (.long q1), .second, .val (.long q2), .second, .val (.int p3), .val (.long bo), .second, .val (.long bef), .second, .unset, .unset, .unset] [(.long (15 : Int64)), (.long q1), (.long (bo - bef))]) _
        refine XS.land X0.here hx rfl (hb hby at_49) rfl ?_
        show own_S p e below s₁ (mkF m 50 #[.val (.long q0), .second, .val (.long q1), .second, .val (.long q2), .second, .val (.int p3), .val (.long bo), .second, .val (.long bef), .second, .unset, .unset, .unset] [(.long (q1 &&& (15 : Int64))), (.long (bo - bef))]) _
        refine Stand.ldc2J X0 hx hown (mvT hZ (hw _ (List.mem_of_getElem? (i := 1) rfl))) (v := (8 : Int64)) (g := (mkF m 50 #[.val (.long q0), .second, .val (.long q1), .second, .val (.long q2), .second, .val (.int p3), .val (.long bo), .second, .val (.long bef), .second, .unset, .unset, .unset] [(.long (q1 &&& (15 : Int64))), (.long (bo - bef))])) rfl (hb hby at_50) ?_
        show own_S p e below s₁ (mkF m 53 #[.val (.long q0), .second, .val (.long q1), .second, .val (.long q2), .second, .val (.int p3), .val (.long bo), .second, .val (.long bef), .second, .unset, .unset, .unset] [(.long (8 : Int64)), (.long (q1 &&& (15 : Int64))), (.long (bo - bef))]) _
        refine XS.lsub X0.here hx rfl (hb hby at_53) rfl ?_
        show own_S p e below s₁ (mkF m 54 #[.val (.long q0), .second, .val (.long q1), .second, .val (.long q2), .second, .val (.int p3), .val (.long bo), .second, .val (.long bef), .second, .unset, .unset, .unset] [(.long ((q1 &&& (15 : Int64)) - (8 : Int64))), (.long (bo - bef))]) _
        refine XS.ladd X0.here hx rfl (hb hby at_54) rfl ?_
        show own_S p e below s₁ (mkF m 55 #[.val (.long q0), .second, .val (.long q1), .second, .val (.long q2), .second, .val (.int p3), .val (.long bo), .second, .val (.long bef), .second, .unset, .unset, .unset] [(.long ((bo - bef) + ((q1 &&& (15 : Int64)) - (8 : Int64))))]) _
        refine XS.goto X0.here hx rfl (pc0 := 55) (pc' := 61) rfl (hb hby at_55) (by decide) (by decide) ?_
        exact k
      exact ⟨((bo - bef) + ((q1 &&& (15 : Int64)) - (8 : Int64))), (by simp only [if_neg c37_10]), K13⟩
  have hch' := own_chg q1 bo bef ch _ hbo' hbef' hch
  obtain ⟨ex, hex, K15⟩ : ∃ ex : Int32, ex = (if ch < (0 : Int64) then (if bef < bo then (0 : Int32) else (if (bef - bo) < ((-ch)) then (1 : Int32) else (0 : Int32))) else (0 : Int32)) ∧ ∀ t, own_S p e below s₁ (mkF m 109 #[.val (.long q0), .second, .val (.long q1), .second, .val (.long q2), .second, .val (.int p3), .val (.long bo), .second, .val (.long bef), .second, .val (.long ch), .second, .val (.int ex)] []) t → Steps p.tables e below SE t := by
    have K17 : ∀ t, own_S p e below s₁ (mkF m 67 #[.val (.long q0), .second, .val (.long q1), .second, .val (.long q2), .second, .val (.int p3), .val (.long bo), .second, .val (.long bef), .second, .val (.long ch), .second, .unset] [(.int (XT.cmpL ch (0 : Int64)))]) t → Steps p.tables e below SE t := by
      intro t k
      refine K9 _ ?_
      refine XS.lstore X0.here hx rfl (hb hby at_61) rfl (l' := #[.val (.long q0), .second, .val (.long q1), .second, .val (.long q2), .second, .val (.int p3), .val (.long bo), .second, .val (.long bef), .second, .val (.long ch), .second, .unset]) rfl ?_
      show own_S p e below s₁ (mkF m 63 #[.val (.long q0), .second, .val (.long q1), .second, .val (.long q2), .second, .val (.int p3), .val (.long bo), .second, .val (.long bef), .second, .val (.long ch), .second, .unset] []) _
      refine XS.lload X0.here hx rfl (hb hby at_63) rfl ?_
      show own_S p e below s₁ (mkF m 65 #[.val (.long q0), .second, .val (.long q1), .second, .val (.long q2), .second, .val (.int p3), .val (.long bo), .second, .val (.long bef), .second, .val (.long ch), .second, .unset] [(.long ch)]) _
      refine XS.lconst X0.here hx rfl (hb hby at_65) ?_
      show own_S p e below s₁ (mkF m 66 #[.val (.long q0), .second, .val (.long q1), .second, .val (.long q2), .second, .val (.int p3), .val (.long bo), .second, .val (.long bef), .second, .val (.long ch), .second, .unset] [(.long (0 : Int64)), (.long ch)]) _
      refine XT.lcmp X0.here hx rfl (hb hby at_66) rfl ?_
      exact k
    by_cases c67_16 : ch < (0 : Int64)
    · skip
      have K19 : ∀ t, own_S p e below s₁ (mkF m 81 #[.val (.long q0), .second, .val (.long q1), .second, .val (.long q2), .second, .val (.int p3), .val (.long bo), .second, .val (.long bef), .second, .val (.long ch), .second, .unset] [(.int (XT.cmpL bef bo))]) t → Steps p.tables e below SE t := by
        intro t k
        refine K17 _ ?_
        refine XS.ifYes X0.here hx rfl (pc0 := 67) (pc' := 76) rfl (hb hby at_67) rfl (XT.ll_lt_t c67_16) (by decide) (by decide) ?_
        show own_S p e below s₁ (mkF m 76 #[.val (.long q0), .second, .val (.long q1), .second, .val (.long q2), .second, .val (.int p3), .val (.long bo), .second, .val (.long bef), .second, .val (.long ch), .second, .unset] []) _
        refine XS.lload X0.here hx rfl (hb hby at_76) rfl ?_
        show own_S p e below s₁ (mkF m 78 #[.val (.long q0), .second, .val (.long q1), .second, .val (.long q2), .second, .val (.int p3), .val (.long bo), .second, .val (.long bef), .second, .val (.long ch), .second, .unset] [(.long bef)]) _
        refine XS.lload X0.here hx rfl (hb hby at_78) rfl ?_
        show own_S p e below s₁ (mkF m 80 #[.val (.long q0), .second, .val (.long q1), .second, .val (.long q2), .second, .val (.int p3), .val (.long bo), .second, .val (.long bef), .second, .val (.long ch), .second, .unset] [(.long bo), (.long bef)]) _
        refine XT.lcmp X0.here hx rfl (hb hby at_80) rfl ?_
        exact k
      by_cases c81_18 : bef < bo
      · skip
        have K20 : ∀ t, own_S p e below s₁ (mkF m 109 #[.val (.long q0), .second, .val (.long q1), .second, .val (.long q2), .second, .val (.int p3), .val (.long bo), .second, .val (.long bef), .second, .val (.long ch), .second, .val (.int (0 : Int32))] []) t → Steps p.tables e below SE t := by
          intro t k
          refine K19 _ ?_
          refine XS.ifNo X0.here hx rfl (hb hby at_81) rfl (XT.ll_ge_f c81_18) ?_
          show own_S p e below s₁ (mkF m 84 #[.val (.long q0), .second, .val (.long q1), .second, .val (.long q2), .second, .val (.int p3), .val (.long bo), .second, .val (.long bef), .second, .val (.long ch), .second, .unset] []) _
          refine XS.iconst X0.here hx rfl (hb hby at_84) ?_
          show own_S p e below s₁ (mkF m 85 #[.val (.long q0), .second, .val (.long q1), .second, .val (.long q2), .second, .val (.int p3), .val (.long bo), .second, .val (.long bef), .second, .val (.long ch), .second, .unset] [(.int (0 : Int32))]) _
          refine XS.istore X0.here hx rfl (hb hby at_85) rfl (l' := #[.val (.long q0), .second, .val (.long q1), .second, .val (.long q2), .second, .val (.int p3), .val (.long bo), .second, .val (.long bef), .second, .val (.long ch), .second, .val (.int (0 : Int32))]) rfl ?_
          show own_S p e below s₁ (mkF m 87 #[.val (.long q0), .second, .val (.long q1), .second, .val (.long q2), .second, .val (.int p3), .val (.long bo), .second, .val (.long bef), .second, .val (.long ch), .second, .val (.int (0 : Int32))] []) _
          refine XS.goto X0.here hx rfl (pc0 := 87) (pc' := 109) rfl (hb hby at_87) (by decide) (by decide) ?_
          exact k
        exact ⟨(0 : Int32), (by simp only [if_pos c67_16, if_pos c81_18]), K20⟩
      · skip
        have K22 : ∀ t, own_S p e below s₁ (mkF m 99 #[.val (.long q0), .second, .val (.long q1), .second, .val (.long q2), .second, .val (.int p3), .val (.long bo), .second, .val (.long bef), .second, .val (.long ch), .second, .unset] [(.int (XT.cmpL (bef - bo) ((-ch))))]) t → Steps p.tables e below SE t := by
          intro t k
          refine K19 _ ?_
          refine XS.ifYes X0.here hx rfl (pc0 := 81) (pc' := 90) rfl (hb hby at_81) rfl (XT.ll_ge_t c81_18) (by decide) (by decide) ?_
          show own_S p e below s₁ (mkF m 90 #[.val (.long q0), .second, .val (.long q1), .second, .val (.long q2), .second, .val (.int p3), .val (.long bo), .second, .val (.long bef), .second, .val (.long ch), .second, .unset] []) _
          refine XS.lload X0.here hx rfl (hb hby at_90) rfl ?_
          show own_S p e below s₁ (mkF m 92 #[.val (.long q0), .second, .val (.long q1), .second, .val (.long q2), .second, .val (.int p3), .val (.long bo), .second, .val (.long bef), .second, .val (.long ch), .second, .unset] [(.long bef)]) _
          refine XS.lload X0.here hx rfl (hb hby at_92) rfl ?_
          show own_S p e below s₁ (mkF m 94 #[.val (.long q0), .second, .val (.long q1), .second, .val (.long q2), .second, .val (.int p3), .val (.long bo), .second, .val (.long bef), .second, .val (.long ch), .second, .unset] [(.long bo), (.long bef)]) _
          refine XS.lsub X0.here hx rfl (hb hby at_94) rfl ?_
          show own_S p e below s₁ (mkF m 95 #[.val (.long q0), .second, .val (.long q1), .second, .val (.long q2), .second, .val (.int p3), .val (.long bo), .second, .val (.long bef), .second, .val (.long ch), .second, .unset] [(.long (bef - bo))]) _
          refine XS.lload X0.here hx rfl (hb hby at_95) rfl ?_
          show own_S p e below s₁ (mkF m 97 #[.val (.long q0), .second, .val (.long q1), .second, .val (.long q2), .second, .val (.int p3), .val (.long bo), .second, .val (.long bef), .second, .val (.long ch), .second, .unset] [(.long ch), (.long (bef - bo))]) _
          refine XS.lneg X0.here hx rfl (hb hby at_97) rfl ?_
          show own_S p e below s₁ (mkF m 98 #[.val (.long q0), .second, .val (.long q1), .second, .val (.long q2), .second, .val (.int p3), .val (.long bo), .second, .val (.long bef), .second, .val (.long ch), .second, .unset] [(.long ((-ch))), (.long (bef - bo))]) _
          refine XT.lcmp X0.here hx rfl (hb hby at_98) rfl ?_
          exact k
        by_cases c99_21 : (bef - bo) < ((-ch))
        · skip
          have K23 : ∀ t, own_S p e below s₁ (mkF m 109 #[.val (.long q0), .second, .val (.long q1), .second, .val (.long q2), .second, .val (.int p3), .val (.long bo), .second, .val (.long bef), .second, .val (.long ch), .second, .val (.int (1 : Int32))] []) t → Steps p.tables e below SE t := by
            intro t k
            refine K22 _ ?_
            refine XS.ifNo X0.here hx rfl (hb hby at_99) rfl (XT.ll_ge_f c99_21) ?_
            show own_S p e below s₁ (mkF m 102 #[.val (.long q0), .second, .val (.long q1), .second, .val (.long q2), .second, .val (.int p3), .val (.long bo), .second, .val (.long bef), .second, .val (.long ch), .second, .unset] []) _
            refine XS.iconst X0.here hx rfl (hb hby at_102) ?_
            show own_S p e below s₁ (mkF m 103 #[.val (.long q0), .second, .val (.long q1), .second, .val (.long q2), .second, .val (.int p3), .val (.long bo), .second, .val (.long bef), .second, .val (.long ch), .second, .unset] [(.int (1 : Int32))]) _
            refine XS.goto X0.here hx rfl (pc0 := 103) (pc' := 107) rfl (hb hby at_103) (by decide) (by decide) ?_
            show own_S p e below s₁ (mkF m 107 #[.val (.long q0), .second, .val (.long q1), .second, .val (.long q2), .second, .val (.int p3), .val (.long bo), .second, .val (.long bef), .second, .val (.long ch), .second, .unset] [(.int (1 : Int32))]) _
            refine XS.istore X0.here hx rfl (hb hby at_107) rfl (l' := #[.val (.long q0), .second, .val (.long q1), .second, .val (.long q2), .second, .val (.int p3), .val (.long bo), .second, .val (.long bef), .second, .val (.long ch), .second, .val (.int (1 : Int32))]) rfl ?_
            exact k
          exact ⟨(1 : Int32), (by simp only [if_pos c67_16, if_neg c81_18, if_pos c99_21]), K23⟩
        · skip
          have K24 : ∀ t, own_S p e below s₁ (mkF m 109 #[.val (.long q0), .second, .val (.long q1), .second, .val (.long q2), .second, .val (.int p3), .val (.long bo), .second, .val (.long bef), .second, .val (.long ch), .second, .val (.int (0 : Int32))] []) t → Steps p.tables e below SE t := by
            intro t k
            refine K22 _ ?_
            refine XS.ifYes X0.here hx rfl (pc0 := 99) (pc' := 106) rfl (hb hby at_99) rfl (XT.ll_ge_t c99_21) (by decide) (by decide) ?_
            show own_S p e below s₁ (mkF m 106 #[.val (.long q0), .second, .val (.long q1), .second, .val (.long q2), .second, .val (.int p3), .val (.long bo), .second, .val (.long bef), .second, .val (.long ch), .second, .unset] []) _
            refine XS.iconst X0.here hx rfl (hb hby at_106) ?_
            show own_S p e below s₁ (mkF m 107 #[.val (.long q0), .second, .val (.long q1), .second, .val (.long q2), .second, .val (.int p3), .val (.long bo), .second, .val (.long bef), .second, .val (.long ch), .second, .unset] [(.int (0 : Int32))]) _
            refine XS.istore X0.here hx rfl (hb hby at_107) rfl (l' := #[.val (.long q0), .second, .val (.long q1), .second, .val (.long q2), .second, .val (.int p3), .val (.long bo), .second, .val (.long bef), .second, .val (.long ch), .second, .val (.int (0 : Int32))]) rfl ?_
            exact k
          exact ⟨(0 : Int32), (by simp only [if_pos c67_16, if_neg c81_18, if_neg c99_21]), K24⟩
    · skip
      have K25 : ∀ t, own_S p e below s₁ (mkF m 109 #[.val (.long q0), .second, .val (.long q1), .second, .val (.long q2), .second, .val (.int p3), .val (.long bo), .second, .val (.long bef), .second, .val (.long ch), .second, .val (.int (0 : Int32))] []) t → Steps p.tables e below SE t := by
        intro t k
        refine K17 _ ?_
        refine XS.ifNo X0.here hx rfl (hb hby at_67) rfl (XT.ll_lt_f c67_16) ?_
        show own_S p e below s₁ (mkF m 70 #[.val (.long q0), .second, .val (.long q1), .second, .val (.long q2), .second, .val (.int p3), .val (.long bo), .second, .val (.long bef), .second, .val (.long ch), .second, .unset] []) _
        refine XS.iconst X0.here hx rfl (hb hby at_70) ?_
        show own_S p e below s₁ (mkF m 71 #[.val (.long q0), .second, .val (.long q1), .second, .val (.long q2), .second, .val (.int p3), .val (.long bo), .second, .val (.long bef), .second, .val (.long ch), .second, .unset] [(.int (0 : Int32))]) _
        refine XS.istore X0.here hx rfl (hb hby at_71) rfl (l' := #[.val (.long q0), .second, .val (.long q1), .second, .val (.long q2), .second, .val (.int p3), .val (.long bo), .second, .val (.long bef), .second, .val (.long ch), .second, .val (.int (0 : Int32))]) rfl ?_
        show own_S p e below s₁ (mkF m 73 #[.val (.long q0), .second, .val (.long q1), .second, .val (.long q2), .second, .val (.int p3), .val (.long bo), .second, .val (.long bef), .second, .val (.long ch), .second, .val (.int (0 : Int32))] []) _
        refine XS.goto X0.here hx rfl (pc0 := 73) (pc' := 109) rfl (hb hby at_73) (by decide) (by decide) ?_
        exact k
      exact ⟨(0 : Int32), (by simp only [if_neg c67_16]), K25⟩
  have hfin : (if bef < bo then (0 : Int32) else (if (bef + ch) < bo then (1 : Int32) else (0 : Int32))) = ex := (own_law bo bef ch hbo' hbef' hch').trans hex.symm
  have K26 : ∀ t, own_S p e below s₁ (mkF m 115 #[.val (.long q0), .second, .val (.long q1), .second, .val (.long q2), .second, .val (.int p3), .val (.long bo), .second, .val (.long bef), .second, .val (.long ch), .second, .val (.int ex)] [(.long bo), (.long ch), (.long bef)]) t → Steps p.tables e below SE t := by
    intro t k
    refine K15 _ ?_
    refine XS.lload X0.here hx rfl (hb hby at_109) rfl ?_
    show own_S p e below s₁ (mkF m 111 #[.val (.long q0), .second, .val (.long q1), .second, .val (.long q2), .second, .val (.int p3), .val (.long bo), .second, .val (.long bef), .second, .val (.long ch), .second, .val (.int ex)] [(.long bef)]) _
    refine XS.lload X0.here hx rfl (hb hby at_111) rfl ?_
    show own_S p e below s₁ (mkF m 113 #[.val (.long q0), .second, .val (.long q1), .second, .val (.long q2), .second, .val (.int p3), .val (.long bo), .second, .val (.long bef), .second, .val (.long ch), .second, .val (.int ex)] [(.long ch), (.long bef)]) _
    refine XS.lload X0.here hx rfl (hb hby at_113) rfl ?_
    exact k
  obtain ⟨_, _, ⟨T27, L27, k27, n27⟩, -, X27, ⟨Lc27, hQ27, l27, y27, z27⟩, st27⟩ := Jvm.LawKit.callS X0 hx (y := (⟨"com/example/convene/convene/server/Budget", "crossesUnder", "(JJJ)Z"⟩ : MethodName)) hown (mvT hZ (hw _ (List.mem_of_getElem? (i := 2) rfl))) (mvT hZ (hw _ (List.mem_of_getElem? (i := 3) rfl))) (mvT hZ (hw _ (List.mem_of_getElem? (i := 4) rfl))) (mvT hZ (hw _ (List.mem_of_getElem? (i := 5) rfl))) (by decide) (backOf (W := 0) (rm1 l Z a0 hw [] bef ch bo h0 n0 Z0) hZ (hw _ (List.mem_of_getElem? (i := 5) rfl)) (hw _ (List.mem_of_getElem? (i := 4) rfl)) (by decide) (by decide)) (g := (mkF m 115 #[.val (.long q0), .second, .val (.long q1), .second, .val (.long q2), .second, .val (.int p3), .val (.long bo), .second, .val (.long bef), .second, .val (.long ch), .second, .val (.int ex)] [(.long bo), (.long ch), (.long bef)])) rfl (by rw [hml]; rfl) (argsL := [(.long bef), (.long ch), (.long bo)]) (rest := []) (lenOf pd_0_0 rfl) rfl (by show 2 * 0 + _ ≤ _; exact Nat.le_of_eq rfl) (hb hby at_115) (fun _ _ => ⟨rfl, e0, (by decide : 0 + 0 ≤ _), (by decide : 0 + 0 ≤ _)⟩)
  dsimp only [Pt.U, Pt.locs, Pt.cells, Pt.slots] at X27 l27 y27 z27 st27 hQ27
  subst l27 y27 z27
  obtain ⟨rfl, Nq27, e27⟩ := hQ27
  have N27 := Fr.app N0 Nq27
  have K27 : ∀ t, own_S p e below T27 (mkF m 118 #[.val (.long q0), .second, .val (.long q1), .second, .val (.long q2), .second, .val (.int p3), .val (.long bo), .second, .val (.long bef), .second, .val (.long ch), .second, .val (.int ex)] [(.int (if bef < bo then (0 : Int32) else (if (bef + ch) < bo then (1 : Int32) else (0 : Int32))))]) t → Steps p.tables e below SE t := fun t k => K26 _ (st27 _ k)
  have K28 : ∀ t, own_S p e below T27 (mkF m 128 #[.val (.long q0), .second, .val (.long q1), .second, .val (.long q2), .second, .val (.int p3), .val (.long bo), .second, .val (.long bef), .second, .val (.long ch), .second, .val (.int ex)] [(.int (1 : Int32))]) t → Steps p.tables e below SE t := by
    intro t k
    refine K27 _ ?_
    refine XS.iload X27.here hx rfl (hb hby at_118) rfl ?_
    show own_S p e below T27 (mkF m 120 #[.val (.long q0), .second, .val (.long q1), .second, .val (.long q2), .second, .val (.int p3), .val (.long bo), .second, .val (.long bef), .second, .val (.long ch), .second, .val (.int ex)] [(.int ex), (.int (if bef < bo then (0 : Int32) else (if (bef + ch) < bo then (1 : Int32) else (0 : Int32))))]) _
    refine XS.icmpNo X27.here hx rfl (hb hby at_120) rfl (XT.ii_ne_f hfin) ?_
    show own_S p e below T27 (mkF m 123 #[.val (.long q0), .second, .val (.long q1), .second, .val (.long q2), .second, .val (.int p3), .val (.long bo), .second, .val (.long bef), .second, .val (.long ch), .second, .val (.int ex)] []) _
    refine XS.iconst X27.here hx rfl (hb hby at_123) ?_
    show own_S p e below T27 (mkF m 124 #[.val (.long q0), .second, .val (.long q1), .second, .val (.long q2), .second, .val (.int p3), .val (.long bo), .second, .val (.long bef), .second, .val (.long ch), .second, .val (.int ex)] [(.int (1 : Int32))]) _
    refine XS.goto X27.here hx rfl (pc0 := 124) (pc' := 128) rfl (hb hby at_124) (by decide) (by decide) ?_
    exact k
  obtain ⟨fs, hr, hrun, hended, hW, hsame⟩ := X27.leave (v := some (.int (1 : Int32))) (fun h => by rw [Bd.returns] at h; cases h)
  refine ⟨_, _, K28 _ ?_, hrun, hended, _, _, rfl, ?_, ⟨_, rfl⟩, hW, hsame.mono (by decide) (by decide)⟩
  · exact retN X27 hx (t := .boolean) Bd.returns (by simp) (hb hby at_128) hr
  · show Q0 Z q0 q1 q2 p3 h0 n0 _ T27.heap _
    rw [e27]
    exact ⟨rfl, N27⟩
set_option maxRecDepth 65536 in
set_option maxHeartbeats 40000000 in
theorem comes_1 {Post : Tables → Env → Array Value → State → Outcome → State → Prop} (hpost : ∀ tb e args s v u, (limb_1_1.after args s (.returned v) u = true ∧ limb_1_2.after args s (.returned v) u = true ∧ True) → FrameEnd s (.returned v) u (Jvm.fieldLocs frame_1_writes args s ++ Jvm.arrayLocs frame_1_arrays args s ++ Jvm.staticLocs frame_1_statics s) 0 0 → Post tb e args s (.returned v) u) :
    ArmFor flags0 classFile x code maxLocals ret World_1 tables_1 room_1 Calls_1 rest_1 Pre_1 Post := by
  intro l hfl _ _ p e ha hc hk s m args below hf hA hF happ hP
  obtain ⟨hcalls, hrest, hpre⟩ := hP
  obtain ⟨-, -, -, hnamed, -, -, -, hat⟩ := (Spec.applies_iff hf).mp happ
  obtain ⟨hg, hn⟩ := and_e (Cond.before_iff.mp (show (Jvm.Cond.and given_1 narrow_1).before args s = true from hpre))
  obtain ⟨hcount, hg0⟩ := and_e hg
  obtain ⟨ha0, hg1⟩ := and_e hg0
  obtain ⟨ha1, hg2⟩ := and_e hg1
  obtain ⟨ha2, hg3⟩ := and_e hg2
  obtain ⟨w0, w1, w2, w3, rfl⟩ : ∃ w0 w1 w2 w3 : Value, args = #[w0, w1, w2, w3] := by
    have hs : args.size = 4 := by simpa [Cond.value, given_1] using hcount
    obtain ⟨L⟩ := args
    match L, hs with
    | [w0, w1, w2, w3], _ => exact ⟨w0, w1, w2, w3, rfl⟩
  have hw := fun d (hd : d ∈ tables_1) => atoms_spec (ws := Jvm.Cond.code x code maxLocals ret :: tables_1) hat d (List.mem_cons_of_mem _ hd)
  have hfit : Fit s := fun {y c} hc i hi => by
    obtain ⟨ha, rfl⟩ := Array.getElem?_eq_some_iff.mp hc
    have q := List.all_eq_true.mp ((Array.all_eq_true_iff_forall_mem.mp hF) _ (Array.getElem_mem ha)) i (List.mem_range.mpr hi)
    simpa [Array.getElem?_eq_getElem hi] using q
  obtain ⟨i0, ei0⟩ := isL_v ha0
  obtain rfl : w0 = (.long i0) := Option.some.inj ei0
  obtain ⟨i1, ei1⟩ := isL_v ha1
  obtain rfl : w1 = (.long i1) := Option.some.inj ei1
  obtain ⟨i2, ei2⟩ := isL_v ha2
  obtain rfl : w2 = (.long i2) := Option.some.inj ei2
  obtain ⟨i3, ei3⟩ := is_v hg3
  obtain rfl : w3 = (.int i3) := Option.some.inj ei3
  obtain ⟨n, o, h1, h2, h3, _, L, rfl, ⟨rfl, N⟩, hq⟩ := rm0 l s _ hw tables_1 i0 i1 i2 i3  s.heap s.heap.size (Nat.le_refl _)  p e ha hc hk s m _ below hf ((Spec.applies_iff_loose hf).mp happ).1 ⟨rfl, State.Warmed39.refl s, rfl⟩ trivial
  refine ⟨n, _, h1, h2, h3, hpost _ _ _ _ _ _ ⟨Cond.after_iff.mpr rfl, Cond.after_iff.mpr (eq_i res_at (Term.int_eval (1)) rfl), trivial⟩ ⟨hq.1, hq.2.1, (hq.2.2.sift fun y hy => Or.inr (N y hy)).mono (by decide) (by decide)⟩⟩
theorem main_1_1 : Claimed_1_1 := comes_1 fun _ _ _ _ _ _ h hF => ⟨h.1, hF⟩
theorem main_1_2 : Claimed_1_2 := comes_1 fun _ _ _ _ _ _ h hF => ⟨h.2.1, hF⟩
end Jvm.Pilot.@@N@@
namespace Jvm.Pilot.@@N@@
open Jvm Jvm.ClassFile Sem Op Lib Jvm.Free Jvm.Stand Jvm.Pilot.@@N@@.Jvm.D
/-! MADE BY PROGRAM (witnessworld.py) out of the Statement's table words and the real class files: 9 classes; the members and pool entries that the words name. The judged class is class 1, her method 1. -/
namespace start1
open Jvm.ClassFile
def u (s : String) : CpInfo := .utf8 (stringToUtf16 s)
/-- a pool by its gaps: so many unusable entries, then the entry; so many at the end -/
def gap : Nat → List CpInfo → List CpInfo
  | 0, r => r
  | n + 1, r => .unusable :: gap n r
def poolList (es : List (Nat × CpInfo)) (last : Nat) : List CpInfo := es.foldr (fun e r => gap e.1 (e.2 :: r)) (gap last [])
def pool (es : List (Nat × CpInfo)) (last : Nat) : Array CpInfo := ⟨poolList es last⟩
def fileOf (pool : Array CpInfo) (this : Nat) (attrs : Array Attribute := #[]) (ms : Array MethodInfo := #[]) (fl : Nat := 33) (sup : Nat := 0) (ifs : Array Nat := #[]) (fds : Array FieldInfo := #[]) : ClassFile where
  minorVersion := 0
  majorVersion := 65
  constantPool := pool
  accessFlags := fl
  thisClass := this
  superClass := sup
  interfaces := ifs
  fields := fds
  methods := ms
  attributes := attrs
def plain (name : String) (sup : Option ClassId) : Class where
  name := name
  kind := .ordinary
  loader := none
  accessFlags := 33
  super := sup
  interfaces := #[]
  cf := none
  fields := #[]
  methods := #[]
  instanceTypes := #[]
  staticTypes := #[]
  resolved := #[]
  callSites := []
  init := .initialized
  statics := none
  mirror := none

def pool0 : Array CpInfo := pool [(5, u "<init>"), (0, u "()V"), (1, .class_ 10), (1, u "java/lang/Object")] 113

def k0m0 : Method := { name := "<init>", desc := "()V", sig := { parameters := [], returnType := none }, accessFlags := 1, code := none }
/-- java/lang/Object -/
def k0 : Class := { plain "java/lang/Object" none with
  accessFlags := 33
  interfaces := #[]
  cf := some (fileOf pool0 8 #[] #[{ accessFlags := 1, nameIndex := 5, descriptorIndex := 6, attributes := #[] }] 33 0 #[] #[])
  fields := #[]
  methods := #[k0m0]
  instanceTypes := #[]
  staticTypes := #[]
  resolved := Array.replicate 124 none
  statics := none }

def pool1 : Array CpInfo := pool [(2, .class_ 4), (1, u "java/lang/Object"), (0, u "<init>"), (0, u "()V"), (0, .long 15), (1, .long 8), (1, .methodref 12 13), (0, .class_ 14), (0, .nameAndType 15 16), (0, u "com/example/convene/convene/server/Budget"), (0, u "crossesUnder"), (0, u "(JJJ)Z"), (0, .class_ 18), (0, u "com/example/convene/convene/server/BudgetCrossesUnderPinLaw"), (2, u "law"), (0, u "(JJJI)Z")] 3

def k1m0 : Method := { name := "<init>", desc := "()V", sig := { parameters := [], returnType := none }, accessFlags := 1, code := none }
def k1c1 : Code := { maxStack := 6, maxLocals := 14, code := code, exceptionTable := #[], attributes := #[] }
def k1m1 : Method := { name := "law", desc := "(JJJI)Z", sig := { parameters := [.long, .long, .long, .int], returnType := some .boolean }, accessFlags := 9, code := some k1c1 }
/-- com/example/convene/convene/server/BudgetCrossesUnderPinLaw -/
def k1 : Class := { plain "com/example/convene/convene/server/BudgetCrossesUnderPinLaw" (some 0) with
  accessFlags := 49
  interfaces := #[]
  cf := some (fileOf pool1 17 #[] #[{ accessFlags := 1, nameIndex := 5, descriptorIndex := 6, attributes := #[] }, { accessFlags := 9, nameIndex := 21, descriptorIndex := 22, attributes := #[] }] 49 2 #[] #[])
  fields := #[]
  methods := #[k1m0, k1m1]
  instanceTypes := #[]
  staticTypes := #[]
  resolved := Array.replicate 26 none
  statics := none }

def pool2 : Array CpInfo := pool [(2, .class_ 4), (1, u "java/lang/Object"), (6, .class_ 13), (1, u "com/example/convene/convene/server/Budget"), (0, u "held"), (0, u "Ljava/util/concurrent/atomic/AtomicLong;"), (2, u "retired"), (2, u "staked"), (5, u "shared"), (0, u "Ljava/util/concurrent/ConcurrentMap;"), (2, u "limitBytes"), (0, u "J"), (2, u "roomFreed"), (0, u "Ljava/lang/Runnable;"), (10, .class_ 48), (0, u "com/example/convene/convene/server/Budget$1"), (9, .class_ 59), (0, u "com/example/convene/convene/server/Budget$2"), (4, .class_ 65), (0, u "com/example/convene/convene/server/Budget$3"), (17, u "crossesUnder"), (0, u "(JJJ)Z"), (32, .class_ 118), (0, u "com/example/convene/convene/server/Budget$Sharing")] 2

def k2c0 : Code := { maxStack := 4, maxLocals := 6, code := prog_54_method_12_code, exceptionTable := #[], attributes := #[] }
def k2m0 : Method := { name := "crossesUnder", desc := "(JJJ)Z", sig := { parameters := [.long, .long, .long], returnType := some .boolean }, accessFlags := 8, code := some k2c0 }
/-- com/example/convene/convene/server/Budget -/
def k2 : Class := { plain "com/example/convene/convene/server/Budget" (some 0) with
  accessFlags := 32
  interfaces := #[]
  cf := some (fileOf pool2 11 #[.nestMembers #[117, 64, 58, 47]] #[{ accessFlags := 8, nameIndex := 83, descriptorIndex := 84, attributes := #[] }] 32 2 #[] #[{ accessFlags := 18, nameIndex := 31, descriptorIndex := 32, attributes := #[] }, { accessFlags := 18, nameIndex := 35, descriptorIndex := 36, attributes := #[] }, { accessFlags := 18, nameIndex := 14, descriptorIndex := 15, attributes := #[] }, { accessFlags := 18, nameIndex := 18, descriptorIndex := 15, attributes := #[] }, { accessFlags := 18, nameIndex := 21, descriptorIndex := 15, attributes := #[] }, { accessFlags := 18, nameIndex := 27, descriptorIndex := 28, attributes := #[] }])
  fields := #[{ name := "limitBytes", type := .long, accessFlags := 18, slot := 0, constantValue := 0 }, { name := "roomFreed", type := (.object "java/lang/Runnable"), accessFlags := 18, slot := 1, constantValue := 0 }, { name := "held", type := (.object "java/util/concurrent/atomic/AtomicLong"), accessFlags := 18, slot := 2, constantValue := 0 }, { name := "retired", type := (.object "java/util/concurrent/atomic/AtomicLong"), accessFlags := 18, slot := 3, constantValue := 0 }, { name := "staked", type := (.object "java/util/concurrent/atomic/AtomicLong"), accessFlags := 18, slot := 4, constantValue := 0 }, { name := "shared", type := (.object "java/util/concurrent/ConcurrentMap"), accessFlags := 18, slot := 5, constantValue := 0 }]
  methods := #[k2m0]
  instanceTypes := #[.long, (.object "java/lang/Runnable"), (.object "java/util/concurrent/atomic/AtomicLong"), (.object "java/util/concurrent/atomic/AtomicLong"), (.object "java/util/concurrent/atomic/AtomicLong"), (.object "java/util/concurrent/ConcurrentMap")]
  staticTypes := #[]
  resolved := Array.replicate 121 none
  statics := none }

def pool3 : Array CpInfo := pool [(1, u "java/lang/Cloneable"), (0, .class_ 1), (0, u "java/lang/Object"), (0, .class_ 3)] 3

/-- java/lang/Cloneable -/
def k3 : Class := { plain "java/lang/Cloneable" (some 0) with
  accessFlags := 1537
  interfaces := #[]
  cf := some (fileOf pool3 2 #[] #[] 1537 4 #[] #[])
  fields := #[]
  methods := #[]
  instanceTypes := #[]
  staticTypes := #[]
  resolved := Array.replicate 8 none
  statics := none }

def pool4 : Array CpInfo := pool [(1, u "java/io/Serializable"), (0, .class_ 1), (0, u "java/lang/Object"), (0, .class_ 3)] 3

/-- java/io/Serializable -/
def k4 : Class := { plain "java/io/Serializable" (some 0) with
  accessFlags := 1537
  interfaces := #[]
  cf := some (fileOf pool4 2 #[] #[] 1537 4 #[] #[])
  fields := #[]
  methods := #[]
  instanceTypes := #[]
  staticTypes := #[]
  resolved := Array.replicate 8 none
  statics := none }

/-- the primitive byte -/
def k5 : Class := { plain "byte" none with kind := .primitive 'B', accessFlags := 0x411 }
/-- [B -/
def k6 : Class := { plain "[B" (some 0) with kind := .array 5 .byte, interfaces := #[3, 4], accessFlags := 1041 }

/-- the primitive int -/
def k7 : Class := { plain "int" none with kind := .primitive 'I', accessFlags := 0x411 }
/-- [I -/
def k8 : Class := { plain "[I" (some 0) with kind := .array 7 .int, interfaces := #[3, 4], accessFlags := 1041 }

def heap : Heap := #[]
def classes : Array Class := #[k0, k1, k2, k3, k4, k5, k6, k7, k8]
def interned : List (Array UInt16 × Addr) := []
def slotsUsed : Nat := 0
def theMethod : MethodId := ⟨1, 1⟩
def args0 : Array Value := #[.long 5, .long 7, .long 9, .int 1]
def aboutOver (below : List Frame) : State where
  vm := { classes := classes, interned := interned.toArray }
  heap := heap
  slotsUsed := slotsUsed
  threads := #[{ frames := .invoking theMethod args0 :: below }]
def below0 : List Frame := [.native { method := ⟨0, 0⟩, args := #[] }]
def about1 : State := aboutOver below0
def p0 : Program := .bare "" "" ""
def e0 : Env := launch0.env 0 0 0
theorem w_frames : about1.frames = Frame.invoking theMethod args0 :: below0 := rfl
set_option maxRecDepth 65536 in
theorem w_args : argsFit about1.vm theMethod args0 = true := by decide +kernel
set_option maxRecDepth 65536 in
theorem w_heap : heapFits about1 = true := by decide +kernel
set_option maxRecDepth 65536 in
theorem w_runnable : about1.curStatus? = some .runnable := by decide +kernel
set_option maxRecDepth 65536 in
theorem w_alone : about1.alone = true := by decide +kernel
set_option maxRecDepth 65536 in
theorem w_named : about1.methodNamed? x = some theMethod := by decide +kernel
set_option maxRecDepth 65536 in
theorem w_hears : about1.hears theMethod below0 = true := by decide +kernel
set_option maxRecDepth 65536 in
theorem w_ripe : about1.ripe theMethod args0 below0 = true := by decide +kernel
theorem w_running : about1.status = .running := rfl
set_option maxRecDepth 65536 in
theorem w_room : about1.hasRoom e0.platform room_1 = true :=
  launch0.hasRoom_least _ room_1 (by decide +kernel) (by decide +kernel) (by decide +kernel) (by decide +kernel) (by decide +kernel) (by decide +kernel)
theorem allAtoms_all (ts : List Jvm.Cond) (a : Array Jvm.Value) (st : Jvm.State) : (allAtoms ts).before a st = ts.all (fun c => c.before a st) := by
  induction ts with
  | nil => rfl
  | cons c t ih =>
    show (Jvm.Cond.and c (allAtoms t)).before a st = _
    rw [Jvm.Cond.before_and, ih, List.all_cons]
def words1 : List Jvm.Cond := Jvm.Cond.code x code maxLocals ret :: tables_1
/-- a 'code' word, met by the world's own term for the bytes: nothing is compared byte by byte -/
theorem code_word {y : MethodName} {bytes : ByteArray} {mx : Nat} {rt : Option FieldType} {a : Array Value} {s : State} {m : MethodId} {meth : Method} {c : Code} (h1 : s.methodNamed? y = some m) (h2 : s.vm.method? m = some meth) (h3 : meth.code = some c) (h4 : c.code = bytes)
    (h5 : (c.maxLocals == mx && c.exceptionTable.isEmpty && decide (c.maxStack ≤ mostOperands) && decide (meth.sig.returnType = rt) && !meth.locks && decide (parseMethodDescriptor y.desc = some meth.sig)) = true) : (Jvm.Cond.code y bytes mx rt).before a s = true := by
  simp only [Bool.and_eq_true, beq_iff_eq, Bool.not_eq_true', decide_eq_true_eq] at h5
  obtain ⟨⟨⟨⟨⟨g1, g2⟩, g3⟩, g4⟩, g5⟩, g6⟩ := h5
  simp [Cond.before, Cond.holds, Cond.value, h1, h2, h3, h4, g1, g2, g3, g4, g5, g6]
def isCode : Jvm.Cond → Bool
  | .code _ _ _ _ => true
  | _ => false
theorem all_split {L : List Jvm.Cond} {P : Jvm.Cond → Bool} (h1 : L.all (fun c => isCode c || P c) = true) (h2 : ∀ c ∈ L.filter isCode, P c = true) : L.all P = true := by
  refine List.all_eq_true.mpr fun c hc => ?_
  have h := List.all_eq_true.mp h1 c hc
  rcases Bool.eq_false_or_eq_true (isCode c) with hi | hi
  · exact h2 c (List.mem_filter.mpr ⟨hc, hi⟩)
  · simpa [hi] using h
set_option maxRecDepth 65536 in
theorem w_c0 : (Jvm.Cond.code x code maxLocals ret).before args0 about1 = true := code_word (m := ⟨1, 1⟩) (meth := k1m1) (c := k1c1) (by decide +kernel) rfl rfl rfl (by decide +kernel)
set_option maxRecDepth 65536 in
theorem w_c1 : (Jvm.Cond.code ({ cls := "com/example/convene/convene/server/Budget", name := "crossesUnder", desc := "(JJJ)Z" } : Jvm.MethodName) prog_54_method_12_code (6 : Nat) (Option.some Jvm.ClassFile.FieldType.boolean)).before args0 about1 = true := code_word (m := ⟨2, 0⟩) (meth := k2m0) (c := k2c0) (by decide +kernel) rfl rfl rfl (by decide +kernel)
def codes1 : List Jvm.Cond := [Jvm.Cond.code x code maxLocals ret, Jvm.Cond.code ({ cls := "com/example/convene/convene/server/Budget", name := "crossesUnder", desc := "(JJJ)Z" } : Jvm.MethodName) prog_54_method_12_code (6 : Nat) (Option.some Jvm.ClassFile.FieldType.boolean)]
set_option maxRecDepth 65536 in
theorem codes_eq : words1.filter isCode = codes1 := rfl
theorem w_codes : ∀ c ∈ words1.filter isCode, c.before args0 about1 = true := by
  rw [codes_eq]
  intro c hc
  simp only [codes1, List.mem_cons, List.not_mem_nil, or_false] at hc
  rcases hc with rfl | rfl
  · exact w_c0
  · exact w_c1
set_option maxRecDepth 65536 in
theorem w_t1 : words1.all (fun c => isCode c || c.before args0 about1) = true := by decide +kernel
theorem w_tables : (allAtoms (Jvm.Cond.code x code maxLocals ret :: tables_1)).before args0 about1 = true := by
  rw [allAtoms_all]
  show words1.all (fun c => c.before args0 about1) = true
  refine all_split ?_ w_codes
  rw [w_t1]
set_option maxRecDepth 65536 in
theorem w_case : (Jvm.Cond.and given_1 narrow_1).before args0 about1 = true := by decide +kernel
theorem w_applies : (headSpec (Jvm.Cond.code x code maxLocals ret :: tables_1) room_1).applies x e0.platform about1 = true :=
  (Spec.applies_iff w_frames).mpr ⟨w_running, w_runnable, w_alone, w_named, w_hears, w_ripe, w_room, w_tables⟩
theorem atStart : AtStart classFile x code maxLocals ret World_1 tables_1 room_1 Calls_1 rest_1 Pre_1 launch0 p0 e0 about1 theMethod args0 below0 :=
  ⟨lists_1, trivial, launch0.admits_env _ _ _, launch0.least_env, fairChoices_fair.cas, fairChoices_fair.clock, w_frames, w_args, w_heap, w_applies, trivial, trivial, w_case⟩
end start1
theorem witness_1 : WitnessClaimed_1 := ⟨start1.p0, start1.e0, start1.about1, start1.theMethod, start1.args0, start1.below0, start1.atStart⟩
end Jvm.Pilot.@@N@@
