import JvmDerived
import JvmDerived.Pilot.@@N@@Statement
import JvmDerived.Pilot.@@N@@Code
set_option linter.unusedVariables false
set_option linter.unusedSimpArgs false
@@BLOCK:NumsL.lean.txt@@
namespace Jvm.Pilot.@@N@@
open Jvm Jvm.ClassFile Sem Op Lib Jvm.Free Jvm.Stand Jvm.LawKit Jvm.RoadKit Bundle Jvm.Pilot.@@N@@.Jvm.D
abbrev own_S (p : Program) (e : Env) (below : List Frame) (T : State) (g : JFrame) (t : State) : Prop := Steps p.tables e below (T.setTop g) t

theorem own_bv8 (b : BitVec 64) : b &&& (-8#64) = b - (b &&& 7#64) := by
  have h1 : (b &&& ~~~7#64) &&& (b &&& 7#64) = 0#64 := by
    ext i hi
    simp only [BitVec.getElem_and, BitVec.getElem_not, BitVec.getElem_zero]
    cases b[i] <;> cases (7#64)[i] <;> rfl
  have h2 := BitVec.add_eq_or_of_and_eq_zero (b &&& ~~~7#64) (b &&& 7#64) h1
  have h3 : (b &&& ~~~7#64) ||| (b &&& 7#64) = b := by
    ext i hi
    simp only [BitVec.getElem_or, BitVec.getElem_and, BitVec.getElem_not]
    cases b[i] <;> cases (7#64)[i] <;> rfl
  have h4 : (-8#64) = ~~~7#64 := by decide
  rw [h4]
  rw [h3] at h2
  calc b &&& ~~~7#64 = (b &&& ~~~7#64) + (b &&& 7#64) - (b &&& 7#64) := by rw [BitVec.add_sub_cancel]
    _ = b - (b &&& 7#64) := by rw [h2]
theorem own_al (x : Int64) : (x &&& (-8 : Int64)) = x - (x &&& (7 : Int64)) := by
  apply Int64.toBitVec_inj.mp
  exact own_bv8 x.toBitVec
theorem own_four (p : Int32) : p &&& (3 : Int32) = 0 ∨ p &&& (3 : Int32) = 1 ∨ p &&& (3 : Int32) = 2 ∨ p &&& (3 : Int32) = 3 := by
  have e : (p &&& (3 : Int32)).toInt = p.toInt % 2 ^ 2 := Jvm.Kit.i32_mask p 3 (k := 2) (by decide) (by decide)
  simp only [← Int32.toInt_inj]
  have e0 : (0 : Int32).toInt = 0 := by decide
  have e1 : (1 : Int32).toInt = 1 := by decide
  have e2 : (2 : Int32).toInt = 2 := by decide
  have e3 : (3 : Int32).toInt = 3 := by decide
  omega
theorem own_el (p el : Int32) (h : el = ((1 : Int32) <<< ((p &&& (3 : Int32)) &&& 31))) : el = 1 ∨ el = 2 ∨ el = 4 ∨ el = 8 := by
  rcases own_four p with q | q | q | q <;> rw [q] at h
  · exact Or.inl (h.trans (by decide))
  · exact Or.inr (Or.inl (h.trans (by decide)))
  · exact Or.inr (Or.inr (Or.inl (h.trans (by decide))))
  · exact Or.inr (Or.inr (Or.inr (h.trans (by decide))))
theorem own_raw (q len raw : Int64) (el : Int32) (h1 : len = (q &&& (576460752303423487 : Int64))) (h2 : el = 1 ∨ el = 2 ∨ el = 4 ∨ el = 8) (h3 : raw = ((16 : Int64) + (len * ((el).toInt64)))) : 0 ≤ raw.toInt ∧ raw.toInt < 2 ^ 62 + 16 := by
  have e : (q &&& (576460752303423487 : Int64)).toInt = q.toInt % 2 ^ 59 := Jvm.Kit.i64_mask q 576460752303423487 (k := 59) (by decide) (by decide)
  rw [← h1] at e
  have c16 : (16 : Int64).toInt = 16 := by decide
  have hm : ∃ k : Int, (k = 1 ∨ k = 2 ∨ k = 4 ∨ k = 8) ∧ (el.toInt64).toInt = k := by
    rw [Jvm.Kit.i64_of_i32]
    rcases h2 with rfl | rfl | rfl | rfl
    · exact ⟨1, by omega, by decide⟩
    · exact ⟨2, by omega, by decide⟩
    · exact ⟨4, by omega, by decide⟩
    · exact ⟨8, by omega, by decide⟩
  obtain ⟨k, hk, hk2⟩ := hm
  have e2 : (len * el.toInt64).toInt = len.toInt * k := by
    rw [← hk2]
    refine Jvm.Kit.i64_mul ?_ ?_ <;> rw [hk2] <;> rcases hk with rfl | rfl | rfl | rfl <;> omega
  have e3 : raw.toInt = 16 + len.toInt * k := by
    rw [h3, ← c16, ← e2]
    refine Jvm.Kit.i64_add ?_ ?_ <;> rw [e2] <;> rcases hk with rfl | rfl | rfl | rfl <;> omega
  rcases hk with rfl | rfl | rfl | rfl <;> omega
theorem own_law (raw : Int64) (h : 0 ≤ raw.toInt ∧ raw.toInt < 2 ^ 62 + 16) : ((raw + (7 : Int64)) &&& (-8 : Int64)) = (if (raw - (raw / (8 : Int64)) * (8 : Int64)) = (0 : Int64) then raw else (raw + ((8 : Int64) - (raw - (raw / (8 : Int64)) * (8 : Int64))))) := by
  have c7 : (7 : Int64).toInt = 7 := by decide
  have c8 : (8 : Int64).toInt = 8 := by decide
  have c0 : (0 : Int64).toInt = 0 := by decide
  have er : (raw - (raw / (8 : Int64)) * (8 : Int64)).toInt = raw.toInt % (8 : Int64).toInt := Jvm.Kit.i64_rem_nonneg h.1
  rw [c8] at er
  generalize (raw - (raw / (8 : Int64)) * (8 : Int64)) = rem at er ⊢
  have e1 : (raw + (7 : Int64)).toInt = raw.toInt + 7 := by rw [← c7]; exact Jvm.Kit.i64_add (by omega) (by omega)
  have e2 : ((raw + (7 : Int64)) &&& (7 : Int64)).toInt = (raw + (7 : Int64)).toInt % 2 ^ 3 := Jvm.Kit.i64_mask _ 7 (k := 3) (by decide) (by decide)
  rw [own_al]
  have e3 : ((raw + (7 : Int64)) - ((raw + (7 : Int64)) &&& (7 : Int64))).toInt = (raw + (7 : Int64)).toInt - ((raw + (7 : Int64)) &&& (7 : Int64)).toInt := Jvm.Kit.i64_sub (by omega) (by omega)
  by_cases q : rem = (0 : Int64)
  · rw [if_pos q, ← Int64.toInt_inj, e3, e2, e1]
    rw [← Int64.toInt_inj, c0] at q
    omega
  · rw [if_neg q, ← Int64.toInt_inj, e3, e2, e1]
    rw [← Int64.toInt_inj, c0] at q
    have e4 : ((8 : Int64) - rem).toInt = (8 : Int64).toInt - rem.toInt := Jvm.Kit.i64_sub (by omega) (by omega)
    have e5 : (raw + ((8 : Int64) - rem)).toInt = raw.toInt + ((8 : Int64) - rem).toInt := Jvm.Kit.i64_add (by omega) (by omega)
    rw [e5, e4]
    omega
theorem d2_0 : decode prog_88_method_5_code 0 = .ok (.lload_n 0, 1) := by decide +kernel
theorem d2_1 : decode prog_88_method_5_code 1 = .ok (.ldc2_w 38, 3) := by decide +kernel
theorem d2_4 : decode prog_88_method_5_code 4 = .ok (.ladd, 1) := by decide +kernel
theorem d2_5 : decode prog_88_method_5_code 5 = .ok (.ldc2_w 40, 3) := by decide +kernel
theorem d2_8 : decode prog_88_method_5_code 8 = .ok (.land, 1) := by decide +kernel
theorem d2_9 : decode prog_88_method_5_code 9 = .ok (.lreturn, 1) := by decide +kernel
theorem pn_2 : plainName "com/example/enact/enact/model/HeapLayout" = true := by first | (simp [plainName, overriddenIn]; done) | decide +kernel
theorem ef_2 (m : MethodId) (q0 : Int64) : entryFrame m #[(.long q0)] 2 = mkF m 0 #[.val (.long q0), .second] [] := by first | (simp [entryFrame, mkF, argsToLocals, Value.category]; done) | rfl
def Q2 (Z : State) (q0 : Int64) (h0 : Heap) (n0 : Nat) (v : Option Value) (h : Heap) (L : List Loc) : Prop := v = some (.long ((q0 + (7 : Int64)) &&& (-8 : Int64))) ∧ Fr n0 L ∧ h = h0
set_option maxRecDepth 65536 in
set_option maxHeartbeats 40000000 in
theorem rm2 (l : Launch) (Z : State) (a0 : Array Value) (hw : ∀ d ∈ tables_1, d.before a0 Z = true) (ws : List Jvm.Cond) (q0 : Int64) (h0 : Heap) (n0 : Nat) (Z0 : n0 ≤ h0.size) :
    MetFree l (⟨"com/example/enact/enact/model/HeapLayout", "aligned", "(J)J"⟩ : MethodName) (head1 (Jvm.Cond.code (⟨"com/example/enact/enact/model/HeapLayout", "aligned", "(J)J"⟩ : MethodName) prog_88_method_5_code 2 (some .long) :: ws) ({ frames := 0, cells := 0, slots := 0, locals := 0 } : Room)) (fun a U => a = #[(.long q0)] ∧ Z.Warmed39 U.vm ∧ U.heap = h0) (fun _ _ _ _ _ => True) (fun _ U o U' => ∃ v L, o = .returned v ∧ Q2 Z q0 h0 n0 v U'.heap L ∧ FrameEnd U o U' L ({ frames := 0, cells := 0, slots := 0, locals := 0 } : Room).cells ({ frames := 0, cells := 0, slots := 0, locals := 0 } : Room).slots) := by
  refine MetFree.of_bodySF (plainFor_of_name pn_2) hisR ?_
  intro p e s m args below meth c s₁ Bd hml0 hP hK
  obtain ⟨rfl, hZ, hh⟩ := hP
  have hx := Bd.exec
  have hby := Bd.bytes
  have hml : c.maxLocals = 2 := hml0
  have hown : s.vm.findClass "com/example/enact/enact/model/HeapLayout" = some m.cls := findClass_of_methodNamed Bd.named
  have hnm := (name_of_methodNamed Bd.named Bd.method).1
  have X0 : Stand p l e ({ frames := 0, cells := 0, slots := 0, locals := 0 } : Room) s m #[(.long q0)] below meth c s₁ [] 0 0 := Stand.of_body Bd
  have e0 : s₁.heap = h0 := by rw [← hh, Bd.state]; rfl
  have N0 := Fr.nil n0
  have K0 : ∀ t, Steps p.tables e below (s₁.setTop (mkF m 0 #[.val (.long q0), .second] [])) t → Steps p.tables e below (s₁.setTop (entryFrame m #[(.long q0)] 2)) t := fun t k => castTop (ef_2 m q0) k
  generalize s₁.setTop (entryFrame m #[(.long q0)] 2) = SE at K0 ⊢
  have K1 : ∀ t, own_S p e below s₁ (mkF m 9 #[.val (.long q0), .second] [(.long ((q0 + (7 : Int64)) &&& (-8 : Int64)))]) t → Steps p.tables e below SE t := by
    intro t k
    refine K0 _ ?_
    refine XS.lloadN X0.here hx rfl (hb hby d2_0) rfl ?_
    show own_S p e below s₁ (mkF m 1 #[.val (.long q0), .second] [(.long q0)]) _
    refine Stand.ldc2J X0 hx hown (mvT hZ (hw _ (List.mem_of_getElem? (i := 11) rfl))) (v := (7 : Int64)) (g := (mkF m 1 #[.val (.long q0), .second] [(.long q0)])) rfl (hb hby d2_1) ?_
    show own_S p e below s₁ (mkF m 4 #[.val (.long q0), .second] [(.long (7 : Int64)), (.long q0)]) _
    refine XS.ladd X0.here hx rfl (hb hby d2_4) rfl ?_
    show own_S p e below s₁ (mkF m 5 #[.val (.long q0), .second] [(.long (q0 + (7 : Int64)))]) _
    refine Stand.ldc2J X0 hx hown (mvT hZ (hw _ (List.mem_of_getElem? (i := 12) rfl))) (v := (-8 : Int64)) (g := (mkF m 5 #[.val (.long q0), .second] [(.long (q0 + (7 : Int64)))])) rfl (hb hby d2_5) ?_
    show own_S p e below s₁ (mkF m 8 #[.val (.long q0), .second] [(.long (-8 : Int64)), (.long (q0 + (7 : Int64)))]) _
    refine XS.land X0.here hx rfl (hb hby d2_8) rfl ?_
    exact k
  obtain ⟨fs, hr, hrun, hended, hW, hsame⟩ := X0.leave (v := some (.long ((q0 + (7 : Int64)) &&& (-8 : Int64)))) (fun h => by rw [Bd.returns] at h; cases h)
  refine ⟨_, _, K1 _ ?_, hrun, hended, _, _, rfl, ?_, ⟨_, rfl⟩, hW, hsame.mono (by decide) (by decide)⟩
  · exact X0.lreturnOut hx Bd.returns (hb hby d2_9) hr
  · show Q2 Z q0 h0 n0 _ s₁.heap _
    rw [e0]
    exact ⟨rfl, N0, rfl⟩
theorem d1_0 : decode prog_88_method_2_code 0 = .ok (.ldc2_w 9, 3) := by decide +kernel
theorem d1_3 : decode prog_88_method_2_code 3 = .ok (.lload_n 0, 1) := by decide +kernel
theorem d1_4 : decode prog_88_method_2_code 4 = .ok (.iload_n 2, 1) := by decide +kernel
theorem d1_5 : decode prog_88_method_2_code 5 = .ok (.i2l, 1) := by decide +kernel
theorem d1_6 : decode prog_88_method_2_code 6 = .ok (.lmul, 1) := by decide +kernel
theorem d1_7 : decode prog_88_method_2_code 7 = .ok (.ladd, 1) := by decide +kernel
theorem d1_8 : decode prog_88_method_2_code 8 = .ok (.invokestatic 11, 3) := by decide +kernel
theorem d1_11 : decode prog_88_method_2_code 11 = .ok (.lreturn, 1) := by decide +kernel
theorem pd_1_0 : parseMethodDescriptor "(J)J" = some ⟨[.long], some .long⟩ := by decide +kernel
theorem ef_1 (m : MethodId) (q0 : Int64) (p1 : Int32) : entryFrame m #[(.long q0), (.int p1)] 3 = mkF m 0 #[.val (.long q0), .second, .val (.int p1)] [] := by first | (simp [entryFrame, mkF, argsToLocals, Value.category]; done) | rfl
def Q1 (Z : State) (q0 : Int64) (p1 : Int32) (h0 : Heap) (n0 : Nat) (v : Option Value) (h : Heap) (L : List Loc) : Prop := v = some (.long ((((16 : Int64) + (q0 * ((p1).toInt64))) + (7 : Int64)) &&& (-8 : Int64))) ∧ Fr n0 L ∧ h = h0
set_option maxRecDepth 65536 in
set_option maxHeartbeats 40000000 in
theorem rm1 (l : Launch) (Z : State) (a0 : Array Value) (hw : ∀ d ∈ tables_1, d.before a0 Z = true) (ws : List Jvm.Cond) (q0 : Int64) (p1 : Int32) (h0 : Heap) (n0 : Nat) (Z0 : n0 ≤ h0.size) :
    MetFree l (⟨"com/example/enact/enact/model/HeapLayout", "array", "(JI)J"⟩ : MethodName) (head1 (Jvm.Cond.code (⟨"com/example/enact/enact/model/HeapLayout", "array", "(JI)J"⟩ : MethodName) prog_88_method_2_code 3 (some .long) :: ws) ({ frames := 1, cells := 0, slots := 0, locals := 13 } : Room)) (fun a U => a = #[(.long q0), (.int p1)] ∧ Z.Warmed39 U.vm ∧ U.heap = h0) (fun _ _ _ _ _ => True) (fun _ U o U' => ∃ v L, o = .returned v ∧ Q1 Z q0 p1 h0 n0 v U'.heap L ∧ FrameEnd U o U' L ({ frames := 1, cells := 0, slots := 0, locals := 13 } : Room).cells ({ frames := 1, cells := 0, slots := 0, locals := 13 } : Room).slots) := by
  refine MetFree.of_bodySF (plainFor_of_name pn_2) hisR ?_
  intro p e s m args below meth c s₁ Bd hml0 hP hK
  obtain ⟨rfl, hZ, hh⟩ := hP
  have hx := Bd.exec
  have hby := Bd.bytes
  have hml : c.maxLocals = 3 := hml0
  have hown : s.vm.findClass "com/example/enact/enact/model/HeapLayout" = some m.cls := findClass_of_methodNamed Bd.named
  have hnm := (name_of_methodNamed Bd.named Bd.method).1
  have X0 : Stand p l e ({ frames := 1, cells := 0, slots := 0, locals := 13 } : Room) s m #[(.long q0), (.int p1)] below meth c s₁ [] 0 0 := Stand.of_body Bd
  have e0 : s₁.heap = h0 := by rw [← hh, Bd.state]; rfl
  have N0 := Fr.nil n0
  have K0 : ∀ t, Steps p.tables e below (s₁.setTop (mkF m 0 #[.val (.long q0), .second, .val (.int p1)] [])) t → Steps p.tables e below (s₁.setTop (entryFrame m #[(.long q0), (.int p1)] 3)) t := fun t k => castTop (ef_1 m q0 p1) k
  generalize s₁.setTop (entryFrame m #[(.long q0), (.int p1)] 3) = SE at K0 ⊢
  have K1 : ∀ t, own_S p e below s₁ (mkF m 8 #[.val (.long q0), .second, .val (.int p1)] [(.long ((16 : Int64) + (q0 * ((p1).toInt64))))]) t → Steps p.tables e below SE t := by
    intro t k
    refine K0 _ ?_
    refine Stand.ldc2J X0 hx hown (mvT hZ (hw _ (List.mem_of_getElem? (i := 7) rfl))) (v := (16 : Int64)) (g := (mkF m 0 #[.val (.long q0), .second, .val (.int p1)] [])) rfl (hb hby d1_0) ?_
    show own_S p e below s₁ (mkF m 3 #[.val (.long q0), .second, .val (.int p1)] [(.long (16 : Int64))]) _
    refine XS.lloadN X0.here hx rfl (hb hby d1_3) rfl ?_
    show own_S p e below s₁ (mkF m 4 #[.val (.long q0), .second, .val (.int p1)] [(.long q0), (.long (16 : Int64))]) _
    refine XS.iloadN X0.here hx rfl (hb hby d1_4) rfl ?_
    show own_S p e below s₁ (mkF m 5 #[.val (.long q0), .second, .val (.int p1)] [(.int p1), (.long q0), (.long (16 : Int64))]) _
    refine XS.i2l X0.here hx rfl (hb hby d1_5) rfl ?_
    show own_S p e below s₁ (mkF m 6 #[.val (.long q0), .second, .val (.int p1)] [(.long ((p1).toInt64)), (.long q0), (.long (16 : Int64))]) _
    refine XS.lmul X0.here hx rfl (hb hby d1_6) rfl ?_
    show own_S p e below s₁ (mkF m 7 #[.val (.long q0), .second, .val (.int p1)] [(.long (q0 * ((p1).toInt64))), (.long (16 : Int64))]) _
    refine XS.ladd X0.here hx rfl (hb hby d1_7) rfl ?_
    exact k
  obtain ⟨_, _, ⟨T2, L2, k2, n2⟩, -, X2, ⟨Lc2, hQ2, l2, y2, z2⟩, st2⟩ := Jvm.LawKit.callS X0 hx (y := (⟨"com/example/enact/enact/model/HeapLayout", "aligned", "(J)J"⟩ : MethodName)) hown (mvT hZ (hw _ (List.mem_of_getElem? (i := 8) rfl))) (mvT hZ (hw _ (List.mem_of_getElem? (i := 9) rfl))) (mvT hZ (hw _ (List.mem_of_getElem? (i := 5) rfl))) (mvT hZ (hw _ (List.mem_of_getElem? (i := 10) rfl))) (by decide) (backOf (W := 0) (rm2 l Z a0 hw [] ((16 : Int64) + (q0 * ((p1).toInt64))) h0 n0 Z0) hZ (hw _ (List.mem_of_getElem? (i := 10) rfl)) (hw _ (List.mem_of_getElem? (i := 5) rfl)) (by decide) (by decide)) (g := (mkF m 8 #[.val (.long q0), .second, .val (.int p1)] [(.long ((16 : Int64) + (q0 * ((p1).toInt64))))])) rfl (by rw [hml]; rfl) (argsL := [(.long ((16 : Int64) + (q0 * ((p1).toInt64))))]) (rest := []) (lenOf pd_1_0 rfl) rfl (by show 2 * 0 + _ ≤ _; exact Nat.le_of_eq rfl) (hb hby d1_8) (fun _ _ => ⟨rfl, e0, (by decide : 0 + 0 ≤ _), (by decide : 0 + 0 ≤ _)⟩)
  dsimp only [Pt.U, Pt.locs, Pt.cells, Pt.slots] at X2 l2 y2 z2 st2 hQ2
  subst l2 y2 z2
  obtain ⟨rfl, Nq2, e2⟩ := hQ2
  have N2 := Fr.app N0 Nq2
  have K2 : ∀ t, own_S p e below T2 (mkF m 11 #[.val (.long q0), .second, .val (.int p1)] [(.long ((((16 : Int64) + (q0 * ((p1).toInt64))) + (7 : Int64)) &&& (-8 : Int64)))]) t → Steps p.tables e below SE t := fun t k => K1 _ (st2 _ k)
  obtain ⟨fs, hr, hrun, hended, hW, hsame⟩ := X2.leave (v := some (.long ((((16 : Int64) + (q0 * ((p1).toInt64))) + (7 : Int64)) &&& (-8 : Int64)))) (fun h => by rw [Bd.returns] at h; cases h)
  refine ⟨_, _, K2 _ ?_, hrun, hended, _, _, rfl, ?_, ⟨_, rfl⟩, hW, hsame.mono (by decide) (by decide)⟩
  · exact X2.lreturnOut hx Bd.returns (hb hby d1_11) hr
  · show Q1 Z q0 p1 h0 n0 _ T2.heap _
    rw [e2]
    exact ⟨rfl, N2, rfl⟩
theorem pn_0 : plainName "com/example/enact/enact/model/HeapLayoutArrayPinLaw" = true := by first | (simp [plainName, overriddenIn]; done) | decide +kernel
theorem pd_0_0 : parseMethodDescriptor "(JI)J" = some ⟨[.long, .int], some .long⟩ := by decide +kernel
theorem ef_0 (m : MethodId) (q0 : Int64) (p1 : Int32) : entryFrame m #[(.long q0), (.int p1)] maxLocals = mkF m 0 #[.val (.long q0), .second, .val (.int p1), .unset, .unset, .unset, .unset, .unset, .unset, .unset, .unset, .unset, .unset, .unset] [] := by first | (simp [entryFrame, mkF, argsToLocals, Value.category, maxLocals]; done) | rfl
def Q0 (Z : State) (q0 : Int64) (p1 : Int32) (h0 : Heap) (n0 : Nat) (v : Option Value) (h : Heap) (L : List Loc) : Prop := v = some (.int 1) ∧ Fr n0 L
set_option maxRecDepth 65536 in
set_option maxHeartbeats 40000000 in
theorem rm0 (l : Launch) (Z : State) (a0 : Array Value) (hw : ∀ d ∈ tables_1, d.before a0 Z = true) (ws : List Jvm.Cond) (q0 : Int64) (p1 : Int32) (h0 : Heap) (n0 : Nat) (Z0 : n0 ≤ h0.size) :
    MetFree l x (head1 (Jvm.Cond.code x code maxLocals ret :: ws) room_1) (fun a U => a = #[(.long q0), (.int p1)] ∧ Z.Warmed39 U.vm ∧ U.heap = h0) (fun _ _ _ _ _ => True) (fun _ U o U' => ∃ v L, o = .returned v ∧ Q0 Z q0 p1 h0 n0 v U'.heap L ∧ FrameEnd U o U' L room_1.cells room_1.slots) := by
  refine MetFree.of_bodySF (plainFor_of_name pn_0) hisR ?_
  intro p e s m args below meth c s₁ Bd hml0 hP hK
  obtain ⟨rfl, hZ, hh⟩ := hP
  have hx := Bd.exec
  have hby := Bd.bytes
  have hml : c.maxLocals = 14 := hml0
  have hown : s.vm.findClass "com/example/enact/enact/model/HeapLayoutArrayPinLaw" = some m.cls := findClass_of_methodNamed Bd.named
  have hnm := (name_of_methodNamed Bd.named Bd.method).1
  have X0 : Stand p l e room_1 s m #[(.long q0), (.int p1)] below meth c s₁ [] 0 0 := Stand.of_body Bd
  have e0 : s₁.heap = h0 := by rw [← hh, Bd.state]; rfl
  have N0 := Fr.nil n0
  have K0 : ∀ t, Steps p.tables e below (s₁.setTop (mkF m 0 #[.val (.long q0), .second, .val (.int p1), .unset, .unset, .unset, .unset, .unset, .unset, .unset, .unset, .unset, .unset, .unset] [])) t → Steps p.tables e below (s₁.setTop (entryFrame m #[(.long q0), (.int p1)] maxLocals)) t := fun t k => castTop (ef_0 m q0 p1) k
  generalize s₁.setTop (entryFrame m #[(.long q0), (.int p1)] maxLocals) = SE at K0 ⊢
  have K1 : ∀ t, own_S p e below s₁ (mkF m 6 #[.val (.long q0), .second, .val (.int p1), .val (.long (q0 &&& (576460752303423487 : Int64))), .second, .unset, .unset, .unset, .unset, .unset, .unset, .unset, .unset, .unset] []) t → Steps p.tables e below SE t := by
    intro t k
    refine K0 _ ?_
    refine XS.lloadN X0.here hx rfl (hb hby at_0) rfl ?_
    show own_S p e below s₁ (mkF m 1 #[.val (.long q0), .second, .val (.int p1), .unset, .unset, .unset, .unset, .unset, .unset, .unset, .unset, .unset, .unset, .unset] [(.long q0)]) _
    refine Stand.ldc2J X0 hx hown (mvT hZ (hw _ (List.mem_of_getElem? (i := 0) rfl))) (v := (576460752303423487 : Int64)) (g := (mkF m 1 #[.val (.long q0), .second, .val (.int p1), .unset, .unset, .unset, .unset, .unset, .unset, .unset, .unset, .unset, .unset, .unset] [(.long q0)])) rfl (hb hby at_1) ?_
    show own_S p e below s₁ (mkF m 4 #[.val (.long q0), .second, .val (.int p1), .unset, .unset, .unset, .unset, .unset, .unset, .unset, .unset, .unset, .unset, .unset] [(.long (576460752303423487 : Int64)), (.long q0)]) _
    refine XS.land X0.here hx rfl (hb hby at_4) rfl ?_
    show own_S p e below s₁ (mkF m 5 #[.val (.long q0), .second, .val (.int p1), .unset, .unset, .unset, .unset, .unset, .unset, .unset, .unset, .unset, .unset, .unset] [(.long (q0 &&& (576460752303423487 : Int64)))]) _
    refine XS.lstoreN X0.here hx rfl (hb hby at_5) rfl (l' := #[.val (.long q0), .second, .val (.int p1), .val (.long (q0 &&& (576460752303423487 : Int64))), .second, .unset, .unset, .unset, .unset, .unset, .unset, .unset, .unset, .unset]) rfl ?_
    exact k
  obtain ⟨len, hlen⟩ : ∃ z : Int64, z = (q0 &&& (576460752303423487 : Int64)) := ⟨_, rfl⟩
  rw [← hlen] at K1
  have K2 : ∀ t, own_S p e below s₁ (mkF m 13 #[.val (.long q0), .second, .val (.int p1), .val (.long len), .second, .val (.int ((1 : Int32) <<< ((p1 &&& (3 : Int32)) &&& 31))), .unset, .unset, .unset, .unset, .unset, .unset, .unset, .unset] []) t → Steps p.tables e below SE t := by
    intro t k
    refine K1 _ ?_
    refine XS.iconst X0.here hx rfl (hb hby at_6) ?_
    show own_S p e below s₁ (mkF m 7 #[.val (.long q0), .second, .val (.int p1), .val (.long len), .second, .unset, .unset, .unset, .unset, .unset, .unset, .unset, .unset, .unset] [(.int (1 : Int32))]) _
    refine XS.iloadN X0.here hx rfl (hb hby at_7) rfl ?_
    show own_S p e below s₁ (mkF m 8 #[.val (.long q0), .second, .val (.int p1), .val (.long len), .second, .unset, .unset, .unset, .unset, .unset, .unset, .unset, .unset, .unset] [(.int p1), (.int (1 : Int32))]) _
    refine XS.iconst X0.here hx rfl (hb hby at_8) ?_
    show own_S p e below s₁ (mkF m 9 #[.val (.long q0), .second, .val (.int p1), .val (.long len), .second, .unset, .unset, .unset, .unset, .unset, .unset, .unset, .unset, .unset] [(.int (3 : Int32)), (.int p1), (.int (1 : Int32))]) _
    refine XS.iand X0.here hx rfl (hb hby at_9) rfl ?_
    show own_S p e below s₁ (mkF m 10 #[.val (.long q0), .second, .val (.int p1), .val (.long len), .second, .unset, .unset, .unset, .unset, .unset, .unset, .unset, .unset, .unset] [(.int (p1 &&& (3 : Int32))), (.int (1 : Int32))]) _
    refine XS.ishl X0.here hx rfl (hb hby at_10) rfl ?_
    show own_S p e below s₁ (mkF m 11 #[.val (.long q0), .second, .val (.int p1), .val (.long len), .second, .unset, .unset, .unset, .unset, .unset, .unset, .unset, .unset, .unset] [(.int ((1 : Int32) <<< ((p1 &&& (3 : Int32)) &&& 31)))]) _
    refine XS.istore X0.here hx rfl (hb hby at_11) rfl (l' := #[.val (.long q0), .second, .val (.int p1), .val (.long len), .second, .val (.int ((1 : Int32) <<< ((p1 &&& (3 : Int32)) &&& 31))), .unset, .unset, .unset, .unset, .unset, .unset, .unset, .unset]) rfl ?_
    exact k
  obtain ⟨el, hel⟩ : ∃ z : Int32, z = ((1 : Int32) <<< ((p1 &&& (3 : Int32)) &&& 31)) := ⟨_, rfl⟩
  rw [← hel] at K2
  have K3 : ∀ t, own_S p e below s₁ (mkF m 24 #[.val (.long q0), .second, .val (.int p1), .val (.long len), .second, .val (.int el), .val (.long ((16 : Int64) + (len * ((el).toInt64)))), .second, .unset, .unset, .unset, .unset, .unset, .unset] []) t → Steps p.tables e below SE t := by
    intro t k
    refine K2 _ ?_
    refine Stand.ldc2J X0 hx hown (mvT hZ (hw _ (List.mem_of_getElem? (i := 1) rfl))) (v := (16 : Int64)) (g := (mkF m 13 #[.val (.long q0), .second, .val (.int p1), .val (.long len), .second, .val (.int el), .unset, .unset, .unset, .unset, .unset, .unset, .unset, .unset] [])) rfl (hb hby at_13) ?_
    show own_S p e below s₁ (mkF m 16 #[.val (.long q0), .second, .val (.int p1), .val (.long len), .second, .val (.int el), .unset, .unset, .unset, .unset, .unset, .unset, .unset, .unset] [(.long (16 : Int64))]) _
    refine XS.lloadN X0.here hx rfl (hb hby at_16) rfl ?_
    show own_S p e below s₁ (mkF m 17 #[.val (.long q0), .second, .val (.int p1), .val (.long len), .second, .val (.int el), .unset, .unset, .unset, .unset, .unset, .unset, .unset, .unset] [(.long len), (.long (16 : Int64))]) _
    refine XS.iload X0.here hx rfl (hb hby at_17) rfl ?_
    show own_S p e below s₁ (mkF m 19 #[.val (.long q0), .second, .val (.int p1), .val (.long len), .second, .val (.int el), .unset, .unset, .unset, .unset, .unset, .unset, .unset, .unset] [(.int el), (.long len), (.long (16 : Int64))]) _
    refine XS.i2l X0.here hx rfl (hb hby at_19) rfl ?_
    show own_S p e below s₁ (mkF m 20 #[.val (.long q0), .second, .val (.int p1), .val (.long len), .second, .val (.int el), .unset, .unset, .unset, .unset, .unset, .unset, .unset, .unset] [(.long ((el).toInt64)), (.long len), (.long (16 : Int64))]) _
    refine XS.lmul X0.here hx rfl (hb hby at_20) rfl ?_
    show own_S p e below s₁ (mkF m 21 #[.val (.long q0), .second, .val (.int p1), .val (.long len), .second, .val (.int el), .unset, .unset, .unset, .unset, .unset, .unset, .unset, .unset] [(.long (len * ((el).toInt64))), (.long (16 : Int64))]) _
    refine XS.ladd X0.here hx rfl (hb hby at_21) rfl ?_
    show own_S p e below s₁ (mkF m 22 #[.val (.long q0), .second, .val (.int p1), .val (.long len), .second, .val (.int el), .unset, .unset, .unset, .unset, .unset, .unset, .unset, .unset] [(.long ((16 : Int64) + (len * ((el).toInt64))))]) _
    refine XS.lstore X0.here hx rfl (hb hby at_22) rfl (l' := #[.val (.long q0), .second, .val (.int p1), .val (.long len), .second, .val (.int el), .val (.long ((16 : Int64) + (len * ((el).toInt64)))), .second, .unset, .unset, .unset, .unset, .unset, .unset]) rfl ?_
    exact k
  obtain ⟨raw, hraw⟩ : ∃ z : Int64, z = ((16 : Int64) + (len * ((el).toInt64))) := ⟨_, rfl⟩
  rw [← hraw] at K3
  have hraw' := own_raw q0 len raw el hlen (own_el p1 el hel) hraw
  obtain ⟨ex, hex, K5⟩ : ∃ ex : Int64, ex = (if (raw - (raw / (8 : Int64)) * (8 : Int64)) = (0 : Int64) then raw else (raw + ((8 : Int64) - (raw - (raw / (8 : Int64)) * (8 : Int64))))) ∧ ∀ t, own_S p e below s₁ (mkF m 57 #[.val (.long q0), .second, .val (.int p1), .val (.long len), .second, .val (.int el), .val (.long raw), .second, .val (.long (raw - (raw / (8 : Int64)) * (8 : Int64))), .second, .val (.long ex), .second, .unset, .unset] []) t → Steps p.tables e below SE t := by
    have K7 : ∀ t, own_S p e below s₁ (mkF m 36 #[.val (.long q0), .second, .val (.int p1), .val (.long len), .second, .val (.int el), .val (.long raw), .second, .val (.long (raw - (raw / (8 : Int64)) * (8 : Int64))), .second, .unset, .unset, .unset, .unset] [(.int (XT.cmpL (raw - (raw / (8 : Int64)) * (8 : Int64)) (0 : Int64)))]) t → Steps p.tables e below SE t := by
      intro t k
      refine K3 _ ?_
      refine XS.lload X0.here hx rfl (hb hby at_24) rfl ?_
      show own_S p e below s₁ (mkF m 26 #[.val (.long q0), .second, .val (.int p1), .val (.long len), .second, .val (.int el), .val (.long raw), .second, .unset, .unset, .unset, .unset, .unset, .unset] [(.long raw)]) _
      refine Stand.ldc2J X0 hx hown (mvT hZ (hw _ (List.mem_of_getElem? (i := 2) rfl))) (v := (8 : Int64)) (g := (mkF m 26 #[.val (.long q0), .second, .val (.int p1), .val (.long len), .second, .val (.int el), .val (.long raw), .second, .unset, .unset, .unset, .unset, .unset, .unset] [(.long raw)])) rfl (hb hby at_26) ?_
      show own_S p e below s₁ (mkF m 29 #[.val (.long q0), .second, .val (.int p1), .val (.long len), .second, .val (.int el), .val (.long raw), .second, .unset, .unset, .unset, .unset, .unset, .unset] [(.long (8 : Int64)), (.long raw)]) _
      refine XS.lrem X0.here hx rfl (hb hby at_29) rfl (by decide) ?_
      show own_S p e below s₁ (mkF m 30 #[.val (.long q0), .second, .val (.int p1), .val (.long len), .second, .val (.int el), .val (.long raw), .second, .unset, .unset, .unset, .unset, .unset, .unset] [(.long (raw - (raw / (8 : Int64)) * (8 : Int64)))]) _
      refine XS.lstore X0.here hx rfl (hb hby at_30) rfl (l' := #[.val (.long q0), .second, .val (.int p1), .val (.long len), .second, .val (.int el), .val (.long raw), .second, .val (.long (raw - (raw / (8 : Int64)) * (8 : Int64))), .second, .unset, .unset, .unset, .unset]) rfl ?_
      show own_S p e below s₁ (mkF m 32 #[.val (.long q0), .second, .val (.int p1), .val (.long len), .second, .val (.int el), .val (.long raw), .second, .val (.long (raw - (raw / (8 : Int64)) * (8 : Int64))), .second, .unset, .unset, .unset, .unset] []) _
      refine XS.lload X0.here hx rfl (hb hby at_32) rfl ?_
      show own_S p e below s₁ (mkF m 34 #[.val (.long q0), .second, .val (.int p1), .val (.long len), .second, .val (.int el), .val (.long raw), .second, .val (.long (raw - (raw / (8 : Int64)) * (8 : Int64))), .second, .unset, .unset, .unset, .unset] [(.long (raw - (raw / (8 : Int64)) * (8 : Int64)))]) _
      refine XS.lconst X0.here hx rfl (hb hby at_34) ?_
      show own_S p e below s₁ (mkF m 35 #[.val (.long q0), .second, .val (.int p1), .val (.long len), .second, .val (.int el), .val (.long raw), .second, .val (.long (raw - (raw / (8 : Int64)) * (8 : Int64))), .second, .unset, .unset, .unset, .unset] [(.long (0 : Int64)), (.long (raw - (raw / (8 : Int64)) * (8 : Int64)))]) _
      refine XT.lcmp X0.here hx rfl (hb hby at_35) rfl ?_
      exact k
    by_cases c36_6 : (raw - (raw / (8 : Int64)) * (8 : Int64)) = (0 : Int64)
    · skip
      have K8 : ∀ t, own_S p e below s₁ (mkF m 57 #[.val (.long q0), .second, .val (.int p1), .val (.long len), .second, .val (.int el), .val (.long raw), .second, .val (.long (raw - (raw / (8 : Int64)) * (8 : Int64))), .second, .val (.long raw), .second, .unset, .unset] []) t → Steps p.tables e below SE t := by
        intro t k
        refine K7 _ ?_
        refine XS.ifNo X0.here hx rfl (hb hby at_36) rfl (XT.ll_ne_f c36_6) ?_
        show own_S p e below s₁ (mkF m 39 #[.val (.long q0), .second, .val (.int p1), .val (.long len), .second, .val (.int el), .val (.long raw), .second, .val (.long (raw - (raw / (8 : Int64)) * (8 : Int64))), .second, .unset, .unset, .unset, .unset] []) _
        refine XS.lload X0.here hx rfl (hb hby at_39) rfl ?_
        show own_S p e below s₁ (mkF m 41 #[.val (.long q0), .second, .val (.int p1), .val (.long len), .second, .val (.int el), .val (.long raw), .second, .val (.long (raw - (raw / (8 : Int64)) * (8 : Int64))), .second, .unset, .unset, .unset, .unset] [(.long raw)]) _
        refine XS.lstore X0.here hx rfl (hb hby at_41) rfl (l' := #[.val (.long q0), .second, .val (.int p1), .val (.long len), .second, .val (.int el), .val (.long raw), .second, .val (.long (raw - (raw / (8 : Int64)) * (8 : Int64))), .second, .val (.long raw), .second, .unset, .unset]) rfl ?_
        show own_S p e below s₁ (mkF m 43 #[.val (.long q0), .second, .val (.int p1), .val (.long len), .second, .val (.int el), .val (.long raw), .second, .val (.long (raw - (raw / (8 : Int64)) * (8 : Int64))), .second, .val (.long raw), .second, .unset, .unset] []) _
        refine XS.goto X0.here hx rfl (pc0 := 43) (pc' := 57) rfl (hb hby at_43) (by decide) (by decide) ?_
        exact k
      exact ⟨raw, (by simp only [if_pos c36_6]), K8⟩
    · skip
      have K9 : ∀ t, own_S p e below s₁ (mkF m 57 #[.val (.long q0), .second, .val (.int p1), .val (.long len), .second, .val (.int el), .val (.long raw), .second, .val (.long (raw - (raw / (8 : Int64)) * (8 : Int64))), .second, .val (.long (raw + ((8 : Int64) - (raw - (raw / (8 : Int64)) * (8 : Int64))))), .second, .unset, .unset] []) t → Steps p.tables e below SE t := by
        intro t k
        refine K7 _ ?_
        refine XS.ifYes X0.here hx rfl (pc0 := 36) (pc' := 46) rfl (hb hby at_36) rfl (XT.ll_ne_t c36_6) (by decide) (by decide) ?_
        show own_S p e below s₁ (mkF m 46 #[.val (.long q0), .second, .val (.int p1), .val (.long len), .second, .val (.int el), .val (.long raw), .second, .val (.long (raw - (raw / (8 : Int64)) * (8 : Int64))), .second, .unset, .unset, .unset, .unset] []) _
        refine XS.lload X0.here hx rfl (hb hby at_46) rfl ?_
        show own_S p e below s₁ (mkF m 48 #[.val (.long q0), .second, .val (.int p1), .val (.long len), .second, .val (.int el), .val (.long raw), .second, .val (.long (raw - (raw / (8 : Int64)) * (8 : Int64))), .second, .unset, .unset, .unset, .unset] [(.long raw)]) _
        refine Stand.ldc2J X0 hx hown (mvT hZ (hw _ (List.mem_of_getElem? (i := 2) rfl))) (v := (8 : Int64)) (g := (mkF m 48 #[.val (.long q0), .second, .val (.int p1), .val (.long len), .second, .val (.int el), .val (.long raw), .second, .val (.long (raw - (raw / (8 : Int64)) * (8 : Int64))), .second, .unset, .unset, .unset, .unset] [(.long raw)])) rfl (hb hby at_48) ?_
        show own_S p e below s₁ (mkF m 51 #[.val (.long q0), .second, .val (.int p1), .val (.long len), .second, .val (.int el), .val (.long raw), .second, .val (.long (raw - (raw / (8 : Int64)) * (8 : Int64))), .second, .unset, .unset, .unset, .unset] [(.long (8 : Int64)), (.long raw)]) _
        refine XS.lload X0.here hx rfl (hb hby at_51) rfl ?_
        show own_S p e below s₁ (mkF m 53 #[.val (.long q0), .second, .val (.int p1), .val (.long len), .second, .val (.int el), .val (.long raw), .second, .val (.long (raw - (raw / (8 : Int64)) * (8 : Int64))), .second, .unset, .unset, .unset, .unset] [(.long (raw - (raw / (8 : Int64)) * (8 : Int64))), (.long (8 : Int64)), (.long raw)]) _
        refine XS.lsub X0.here hx rfl (hb hby at_53) rfl ?_
        show own_S p e below s₁ (mkF m 54 #[.val (.long q0), .second, .val (.int p1), .val (.long len), .second, .val (.int el), .val (.long raw), .second, .val (.long (raw - (raw / (8 : Int64)) * (8 : Int64))), .second, .unset, .unset, .unset, .unset] [(.long ((8 : Int64) - (raw - (raw / (8 : Int64)) * (8 : Int64)))), (.long raw)]) _
        refine XS.ladd X0.here hx rfl (hb hby at_54) rfl ?_
        show own_S p e below s₁ (mkF m 55 #[.val (.long q0), .second, .val (.int p1), .val (.long len), .second, .val (.int el), .val (.long raw), .second, .val (.long (raw - (raw / (8 : Int64)) * (8 : Int64))), .second, .unset, .unset, .unset, .unset] [(.long (raw + ((8 : Int64) - (raw - (raw / (8 : Int64)) * (8 : Int64)))))]) _
        refine XS.lstore X0.here hx rfl (hb hby at_55) rfl (l' := #[.val (.long q0), .second, .val (.int p1), .val (.long len), .second, .val (.int el), .val (.long raw), .second, .val (.long (raw - (raw / (8 : Int64)) * (8 : Int64))), .second, .val (.long (raw + ((8 : Int64) - (raw - (raw / (8 : Int64)) * (8 : Int64))))), .second, .unset, .unset]) rfl ?_
        exact k
      exact ⟨(raw + ((8 : Int64) - (raw - (raw / (8 : Int64)) * (8 : Int64)))), (by simp only [if_neg c36_6]), K9⟩
  have K10 : ∀ t, own_S p e below s₁ (mkF m 60 #[.val (.long q0), .second, .val (.int p1), .val (.long len), .second, .val (.int el), .val (.long raw), .second, .val (.long (raw - (raw / (8 : Int64)) * (8 : Int64))), .second, .val (.long ex), .second, .unset, .unset] [(.int el), (.long len)]) t → Steps p.tables e below SE t := by
    intro t k
    refine K5 _ ?_
    refine XS.lloadN X0.here hx rfl (hb hby at_57) rfl ?_
    show own_S p e below s₁ (mkF m 58 #[.val (.long q0), .second, .val (.int p1), .val (.long len), .second, .val (.int el), .val (.long raw), .second, .val (.long (raw - (raw / (8 : Int64)) * (8 : Int64))), .second, .val (.long ex), .second, .unset, .unset] [(.long len)]) _
    refine XS.iload X0.here hx rfl (hb hby at_58) rfl ?_
    exact k
  obtain ⟨_, _, ⟨T11, L11, k11, n11⟩, -, X11, ⟨Lc11, hQ11, l11, y11, z11⟩, st11⟩ := Jvm.LawKit.callS X0 hx (y := (⟨"com/example/enact/enact/model/HeapLayout", "array", "(JI)J"⟩ : MethodName)) hown (mvT hZ (hw _ (List.mem_of_getElem? (i := 3) rfl))) (mvT hZ (hw _ (List.mem_of_getElem? (i := 4) rfl))) (mvT hZ (hw _ (List.mem_of_getElem? (i := 5) rfl))) (mvT hZ (hw _ (List.mem_of_getElem? (i := 6) rfl))) (by decide) (backOf (W := 0) (rm1 l Z a0 hw [] len el h0 n0 Z0) hZ (hw _ (List.mem_of_getElem? (i := 6) rfl)) (hw _ (List.mem_of_getElem? (i := 5) rfl)) (by decide) (by decide)) (g := (mkF m 60 #[.val (.long q0), .second, .val (.int p1), .val (.long len), .second, .val (.int el), .val (.long raw), .second, .val (.long (raw - (raw / (8 : Int64)) * (8 : Int64))), .second, .val (.long ex), .second, .unset, .unset] [(.int el), (.long len)])) rfl (by rw [hml]; rfl) (argsL := [(.long len), (.int el)]) (rest := []) (lenOf pd_0_0 rfl) rfl (by show 2 * 0 + _ ≤ _; exact Nat.le_of_eq rfl) (hb hby at_60) (fun _ _ => ⟨rfl, e0, (by decide : 0 + 0 ≤ _), (by decide : 0 + 0 ≤ _)⟩)
  dsimp only [Pt.U, Pt.locs, Pt.cells, Pt.slots] at X11 l11 y11 z11 st11 hQ11
  subst l11 y11 z11
  obtain ⟨rfl, Nq11, e11⟩ := hQ11
  have N11 := Fr.app N0 Nq11
  have K11 : ∀ t, own_S p e below T11 (mkF m 63 #[.val (.long q0), .second, .val (.int p1), .val (.long len), .second, .val (.int el), .val (.long raw), .second, .val (.long (raw - (raw / (8 : Int64)) * (8 : Int64))), .second, .val (.long ex), .second, .unset, .unset] [(.long ((((16 : Int64) + (len * ((el).toInt64))) + (7 : Int64)) &&& (-8 : Int64)))]) t → Steps p.tables e below SE t := fun t k => K10 _ (st11 _ k)
  rw [← hraw] at K11
  have hfin : ((raw + (7 : Int64)) &&& (-8 : Int64)) = ex := (own_law raw hraw').trans hex.symm
  have K12 : ∀ t, own_S p e below T11 (mkF m 78 #[.val (.long q0), .second, .val (.int p1), .val (.long len), .second, .val (.int el), .val (.long raw), .second, .val (.long (raw - (raw / (8 : Int64)) * (8 : Int64))), .second, .val (.long ex), .second, .val (.long ((raw + (7 : Int64)) &&& (-8 : Int64))), .second] [(.int (1 : Int32))]) t → Steps p.tables e below SE t := by
    intro t k
    refine K11 _ ?_
    refine XS.lstore X11.here hx rfl (hb hby at_63) rfl (l' := #[.val (.long q0), .second, .val (.int p1), .val (.long len), .second, .val (.int el), .val (.long raw), .second, .val (.long (raw - (raw / (8 : Int64)) * (8 : Int64))), .second, .val (.long ex), .second, .val (.long ((raw + (7 : Int64)) &&& (-8 : Int64))), .second]) rfl ?_
    show own_S p e below T11 (mkF m 65 #[.val (.long q0), .second, .val (.int p1), .val (.long len), .second, .val (.int el), .val (.long raw), .second, .val (.long (raw - (raw / (8 : Int64)) * (8 : Int64))), .second, .val (.long ex), .second, .val (.long ((raw + (7 : Int64)) &&& (-8 : Int64))), .second] []) _
    refine XS.lload X11.here hx rfl (hb hby at_65) rfl ?_
    show own_S p e below T11 (mkF m 67 #[.val (.long q0), .second, .val (.int p1), .val (.long len), .second, .val (.int el), .val (.long raw), .second, .val (.long (raw - (raw / (8 : Int64)) * (8 : Int64))), .second, .val (.long ex), .second, .val (.long ((raw + (7 : Int64)) &&& (-8 : Int64))), .second] [(.long ((raw + (7 : Int64)) &&& (-8 : Int64)))]) _
    refine XS.lload X11.here hx rfl (hb hby at_67) rfl ?_
    show own_S p e below T11 (mkF m 69 #[.val (.long q0), .second, .val (.int p1), .val (.long len), .second, .val (.int el), .val (.long raw), .second, .val (.long (raw - (raw / (8 : Int64)) * (8 : Int64))), .second, .val (.long ex), .second, .val (.long ((raw + (7 : Int64)) &&& (-8 : Int64))), .second] [(.long ex), (.long ((raw + (7 : Int64)) &&& (-8 : Int64)))]) _
    refine XT.lcmp X11.here hx rfl (hb hby at_69) rfl ?_
    show own_S p e below T11 (mkF m 70 #[.val (.long q0), .second, .val (.int p1), .val (.long len), .second, .val (.int el), .val (.long raw), .second, .val (.long (raw - (raw / (8 : Int64)) * (8 : Int64))), .second, .val (.long ex), .second, .val (.long ((raw + (7 : Int64)) &&& (-8 : Int64))), .second] [(.int (XT.cmpL ((raw + (7 : Int64)) &&& (-8 : Int64)) ex))]) _
    refine XS.ifNo X11.here hx rfl (hb hby at_70) rfl (XT.ll_ne_f hfin) ?_
    show own_S p e below T11 (mkF m 73 #[.val (.long q0), .second, .val (.int p1), .val (.long len), .second, .val (.int el), .val (.long raw), .second, .val (.long (raw - (raw / (8 : Int64)) * (8 : Int64))), .second, .val (.long ex), .second, .val (.long ((raw + (7 : Int64)) &&& (-8 : Int64))), .second] []) _
    refine XS.iconst X11.here hx rfl (hb hby at_73) ?_
    show own_S p e below T11 (mkF m 74 #[.val (.long q0), .second, .val (.int p1), .val (.long len), .second, .val (.int el), .val (.long raw), .second, .val (.long (raw - (raw / (8 : Int64)) * (8 : Int64))), .second, .val (.long ex), .second, .val (.long ((raw + (7 : Int64)) &&& (-8 : Int64))), .second] [(.int (1 : Int32))]) _
    refine XS.goto X11.here hx rfl (pc0 := 74) (pc' := 78) rfl (hb hby at_74) (by decide) (by decide) ?_
    exact k
  obtain ⟨fs, hr, hrun, hended, hW, hsame⟩ := X11.leave (v := some (.int (1 : Int32))) (fun h => by rw [Bd.returns] at h; cases h)
  refine ⟨_, _, K12 _ ?_, hrun, hended, _, _, rfl, ?_, ⟨_, rfl⟩, hW, hsame.mono (by decide) (by decide)⟩
  · exact retN X11 hx (t := .boolean) Bd.returns (by simp) (hb hby at_78) hr
  · show Q0 Z q0 p1 h0 n0 _ T11.heap _
    rw [e11]
    exact ⟨rfl, N11⟩
set_option maxRecDepth 65536 in
set_option maxHeartbeats 40000000 in
theorem comes_1 {Post : Tables → Env → Array Value → State → Outcome → State → Prop} (hpost : ∀ tb e args s v u, (limb_1_1.after args s (.returned v) u = true ∧ limb_1_2.after args s (.returned v) u = true ∧ True) → FrameEnd s (.returned v) u (Jvm.fieldLocs frame_1_writes args s ++ Jvm.arrayLocs frame_1_arrays args s ++ Jvm.staticLocs frame_1_statics s) 0 0 → Post tb e args s (.returned v) u) :
    ArmFor flags0 classFile x code maxLocals ret World_1 tables_1 room_1 Calls_1 rest_1 Pre_1 Post := by
  intro l hfl _ _ p e ha hc hk s m args below hf hA hF happ hP
  obtain ⟨hcalls, hrest, hpre⟩ := hP
  obtain ⟨-, -, -, hnamed, -, -, -, hat⟩ := (Spec.applies_iff hf).mp happ
  obtain ⟨hg, hn⟩ := and_e (Cond.before_iff.mp (show (Jvm.Cond.and given_1 narrow_1).before args s = true from hpre))
  obtain ⟨hcount, hg0⟩ := and_e hg
  obtain ⟨ha0, hg1⟩ := and_e hg0
  obtain ⟨w0, w1, rfl⟩ : ∃ w0 w1 : Value, args = #[w0, w1] := by
    have hs : args.size = 2 := by simpa [Cond.value, given_1] using hcount
    obtain ⟨L⟩ := args
    match L, hs with
    | [w0, w1], _ => exact ⟨w0, w1, rfl⟩
  have hw := fun d (hd : d ∈ tables_1) => atoms_spec (ws := Jvm.Cond.code x code maxLocals ret :: tables_1) hat d (List.mem_cons_of_mem _ hd)
  have hfit : Fit s := fun {y c} hc i hi => by
    obtain ⟨ha, rfl⟩ := Array.getElem?_eq_some_iff.mp hc
    have q := List.all_eq_true.mp ((Array.all_eq_true_iff_forall_mem.mp hF) _ (Array.getElem_mem ha)) i (List.mem_range.mpr hi)
    simpa [Array.getElem?_eq_getElem hi] using q
  obtain ⟨i0, ei0⟩ := isL_v ha0
  obtain rfl : w0 = (.long i0) := Option.some.inj ei0
  obtain ⟨i1, ei1⟩ := is_v hg1
  obtain rfl : w1 = (.int i1) := Option.some.inj ei1
  obtain ⟨n, o, h1, h2, h3, _, L, rfl, ⟨rfl, N⟩, hq⟩ := rm0 l s _ hw tables_1 i0 i1  s.heap s.heap.size (Nat.le_refl _)  p e ha hc hk s m _ below hf ((Spec.applies_iff_loose hf).mp happ).1 ⟨rfl, State.Warmed39.refl s, rfl⟩ trivial
  refine ⟨n, _, h1, h2, h3, hpost _ _ _ _ _ _ ⟨Cond.after_iff.mpr rfl, Cond.after_iff.mpr (eq_i res_at (Term.int_eval (1)) rfl), trivial⟩ ⟨hq.1, hq.2.1, (hq.2.2.sift fun y hy => Or.inr (N y hy)).mono (by decide) (by decide)⟩⟩
theorem main_1_1 : Claimed_1_1 := comes_1 fun _ _ _ _ _ _ h hF => ⟨h.1, hF⟩
theorem main_1_2 : Claimed_1_2 := comes_1 fun _ _ _ _ _ _ h hF => ⟨h.2.1, hF⟩
end Jvm.Pilot.@@N@@
namespace Jvm.Pilot.@@N@@
open Jvm Jvm.ClassFile Sem Op Lib Jvm.Free Jvm.Stand Jvm.Pilot.@@N@@.Jvm.D
/-! MADE BY PROGRAM (witnessworld.py) out of the Statement's table words and the real class files: 9 classes; the members and pool entries that the words name. The judged class is class 1, her method 1. -/
namespace start1
open Jvm.ClassFile
def u (s : String) : CpInfo := .utf8 (stringToUtf16 s)
/-- a pool by its gaps: so many unusable entries, then the entry; so many at the end -/
def gap : Nat → List CpInfo → List CpInfo
  | 0, r => r
  | n + 1, r => .unusable :: gap n r
def poolList (es : List (Nat × CpInfo)) (last : Nat) : List CpInfo := es.foldr (fun e r => gap e.1 (e.2 :: r)) (gap last [])
def pool (es : List (Nat × CpInfo)) (last : Nat) : Array CpInfo := ⟨poolList es last⟩
def fileOf (pool : Array CpInfo) (this : Nat) (attrs : Array Attribute := #[]) (ms : Array MethodInfo := #[]) (fl : Nat := 33) (sup : Nat := 0) (ifs : Array Nat := #[]) (fds : Array FieldInfo := #[]) : ClassFile where
  minorVersion := 0
  majorVersion := 65
  constantPool := pool
  accessFlags := fl
  thisClass := this
  superClass := sup
  interfaces := ifs
  fields := fds
  methods := ms
  attributes := attrs
def plain (name : String) (sup : Option ClassId) : Class where
  name := name
  kind := .ordinary
  loader := none
  accessFlags := 33
  super := sup
  interfaces := #[]
  cf := none
  fields := #[]
  methods := #[]
  instanceTypes := #[]
  staticTypes := #[]
  resolved := #[]
  callSites := []
  init := .initialized
  statics := none
  mirror := none

def pool0 : Array CpInfo := pool [(5, u "<init>"), (0, u "()V"), (1, .class_ 10), (1, u "java/lang/Object")] 113

def k0m0 : Method := { name := "<init>", desc := "()V", sig := { parameters := [], returnType := none }, accessFlags := 1, code := none }
/-- java/lang/Object -/
def k0 : Class := { plain "java/lang/Object" none with
  accessFlags := 33
  interfaces := #[]
  cf := some (fileOf pool0 8 #[] #[{ accessFlags := 1, nameIndex := 5, descriptorIndex := 6, attributes := #[] }] 33 0 #[] #[])
  fields := #[]
  methods := #[k0m0]
  instanceTypes := #[]
  staticTypes := #[]
  resolved := Array.replicate 124 none
  statics := none }

def pool1 : Array CpInfo := pool [(2, .class_ 4), (1, u "java/lang/Object"), (0, u "<init>"), (0, u "()V"), (0, .long 576460752303423487), (1, .long 16), (1, .long 8), (1, .methodref 14 15), (0, .class_ 16), (0, .nameAndType 17 18), (0, u "com/example/enact/enact/model/HeapLayout"), (0, u "array"), (0, u "(JI)J"), (0, .class_ 20), (0, u "com/example/enact/enact/model/HeapLayoutArrayPinLaw"), (2, u "law"), (0, u "(JI)Z")] 3

def k1m0 : Method := { name := "<init>", desc := "()V", sig := { parameters := [], returnType := none }, accessFlags := 2, code := none }
def k1c1 : Code := { maxStack := 6, maxLocals := 14, code := code, exceptionTable := #[], attributes := #[] }
def k1m1 : Method := { name := "law", desc := "(JI)Z", sig := { parameters := [.long, .int], returnType := some .boolean }, accessFlags := 9, code := some k1c1 }
/-- com/example/enact/enact/model/HeapLayoutArrayPinLaw -/
def k1 : Class := { plain "com/example/enact/enact/model/HeapLayoutArrayPinLaw" (some 0) with
  accessFlags := 49
  interfaces := #[]
  cf := some (fileOf pool1 19 #[] #[{ accessFlags := 2, nameIndex := 5, descriptorIndex := 6, attributes := #[] }, { accessFlags := 9, nameIndex := 23, descriptorIndex := 24, attributes := #[] }] 49 2 #[] #[])
  fields := #[]
  methods := #[k1m0, k1m1]
  instanceTypes := #[]
  staticTypes := #[]
  resolved := Array.replicate 28 none
  statics := none }

def pool2 : Array CpInfo := pool [(2, .class_ 4), (1, u "java/lang/Object"), (0, u "<init>"), (0, u "()V"), (0, .class_ 8), (0, u "com/example/enact/enact/model/HeapLayout"), (0, .long 16), (1, .methodref 7 12), (0, .nameAndType 13 14), (0, u "aligned"), (0, u "(J)J"), (14, u "array"), (0, u "(JI)J"), (7, .long 7), (1, .long 18446744073709551608), (1, u "REFERENCE"), (0, u "I"), (2, u "STRING"), (1, u "ARRAY_HEADER")] 8

def k2m0 : Method := { name := "<init>", desc := "()V", sig := { parameters := [], returnType := none }, accessFlags := 2, code := none }
def k2c1 : Code := { maxStack := 6, maxLocals := 3, code := prog_88_method_2_code, exceptionTable := #[], attributes := #[] }
def k2m1 : Method := { name := "array", desc := "(JI)J", sig := { parameters := [.long, .int], returnType := some .long }, accessFlags := 8, code := some k2c1 }
def k2c2 : Code := { maxStack := 4, maxLocals := 2, code := prog_88_method_5_code, exceptionTable := #[], attributes := #[] }
def k2m2 : Method := { name := "aligned", desc := "(J)J", sig := { parameters := [.long], returnType := some .long }, accessFlags := 10, code := some k2c2 }
/-- com/example/enact/enact/model/HeapLayout -/
def k2 : Class := { plain "com/example/enact/enact/model/HeapLayout" (some 0) with
  accessFlags := 48
  interfaces := #[]
  cf := some (fileOf pool2 7 #[] #[{ accessFlags := 2, nameIndex := 5, descriptorIndex := 6, attributes := #[] }, { accessFlags := 8, nameIndex := 29, descriptorIndex := 30, attributes := #[] }, { accessFlags := 10, nameIndex := 13, descriptorIndex := 14, attributes := #[] }] 48 2 #[] #[{ accessFlags := 24, nameIndex := 42, descriptorIndex := 43, attributes := #[] }, { accessFlags := 24, nameIndex := 46, descriptorIndex := 43, attributes := #[] }, { accessFlags := 26, nameIndex := 48, descriptorIndex := 43, attributes := #[] }])
  fields := #[{ name := "REFERENCE", type := .int, accessFlags := 24, slot := 0, constantValue := 0 }, { name := "STRING", type := .int, accessFlags := 24, slot := 1, constantValue := 0 }, { name := "ARRAY_HEADER", type := .int, accessFlags := 26, slot := 2, constantValue := 0 }]
  methods := #[k2m0, k2m1, k2m2]
  instanceTypes := #[]
  staticTypes := #[.int, .int, .int]
  resolved := Array.replicate 57 none
  statics := none }

def pool3 : Array CpInfo := pool [(1, u "java/lang/Cloneable"), (0, .class_ 1), (0, u "java/lang/Object"), (0, .class_ 3)] 3

/-- java/lang/Cloneable -/
def k3 : Class := { plain "java/lang/Cloneable" (some 0) with
  accessFlags := 1537
  interfaces := #[]
  cf := some (fileOf pool3 2 #[] #[] 1537 4 #[] #[])
  fields := #[]
  methods := #[]
  instanceTypes := #[]
  staticTypes := #[]
  resolved := Array.replicate 8 none
  statics := none }

def pool4 : Array CpInfo := pool [(1, u "java/io/Serializable"), (0, .class_ 1), (0, u "java/lang/Object"), (0, .class_ 3)] 3

/-- java/io/Serializable -/
def k4 : Class := { plain "java/io/Serializable" (some 0) with
  accessFlags := 1537
  interfaces := #[]
  cf := some (fileOf pool4 2 #[] #[] 1537 4 #[] #[])
  fields := #[]
  methods := #[]
  instanceTypes := #[]
  staticTypes := #[]
  resolved := Array.replicate 8 none
  statics := none }

/-- the primitive byte -/
def k5 : Class := { plain "byte" none with kind := .primitive 'B', accessFlags := 0x411 }
/-- [B -/
def k6 : Class := { plain "[B" (some 0) with kind := .array 5 .byte, interfaces := #[3, 4], accessFlags := 1041 }

/-- the primitive int -/
def k7 : Class := { plain "int" none with kind := .primitive 'I', accessFlags := 0x411 }
/-- [I -/
def k8 : Class := { plain "[I" (some 0) with kind := .array 7 .int, interfaces := #[3, 4], accessFlags := 1041 }

def heap : Heap := #[]
def classes : Array Class := #[k0, k1, k2, k3, k4, k5, k6, k7, k8]
def interned : List (Array UInt16 × Addr) := []
def slotsUsed : Nat := 0
def theMethod : MethodId := ⟨1, 1⟩
def args0 : Array Value := #[.long 5, .int 7]
def aboutOver (below : List Frame) : State where
  vm := { classes := classes, interned := interned.toArray }
  heap := heap
  slotsUsed := slotsUsed
  threads := #[{ frames := .invoking theMethod args0 :: below }]
def below0 : List Frame := [.native { method := ⟨0, 0⟩, args := #[] }]
def about1 : State := aboutOver below0
def p0 : Program := .bare "" "" ""
def e0 : Env := launch0.env 0 0 0
theorem w_frames : about1.frames = Frame.invoking theMethod args0 :: below0 := rfl
set_option maxRecDepth 65536 in
theorem w_args : argsFit about1.vm theMethod args0 = true := by decide +kernel
set_option maxRecDepth 65536 in
theorem w_heap : heapFits about1 = true := by decide +kernel
set_option maxRecDepth 65536 in
theorem w_runnable : about1.curStatus? = some .runnable := by decide +kernel
set_option maxRecDepth 65536 in
theorem w_alone : about1.alone = true := by decide +kernel
set_option maxRecDepth 65536 in
theorem w_named : about1.methodNamed? x = some theMethod := by decide +kernel
set_option maxRecDepth 65536 in
theorem w_hears : about1.hears theMethod below0 = true := by decide +kernel
set_option maxRecDepth 65536 in
theorem w_ripe : about1.ripe theMethod args0 below0 = true := by decide +kernel
theorem w_running : about1.status = .running := rfl
set_option maxRecDepth 65536 in
theorem w_room : about1.hasRoom e0.platform room_1 = true :=
  launch0.hasRoom_least _ room_1 (by decide +kernel) (by decide +kernel) (by decide +kernel) (by decide +kernel) (by decide +kernel) (by decide +kernel)
theorem allAtoms_all (ts : List Jvm.Cond) (a : Array Jvm.Value) (st : Jvm.State) : (allAtoms ts).before a st = ts.all (fun c => c.before a st) := by
  induction ts with
  | nil => rfl
  | cons c t ih =>
    show (Jvm.Cond.and c (allAtoms t)).before a st = _
    rw [Jvm.Cond.before_and, ih, List.all_cons]
def words1 : List Jvm.Cond := Jvm.Cond.code x code maxLocals ret :: tables_1
/-- a 'code' word, met by the world's own term for the bytes: nothing is compared byte by byte -/
theorem code_word {y : MethodName} {bytes : ByteArray} {mx : Nat} {rt : Option FieldType} {a : Array Value} {s : State} {m : MethodId} {meth : Method} {c : Code} (h1 : s.methodNamed? y = some m) (h2 : s.vm.method? m = some meth) (h3 : meth.code = some c) (h4 : c.code = bytes)
    (h5 : (c.maxLocals == mx && c.exceptionTable.isEmpty && decide (c.maxStack ≤ mostOperands) && decide (meth.sig.returnType = rt) && !meth.locks && decide (parseMethodDescriptor y.desc = some meth.sig)) = true) : (Jvm.Cond.code y bytes mx rt).before a s = true := by
  simp only [Bool.and_eq_true, beq_iff_eq, Bool.not_eq_true', decide_eq_true_eq] at h5
  obtain ⟨⟨⟨⟨⟨g1, g2⟩, g3⟩, g4⟩, g5⟩, g6⟩ := h5
  simp [Cond.before, Cond.holds, Cond.value, h1, h2, h3, h4, g1, g2, g3, g4, g5, g6]
def isCode : Jvm.Cond → Bool
  | .code _ _ _ _ => true
  | _ => false
theorem all_split {L : List Jvm.Cond} {P : Jvm.Cond → Bool} (h1 : L.all (fun c => isCode c || P c) = true) (h2 : ∀ c ∈ L.filter isCode, P c = true) : L.all P = true := by
  refine List.all_eq_true.mpr fun c hc => ?_
  have h := List.all_eq_true.mp h1 c hc
  rcases Bool.eq_false_or_eq_true (isCode c) with hi | hi
  · exact h2 c (List.mem_filter.mpr ⟨hc, hi⟩)
  · simpa [hi] using h
set_option maxRecDepth 65536 in
theorem w_c0 : (Jvm.Cond.code x code maxLocals ret).before args0 about1 = true := code_word (m := ⟨1, 1⟩) (meth := k1m1) (c := k1c1) (by decide +kernel) rfl rfl rfl (by decide +kernel)
set_option maxRecDepth 65536 in
theorem w_c1 : (Jvm.Cond.code ({ cls := "com/example/enact/enact/model/HeapLayout", name := "array", desc := "(JI)J" } : Jvm.MethodName) prog_88_method_2_code (3 : Nat) (Option.some Jvm.ClassFile.FieldType.long)).before args0 about1 = true := code_word (m := ⟨2, 1⟩) (meth := k2m1) (c := k2c1) (by decide +kernel) rfl rfl rfl (by decide +kernel)
set_option maxRecDepth 65536 in
theorem w_c2 : (Jvm.Cond.code ({ cls := "com/example/enact/enact/model/HeapLayout", name := "aligned", desc := "(J)J" } : Jvm.MethodName) prog_88_method_5_code (2 : Nat) (Option.some Jvm.ClassFile.FieldType.long)).before args0 about1 = true := code_word (m := ⟨2, 2⟩) (meth := k2m2) (c := k2c2) (by decide +kernel) rfl rfl rfl (by decide +kernel)
def codes1 : List Jvm.Cond := [Jvm.Cond.code x code maxLocals ret, Jvm.Cond.code ({ cls := "com/example/enact/enact/model/HeapLayout", name := "array", desc := "(JI)J" } : Jvm.MethodName) prog_88_method_2_code (3 : Nat) (Option.some Jvm.ClassFile.FieldType.long), Jvm.Cond.code ({ cls := "com/example/enact/enact/model/HeapLayout", name := "aligned", desc := "(J)J" } : Jvm.MethodName) prog_88_method_5_code (2 : Nat) (Option.some Jvm.ClassFile.FieldType.long)]
set_option maxRecDepth 65536 in
theorem codes_eq : words1.filter isCode = codes1 := rfl
theorem w_codes : ∀ c ∈ words1.filter isCode, c.before args0 about1 = true := by
  rw [codes_eq]
  intro c hc
  simp only [codes1, List.mem_cons, List.not_mem_nil, or_false] at hc
  rcases hc with rfl | rfl | rfl
  · exact w_c0
  · exact w_c1
  · exact w_c2
set_option maxRecDepth 65536 in
theorem w_t1 : words1.all (fun c => isCode c || c.before args0 about1) = true := by decide +kernel
theorem w_tables : (allAtoms (Jvm.Cond.code x code maxLocals ret :: tables_1)).before args0 about1 = true := by
  rw [allAtoms_all]
  show words1.all (fun c => c.before args0 about1) = true
  refine all_split ?_ w_codes
  rw [w_t1]
set_option maxRecDepth 65536 in
theorem w_case : (Jvm.Cond.and given_1 narrow_1).before args0 about1 = true := by decide +kernel
theorem w_applies : (headSpec (Jvm.Cond.code x code maxLocals ret :: tables_1) room_1).applies x e0.platform about1 = true :=
  (Spec.applies_iff w_frames).mpr ⟨w_running, w_runnable, w_alone, w_named, w_hears, w_ripe, w_room, w_tables⟩
theorem atStart : AtStart classFile x code maxLocals ret World_1 tables_1 room_1 Calls_1 rest_1 Pre_1 launch0 p0 e0 about1 theMethod args0 below0 :=
  ⟨lists_1, trivial, launch0.admits_env _ _ _, launch0.least_env, fairChoices_fair.cas, fairChoices_fair.clock, w_frames, w_args, w_heap, w_applies, trivial, trivial, w_case⟩
end start1
theorem witness_1 : WitnessClaimed_1 := ⟨start1.p0, start1.e0, start1.about1, start1.theMethod, start1.args0, start1.below0, start1.atStart⟩
end Jvm.Pilot.@@N@@
