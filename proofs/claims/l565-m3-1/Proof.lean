import JvmDerived
import JvmDerived.Pilot.@@N@@Statement
import JvmDerived.Pilot.@@N@@Code
set_option linter.unusedVariables false
set_option linter.unusedSimpArgs false
namespace Jvm.RoadKit
open Sem ClassFile Op Lib Jvm.Stand Jvm.Free Jvm.LawKit
theorem getFR {p : Program} {l : Launch} {e : Env} {R : Room} {s : State} {m : MethodId} {args : Array Value} {below : List Frame} {meth : Method} {c : Code} {T : State} {locs : List Loc} {cells slots : Nat} {Z : State} {a0 : Array Value} {h : Heap}
    (X : Stand p l e R s m args below meth c T locs cells slots) (hx : p.tables.exec = Jvm.exec) (hZ : Z.Warmed39 s.vm) {own O n d : String} {index : Nat} (hown : s.vm.findClass own = some m.cls) (w : (Cond.fieldRef own index O n d).before a0 Z = true)
    (eT : T.heap = h) {a : Addr} {v : Value} (F : Fld Z h a O n d v) {g : JFrame} (hg : g.method = m) {rest : List Value} (hs : g.stack = .ref a :: rest) (hd : decode c.code g.pc = .ok (.getfield index, 3)) : ∃ T', Stand p l e R s m args below meth c T' locs cells slots ∧ T'.heap = h ∧ ∀ target, Steps p.tables e below (T'.setTop { g with pc := g.pc + 3, stack := v :: rest }) target → Steps p.tables e below (T.setTop g) target := by
  obtain ⟨cell, cf, k, i, f, h1, h2, h3, h4, -, -, h7⟩ := F
  have hT : Z.Warmed39 T.vm := wtrans hZ X.warmed
  have w2 := Cond.fieldRef_warmed39 hT w
  have hcur : (Z.setVm T.vm).vm.findClass own = some m.cls := by
    show T.vm.findClass own = some m.cls
    rw [hT.alike.findClass, ← hZ.alike.findClass]; exact hown
  obtain ⟨c', k', i', f', q1, q2⟩ := Cond.fieldRef_spec hcur w2
  obtain ⟨k'', hi, -⟩ := State.fieldFound?_setVm (s := Z) hT.alike h2
  cases hi.symm.trans q1
  exact ⟨T, X, eT, fun target hr => (X.getfieldR hx hg q2 h3 hs (by rw [eT]; exact h1) h4 h7 hd (Steps.refl _)).trans hr⟩
end Jvm.RoadKit
@@BLOCK:NumsL.lean.txt@@
namespace Jvm.Pilot.@@N@@
open Jvm Jvm.ClassFile Sem Op Lib Jvm.Free Jvm.Stand Jvm.LawKit Jvm.RoadKit Bundle Jvm.Pilot.@@N@@.Jvm.D
abbrev own_S (p : Program) (e : Env) (below : List Frame) (T : State) (g : JFrame) (t : State) : Prop := Steps p.tables e below (T.setTop g) t
theorem own_ext {h h' : Heap} (K : Keep h h' []) : Ext h h' := ⟨K.1, fun a c q => K.2.1 a c q nin0⟩
theorem own_eqI {args : Array Value} {s : State} {t : Term} {n : Int32} (h : (Jvm.Cond.eq t (.int n)).value args s none s [] = some true) : t.eval args s none [] s = some (.int n) := by
  obtain ⟨x, y, h1, h2, h3, h4⟩ := cmp_v (Or.inl h)
  cases (Term.int_eval n (args := args) (s := s) (first := s) (o := none) (idx := [])).symm.trans h2
  obtain ⟨z, rfl⟩ : ∃ z, x = .int z := h4
  rw [h1]
  simp [Cond.value, h1, Term.eval] at h
  rw [h]
theorem own_eqJ {args : Array Value} {s : State} {t : Term} {n : Int64} (h : (Jvm.Cond.eq t (.long n)).value args s none s [] = some true) : t.eval args s none [] s = some (.long n) := by
  obtain ⟨x, y, h1, h2, h3, h4⟩ := cmp_v (Or.inl h)
  cases (long_at n (args := args) (s := s) (first := s) (o := none) (idx := [])).symm.trans h2
  obtain ⟨z, rfl⟩ : ∃ z, x = .long z := h4
  rw [h1]
  simp [Cond.value, h1, Term.eval] at h
  rw [h]
theorem own_eqR {args : Array Value} {s : State} {t u : Term} {x : Addr} (hu : u.eval args s none [] s = some (.ref x)) (h : (Jvm.Cond.eq t u).value args s none s [] = some true) : t.eval args s none [] s = some (.ref x) := by
  obtain ⟨z, y, h1, h2, h3, h4⟩ := cmp_v (Or.inl h)
  cases hu.symm.trans h2
  have hz : z.isRef = true := h4.2
  have e := gotT (eq_R h1 hu hz rfl) h
  rw [h1, e]

theorem own_four (p k : Int32) (h : k = (p &&& (3 : Int32))) : k = (0 : Int32) ∨ k = (1 : Int32) ∨ k = (2 : Int32) ∨ k = (3 : Int32) := by
  have e : (p &&& (3 : Int32)).toInt = p.toInt % 2 ^ 2 := Jvm.Kit.i32_mask p 3 (k := 2) (by decide) (by decide)
  rw [← h] at e
  simp only [← Int32.toInt_inj]
  have e0 : (0 : Int32).toInt = 0 := by decide
  have e1 : (1 : Int32).toInt = 1 := by decide
  have e2 : (2 : Int32).toInt = 2 := by decide
  have e3 : (3 : Int32).toInt = 3 := by decide
  omega
theorem own_128 : ∀ j : Fin 32, j.val ≠ 7 → (128#32)[j.val] = false := by decide
theorem own_bit7 (x : Int32) : (((((x).toInt8.toInt32)).toInt8.toInt32 &&& (255 : Int32)) &&& (-128 : Int32)) = (x &&& (128 : Int32)) := by
  apply Int32.toBitVec_inj.mp
  rw [Int8.toInt8_toInt32]
  show ((BitVec.signExtend 32 (BitVec.signExtend 8 x.toBitVec)) &&& 255#32) &&& (-128#32) = x.toBitVec &&& 128#32
  generalize x.toBitVec = b
  have h : (255#32) &&& (-128#32) = 128#32 := by decide
  rw [BitVec.and_assoc, h]
  ext i hi
  simp only [BitVec.getElem_and]
  by_cases q : i = 7
  · subst q
    have e : (BitVec.signExtend 32 (BitVec.signExtend 8 b))[7] = b[7] := by simp [BitVec.getElem_signExtend]
    rw [e]
  · have e : (128#32)[i] = false := by
      exact own_128 ⟨i, hi⟩ q
    rw [e, Bool.and_false, Bool.and_false]
theorem own_none (x : Int32) : ((x &&& (255 : Int32)) &&& (-256 : Int32)) = 0 := by
  apply Int32.toBitVec_inj.mp
  show (x.toBitVec &&& 255#32) &&& (-256#32) = 0#32
  have h : (255#32) &&& (-256#32) = 0#32 := by decide
  rw [BitVec.and_assoc, h, BitVec.and_zero]
theorem d1_0 : decode prog_12_method_13_code 0 = .ok (.aload_n 0, 1) := by decide +kernel
theorem d1_1 : decode prog_12_method_13_code 1 = .ok (.getfield 63, 3) := by decide +kernel
theorem d1_4 : decode prog_12_method_13_code 4 = .ok (.getfield 124, 3) := by decide +kernel
theorem d1_7 : decode prog_12_method_13_code 7 = .ok (.ifnonnull 30, 3) := by decide +kernel
theorem d1_10 : decode prog_12_method_13_code 10 = .ok (.aload_n 1, 1) := by decide +kernel
theorem d1_11 : decode prog_12_method_13_code 11 = .ok (.aload_n 1, 1) := by decide +kernel
theorem d1_12 : decode prog_12_method_13_code 12 = .ok (.arraylength, 1) := by decide +kernel
theorem d1_13 : decode prog_12_method_13_code 13 = .ok (.iconst 1, 1) := by decide +kernel
theorem d1_14 : decode prog_12_method_13_code 14 = .ok (.isub, 1) := by decide +kernel
theorem d1_15 : decode prog_12_method_13_code 15 = .ok (.baload, 1) := by decide +kernel
theorem d1_16 : decode prog_12_method_13_code 16 = .ok (.sipush 255, 3) := by decide +kernel
theorem d1_19 : decode prog_12_method_13_code 19 = .ok (.iand, 1) := by decide +kernel
theorem d1_20 : decode prog_12_method_13_code 20 = .ok (.aload_n 0, 1) := by decide +kernel
theorem d1_21 : decode prog_12_method_13_code 21 = .ok (.getfield 63, 3) := by decide +kernel
theorem d1_24 : decode prog_12_method_13_code 24 = .ok (.getfield 149, 3) := by decide +kernel
theorem d1_27 : decode prog_12_method_13_code 27 = .ok (.iconst (-1), 1) := by decide +kernel
theorem d1_28 : decode prog_12_method_13_code 28 = .ok (.ixor, 1) := by decide +kernel
theorem d1_29 : decode prog_12_method_13_code 29 = .ok (.iand, 1) := by decide +kernel
theorem d1_30 : decode prog_12_method_13_code 30 = .ok (.ifCond .eq 7, 3) := by decide +kernel
theorem d1_33 : decode prog_12_method_13_code 33 = .ok (.iconst 1, 1) := by decide +kernel
theorem d1_34 : decode prog_12_method_13_code 34 = .ok (.goto 4, 3) := by decide +kernel
theorem d1_37 : decode prog_12_method_13_code 37 = .ok (.iconst 0, 1) := by decide +kernel
theorem d1_38 : decode prog_12_method_13_code 38 = .ok (.ireturn, 1) := by decide +kernel
theorem pn_1 : plainName "com/example/whorl/whorl/Curve" = true := by first | (simp [plainName, overriddenIn]; done) | decide +kernel
theorem ef_1_0 (m : MethodId) (r0 : Addr) (r1 : Addr) : entryFrame m #[(.ref r0), (.ref r1)] 2 = mkF m 0 #[.val (.ref r0), .val (.ref r1)] [] := by first | (simp [entryFrame, mkF, argsToLocals, Value.category]; done) | rfl
def Q1_0 (Z : State) (r0 : Addr) (r1 : Addr) (ok : Addr) (kA : ClassId) (vf : Int32) (vm : Int32) (vl : Int32) (h0 : Heap) (n0 : Nat) (v : Option Value) (h : Heap) (L : List Loc) : Prop := v = some (.int (if ((vl &&& (255 : Int32)) &&& (-128 : Int32)) = 0 then (0 : Int32) else (1 : Int32))) ∧ Fr n0 L ∧ h = h0
set_option maxRecDepth 65536 in
set_option maxHeartbeats 40000000 in
theorem rm1_0 (l : Launch) (Z : State) (a0 : Array Value) (hw : ∀ d ∈ tables_1, d.before a0 Z = true) (ws : List Jvm.Cond) (r0 : Addr) (r1 : Addr) (ok : Addr) (kA : ClassId) (vf : Int32) (vm : Int32) (vl : Int32) (h0 : Heap) (n0 : Nat) (Z0 : n0 ≤ h0.size) (Fo : Fld Z h0 r0 "com/example/whorl/whorl/Curve" "okp" "Lcom/example/whorl/whorl/Curve$Okp;" (.ref ok)) (Fe : Fld Z h0 ok "com/example/whorl/whorl/Curve$Okp" "edwards" "Lcom/example/whorl/whorl/Curve$Edwards;" .null) (Fb : Fld Z h0 ok "com/example/whorl/whorl/Curve$Okp" "coordinateBits" "I" (.int (127 : Int32))) (V_r1 : Arv Z h0 r1 kA .byte (32 : Int32) [(.int vf), (.int (0 : Int32)), (.int (0 : Int32)), (.int (0 : Int32)), (.int (0 : Int32)), (.int (0 : Int32)), (.int (0 : Int32)), (.int (0 : Int32)), (.int (0 : Int32)), (.int (0 : Int32)), (.int (0 : Int32)), (.int (0 : Int32)), (.int (0 : Int32)), (.int (0 : Int32)), (.int (0 : Int32)), (.int (0 : Int32)), (.int vm), (.int (0 : Int32)), (.int (0 : Int32)), (.int (0 : Int32)), (.int (0 : Int32)), (.int (0 : Int32)), (.int (0 : Int32)), (.int (0 : Int32)), (.int (0 : Int32)), (.int (0 : Int32)), (.int (0 : Int32)), (.int (0 : Int32)), (.int (0 : Int32)), (.int (0 : Int32)), (.int (0 : Int32)), (.int vl)] (.int (0 : Int32))) :
    MetFree l (⟨"com/example/whorl/whorl/Curve", "setsIgnoredBit", "([B)Z"⟩ : MethodName) (head1 (Jvm.Cond.code (⟨"com/example/whorl/whorl/Curve", "setsIgnoredBit", "([B)Z"⟩ : MethodName) prog_12_method_13_code 2 (some .boolean) :: ws) ({ frames := 0, cells := 0, slots := 0, locals := 0 } : Room)) (fun a U => a = #[(.ref r0), (.ref r1)] ∧ Z.Warmed39 U.vm ∧ U.heap = h0) (fun _ _ _ _ _ => True) (fun _ U o U' => ∃ v L, o = .returned v ∧ Q1_0 Z r0 r1 ok kA vf vm vl h0 n0 v U'.heap L ∧ FrameEnd U o U' L ({ frames := 0, cells := 0, slots := 0, locals := 0 } : Room).cells ({ frames := 0, cells := 0, slots := 0, locals := 0 } : Room).slots) := by
  refine MetFree.of_bodySF (plainFor_of_name pn_1) hisR ?_
  intro p e s m args below meth c s₁ Bd hml0 hP hK
  obtain ⟨rfl, hZ, hh⟩ := hP
  have hx := Bd.exec
  have hby := Bd.bytes
  have hml : c.maxLocals = 2 := hml0
  have hown : s.vm.findClass "com/example/whorl/whorl/Curve" = some m.cls := findClass_of_methodNamed Bd.named
  have hnm := (name_of_methodNamed Bd.named Bd.method).1
  have X0 : Stand p l e ({ frames := 0, cells := 0, slots := 0, locals := 0 } : Room) s m #[(.ref r0), (.ref r1)] below meth c s₁ [] 0 0 := Stand.of_body Bd
  have e0 : s₁.heap = h0 := by rw [← hh, Bd.state]; rfl
  have N0 := Fr.nil n0
  have K0 : ∀ t, Steps p.tables e below (s₁.setTop (mkF m 0 #[.val (.ref r0), .val (.ref r1)] [])) t → Steps p.tables e below (s₁.setTop (entryFrame m #[(.ref r0), (.ref r1)] 2)) t := fun t k => castTop (ef_1_0 m r0 r1) k
  generalize s₁.setTop (entryFrame m #[(.ref r0), (.ref r1)] 2) = SE at K0 ⊢
  have K1 : ∀ t, own_S p e below s₁ (mkF m 1 #[.val (.ref r0), .val (.ref r1)] [(.ref r0)]) t → Steps p.tables e below SE t := by
    intro t k
    refine K0 _ ?_
    refine XS.aloadN X0.here hx rfl (hb hby d1_0) rfl rfl ?_
    exact k
  obtain ⟨T2, X2, e2, st2⟩ := getF X0 hx hZ hown (host := "") (Or.inl (hw _ (List.mem_of_getElem? (i := 9) rfl))) Via.refl e0 Fo (g := (mkF m 1 #[.val (.ref r0), .val (.ref r1)] [(.ref r0)])) rfl rfl (hb hby d1_1)
  have K2 : ∀ t, own_S p e below T2 (mkF m 4 #[.val (.ref r0), .val (.ref r1)] [(.ref ok)]) t → Steps p.tables e below SE t := fun t k => K1 _ (st2 _ k)
  obtain ⟨T3, X3, e3, st3⟩ := getFR X2 hx hZ hown (hw _ (List.mem_of_getElem? (i := 11) rfl)) e2 Fe (g := (mkF m 4 #[.val (.ref r0), .val (.ref r1)] [(.ref ok)])) rfl rfl (hb hby d1_4)
  have K3 : ∀ t, own_S p e below T3 (mkF m 7 #[.val (.ref r0), .val (.ref r1)] [.null]) t → Steps p.tables e below SE t := fun t k => K2 _ (st3 _ k)
  have K4 : ∀ t, own_S p e below T3 (mkF m 12 #[.val (.ref r0), .val (.ref r1)] [(.ref r1), (.ref r1)]) t → Steps p.tables e below SE t := by
    intro t k
    refine K3 _ ?_
    refine XS.ifnonnullNo X3.here hx rfl (hb hby d1_7) rfl ?_
    show own_S p e below T3 (mkF m 10 #[.val (.ref r0), .val (.ref r1)] []) _
    refine XS.aloadN X3.here hx rfl (hb hby d1_10) rfl rfl ?_
    show own_S p e below T3 (mkF m 11 #[.val (.ref r0), .val (.ref r1)] [(.ref r1)]) _
    refine XS.aloadN X3.here hx rfl (hb hby d1_11) rfl rfl ?_
    exact k
  obtain ⟨cl5, Ar5, -, S5, Ng5, -, -⟩ := id V_r1
  have K6 : ∀ t, own_S p e below T3 (mkF m 15 #[.val (.ref r0), .val (.ref r1)] [(.int (31 : Int32)), (.ref r1)]) t → Steps p.tables e below SE t := by
    intro t k
    refine K4 _ ?_
    refine X3.arraylength hx (by rw [e3]; exact Ar5.1) (State.isArrayOf_alike hZ.alike Ar5.2.1) (g := (mkF m 12 #[.val (.ref r0), .val (.ref r1)] [(.ref r1), (.ref r1)])) rfl rfl (hb hby d1_12) _ ?_
    rw [len_of S5 Ng5]
    show own_S p e below T3 (mkF m 13 #[.val (.ref r0), .val (.ref r1)] [(.int (32 : Int32)), (.ref r1)]) _
    refine XS.iconst X3.here hx rfl (hb hby d1_13) ?_
    show own_S p e below T3 (mkF m 14 #[.val (.ref r0), .val (.ref r1)] [(.int (1 : Int32)), (.int (32 : Int32)), (.ref r1)]) _
    refine XS.isub X3.here hx rfl (hb hby d1_14) rfl ?_
    exact k
  obtain ⟨cl7, Ar7, qk7, S7, Ng7, Hh7, Gg7⟩ := id V_r1
  have hin7 : ¬ ((31 : Int32) < 0 ∨ cl7.slots.size ≤ ((31 : Int32)).toNatClampNeg) := inb_of S7 ⟨by decide, by decide⟩
  have hat7 : cl7.slots[((31 : Int32)).toNatClampNeg]? = some (.int vl) := Has.at Hh7 hin7 rfl
  have K8 : ∀ t, own_S p e below T3 (mkF m 21 #[.val (.ref r0), .val (.ref r1)] [(.ref r0), (.int (vl &&& (255 : Int32)))]) t → Steps p.tables e below SE t := by
    intro t k
    refine K6 _ ?_
    refine X3.baloadBytes hx (j := (31 : Int32)) (v := (.int vl)) (by rw [e3]; exact Ar7.1) (State.isArrayOf_alike hZ.alike Ar7.2.1) Ar7.2.2 hin7 hat7 (g := (mkF m 15 #[.val (.ref r0), .val (.ref r1)] [(.int (31 : Int32)), (.ref r1)])) rfl rfl (hb hby d1_15) _ ?_
    show own_S p e below T3 (mkF m 16 #[.val (.ref r0), .val (.ref r1)] [(.int vl)]) _
    refine XS.sipush X3.here hx rfl (hb hby d1_16) ?_
    show own_S p e below T3 (mkF m 19 #[.val (.ref r0), .val (.ref r1)] [(.int (255 : Int32)), (.int vl)]) _
    refine XS.iand X3.here hx rfl (hb hby d1_19) rfl ?_
    show own_S p e below T3 (mkF m 20 #[.val (.ref r0), .val (.ref r1)] [(.int (vl &&& (255 : Int32)))]) _
    refine XS.aloadN X3.here hx rfl (hb hby d1_20) rfl rfl ?_
    exact k
  obtain ⟨T9, X9, e9, st9⟩ := getF X3 hx hZ hown (host := "") (Or.inl (hw _ (List.mem_of_getElem? (i := 9) rfl))) Via.refl e3 Fo (g := (mkF m 21 #[.val (.ref r0), .val (.ref r1)] [(.ref r0), (.int (vl &&& (255 : Int32)))])) rfl rfl (hb hby d1_21)
  have K9 : ∀ t, own_S p e below T9 (mkF m 24 #[.val (.ref r0), .val (.ref r1)] [(.ref ok), (.int (vl &&& (255 : Int32)))]) t → Steps p.tables e below SE t := fun t k => K8 _ (st9 _ k)
  obtain ⟨T10, X10, e10, st10⟩ := getFR X9 hx hZ hown (hw _ (List.mem_of_getElem? (i := 13) rfl)) e9 Fb (g := (mkF m 24 #[.val (.ref r0), .val (.ref r1)] [(.ref ok), (.int (vl &&& (255 : Int32)))])) rfl rfl (hb hby d1_24)
  have K10 : ∀ t, own_S p e below T10 (mkF m 27 #[.val (.ref r0), .val (.ref r1)] [(.int (127 : Int32)), (.int (vl &&& (255 : Int32)))]) t → Steps p.tables e below SE t := fun t k => K9 _ (st10 _ k)
  have K12 : ∀ t, own_S p e below T10 (mkF m 30 #[.val (.ref r0), .val (.ref r1)] [(.int ((vl &&& (255 : Int32)) &&& (-128 : Int32)))]) t → Steps p.tables e below SE t := by
    intro t k
    refine K10 _ ?_
    refine XS.iconst X10.here hx rfl (hb hby d1_27) ?_
    show own_S p e below T10 (mkF m 28 #[.val (.ref r0), .val (.ref r1)] [(.int (-1 : Int32)), (.int (127 : Int32)), (.int (vl &&& (255 : Int32)))]) _
    refine XS.ixor X10.here hx rfl (hb hby d1_28) rfl ?_
    show own_S p e below T10 (mkF m 29 #[.val (.ref r0), .val (.ref r1)] [(.int (-128 : Int32)), (.int (vl &&& (255 : Int32)))]) _
    refine XS.iand X10.here hx rfl (hb hby d1_29) rfl ?_
    exact k
  by_cases c30_11 : ((vl &&& (255 : Int32)) &&& (-128 : Int32)) = 0
  · skip
    have K13 : ∀ t, own_S p e below T10 (mkF m 38 #[.val (.ref r0), .val (.ref r1)] [(.int (0 : Int32))]) t → Steps p.tables e below SE t := by
      intro t k
      refine K12 _ ?_
      refine XS.ifYes X10.here hx rfl (pc0 := 30) (pc' := 37) rfl (hb hby d1_30) rfl (XT.i0_eq_t c30_11) (by decide) (by decide) ?_
      show own_S p e below T10 (mkF m 37 #[.val (.ref r0), .val (.ref r1)] []) _
      refine XS.iconst X10.here hx rfl (hb hby d1_37) ?_
      exact k
    obtain ⟨fs, hr, hrun, hended, hW, hsame⟩ := X10.leave (v := some (.int (0 : Int32))) (fun h => by rw [Bd.returns] at h; cases h)
    refine ⟨_, _, K13 _ ?_, hrun, hended, _, _, rfl, ?_, ⟨_, rfl⟩, hW, hsame.mono (by decide) (by decide)⟩
    · exact retN X10 hx (t := .boolean) Bd.returns (by simp) (hb hby d1_38) hr
    · show Q1_0 Z r0 r1 ok kA vf vm vl h0 n0 _ T10.heap _
      rw [e10]
      exact ⟨(by simp only [if_pos c30_11]), N0, rfl⟩
  · skip
    have K14 : ∀ t, own_S p e below T10 (mkF m 38 #[.val (.ref r0), .val (.ref r1)] [(.int (1 : Int32))]) t → Steps p.tables e below SE t := by
      intro t k
      refine K12 _ ?_
      refine XS.ifNo X10.here hx rfl (hb hby d1_30) rfl (XT.i0_eq_f c30_11) ?_
      show own_S p e below T10 (mkF m 33 #[.val (.ref r0), .val (.ref r1)] []) _
      refine XS.iconst X10.here hx rfl (hb hby d1_33) ?_
      show own_S p e below T10 (mkF m 34 #[.val (.ref r0), .val (.ref r1)] [(.int (1 : Int32))]) _
      refine XS.goto X10.here hx rfl (pc0 := 34) (pc' := 38) rfl (hb hby d1_34) (by decide) (by decide) ?_
      exact k
    obtain ⟨fs, hr, hrun, hended, hW, hsame⟩ := X10.leave (v := some (.int (1 : Int32))) (fun h => by rw [Bd.returns] at h; cases h)
    refine ⟨_, _, K14 _ ?_, hrun, hended, _, _, rfl, ?_, ⟨_, rfl⟩, hW, hsame.mono (by decide) (by decide)⟩
    · exact retN X10 hx (t := .boolean) Bd.returns (by simp) (hb hby d1_38) hr
    · show Q1_0 Z r0 r1 ok kA vf vm vl h0 n0 _ T10.heap _
      rw [e10]
      exact ⟨(by simp only [if_neg c30_11]), N0, rfl⟩
theorem ef_1_1 (m : MethodId) (r0 : Addr) (r1 : Addr) : entryFrame m #[(.ref r0), (.ref r1)] 2 = mkF m 0 #[.val (.ref r0), .val (.ref r1)] [] := by first | (simp [entryFrame, mkF, argsToLocals, Value.category]; done) | rfl
def Q1_1 (Z : State) (r0 : Addr) (r1 : Addr) (ok : Addr) (kA : ClassId) (vf : Int32) (vm : Int32) (vl : Int32) (h0 : Heap) (n0 : Nat) (v : Option Value) (h : Heap) (L : List Loc) : Prop := v = some (.int (if ((vl &&& (255 : Int32)) &&& (-256 : Int32)) = 0 then (0 : Int32) else (1 : Int32))) ∧ Fr n0 L ∧ h = h0
set_option maxRecDepth 65536 in
set_option maxHeartbeats 40000000 in
theorem rm1_1 (l : Launch) (Z : State) (a0 : Array Value) (hw : ∀ d ∈ tables_1, d.before a0 Z = true) (ws : List Jvm.Cond) (r0 : Addr) (r1 : Addr) (ok : Addr) (kA : ClassId) (vf : Int32) (vm : Int32) (vl : Int32) (h0 : Heap) (n0 : Nat) (Z0 : n0 ≤ h0.size) (Fo : Fld Z h0 r0 "com/example/whorl/whorl/Curve" "okp" "Lcom/example/whorl/whorl/Curve$Okp;" (.ref ok)) (Fe : Fld Z h0 ok "com/example/whorl/whorl/Curve$Okp" "edwards" "Lcom/example/whorl/whorl/Curve$Edwards;" .null) (Fb : Fld Z h0 ok "com/example/whorl/whorl/Curve$Okp" "coordinateBits" "I" (.int (255 : Int32))) (V_r1 : Arv Z h0 r1 kA .byte (56 : Int32) [(.int vf), (.int (0 : Int32)), (.int (0 : Int32)), (.int (0 : Int32)), (.int (0 : Int32)), (.int (0 : Int32)), (.int (0 : Int32)), (.int (0 : Int32)), (.int (0 : Int32)), (.int (0 : Int32)), (.int (0 : Int32)), (.int (0 : Int32)), (.int (0 : Int32)), (.int (0 : Int32)), (.int (0 : Int32)), (.int (0 : Int32)), (.int (0 : Int32)), (.int (0 : Int32)), (.int (0 : Int32)), (.int (0 : Int32)), (.int (0 : Int32)), (.int (0 : Int32)), (.int (0 : Int32)), (.int (0 : Int32)), (.int (0 : Int32)), (.int (0 : Int32)), (.int (0 : Int32)), (.int (0 : Int32)), (.int vm), (.int (0 : Int32)), (.int (0 : Int32)), (.int (0 : Int32)), (.int (0 : Int32)), (.int (0 : Int32)), (.int (0 : Int32)), (.int (0 : Int32)), (.int (0 : Int32)), (.int (0 : Int32)), (.int (0 : Int32)), (.int (0 : Int32)), (.int (0 : Int32)), (.int (0 : Int32)), (.int (0 : Int32)), (.int (0 : Int32)), (.int (0 : Int32)), (.int (0 : Int32)), (.int (0 : Int32)), (.int (0 : Int32)), (.int (0 : Int32)), (.int (0 : Int32)), (.int (0 : Int32)), (.int (0 : Int32)), (.int (0 : Int32)), (.int (0 : Int32)), (.int (0 : Int32)), (.int vl)] (.int (0 : Int32))) :
    MetFree l (⟨"com/example/whorl/whorl/Curve", "setsIgnoredBit", "([B)Z"⟩ : MethodName) (head1 (Jvm.Cond.code (⟨"com/example/whorl/whorl/Curve", "setsIgnoredBit", "([B)Z"⟩ : MethodName) prog_12_method_13_code 2 (some .boolean) :: ws) ({ frames := 0, cells := 0, slots := 0, locals := 0 } : Room)) (fun a U => a = #[(.ref r0), (.ref r1)] ∧ Z.Warmed39 U.vm ∧ U.heap = h0) (fun _ _ _ _ _ => True) (fun _ U o U' => ∃ v L, o = .returned v ∧ Q1_1 Z r0 r1 ok kA vf vm vl h0 n0 v U'.heap L ∧ FrameEnd U o U' L ({ frames := 0, cells := 0, slots := 0, locals := 0 } : Room).cells ({ frames := 0, cells := 0, slots := 0, locals := 0 } : Room).slots) := by
  refine MetFree.of_bodySF (plainFor_of_name pn_1) hisR ?_
  intro p e s m args below meth c s₁ Bd hml0 hP hK
  obtain ⟨rfl, hZ, hh⟩ := hP
  have hx := Bd.exec
  have hby := Bd.bytes
  have hml : c.maxLocals = 2 := hml0
  have hown : s.vm.findClass "com/example/whorl/whorl/Curve" = some m.cls := findClass_of_methodNamed Bd.named
  have hnm := (name_of_methodNamed Bd.named Bd.method).1
  have X0 : Stand p l e ({ frames := 0, cells := 0, slots := 0, locals := 0 } : Room) s m #[(.ref r0), (.ref r1)] below meth c s₁ [] 0 0 := Stand.of_body Bd
  have e0 : s₁.heap = h0 := by rw [← hh, Bd.state]; rfl
  have N0 := Fr.nil n0
  have K0 : ∀ t, Steps p.tables e below (s₁.setTop (mkF m 0 #[.val (.ref r0), .val (.ref r1)] [])) t → Steps p.tables e below (s₁.setTop (entryFrame m #[(.ref r0), (.ref r1)] 2)) t := fun t k => castTop (ef_1_1 m r0 r1) k
  generalize s₁.setTop (entryFrame m #[(.ref r0), (.ref r1)] 2) = SE at K0 ⊢
  have K1 : ∀ t, own_S p e below s₁ (mkF m 1 #[.val (.ref r0), .val (.ref r1)] [(.ref r0)]) t → Steps p.tables e below SE t := by
    intro t k
    refine K0 _ ?_
    refine XS.aloadN X0.here hx rfl (hb hby d1_0) rfl rfl ?_
    exact k
  obtain ⟨T2, X2, e2, st2⟩ := getF X0 hx hZ hown (host := "") (Or.inl (hw _ (List.mem_of_getElem? (i := 9) rfl))) Via.refl e0 Fo (g := (mkF m 1 #[.val (.ref r0), .val (.ref r1)] [(.ref r0)])) rfl rfl (hb hby d1_1)
  have K2 : ∀ t, own_S p e below T2 (mkF m 4 #[.val (.ref r0), .val (.ref r1)] [(.ref ok)]) t → Steps p.tables e below SE t := fun t k => K1 _ (st2 _ k)
  obtain ⟨T3, X3, e3, st3⟩ := getFR X2 hx hZ hown (hw _ (List.mem_of_getElem? (i := 11) rfl)) e2 Fe (g := (mkF m 4 #[.val (.ref r0), .val (.ref r1)] [(.ref ok)])) rfl rfl (hb hby d1_4)
  have K3 : ∀ t, own_S p e below T3 (mkF m 7 #[.val (.ref r0), .val (.ref r1)] [.null]) t → Steps p.tables e below SE t := fun t k => K2 _ (st3 _ k)
  have K4 : ∀ t, own_S p e below T3 (mkF m 12 #[.val (.ref r0), .val (.ref r1)] [(.ref r1), (.ref r1)]) t → Steps p.tables e below SE t := by
    intro t k
    refine K3 _ ?_
    refine XS.ifnonnullNo X3.here hx rfl (hb hby d1_7) rfl ?_
    show own_S p e below T3 (mkF m 10 #[.val (.ref r0), .val (.ref r1)] []) _
    refine XS.aloadN X3.here hx rfl (hb hby d1_10) rfl rfl ?_
    show own_S p e below T3 (mkF m 11 #[.val (.ref r0), .val (.ref r1)] [(.ref r1)]) _
    refine XS.aloadN X3.here hx rfl (hb hby d1_11) rfl rfl ?_
    exact k
  obtain ⟨cl5, Ar5, -, S5, Ng5, -, -⟩ := id V_r1
  have K6 : ∀ t, own_S p e below T3 (mkF m 15 #[.val (.ref r0), .val (.ref r1)] [(.int (55 : Int32)), (.ref r1)]) t → Steps p.tables e below SE t := by
    intro t k
    refine K4 _ ?_
    refine X3.arraylength hx (by rw [e3]; exact Ar5.1) (State.isArrayOf_alike hZ.alike Ar5.2.1) (g := (mkF m 12 #[.val (.ref r0), .val (.ref r1)] [(.ref r1), (.ref r1)])) rfl rfl (hb hby d1_12) _ ?_
    rw [len_of S5 Ng5]
    show own_S p e below T3 (mkF m 13 #[.val (.ref r0), .val (.ref r1)] [(.int (56 : Int32)), (.ref r1)]) _
    refine XS.iconst X3.here hx rfl (hb hby d1_13) ?_
    show own_S p e below T3 (mkF m 14 #[.val (.ref r0), .val (.ref r1)] [(.int (1 : Int32)), (.int (56 : Int32)), (.ref r1)]) _
    refine XS.isub X3.here hx rfl (hb hby d1_14) rfl ?_
    exact k
  obtain ⟨cl7, Ar7, qk7, S7, Ng7, Hh7, Gg7⟩ := id V_r1
  have hin7 : ¬ ((55 : Int32) < 0 ∨ cl7.slots.size ≤ ((55 : Int32)).toNatClampNeg) := inb_of S7 ⟨by decide, by decide⟩
  have hat7 : cl7.slots[((55 : Int32)).toNatClampNeg]? = some (.int vl) := Has.at Hh7 hin7 rfl
  have K8 : ∀ t, own_S p e below T3 (mkF m 21 #[.val (.ref r0), .val (.ref r1)] [(.ref r0), (.int (vl &&& (255 : Int32)))]) t → Steps p.tables e below SE t := by
    intro t k
    refine K6 _ ?_
    refine X3.baloadBytes hx (j := (55 : Int32)) (v := (.int vl)) (by rw [e3]; exact Ar7.1) (State.isArrayOf_alike hZ.alike Ar7.2.1) Ar7.2.2 hin7 hat7 (g := (mkF m 15 #[.val (.ref r0), .val (.ref r1)] [(.int (55 : Int32)), (.ref r1)])) rfl rfl (hb hby d1_15) _ ?_
    show own_S p e below T3 (mkF m 16 #[.val (.ref r0), .val (.ref r1)] [(.int vl)]) _
    refine XS.sipush X3.here hx rfl (hb hby d1_16) ?_
    show own_S p e below T3 (mkF m 19 #[.val (.ref r0), .val (.ref r1)] [(.int (255 : Int32)), (.int vl)]) _
    refine XS.iand X3.here hx rfl (hb hby d1_19) rfl ?_
    show own_S p e below T3 (mkF m 20 #[.val (.ref r0), .val (.ref r1)] [(.int (vl &&& (255 : Int32)))]) _
    refine XS.aloadN X3.here hx rfl (hb hby d1_20) rfl rfl ?_
    exact k
  obtain ⟨T9, X9, e9, st9⟩ := getF X3 hx hZ hown (host := "") (Or.inl (hw _ (List.mem_of_getElem? (i := 9) rfl))) Via.refl e3 Fo (g := (mkF m 21 #[.val (.ref r0), .val (.ref r1)] [(.ref r0), (.int (vl &&& (255 : Int32)))])) rfl rfl (hb hby d1_21)
  have K9 : ∀ t, own_S p e below T9 (mkF m 24 #[.val (.ref r0), .val (.ref r1)] [(.ref ok), (.int (vl &&& (255 : Int32)))]) t → Steps p.tables e below SE t := fun t k => K8 _ (st9 _ k)
  obtain ⟨T10, X10, e10, st10⟩ := getFR X9 hx hZ hown (hw _ (List.mem_of_getElem? (i := 13) rfl)) e9 Fb (g := (mkF m 24 #[.val (.ref r0), .val (.ref r1)] [(.ref ok), (.int (vl &&& (255 : Int32)))])) rfl rfl (hb hby d1_24)
  have K10 : ∀ t, own_S p e below T10 (mkF m 27 #[.val (.ref r0), .val (.ref r1)] [(.int (255 : Int32)), (.int (vl &&& (255 : Int32)))]) t → Steps p.tables e below SE t := fun t k => K9 _ (st10 _ k)
  have K12 : ∀ t, own_S p e below T10 (mkF m 30 #[.val (.ref r0), .val (.ref r1)] [(.int ((vl &&& (255 : Int32)) &&& (-256 : Int32)))]) t → Steps p.tables e below SE t := by
    intro t k
    refine K10 _ ?_
    refine XS.iconst X10.here hx rfl (hb hby d1_27) ?_
    show own_S p e below T10 (mkF m 28 #[.val (.ref r0), .val (.ref r1)] [(.int (-1 : Int32)), (.int (255 : Int32)), (.int (vl &&& (255 : Int32)))]) _
    refine XS.ixor X10.here hx rfl (hb hby d1_28) rfl ?_
    show own_S p e below T10 (mkF m 29 #[.val (.ref r0), .val (.ref r1)] [(.int (-256 : Int32)), (.int (vl &&& (255 : Int32)))]) _
    refine XS.iand X10.here hx rfl (hb hby d1_29) rfl ?_
    exact k
  by_cases c30_11 : ((vl &&& (255 : Int32)) &&& (-256 : Int32)) = 0
  · skip
    have K13 : ∀ t, own_S p e below T10 (mkF m 38 #[.val (.ref r0), .val (.ref r1)] [(.int (0 : Int32))]) t → Steps p.tables e below SE t := by
      intro t k
      refine K12 _ ?_
      refine XS.ifYes X10.here hx rfl (pc0 := 30) (pc' := 37) rfl (hb hby d1_30) rfl (XT.i0_eq_t c30_11) (by decide) (by decide) ?_
      show own_S p e below T10 (mkF m 37 #[.val (.ref r0), .val (.ref r1)] []) _
      refine XS.iconst X10.here hx rfl (hb hby d1_37) ?_
      exact k
    obtain ⟨fs, hr, hrun, hended, hW, hsame⟩ := X10.leave (v := some (.int (0 : Int32))) (fun h => by rw [Bd.returns] at h; cases h)
    refine ⟨_, _, K13 _ ?_, hrun, hended, _, _, rfl, ?_, ⟨_, rfl⟩, hW, hsame.mono (by decide) (by decide)⟩
    · exact retN X10 hx (t := .boolean) Bd.returns (by simp) (hb hby d1_38) hr
    · show Q1_1 Z r0 r1 ok kA vf vm vl h0 n0 _ T10.heap _
      rw [e10]
      exact ⟨(by simp only [if_pos c30_11]), N0, rfl⟩
  · skip
    have K14 : ∀ t, own_S p e below T10 (mkF m 38 #[.val (.ref r0), .val (.ref r1)] [(.int (1 : Int32))]) t → Steps p.tables e below SE t := by
      intro t k
      refine K12 _ ?_
      refine XS.ifNo X10.here hx rfl (hb hby d1_30) rfl (XT.i0_eq_f c30_11) ?_
      show own_S p e below T10 (mkF m 33 #[.val (.ref r0), .val (.ref r1)] []) _
      refine XS.iconst X10.here hx rfl (hb hby d1_33) ?_
      show own_S p e below T10 (mkF m 34 #[.val (.ref r0), .val (.ref r1)] [(.int (1 : Int32))]) _
      refine XS.goto X10.here hx rfl (pc0 := 34) (pc' := 38) rfl (hb hby d1_34) (by decide) (by decide) ?_
      exact k
    obtain ⟨fs, hr, hrun, hended, hW, hsame⟩ := X10.leave (v := some (.int (1 : Int32))) (fun h => by rw [Bd.returns] at h; cases h)
    refine ⟨_, _, K14 _ ?_, hrun, hended, _, _, rfl, ?_, ⟨_, rfl⟩, hW, hsame.mono (by decide) (by decide)⟩
    · exact retN X10 hx (t := .boolean) Bd.returns (by simp) (hb hby d1_38) hr
    · show Q1_1 Z r0 r1 ok kA vf vm vl h0 n0 _ T10.heap _
      rw [e10]
      exact ⟨(by simp only [if_neg c30_11]), N0, rfl⟩
theorem ef_1_2 (m : MethodId) (r0 : Addr) (r1 : Addr) : entryFrame m #[(.ref r0), (.ref r1)] 2 = mkF m 0 #[.val (.ref r0), .val (.ref r1)] [] := by first | (simp [entryFrame, mkF, argsToLocals, Value.category]; done) | rfl
def Q1_2 (Z : State) (r0 : Addr) (r1 : Addr) (ok : Addr) (kA : ClassId) (vf : Int32) (vm : Int32) (vl : Int32) (ed : Addr) (h0 : Heap) (n0 : Nat) (v : Option Value) (h : Heap) (L : List Loc) : Prop := v = some (.int (0 : Int32)) ∧ Fr n0 L ∧ h = h0
set_option maxRecDepth 65536 in
set_option maxHeartbeats 40000000 in
theorem rm1_2 (l : Launch) (Z : State) (a0 : Array Value) (hw : ∀ d ∈ tables_1, d.before a0 Z = true) (ws : List Jvm.Cond) (r0 : Addr) (r1 : Addr) (ok : Addr) (kA : ClassId) (vf : Int32) (vm : Int32) (vl : Int32) (ed : Addr) (h0 : Heap) (n0 : Nat) (Z0 : n0 ≤ h0.size) (Fo : Fld Z h0 r0 "com/example/whorl/whorl/Curve" "okp" "Lcom/example/whorl/whorl/Curve$Okp;" (.ref ok)) (Fe : Fld Z h0 ok "com/example/whorl/whorl/Curve$Okp" "edwards" "Lcom/example/whorl/whorl/Curve$Edwards;" (.ref ed)) (Fb : Fld Z h0 ok "com/example/whorl/whorl/Curve$Okp" "coordinateBits" "I" (.int (127 : Int32))) (V_r1 : Arv Z h0 r1 kA .byte (32 : Int32) [(.int vf), (.int (0 : Int32)), (.int (0 : Int32)), (.int (0 : Int32)), (.int (0 : Int32)), (.int (0 : Int32)), (.int (0 : Int32)), (.int (0 : Int32)), (.int (0 : Int32)), (.int (0 : Int32)), (.int (0 : Int32)), (.int (0 : Int32)), (.int (0 : Int32)), (.int (0 : Int32)), (.int (0 : Int32)), (.int (0 : Int32)), (.int vm), (.int (0 : Int32)), (.int (0 : Int32)), (.int (0 : Int32)), (.int (0 : Int32)), (.int (0 : Int32)), (.int (0 : Int32)), (.int (0 : Int32)), (.int (0 : Int32)), (.int (0 : Int32)), (.int (0 : Int32)), (.int (0 : Int32)), (.int (0 : Int32)), (.int (0 : Int32)), (.int (0 : Int32)), (.int vl)] (.int (0 : Int32))) :
    MetFree l (⟨"com/example/whorl/whorl/Curve", "setsIgnoredBit", "([B)Z"⟩ : MethodName) (head1 (Jvm.Cond.code (⟨"com/example/whorl/whorl/Curve", "setsIgnoredBit", "([B)Z"⟩ : MethodName) prog_12_method_13_code 2 (some .boolean) :: ws) ({ frames := 0, cells := 0, slots := 0, locals := 0 } : Room)) (fun a U => a = #[(.ref r0), (.ref r1)] ∧ Z.Warmed39 U.vm ∧ U.heap = h0) (fun _ _ _ _ _ => True) (fun _ U o U' => ∃ v L, o = .returned v ∧ Q1_2 Z r0 r1 ok kA vf vm vl ed h0 n0 v U'.heap L ∧ FrameEnd U o U' L ({ frames := 0, cells := 0, slots := 0, locals := 0 } : Room).cells ({ frames := 0, cells := 0, slots := 0, locals := 0 } : Room).slots) := by
  refine MetFree.of_bodySF (plainFor_of_name pn_1) hisR ?_
  intro p e s m args below meth c s₁ Bd hml0 hP hK
  obtain ⟨rfl, hZ, hh⟩ := hP
  have hx := Bd.exec
  have hby := Bd.bytes
  have hml : c.maxLocals = 2 := hml0
  have hown : s.vm.findClass "com/example/whorl/whorl/Curve" = some m.cls := findClass_of_methodNamed Bd.named
  have hnm := (name_of_methodNamed Bd.named Bd.method).1
  have X0 : Stand p l e ({ frames := 0, cells := 0, slots := 0, locals := 0 } : Room) s m #[(.ref r0), (.ref r1)] below meth c s₁ [] 0 0 := Stand.of_body Bd
  have e0 : s₁.heap = h0 := by rw [← hh, Bd.state]; rfl
  have N0 := Fr.nil n0
  have K0 : ∀ t, Steps p.tables e below (s₁.setTop (mkF m 0 #[.val (.ref r0), .val (.ref r1)] [])) t → Steps p.tables e below (s₁.setTop (entryFrame m #[(.ref r0), (.ref r1)] 2)) t := fun t k => castTop (ef_1_2 m r0 r1) k
  generalize s₁.setTop (entryFrame m #[(.ref r0), (.ref r1)] 2) = SE at K0 ⊢
  have K1 : ∀ t, own_S p e below s₁ (mkF m 1 #[.val (.ref r0), .val (.ref r1)] [(.ref r0)]) t → Steps p.tables e below SE t := by
    intro t k
    refine K0 _ ?_
    refine XS.aloadN X0.here hx rfl (hb hby d1_0) rfl rfl ?_
    exact k
  obtain ⟨T2, X2, e2, st2⟩ := getF X0 hx hZ hown (host := "") (Or.inl (hw _ (List.mem_of_getElem? (i := 9) rfl))) Via.refl e0 Fo (g := (mkF m 1 #[.val (.ref r0), .val (.ref r1)] [(.ref r0)])) rfl rfl (hb hby d1_1)
  have K2 : ∀ t, own_S p e below T2 (mkF m 4 #[.val (.ref r0), .val (.ref r1)] [(.ref ok)]) t → Steps p.tables e below SE t := fun t k => K1 _ (st2 _ k)
  obtain ⟨T3, X3, e3, st3⟩ := getFR X2 hx hZ hown (hw _ (List.mem_of_getElem? (i := 11) rfl)) e2 Fe (g := (mkF m 4 #[.val (.ref r0), .val (.ref r1)] [(.ref ok)])) rfl rfl (hb hby d1_4)
  have K3 : ∀ t, own_S p e below T3 (mkF m 7 #[.val (.ref r0), .val (.ref r1)] [(.ref ed)]) t → Steps p.tables e below SE t := fun t k => K2 _ (st3 _ k)
  have K4 : ∀ t, own_S p e below T3 (mkF m 38 #[.val (.ref r0), .val (.ref r1)] [(.int (0 : Int32))]) t → Steps p.tables e below SE t := by
    intro t k
    refine K3 _ ?_
    refine XS.ifnonnullYes X3.here hx rfl (pc0 := 7) (pc' := 37) rfl (hb hby d1_7) rfl (by decide) (by decide) ?_
    show own_S p e below T3 (mkF m 37 #[.val (.ref r0), .val (.ref r1)] []) _
    refine XS.iconst X3.here hx rfl (hb hby d1_37) ?_
    exact k
  obtain ⟨fs, hr, hrun, hended, hW, hsame⟩ := X3.leave (v := some (.int (0 : Int32))) (fun h => by rw [Bd.returns] at h; cases h)
  refine ⟨_, _, K4 _ ?_, hrun, hended, _, _, rfl, ?_, ⟨_, rfl⟩, hW, hsame.mono (by decide) (by decide)⟩
  · exact retN X3 hx (t := .boolean) Bd.returns (by simp) (hb hby d1_38) hr
  · show Q1_2 Z r0 r1 ok kA vf vm vl ed h0 n0 _ T3.heap _
    rw [e3]
    exact ⟨rfl, N0, rfl⟩
theorem ef_1_3 (m : MethodId) (r0 : Addr) (r1 : Addr) : entryFrame m #[(.ref r0), (.ref r1)] 2 = mkF m 0 #[.val (.ref r0), .val (.ref r1)] [] := by first | (simp [entryFrame, mkF, argsToLocals, Value.category]; done) | rfl
def Q1_3 (Z : State) (r0 : Addr) (r1 : Addr) (ok : Addr) (kA : ClassId) (vf : Int32) (vm : Int32) (vl : Int32) (ed : Addr) (h0 : Heap) (n0 : Nat) (v : Option Value) (h : Heap) (L : List Loc) : Prop := v = some (.int (0 : Int32)) ∧ Fr n0 L ∧ h = h0
set_option maxRecDepth 65536 in
set_option maxHeartbeats 40000000 in
theorem rm1_3 (l : Launch) (Z : State) (a0 : Array Value) (hw : ∀ d ∈ tables_1, d.before a0 Z = true) (ws : List Jvm.Cond) (r0 : Addr) (r1 : Addr) (ok : Addr) (kA : ClassId) (vf : Int32) (vm : Int32) (vl : Int32) (ed : Addr) (h0 : Heap) (n0 : Nat) (Z0 : n0 ≤ h0.size) (Fo : Fld Z h0 r0 "com/example/whorl/whorl/Curve" "okp" "Lcom/example/whorl/whorl/Curve$Okp;" (.ref ok)) (Fe : Fld Z h0 ok "com/example/whorl/whorl/Curve$Okp" "edwards" "Lcom/example/whorl/whorl/Curve$Edwards;" (.ref ed)) (Fb : Fld Z h0 ok "com/example/whorl/whorl/Curve$Okp" "coordinateBits" "I" (.int (127 : Int32))) (V_r1 : Arv Z h0 r1 kA .byte (57 : Int32) [(.int vf), (.int (0 : Int32)), (.int (0 : Int32)), (.int (0 : Int32)), (.int (0 : Int32)), (.int (0 : Int32)), (.int (0 : Int32)), (.int (0 : Int32)), (.int (0 : Int32)), (.int (0 : Int32)), (.int (0 : Int32)), (.int (0 : Int32)), (.int (0 : Int32)), (.int (0 : Int32)), (.int (0 : Int32)), (.int (0 : Int32)), (.int (0 : Int32)), (.int (0 : Int32)), (.int (0 : Int32)), (.int (0 : Int32)), (.int (0 : Int32)), (.int (0 : Int32)), (.int (0 : Int32)), (.int (0 : Int32)), (.int (0 : Int32)), (.int (0 : Int32)), (.int (0 : Int32)), (.int (0 : Int32)), (.int vm), (.int (0 : Int32)), (.int (0 : Int32)), (.int (0 : Int32)), (.int (0 : Int32)), (.int (0 : Int32)), (.int (0 : Int32)), (.int (0 : Int32)), (.int (0 : Int32)), (.int (0 : Int32)), (.int (0 : Int32)), (.int (0 : Int32)), (.int (0 : Int32)), (.int (0 : Int32)), (.int (0 : Int32)), (.int (0 : Int32)), (.int (0 : Int32)), (.int (0 : Int32)), (.int (0 : Int32)), (.int (0 : Int32)), (.int (0 : Int32)), (.int (0 : Int32)), (.int (0 : Int32)), (.int (0 : Int32)), (.int (0 : Int32)), (.int (0 : Int32)), (.int (0 : Int32)), (.int (0 : Int32)), (.int vl)] (.int (0 : Int32))) :
    MetFree l (⟨"com/example/whorl/whorl/Curve", "setsIgnoredBit", "([B)Z"⟩ : MethodName) (head1 (Jvm.Cond.code (⟨"com/example/whorl/whorl/Curve", "setsIgnoredBit", "([B)Z"⟩ : MethodName) prog_12_method_13_code 2 (some .boolean) :: ws) ({ frames := 0, cells := 0, slots := 0, locals := 0 } : Room)) (fun a U => a = #[(.ref r0), (.ref r1)] ∧ Z.Warmed39 U.vm ∧ U.heap = h0) (fun _ _ _ _ _ => True) (fun _ U o U' => ∃ v L, o = .returned v ∧ Q1_3 Z r0 r1 ok kA vf vm vl ed h0 n0 v U'.heap L ∧ FrameEnd U o U' L ({ frames := 0, cells := 0, slots := 0, locals := 0 } : Room).cells ({ frames := 0, cells := 0, slots := 0, locals := 0 } : Room).slots) := by
  refine MetFree.of_bodySF (plainFor_of_name pn_1) hisR ?_
  intro p e s m args below meth c s₁ Bd hml0 hP hK
  obtain ⟨rfl, hZ, hh⟩ := hP
  have hx := Bd.exec
  have hby := Bd.bytes
  have hml : c.maxLocals = 2 := hml0
  have hown : s.vm.findClass "com/example/whorl/whorl/Curve" = some m.cls := findClass_of_methodNamed Bd.named
  have hnm := (name_of_methodNamed Bd.named Bd.method).1
  have X0 : Stand p l e ({ frames := 0, cells := 0, slots := 0, locals := 0 } : Room) s m #[(.ref r0), (.ref r1)] below meth c s₁ [] 0 0 := Stand.of_body Bd
  have e0 : s₁.heap = h0 := by rw [← hh, Bd.state]; rfl
  have N0 := Fr.nil n0
  have K0 : ∀ t, Steps p.tables e below (s₁.setTop (mkF m 0 #[.val (.ref r0), .val (.ref r1)] [])) t → Steps p.tables e below (s₁.setTop (entryFrame m #[(.ref r0), (.ref r1)] 2)) t := fun t k => castTop (ef_1_3 m r0 r1) k
  generalize s₁.setTop (entryFrame m #[(.ref r0), (.ref r1)] 2) = SE at K0 ⊢
  have K1 : ∀ t, own_S p e below s₁ (mkF m 1 #[.val (.ref r0), .val (.ref r1)] [(.ref r0)]) t → Steps p.tables e below SE t := by
    intro t k
    refine K0 _ ?_
    refine XS.aloadN X0.here hx rfl (hb hby d1_0) rfl rfl ?_
    exact k
  obtain ⟨T2, X2, e2, st2⟩ := getF X0 hx hZ hown (host := "") (Or.inl (hw _ (List.mem_of_getElem? (i := 9) rfl))) Via.refl e0 Fo (g := (mkF m 1 #[.val (.ref r0), .val (.ref r1)] [(.ref r0)])) rfl rfl (hb hby d1_1)
  have K2 : ∀ t, own_S p e below T2 (mkF m 4 #[.val (.ref r0), .val (.ref r1)] [(.ref ok)]) t → Steps p.tables e below SE t := fun t k => K1 _ (st2 _ k)
  obtain ⟨T3, X3, e3, st3⟩ := getFR X2 hx hZ hown (hw _ (List.mem_of_getElem? (i := 11) rfl)) e2 Fe (g := (mkF m 4 #[.val (.ref r0), .val (.ref r1)] [(.ref ok)])) rfl rfl (hb hby d1_4)
  have K3 : ∀ t, own_S p e below T3 (mkF m 7 #[.val (.ref r0), .val (.ref r1)] [(.ref ed)]) t → Steps p.tables e below SE t := fun t k => K2 _ (st3 _ k)
  have K4 : ∀ t, own_S p e below T3 (mkF m 38 #[.val (.ref r0), .val (.ref r1)] [(.int (0 : Int32))]) t → Steps p.tables e below SE t := by
    intro t k
    refine K3 _ ?_
    refine XS.ifnonnullYes X3.here hx rfl (pc0 := 7) (pc' := 37) rfl (hb hby d1_7) rfl (by decide) (by decide) ?_
    show own_S p e below T3 (mkF m 37 #[.val (.ref r0), .val (.ref r1)] []) _
    refine XS.iconst X3.here hx rfl (hb hby d1_37) ?_
    exact k
  obtain ⟨fs, hr, hrun, hended, hW, hsame⟩ := X3.leave (v := some (.int (0 : Int32))) (fun h => by rw [Bd.returns] at h; cases h)
  refine ⟨_, _, K4 _ ?_, hrun, hended, _, _, rfl, ?_, ⟨_, rfl⟩, hW, hsame.mono (by decide) (by decide)⟩
  · exact retN X3 hx (t := .boolean) Bd.returns (by simp) (hb hby d1_38) hr
  · show Q1_3 Z r0 r1 ok kA vf vm vl ed h0 n0 _ T3.heap _
    rw [e3]
    exact ⟨rfl, N0, rfl⟩
theorem pn_0 : plainName "com/example/whorl/whorl/CurveSetsIgnoredBitPinLaw" = true := by first | (simp [plainName, overriddenIn]; done) | decide +kernel
theorem pd_0_0 : parseMethodDescriptor "([B)Z" = some ⟨[(.array .byte)], some .boolean⟩ := by decide +kernel
theorem ef_0 (m : MethodId) (p0 : Int32) (p1 : Int32) (p2 : Int32) (p3 : Int32) : entryFrame m #[(.int p0), (.int p1), (.int p2), (.int p3)] maxLocals = mkF m 0 #[.val (.int p0), .val (.int p1), .val (.int p2), .val (.int p3), .unset, .unset, .unset, .unset, .unset] [] := by first | (simp [entryFrame, mkF, argsToLocals, Value.category, maxLocals]; done) | rfl
def Q0 (Z : State) (p0 : Int32) (p1 : Int32) (p2 : Int32) (p3 : Int32) (oX25519 : Addr) (oX25519_okp : Addr) (oED448 : Addr) (oED448_okp : Addr) (oED448_okp_edwards : Addr) (oED25519 : Addr) (oED25519_okp : Addr) (oED25519_okp_edwards : Addr) (oX448 : Addr) (oX448_okp : Addr) (h0 : Heap) (n0 : Nat) (v : Option Value) (h : Heap) (L : List Loc) : Prop := v = some (.int 1) ∧ Fr n0 L
set_option maxRecDepth 65536 in
set_option maxHeartbeats 40000000 in
theorem rm0 (l : Launch) (Z : State) (a0 : Array Value) (hw : ∀ d ∈ tables_1, d.before a0 Z = true) (ws : List Jvm.Cond) (p0 : Int32) (p1 : Int32) (p2 : Int32) (p3 : Int32) (oX25519 : Addr) (oX25519_okp : Addr) (oED448 : Addr) (oED448_okp : Addr) (oED448_okp_edwards : Addr) (oED25519 : Addr) (oED25519_okp : Addr) (oED25519_okp_edwards : Addr) (oX448 : Addr) (oX448_okp : Addr) (h0 : Heap) (n0 : Nat) (Z0 : n0 ≤ h0.size) (ST_X25519 : Sta Z h0 "com/example/whorl/whorl/Curve" "X25519" "Lcom/example/whorl/whorl/Curve;" (.ref oX25519)) (EX_oX25519 : Exa Z h0 oX25519 "com/example/whorl/whorl/Curve") (FL_oX25519_okp : Fld Z h0 oX25519 "com/example/whorl/whorl/Curve" "okp" "Lcom/example/whorl/whorl/Curve$Okp;" (.ref oX25519_okp)) (EX_oX25519_okp : Exa Z h0 oX25519_okp "com/example/whorl/whorl/Curve$Okp") (FL_oX25519_okp_edwards : Fld Z h0 oX25519_okp "com/example/whorl/whorl/Curve$Okp" "edwards" "Lcom/example/whorl/whorl/Curve$Edwards;" .null) (FL_oX25519_okp_coordinateBits : Fld Z h0 oX25519_okp "com/example/whorl/whorl/Curve$Okp" "coordinateBits" "I" (.int (127 : Int32))) (ST_ED448 : Sta Z h0 "com/example/whorl/whorl/Curve" "ED448" "Lcom/example/whorl/whorl/Curve;" (.ref oED448)) (EX_oED448 : Exa Z h0 oED448 "com/example/whorl/whorl/Curve") (FL_oED448_okp : Fld Z h0 oED448 "com/example/whorl/whorl/Curve" "okp" "Lcom/example/whorl/whorl/Curve$Okp;" (.ref oED448_okp)) (EX_oED448_okp : Exa Z h0 oED448_okp "com/example/whorl/whorl/Curve$Okp") (FL_oED448_okp_edwards : Fld Z h0 oED448_okp "com/example/whorl/whorl/Curve$Okp" "edwards" "Lcom/example/whorl/whorl/Curve$Edwards;" (.ref oED448_okp_edwards)) (EX_oED448_okp_edwards : Exa Z h0 oED448_okp_edwards "com/example/whorl/whorl/Curve$Edwards") (ST_ED25519 : Sta Z h0 "com/example/whorl/whorl/Curve" "ED25519" "Lcom/example/whorl/whorl/Curve;" (.ref oED25519)) (EX_oED25519 : Exa Z h0 oED25519 "com/example/whorl/whorl/Curve") (FL_oED25519_okp : Fld Z h0 oED25519 "com/example/whorl/whorl/Curve" "okp" "Lcom/example/whorl/whorl/Curve$Okp;" (.ref oED25519_okp)) (EX_oED25519_okp : Exa Z h0 oED25519_okp "com/example/whorl/whorl/Curve$Okp") (FL_oED25519_okp_edwards : Fld Z h0 oED25519_okp "com/example/whorl/whorl/Curve$Okp" "edwards" "Lcom/example/whorl/whorl/Curve$Edwards;" (.ref oED25519_okp_edwards)) (EX_oED25519_okp_edwards : Exa Z h0 oED25519_okp_edwards "com/example/whorl/whorl/Curve$Edwards") (ST_X448 : Sta Z h0 "com/example/whorl/whorl/Curve" "X448" "Lcom/example/whorl/whorl/Curve;" (.ref oX448)) (EX_oX448 : Exa Z h0 oX448 "com/example/whorl/whorl/Curve") (FL_oX448_okp : Fld Z h0 oX448 "com/example/whorl/whorl/Curve" "okp" "Lcom/example/whorl/whorl/Curve$Okp;" (.ref oX448_okp)) (EX_oX448_okp : Exa Z h0 oX448_okp "com/example/whorl/whorl/Curve$Okp") (FL_oX448_okp_edwards : Fld Z h0 oX448_okp "com/example/whorl/whorl/Curve$Okp" "edwards" "Lcom/example/whorl/whorl/Curve$Edwards;" .null) (FL_oX448_okp_coordinateBits : Fld Z h0 oX448_okp "com/example/whorl/whorl/Curve$Okp" "coordinateBits" "I" (.int (255 : Int32))) (FL_oED448_okp_coordinateBits : Fld Z h0 oED448_okp "com/example/whorl/whorl/Curve$Okp" "coordinateBits" "I" (.int (127 : Int32))) (FL_oED25519_okp_coordinateBits : Fld Z h0 oED25519_okp "com/example/whorl/whorl/Curve$Okp" "coordinateBits" "I" (.int (127 : Int32))) :
    MetFree l x (head1 (Jvm.Cond.code x code maxLocals ret :: ws) room_1) (fun a U => a = #[(.int p0), (.int p1), (.int p2), (.int p3)] ∧ Z.Warmed39 U.vm ∧ U.heap = h0) (fun _ _ _ _ _ => True) (fun _ U o U' => ∃ v L, o = .returned v ∧ Q0 Z p0 p1 p2 p3 oX25519 oX25519_okp oED448 oED448_okp oED448_okp_edwards oED25519 oED25519_okp oED25519_okp_edwards oX448 oX448_okp h0 n0 v U'.heap L ∧ FrameEnd U o U' L room_1.cells room_1.slots) := by
  refine MetFree.of_bodySF (plainFor_of_name pn_0) hisR ?_
  intro p e s m args below meth c s₁ Bd hml0 hP hK
  obtain ⟨rfl, hZ, hh⟩ := hP
  have hx := Bd.exec
  have hby := Bd.bytes
  have hml : c.maxLocals = 9 := hml0
  have hown : s.vm.findClass "com/example/whorl/whorl/CurveSetsIgnoredBitPinLaw" = some m.cls := findClass_of_methodNamed Bd.named
  have hnm := (name_of_methodNamed Bd.named Bd.method).1
  have X0 : Stand p l e room_1 s m #[(.int p0), (.int p1), (.int p2), (.int p3)] below meth c s₁ [] 0 0 := Stand.of_body Bd
  have e0 : s₁.heap = h0 := by rw [← hh, Bd.state]; rfl
  have N0 := Fr.nil n0
  have K0 : ∀ t, Steps p.tables e below (s₁.setTop (mkF m 0 #[.val (.int p0), .val (.int p1), .val (.int p2), .val (.int p3), .unset, .unset, .unset, .unset, .unset] [])) t → Steps p.tables e below (s₁.setTop (entryFrame m #[(.int p0), (.int p1), (.int p2), (.int p3)] maxLocals)) t := fun t k => castTop (ef_0 m p0 p1 p2 p3) k
  generalize s₁.setTop (entryFrame m #[(.int p0), (.int p1), (.int p2), (.int p3)] maxLocals) = SE at K0 ⊢
  have K1 : ∀ t, own_S p e below s₁ (mkF m 5 #[.val (.int p0), .val (.int p1), .val (.int p2), .val (.int p3), .val (.int (p0 &&& (3 : Int32))), .unset, .unset, .unset, .unset] []) t → Steps p.tables e below SE t := by
    intro t k
    refine K0 _ ?_
    refine XS.iloadN X0.here hx rfl (hb hby at_0) rfl ?_
    show own_S p e below s₁ (mkF m 1 #[.val (.int p0), .val (.int p1), .val (.int p2), .val (.int p3), .unset, .unset, .unset, .unset, .unset] [(.int p0)]) _
    refine XS.iconst X0.here hx rfl (hb hby at_1) ?_
    show own_S p e below s₁ (mkF m 2 #[.val (.int p0), .val (.int p1), .val (.int p2), .val (.int p3), .unset, .unset, .unset, .unset, .unset] [(.int (3 : Int32)), (.int p0)]) _
    refine XS.iand X0.here hx rfl (hb hby at_2) rfl ?_
    show own_S p e below s₁ (mkF m 3 #[.val (.int p0), .val (.int p1), .val (.int p2), .val (.int p3), .unset, .unset, .unset, .unset, .unset] [(.int (p0 &&& (3 : Int32)))]) _
    refine XS.istore X0.here hx rfl (hb hby at_3) rfl (l' := #[.val (.int p0), .val (.int p1), .val (.int p2), .val (.int p3), .val (.int (p0 &&& (3 : Int32))), .unset, .unset, .unset, .unset]) rfl ?_
    exact k
  obtain ⟨kk, hkk⟩ : ∃ z : Int32, z = (p0 &&& (3 : Int32)) := ⟨_, rfl⟩
  rw [← hkk] at K1
  rcases own_four p0 kk hkk with q | q | q | q
  · skip
    rw [q] at K1
    have K2 : ∀ t, own_S p e below s₁ (mkF m 10 #[.val (.int p0), .val (.int p1), .val (.int p2), .val (.int p3), .val (.int (0 : Int32)), .unset, .unset, .unset, .unset] []) t → Steps p.tables e below SE t := by
      intro t k
      refine K1 _ ?_
      refine XS.iload X0.here hx rfl (hb hby at_5) rfl ?_
      show own_S p e below s₁ (mkF m 7 #[.val (.int p0), .val (.int p1), .val (.int p2), .val (.int p3), .val (.int (0 : Int32)), .unset, .unset, .unset, .unset] [(.int (0 : Int32))]) _
      refine XS.ifNo X0.here hx rfl (hb hby at_7) rfl (XT.i0_ne_f (by decide : (0 : Int32) = 0)) ?_
      exact k
    obtain ⟨T3, X3, e3, st3⟩ := getS2 X0 hx hZ hown (host := "") (Or.inl (hw _ (List.mem_of_getElem? (i := 0) rfl))) Via.refl e0 ST_X25519 (g := (mkF m 10 #[.val (.int p0), .val (.int p1), .val (.int p2), .val (.int p3), .val (.int (0 : Int32)), .unset, .unset, .unset, .unset] [])) rfl (hb hby at_10)
    have K3 : ∀ t, own_S p e below T3 (mkF m 13 #[.val (.int p0), .val (.int p1), .val (.int p2), .val (.int p3), .val (.int (0 : Int32)), .unset, .unset, .unset, .unset] [(.ref oX25519)]) t → Steps p.tables e below SE t := fun t k => K2 _ (st3 _ k)
    have K4 : ∀ t, own_S p e below T3 (mkF m 17 #[.val (.int p0), .val (.int p1), .val (.int p2), .val (.int p3), .val (.int (0 : Int32)), .val (.ref oX25519), .unset, .unset, .unset] [(.int (32 : Int32))]) t → Steps p.tables e below SE t := by
      intro t k
      refine K3 _ ?_
      refine XS.astore X3.here hx rfl (hb hby at_13) rfl rfl (l' := #[.val (.int p0), .val (.int p1), .val (.int p2), .val (.int p3), .val (.int (0 : Int32)), .val (.ref oX25519), .unset, .unset, .unset]) rfl ?_
      show own_S p e below T3 (mkF m 15 #[.val (.int p0), .val (.int p1), .val (.int p2), .val (.int p3), .val (.int (0 : Int32)), .val (.ref oX25519), .unset, .unset, .unset] []) _
      refine XS.bipush X3.here hx rfl (hb hby at_15) ?_
      exact k
    obtain ⟨T5, h5, k5, X5, e5, E5, A5, st5⟩ := newP X3 hx hZ (hw _ (List.mem_of_getElem? (i := 3) rfl)) e3 (g := (mkF m 17 #[.val (.int p0), .val (.int p1), .val (.int p2), .val (.int p3), .val (.int (0 : Int32)), .val (.ref oX25519), .unset, .unset, .unset] [(.int (32 : Int32))])) rfl (hb hby at_17) rfl (by decide) (cap := 32) (by decide) (by decide) (by decide) (by decide)
    obtain ⟨b5, g5⟩ : ∃ z, z = h0.size := ⟨_, rfl⟩
    rw [← g5] at A5 st5
    have g_b5 : n0 ≤ b5 := Nat.le_trans Z0 (Nat.le_of_eq g5.symm)
    have sz_b5 : h0.size ≤ b5 := Nat.le_trans (Nat.le_refl _) (Nat.le_of_eq g5.symm)
    have own_ne_oX25519_b5 : oX25519 ≠ b5 := Nat.ne_of_lt (Nat.lt_of_lt_of_le EX_oX25519.lt (Nat.le_of_eq g5.symm))
    have own_ne_oED448_b5 : oED448 ≠ b5 := Nat.ne_of_lt (Nat.lt_of_lt_of_le EX_oED448.lt (Nat.le_of_eq g5.symm))
    have own_ne_oED448_okp_b5 : oED448_okp ≠ b5 := Nat.ne_of_lt (Nat.lt_of_lt_of_le EX_oED448_okp.lt (Nat.le_of_eq g5.symm))
    have own_ne_oED448_okp_edwards_b5 : oED448_okp_edwards ≠ b5 := Nat.ne_of_lt (Nat.lt_of_lt_of_le EX_oED448_okp_edwards.lt (Nat.le_of_eq g5.symm))
    have own_ne_oED25519_okp_b5 : oED25519_okp ≠ b5 := Nat.ne_of_lt (Nat.lt_of_lt_of_le EX_oED25519_okp.lt (Nat.le_of_eq g5.symm))
    have own_ne_oED25519_b5 : oED25519 ≠ b5 := Nat.ne_of_lt (Nat.lt_of_lt_of_le EX_oED25519.lt (Nat.le_of_eq g5.symm))
    have own_ne_oED25519_okp_edwards_b5 : oED25519_okp_edwards ≠ b5 := Nat.ne_of_lt (Nat.lt_of_lt_of_le EX_oED25519_okp_edwards.lt (Nat.le_of_eq g5.symm))
    have own_ne_oX448_b5 : oX448 ≠ b5 := Nat.ne_of_lt (Nat.lt_of_lt_of_le EX_oX448.lt (Nat.le_of_eq g5.symm))
    have own_ne_oX25519_okp_b5 : oX25519_okp ≠ b5 := Nat.ne_of_lt (Nat.lt_of_lt_of_le EX_oX25519_okp.lt (Nat.le_of_eq g5.symm))
    have own_ne_oX448_okp_b5 : oX448_okp ≠ b5 := Nat.ne_of_lt (Nat.lt_of_lt_of_le EX_oX448_okp.lt (Nat.le_of_eq g5.symm))
    have Kp5 : Keep h0 h5 [] := Keep.ext (Keep.refl h0 []) E5
    have V5 : Arv Z h5 b5 k5 .byte (32 : Int32) [(.int (0 : Int32)), (.int (0 : Int32)), (.int (0 : Int32)), (.int (0 : Int32)), (.int (0 : Int32)), (.int (0 : Int32)), (.int (0 : Int32)), (.int (0 : Int32)), (.int (0 : Int32)), (.int (0 : Int32)), (.int (0 : Int32)), (.int (0 : Int32)), (.int (0 : Int32)), (.int (0 : Int32)), (.int (0 : Int32)), (.int (0 : Int32)), (.int (0 : Int32)), (.int (0 : Int32)), (.int (0 : Int32)), (.int (0 : Int32)), (.int (0 : Int32)), (.int (0 : Int32)), (.int (0 : Int32)), (.int (0 : Int32)), (.int (0 : Int32)), (.int (0 : Int32)), (.int (0 : Int32)), (.int (0 : Int32)), (.int (0 : Int32)), (.int (0 : Int32)), (.int (0 : Int32)), (.int (0 : Int32))] (.int (0 : Int32)) := (Arv.new A5 (by decide)).pad (pad_rep [] (.int (0 : Int32)) 32)
    have K5 : ∀ t, own_S p e below T5 (mkF m 19 #[.val (.int p0), .val (.int p1), .val (.int p2), .val (.int p3), .val (.int (0 : Int32)), .val (.ref oX25519), .unset, .unset, .unset] [(.ref b5)]) t → Steps p.tables e below SE t := fun t k => K4 _ (st5 _ k)
    have K6 : ∀ t, own_S p e below T5 (mkF m 80 #[.val (.int p0), .val (.int p1), .val (.int p2), .val (.int p3), .val (.int (0 : Int32)), .val (.ref oX25519), .val (.ref b5), .unset, .unset] [(.int ((p2).toInt8.toInt32)), (.int (0 : Int32)), (.ref b5)]) t → Steps p.tables e below SE t := by
      intro t k
      refine K5 _ ?_
      refine XS.astore X5.here hx rfl (hb hby at_19) rfl rfl (l' := #[.val (.int p0), .val (.int p1), .val (.int p2), .val (.int p3), .val (.int (0 : Int32)), .val (.ref oX25519), .val (.ref b5), .unset, .unset]) rfl ?_
      show own_S p e below T5 (mkF m 21 #[.val (.int p0), .val (.int p1), .val (.int p2), .val (.int p3), .val (.int (0 : Int32)), .val (.ref oX25519), .val (.ref b5), .unset, .unset] []) _
      refine XS.goto X5.here hx rfl (pc0 := 21) (pc' := 75) rfl (hb hby at_21) (by decide) (by decide) ?_
      show own_S p e below T5 (mkF m 75 #[.val (.int p0), .val (.int p1), .val (.int p2), .val (.int p3), .val (.int (0 : Int32)), .val (.ref oX25519), .val (.ref b5), .unset, .unset] []) _
      refine XS.aload X5.here hx rfl (hb hby at_75) rfl rfl ?_
      show own_S p e below T5 (mkF m 77 #[.val (.int p0), .val (.int p1), .val (.int p2), .val (.int p3), .val (.int (0 : Int32)), .val (.ref oX25519), .val (.ref b5), .unset, .unset] [(.ref b5)]) _
      refine XS.iconst X5.here hx rfl (hb hby at_77) ?_
      show own_S p e below T5 (mkF m 78 #[.val (.int p0), .val (.int p1), .val (.int p2), .val (.int p3), .val (.int (0 : Int32)), .val (.ref oX25519), .val (.ref b5), .unset, .unset] [(.int (0 : Int32)), (.ref b5)]) _
      refine XS.iloadN X5.here hx rfl (hb hby at_78) rfl ?_
      show own_S p e below T5 (mkF m 79 #[.val (.int p0), .val (.int p1), .val (.int p2), .val (.int p3), .val (.int (0 : Int32)), .val (.ref oX25519), .val (.ref b5), .unset, .unset] [(.int p2), (.int (0 : Int32)), (.ref b5)]) _
      refine XS.i2b X5.here hx rfl (hb hby at_79) rfl ?_
      exact k
    obtain ⟨cl7, Ar7, qk7, S7, Ng7, Hh7, Gg7⟩ := id V5
    have hin7 : ¬ ((0 : Int32) < 0 ∨ cl7.slots.size ≤ ((0 : Int32)).toNatClampNeg) := inb_of S7 ⟨by decide, by decide⟩
    obtain ⟨T8, h8, X8, e8, W8, st8⟩ := stB X5 hx hZ e5 Ar7 (j := (0 : Int32)) hin7 (g := (mkF m 80 #[.val (.int p0), .val (.int p1), .val (.int p2), .val (.int p3), .val (.int (0 : Int32)), .val (.ref oX25519), .val (.ref b5), .unset, .unset] [(.int ((p2).toInt8.toInt32)), (.int (0 : Int32)), (.ref b5)])) rfl rfl (hb hby at_80)
    have V8 : Arv Z h8 b5 k5 .byte (32 : Int32) [(.int (((p2).toInt8.toInt32)).toInt8.toInt32), (.int (0 : Int32)), (.int (0 : Int32)), (.int (0 : Int32)), (.int (0 : Int32)), (.int (0 : Int32)), (.int (0 : Int32)), (.int (0 : Int32)), (.int (0 : Int32)), (.int (0 : Int32)), (.int (0 : Int32)), (.int (0 : Int32)), (.int (0 : Int32)), (.int (0 : Int32)), (.int (0 : Int32)), (.int (0 : Int32)), (.int (0 : Int32)), (.int (0 : Int32)), (.int (0 : Int32)), (.int (0 : Int32)), (.int (0 : Int32)), (.int (0 : Int32)), (.int (0 : Int32)), (.int (0 : Int32)), (.int (0 : Int32)), (.int (0 : Int32)), (.int (0 : Int32)), (.int (0 : Int32)), (.int (0 : Int32)), (.int (0 : Int32)), (.int (0 : Int32)), (.int (0 : Int32))] (.int (0 : Int32)) := Arv.set Ar7 qk7 S7 Ng7 Hh7 Gg7 (fits_nar_byte _) W8 0 rfl (Nat.le_of_ble_eq_true rfl)
    have N8 := Fr.snoc X8 N0 g_b5
    have Kp8 : Keep h0 h8 [] := Keep.wr Kp5 W8 (Or.inr sz_b5)
    have K8 : ∀ t, own_S p e below T8 (mkF m 81 #[.val (.int p0), .val (.int p1), .val (.int p2), .val (.int p3), .val (.int (0 : Int32)), .val (.ref oX25519), .val (.ref b5), .unset, .unset] []) t → Steps p.tables e below SE t := fun t k => K6 _ (st8 _ k)
    have K9 : ∀ t, own_S p e below T8 (mkF m 85 #[.val (.int p0), .val (.int p1), .val (.int p2), .val (.int p3), .val (.int (0 : Int32)), .val (.ref oX25519), .val (.ref b5), .unset, .unset] [(.ref b5), (.ref b5)]) t → Steps p.tables e below SE t := by
      intro t k
      refine K8 _ ?_
      refine XS.aload X8.here hx rfl (hb hby at_81) rfl rfl ?_
      show own_S p e below T8 (mkF m 83 #[.val (.int p0), .val (.int p1), .val (.int p2), .val (.int p3), .val (.int (0 : Int32)), .val (.ref oX25519), .val (.ref b5), .unset, .unset] [(.ref b5)]) _
      refine XS.aload X8.here hx rfl (hb hby at_83) rfl rfl ?_
      exact k
    obtain ⟨cl10, Ar10, -, S10, Ng10, -, -⟩ := id V8
    have K11 : ∀ t, own_S p e below T8 (mkF m 88 #[.val (.int p0), .val (.int p1), .val (.int p2), .val (.int p3), .val (.int (0 : Int32)), .val (.ref oX25519), .val (.ref b5), .unset, .unset] [(.int ((32 : Int32) / (2 : Int32))), (.ref b5)]) t → Steps p.tables e below SE t := by
      intro t k
      refine K9 _ ?_
      refine X8.arraylength hx (by rw [e8]; exact Ar10.1) (State.isArrayOf_alike hZ.alike Ar10.2.1) (g := (mkF m 85 #[.val (.int p0), .val (.int p1), .val (.int p2), .val (.int p3), .val (.int (0 : Int32)), .val (.ref oX25519), .val (.ref b5), .unset, .unset] [(.ref b5), (.ref b5)])) rfl rfl (hb hby at_85) _ ?_
      rw [len_of S10 Ng10]
      show own_S p e below T8 (mkF m 86 #[.val (.int p0), .val (.int p1), .val (.int p2), .val (.int p3), .val (.int (0 : Int32)), .val (.ref oX25519), .val (.ref b5), .unset, .unset] [(.int (32 : Int32)), (.ref b5)]) _
      refine XS.iconst X8.here hx rfl (hb hby at_86) ?_
      show own_S p e below T8 (mkF m 87 #[.val (.int p0), .val (.int p1), .val (.int p2), .val (.int p3), .val (.int (0 : Int32)), .val (.ref oX25519), .val (.ref b5), .unset, .unset] [(.int (2 : Int32)), (.int (32 : Int32)), (.ref b5)]) _
      refine XS.idiv X8.here hx rfl (hb hby at_87) rfl (by decide) ?_
      exact k
    rw [(by decide : ((32 : Int32) / (2 : Int32)) = (16 : Int32))] at K11
    have K12 : ∀ t, own_S p e below T8 (mkF m 90 #[.val (.int p0), .val (.int p1), .val (.int p2), .val (.int p3), .val (.int (0 : Int32)), .val (.ref oX25519), .val (.ref b5), .unset, .unset] [(.int ((p3).toInt8.toInt32)), (.int (16 : Int32)), (.ref b5)]) t → Steps p.tables e below SE t := by
      intro t k
      refine K11 _ ?_
      refine XS.iloadN X8.here hx rfl (hb hby at_88) rfl ?_
      show own_S p e below T8 (mkF m 89 #[.val (.int p0), .val (.int p1), .val (.int p2), .val (.int p3), .val (.int (0 : Int32)), .val (.ref oX25519), .val (.ref b5), .unset, .unset] [(.int p3), (.int (16 : Int32)), (.ref b5)]) _
      refine XS.i2b X8.here hx rfl (hb hby at_89) rfl ?_
      exact k
    obtain ⟨cl13, Ar13, qk13, S13, Ng13, Hh13, Gg13⟩ := id V8
    have hin13 : ¬ ((16 : Int32) < 0 ∨ cl13.slots.size ≤ ((16 : Int32)).toNatClampNeg) := inb_of S13 ⟨by decide, by decide⟩
    obtain ⟨T14, h14, X14, e14, W14, st14⟩ := stB X8 hx hZ e8 Ar13 (j := (16 : Int32)) hin13 (g := (mkF m 90 #[.val (.int p0), .val (.int p1), .val (.int p2), .val (.int p3), .val (.int (0 : Int32)), .val (.ref oX25519), .val (.ref b5), .unset, .unset] [(.int ((p3).toInt8.toInt32)), (.int (16 : Int32)), (.ref b5)])) rfl rfl (hb hby at_90)
    have V14 : Arv Z h14 b5 k5 .byte (32 : Int32) [(.int (((p2).toInt8.toInt32)).toInt8.toInt32), (.int (0 : Int32)), (.int (0 : Int32)), (.int (0 : Int32)), (.int (0 : Int32)), (.int (0 : Int32)), (.int (0 : Int32)), (.int (0 : Int32)), (.int (0 : Int32)), (.int (0 : Int32)), (.int (0 : Int32)), (.int (0 : Int32)), (.int (0 : Int32)), (.int (0 : Int32)), (.int (0 : Int32)), (.int (0 : Int32)), (.int (((p3).toInt8.toInt32)).toInt8.toInt32), (.int (0 : Int32)), (.int (0 : Int32)), (.int (0 : Int32)), (.int (0 : Int32)), (.int (0 : Int32)), (.int (0 : Int32)), (.int (0 : Int32)), (.int (0 : Int32)), (.int (0 : Int32)), (.int (0 : Int32)), (.int (0 : Int32)), (.int (0 : Int32)), (.int (0 : Int32)), (.int (0 : Int32)), (.int (0 : Int32))] (.int (0 : Int32)) := Arv.set Ar13 qk13 S13 Ng13 Hh13 Gg13 (fits_nar_byte _) W14 16 rfl (Nat.le_of_ble_eq_true rfl)
    have N14 := Fr.snoc X14 N8 g_b5
    have Kp14 : Keep h0 h14 [] := Keep.wr Kp8 W14 (Or.inr sz_b5)
    have K14 : ∀ t, own_S p e below T14 (mkF m 91 #[.val (.int p0), .val (.int p1), .val (.int p2), .val (.int p3), .val (.int (0 : Int32)), .val (.ref oX25519), .val (.ref b5), .unset, .unset] []) t → Steps p.tables e below SE t := fun t k => K12 _ (st14 _ k)
    have K15 : ∀ t, own_S p e below T14 (mkF m 95 #[.val (.int p0), .val (.int p1), .val (.int p2), .val (.int p3), .val (.int (0 : Int32)), .val (.ref oX25519), .val (.ref b5), .unset, .unset] [(.ref b5), (.ref b5)]) t → Steps p.tables e below SE t := by
      intro t k
      refine K14 _ ?_
      refine XS.aload X14.here hx rfl (hb hby at_91) rfl rfl ?_
      show own_S p e below T14 (mkF m 93 #[.val (.int p0), .val (.int p1), .val (.int p2), .val (.int p3), .val (.int (0 : Int32)), .val (.ref oX25519), .val (.ref b5), .unset, .unset] [(.ref b5)]) _
      refine XS.aload X14.here hx rfl (hb hby at_93) rfl rfl ?_
      exact k
    obtain ⟨cl16, Ar16, -, S16, Ng16, -, -⟩ := id V14
    have K17 : ∀ t, own_S p e below T14 (mkF m 100 #[.val (.int p0), .val (.int p1), .val (.int p2), .val (.int p3), .val (.int (0 : Int32)), .val (.ref oX25519), .val (.ref b5), .unset, .unset] [(.int ((p1).toInt8.toInt32)), (.int (31 : Int32)), (.ref b5)]) t → Steps p.tables e below SE t := by
      intro t k
      refine K15 _ ?_
      refine X14.arraylength hx (by rw [e14]; exact Ar16.1) (State.isArrayOf_alike hZ.alike Ar16.2.1) (g := (mkF m 95 #[.val (.int p0), .val (.int p1), .val (.int p2), .val (.int p3), .val (.int (0 : Int32)), .val (.ref oX25519), .val (.ref b5), .unset, .unset] [(.ref b5), (.ref b5)])) rfl rfl (hb hby at_95) _ ?_
      rw [len_of S16 Ng16]
      show own_S p e below T14 (mkF m 96 #[.val (.int p0), .val (.int p1), .val (.int p2), .val (.int p3), .val (.int (0 : Int32)), .val (.ref oX25519), .val (.ref b5), .unset, .unset] [(.int (32 : Int32)), (.ref b5)]) _
      refine XS.iconst X14.here hx rfl (hb hby at_96) ?_
      show own_S p e below T14 (mkF m 97 #[.val (.int p0), .val (.int p1), .val (.int p2), .val (.int p3), .val (.int (0 : Int32)), .val (.ref oX25519), .val (.ref b5), .unset, .unset] [(.int (1 : Int32)), (.int (32 : Int32)), (.ref b5)]) _
      refine XS.isub X14.here hx rfl (hb hby at_97) rfl ?_
      show own_S p e below T14 (mkF m 98 #[.val (.int p0), .val (.int p1), .val (.int p2), .val (.int p3), .val (.int (0 : Int32)), .val (.ref oX25519), .val (.ref b5), .unset, .unset] [(.int (31 : Int32)), (.ref b5)]) _
      refine XS.iloadN X14.here hx rfl (hb hby at_98) rfl ?_
      show own_S p e below T14 (mkF m 99 #[.val (.int p0), .val (.int p1), .val (.int p2), .val (.int p3), .val (.int (0 : Int32)), .val (.ref oX25519), .val (.ref b5), .unset, .unset] [(.int p1), (.int (31 : Int32)), (.ref b5)]) _
      refine XS.i2b X14.here hx rfl (hb hby at_99) rfl ?_
      exact k
    obtain ⟨cl18, Ar18, qk18, S18, Ng18, Hh18, Gg18⟩ := id V14
    have hin18 : ¬ ((31 : Int32) < 0 ∨ cl18.slots.size ≤ ((31 : Int32)).toNatClampNeg) := inb_of S18 ⟨by decide, by decide⟩
    obtain ⟨T19, h19, X19, e19, W19, st19⟩ := stB X14 hx hZ e14 Ar18 (j := (31 : Int32)) hin18 (g := (mkF m 100 #[.val (.int p0), .val (.int p1), .val (.int p2), .val (.int p3), .val (.int (0 : Int32)), .val (.ref oX25519), .val (.ref b5), .unset, .unset] [(.int ((p1).toInt8.toInt32)), (.int (31 : Int32)), (.ref b5)])) rfl rfl (hb hby at_100)
    have V19 : Arv Z h19 b5 k5 .byte (32 : Int32) [(.int (((p2).toInt8.toInt32)).toInt8.toInt32), (.int (0 : Int32)), (.int (0 : Int32)), (.int (0 : Int32)), (.int (0 : Int32)), (.int (0 : Int32)), (.int (0 : Int32)), (.int (0 : Int32)), (.int (0 : Int32)), (.int (0 : Int32)), (.int (0 : Int32)), (.int (0 : Int32)), (.int (0 : Int32)), (.int (0 : Int32)), (.int (0 : Int32)), (.int (0 : Int32)), (.int (((p3).toInt8.toInt32)).toInt8.toInt32), (.int (0 : Int32)), (.int (0 : Int32)), (.int (0 : Int32)), (.int (0 : Int32)), (.int (0 : Int32)), (.int (0 : Int32)), (.int (0 : Int32)), (.int (0 : Int32)), (.int (0 : Int32)), (.int (0 : Int32)), (.int (0 : Int32)), (.int (0 : Int32)), (.int (0 : Int32)), (.int (0 : Int32)), (.int (((p1).toInt8.toInt32)).toInt8.toInt32)] (.int (0 : Int32)) := Arv.set Ar18 qk18 S18 Ng18 Hh18 Gg18 (fits_nar_byte _) W19 31 rfl (Nat.le_of_ble_eq_true rfl)
    have N19 := Fr.snoc X19 N14 g_b5
    have Kp19 : Keep h0 h19 [] := Keep.wr Kp14 W19 (Or.inr sz_b5)
    have K19 : ∀ t, own_S p e below T19 (mkF m 101 #[.val (.int p0), .val (.int p1), .val (.int p2), .val (.int p3), .val (.int (0 : Int32)), .val (.ref oX25519), .val (.ref b5), .unset, .unset] []) t → Steps p.tables e below SE t := fun t k => K17 _ (st19 _ k)
    obtain ⟨top, htop, K21⟩ : ∃ top : Int32, top = (if (p1 &&& (128 : Int32)) = 0 then (0 : Int32) else (1 : Int32)) ∧ ∀ t, own_S p e below T19 (mkF m 114 #[.val (.int p0), .val (.int p1), .val (.int p2), .val (.int p3), .val (.int (0 : Int32)), .val (.ref oX25519), .val (.ref b5), .unset, .unset] [(.int top)]) t → Steps p.tables e below SE t := by
      have K23 : ∀ t, own_S p e below T19 (mkF m 106 #[.val (.int p0), .val (.int p1), .val (.int p2), .val (.int p3), .val (.int (0 : Int32)), .val (.ref oX25519), .val (.ref b5), .unset, .unset] [(.int (p1 &&& (128 : Int32)))]) t → Steps p.tables e below SE t := by
        intro t k
        refine K19 _ ?_
        refine XS.iloadN X19.here hx rfl (hb hby at_101) rfl ?_
        show own_S p e below T19 (mkF m 102 #[.val (.int p0), .val (.int p1), .val (.int p2), .val (.int p3), .val (.int (0 : Int32)), .val (.ref oX25519), .val (.ref b5), .unset, .unset] [(.int p1)]) _
        refine XS.sipush X19.here hx rfl (hb hby at_102) ?_
        show own_S p e below T19 (mkF m 105 #[.val (.int p0), .val (.int p1), .val (.int p2), .val (.int p3), .val (.int (0 : Int32)), .val (.ref oX25519), .val (.ref b5), .unset, .unset] [(.int (128 : Int32)), (.int p1)]) _
        refine XS.iand X19.here hx rfl (hb hby at_105) rfl ?_
        exact k
      by_cases c106_22 : (p1 &&& (128 : Int32)) = 0
      · skip
        have K24 : ∀ t, own_S p e below T19 (mkF m 114 #[.val (.int p0), .val (.int p1), .val (.int p2), .val (.int p3), .val (.int (0 : Int32)), .val (.ref oX25519), .val (.ref b5), .unset, .unset] [(.int (0 : Int32))]) t → Steps p.tables e below SE t := by
          intro t k
          refine K23 _ ?_
          refine XS.ifYes X19.here hx rfl (pc0 := 106) (pc' := 113) rfl (hb hby at_106) rfl (XT.i0_eq_t c106_22) (by decide) (by decide) ?_
          show own_S p e below T19 (mkF m 113 #[.val (.int p0), .val (.int p1), .val (.int p2), .val (.int p3), .val (.int (0 : Int32)), .val (.ref oX25519), .val (.ref b5), .unset, .unset] []) _
          refine XS.iconst X19.here hx rfl (hb hby at_113) ?_
          exact k
        exact ⟨(0 : Int32), (by simp only [if_pos c106_22]), K24⟩
      · skip
        have K25 : ∀ t, own_S p e below T19 (mkF m 114 #[.val (.int p0), .val (.int p1), .val (.int p2), .val (.int p3), .val (.int (0 : Int32)), .val (.ref oX25519), .val (.ref b5), .unset, .unset] [(.int (1 : Int32))]) t → Steps p.tables e below SE t := by
          intro t k
          refine K23 _ ?_
          refine XS.ifNo X19.here hx rfl (hb hby at_106) rfl (XT.i0_eq_f c106_22) ?_
          show own_S p e below T19 (mkF m 109 #[.val (.int p0), .val (.int p1), .val (.int p2), .val (.int p3), .val (.int (0 : Int32)), .val (.ref oX25519), .val (.ref b5), .unset, .unset] []) _
          refine XS.iconst X19.here hx rfl (hb hby at_109) ?_
          show own_S p e below T19 (mkF m 110 #[.val (.int p0), .val (.int p1), .val (.int p2), .val (.int p3), .val (.int (0 : Int32)), .val (.ref oX25519), .val (.ref b5), .unset, .unset] [(.int (1 : Int32))]) _
          refine XS.goto X19.here hx rfl (pc0 := 110) (pc' := 114) rfl (hb hby at_110) (by decide) (by decide) ?_
          exact k
        exact ⟨(1 : Int32), (by simp only [if_neg c106_22]), K25⟩
    obtain ⟨ex, hex, K27⟩ : ∃ ex : Int32, ex = (if top = 0 then (0 : Int32) else (1 : Int32)) ∧ ∀ t, own_S p e below T19 (mkF m 131 #[.val (.int p0), .val (.int p1), .val (.int p2), .val (.int p3), .val (.int (0 : Int32)), .val (.ref oX25519), .val (.ref b5), .val (.int top), .unset] [(.int ex)]) t → Steps p.tables e below SE t := by
      have K29 : ∀ t, own_S p e below T19 (mkF m 123 #[.val (.int p0), .val (.int p1), .val (.int p2), .val (.int p3), .val (.int (0 : Int32)), .val (.ref oX25519), .val (.ref b5), .val (.int top), .unset] [(.int top)]) t → Steps p.tables e below SE t := by
        intro t k
        refine K21 _ ?_
        refine XS.istore X19.here hx rfl (hb hby at_114) rfl (l' := #[.val (.int p0), .val (.int p1), .val (.int p2), .val (.int p3), .val (.int (0 : Int32)), .val (.ref oX25519), .val (.ref b5), .val (.int top), .unset]) rfl ?_
        show own_S p e below T19 (mkF m 116 #[.val (.int p0), .val (.int p1), .val (.int p2), .val (.int p3), .val (.int (0 : Int32)), .val (.ref oX25519), .val (.ref b5), .val (.int top), .unset] []) _
        refine XS.iload X19.here hx rfl (hb hby at_116) rfl ?_
        show own_S p e below T19 (mkF m 118 #[.val (.int p0), .val (.int p1), .val (.int p2), .val (.int p3), .val (.int (0 : Int32)), .val (.ref oX25519), .val (.ref b5), .val (.int top), .unset] [(.int (0 : Int32))]) _
        refine XS.ifNo X19.here hx rfl (hb hby at_118) rfl (XT.i0_ne_f (by decide : (0 : Int32) = 0)) ?_
        show own_S p e below T19 (mkF m 121 #[.val (.int p0), .val (.int p1), .val (.int p2), .val (.int p3), .val (.int (0 : Int32)), .val (.ref oX25519), .val (.ref b5), .val (.int top), .unset] []) _
        refine XS.iload X19.here hx rfl (hb hby at_121) rfl ?_
        exact k
      by_cases c123_28 : top = 0
      · skip
        have K30 : ∀ t, own_S p e below T19 (mkF m 131 #[.val (.int p0), .val (.int p1), .val (.int p2), .val (.int p3), .val (.int (0 : Int32)), .val (.ref oX25519), .val (.ref b5), .val (.int top), .unset] [(.int (0 : Int32))]) t → Steps p.tables e below SE t := by
          intro t k
          refine K29 _ ?_
          refine XS.ifYes X19.here hx rfl (pc0 := 123) (pc' := 130) rfl (hb hby at_123) rfl (XT.i0_eq_t c123_28) (by decide) (by decide) ?_
          show own_S p e below T19 (mkF m 130 #[.val (.int p0), .val (.int p1), .val (.int p2), .val (.int p3), .val (.int (0 : Int32)), .val (.ref oX25519), .val (.ref b5), .val (.int top), .unset] []) _
          refine XS.iconst X19.here hx rfl (hb hby at_130) ?_
          exact k
        exact ⟨(0 : Int32), (by simp only [if_pos c123_28]), K30⟩
      · skip
        have K31 : ∀ t, own_S p e below T19 (mkF m 131 #[.val (.int p0), .val (.int p1), .val (.int p2), .val (.int p3), .val (.int (0 : Int32)), .val (.ref oX25519), .val (.ref b5), .val (.int top), .unset] [(.int (1 : Int32))]) t → Steps p.tables e below SE t := by
          intro t k
          refine K29 _ ?_
          refine XS.ifNo X19.here hx rfl (hb hby at_123) rfl (XT.i0_eq_f c123_28) ?_
          show own_S p e below T19 (mkF m 126 #[.val (.int p0), .val (.int p1), .val (.int p2), .val (.int p3), .val (.int (0 : Int32)), .val (.ref oX25519), .val (.ref b5), .val (.int top), .unset] []) _
          refine XS.iconst X19.here hx rfl (hb hby at_126) ?_
          show own_S p e below T19 (mkF m 127 #[.val (.int p0), .val (.int p1), .val (.int p2), .val (.int p3), .val (.int (0 : Int32)), .val (.ref oX25519), .val (.ref b5), .val (.int top), .unset] [(.int (1 : Int32))]) _
          refine XS.goto X19.here hx rfl (pc0 := 127) (pc' := 131) rfl (hb hby at_127) (by decide) (by decide) ?_
          exact k
        exact ⟨(1 : Int32), (by simp only [if_neg c123_28]), K31⟩
    have hfin : (if ((((((p1).toInt8.toInt32)).toInt8.toInt32) &&& (255 : Int32)) &&& (-128 : Int32)) = 0 then (0 : Int32) else (1 : Int32)) = ex := by
      rw [hex, htop, own_bit7]
      by_cases q1 : (p1 &&& (128 : Int32)) = 0
      · simp [q1]
      · simp [q1]
    have K32 : ∀ t, own_S p e below T19 (mkF m 137 #[.val (.int p0), .val (.int p1), .val (.int p2), .val (.int p3), .val (.int (0 : Int32)), .val (.ref oX25519), .val (.ref b5), .val (.int top), .val (.int ex)] [(.ref b5), (.ref oX25519)]) t → Steps p.tables e below SE t := by
      intro t k
      refine K27 _ ?_
      refine XS.istore X19.here hx rfl (hb hby at_131) rfl (l' := #[.val (.int p0), .val (.int p1), .val (.int p2), .val (.int p3), .val (.int (0 : Int32)), .val (.ref oX25519), .val (.ref b5), .val (.int top), .val (.int ex)]) rfl ?_
      show own_S p e below T19 (mkF m 133 #[.val (.int p0), .val (.int p1), .val (.int p2), .val (.int p3), .val (.int (0 : Int32)), .val (.ref oX25519), .val (.ref b5), .val (.int top), .val (.int ex)] []) _
      refine XS.aload X19.here hx rfl (hb hby at_133) rfl rfl ?_
      show own_S p e below T19 (mkF m 135 #[.val (.int p0), .val (.int p1), .val (.int p2), .val (.int p3), .val (.int (0 : Int32)), .val (.ref oX25519), .val (.ref b5), .val (.int top), .val (.int ex)] [(.ref oX25519)]) _
      refine XS.aload X19.here hx rfl (hb hby at_135) rfl rfl ?_
      exact k
    obtain ⟨cq33, kq33, q33a, q33b, q33c⟩ := isOf hZ e19 (EX_oX25519.ext (own_ext Kp19))
    obtain ⟨_, _, ⟨T33, L33, k33, n33⟩, -, X33, ⟨Lc33, hQ33, l33, y33, z33⟩, st33⟩ := X19.virtualBack hx (y := (⟨"com/example/whorl/whorl/Curve", "setsIgnoredBit", "([B)Z"⟩ : MethodName)) (z := (⟨"com/example/whorl/whorl/Curve", "setsIgnoredBit", "([B)Z"⟩ : MethodName)) hown (mvT hZ (hw _ (List.mem_of_getElem? (i := 4) rfl))) (mvT hZ (hw _ (List.mem_of_getElem? (i := 5) rfl))) (notFace_of_selects (args := #[]) (mvT hZ (hw _ (List.mem_of_getElem? (i := 7) rfl)))) (mvT hZ (hw _ (List.mem_of_getElem? (i := 7) rfl))) (mvT hZ (hw _ (List.mem_of_getElem? (i := 6) rfl))) (by decide) (backOf (W := 0) (rm1_0 l Z a0 hw [] oX25519 b5 oX25519_okp k5 ((((p2).toInt8.toInt32)).toInt8.toInt32) ((((p3).toInt8.toInt32)).toInt8.toInt32) ((((p1).toInt8.toInt32)).toInt8.toInt32)  h19 n0 (Nat.le_trans Z0 Kp19.1) (FL_oX25519_okp.ext (own_ext Kp19)) (FL_oX25519_okp_edwards.ext (own_ext Kp19)) (FL_oX25519_okp_coordinateBits.ext (own_ext Kp19)) V19) hZ (hw _ (List.mem_of_getElem? (i := 8) rfl)) (hw _ (List.mem_of_getElem? (i := 1) rfl)) (by decide) (by decide)) q33a q33c (g := (mkF m 137 #[.val (.int p0), .val (.int p1), .val (.int p2), .val (.int p3), .val (.int (0 : Int32)), .val (.ref oX25519), .val (.ref b5), .val (.int top), .val (.int ex)] [(.ref b5), (.ref oX25519)])) rfl (by rw [hml]; rfl) (Steps.refl _) (argsL := [(.ref b5)]) (rest := []) (lenOf pd_0_0 rfl) rfl (by show 2 * 0 + _ ≤ _; exact Nat.le_of_eq rfl) (hb hby at_137) (fun _ _ => ⟨rfl, e19, (by decide : 1 + 0 ≤ _), (by decide : 32 + 0 ≤ _)⟩)
    dsimp only [Pt.U, Pt.locs, Pt.cells, Pt.slots] at X33 l33 y33 z33 st33 hQ33
    subst l33 y33 z33
    obtain ⟨rfl, Nq33, e33⟩ := hQ33
    have N33 := Fr.app N19 Nq33
    have K33 : ∀ t, own_S p e below T33 (mkF m 140 #[.val (.int p0), .val (.int p1), .val (.int p2), .val (.int p3), .val (.int (0 : Int32)), .val (.ref oX25519), .val (.ref b5), .val (.int top), .val (.int ex)] [(.int (if ((((((p1).toInt8.toInt32)).toInt8.toInt32) &&& (255 : Int32)) &&& (-128 : Int32)) = 0 then (0 : Int32) else (1 : Int32)))]) t → Steps p.tables e below SE t := fun t k => K32 _ (st33.trans k)
    have K34 : ∀ t, own_S p e below T33 (mkF m 150 #[.val (.int p0), .val (.int p1), .val (.int p2), .val (.int p3), .val (.int (0 : Int32)), .val (.ref oX25519), .val (.ref b5), .val (.int top), .val (.int ex)] [(.int (1 : Int32))]) t → Steps p.tables e below SE t := by
      intro t k
      refine K33 _ ?_
      refine XS.iload X33.here hx rfl (hb hby at_140) rfl ?_
      show own_S p e below T33 (mkF m 142 #[.val (.int p0), .val (.int p1), .val (.int p2), .val (.int p3), .val (.int (0 : Int32)), .val (.ref oX25519), .val (.ref b5), .val (.int top), .val (.int ex)] [(.int ex), (.int (if ((((((p1).toInt8.toInt32)).toInt8.toInt32) &&& (255 : Int32)) &&& (-128 : Int32)) = 0 then (0 : Int32) else (1 : Int32)))]) _
      refine XS.icmpNo X33.here hx rfl (hb hby at_142) rfl (XT.ii_ne_f hfin) ?_
      show own_S p e below T33 (mkF m 145 #[.val (.int p0), .val (.int p1), .val (.int p2), .val (.int p3), .val (.int (0 : Int32)), .val (.ref oX25519), .val (.ref b5), .val (.int top), .val (.int ex)] []) _
      refine XS.iconst X33.here hx rfl (hb hby at_145) ?_
      show own_S p e below T33 (mkF m 146 #[.val (.int p0), .val (.int p1), .val (.int p2), .val (.int p3), .val (.int (0 : Int32)), .val (.ref oX25519), .val (.ref b5), .val (.int top), .val (.int ex)] [(.int (1 : Int32))]) _
      refine XS.goto X33.here hx rfl (pc0 := 146) (pc' := 150) rfl (hb hby at_146) (by decide) (by decide) ?_
      exact k
    obtain ⟨fs, hr, hrun, hended, hW, hsame⟩ := X33.leave (v := some (.int (1 : Int32))) (fun h => by rw [Bd.returns] at h; cases h)
    refine ⟨_, _, K34 _ ?_, hrun, hended, _, _, rfl, ?_, ⟨_, rfl⟩, hW, hsame.mono (by decide) (by decide)⟩
    · exact retN X33 hx (t := .boolean) Bd.returns (by simp) (hb hby at_150) hr
    · show Q0 Z p0 p1 p2 p3 oX25519 oX25519_okp oED448 oED448_okp oED448_okp_edwards oED25519 oED25519_okp oED25519_okp_edwards oX448 oX448_okp h0 n0 _ T33.heap _
      rw [e33]
      exact ⟨rfl, N33⟩
  · skip
    rw [q] at K1
    have K35 : ∀ t, own_S p e below s₁ (mkF m 30 #[.val (.int p0), .val (.int p1), .val (.int p2), .val (.int p3), .val (.int (1 : Int32)), .unset, .unset, .unset, .unset] []) t → Steps p.tables e below SE t := by
      intro t k
      refine K1 _ ?_
      refine XS.iload X0.here hx rfl (hb hby at_5) rfl ?_
      show own_S p e below s₁ (mkF m 7 #[.val (.int p0), .val (.int p1), .val (.int p2), .val (.int p3), .val (.int (1 : Int32)), .unset, .unset, .unset, .unset] [(.int (1 : Int32))]) _
      refine XS.ifYes X0.here hx rfl (pc0 := 7) (pc' := 24) rfl (hb hby at_7) rfl (XT.i0_ne_t (by decide : ¬ ((1 : Int32) = 0))) (by decide) (by decide) ?_
      show own_S p e below s₁ (mkF m 24 #[.val (.int p0), .val (.int p1), .val (.int p2), .val (.int p3), .val (.int (1 : Int32)), .unset, .unset, .unset, .unset] []) _
      refine XS.iload X0.here hx rfl (hb hby at_24) rfl ?_
      show own_S p e below s₁ (mkF m 26 #[.val (.int p0), .val (.int p1), .val (.int p2), .val (.int p3), .val (.int (1 : Int32)), .unset, .unset, .unset, .unset] [(.int (1 : Int32))]) _
      refine XS.iconst X0.here hx rfl (hb hby at_26) ?_
      show own_S p e below s₁ (mkF m 27 #[.val (.int p0), .val (.int p1), .val (.int p2), .val (.int p3), .val (.int (1 : Int32)), .unset, .unset, .unset, .unset] [(.int (1 : Int32)), (.int (1 : Int32))]) _
      refine XS.icmpNo X0.here hx rfl (hb hby at_27) rfl (XT.ii_ne_f (by decide : (1 : Int32) = (1 : Int32))) ?_
      exact k
    obtain ⟨T36, X36, e36, st36⟩ := getS2 X0 hx hZ hown (host := "") (Or.inl (hw _ (List.mem_of_getElem? (i := 19) rfl))) Via.refl e0 ST_X448 (g := (mkF m 30 #[.val (.int p0), .val (.int p1), .val (.int p2), .val (.int p3), .val (.int (1 : Int32)), .unset, .unset, .unset, .unset] [])) rfl (hb hby at_30)
    have K36 : ∀ t, own_S p e below T36 (mkF m 33 #[.val (.int p0), .val (.int p1), .val (.int p2), .val (.int p3), .val (.int (1 : Int32)), .unset, .unset, .unset, .unset] [(.ref oX448)]) t → Steps p.tables e below SE t := fun t k => K35 _ (st36 _ k)
    have K37 : ∀ t, own_S p e below T36 (mkF m 37 #[.val (.int p0), .val (.int p1), .val (.int p2), .val (.int p3), .val (.int (1 : Int32)), .val (.ref oX448), .unset, .unset, .unset] [(.int (56 : Int32))]) t → Steps p.tables e below SE t := by
      intro t k
      refine K36 _ ?_
      refine XS.astore X36.here hx rfl (hb hby at_33) rfl rfl (l' := #[.val (.int p0), .val (.int p1), .val (.int p2), .val (.int p3), .val (.int (1 : Int32)), .val (.ref oX448), .unset, .unset, .unset]) rfl ?_
      show own_S p e below T36 (mkF m 35 #[.val (.int p0), .val (.int p1), .val (.int p2), .val (.int p3), .val (.int (1 : Int32)), .val (.ref oX448), .unset, .unset, .unset] []) _
      refine XS.bipush X36.here hx rfl (hb hby at_35) ?_
      exact k
    obtain ⟨T38, h38, k38, X38, e38, E38, A38, st38⟩ := newP X36 hx hZ (hw _ (List.mem_of_getElem? (i := 3) rfl)) e36 (g := (mkF m 37 #[.val (.int p0), .val (.int p1), .val (.int p2), .val (.int p3), .val (.int (1 : Int32)), .val (.ref oX448), .unset, .unset, .unset] [(.int (56 : Int32))])) rfl (hb hby at_37) rfl (by decide) (cap := 56) (by decide) (by decide) (by decide) (by decide)
    obtain ⟨b38, g38⟩ : ∃ z, z = h0.size := ⟨_, rfl⟩
    rw [← g38] at A38 st38
    have g_b38 : n0 ≤ b38 := Nat.le_trans Z0 (Nat.le_of_eq g38.symm)
    have sz_b38 : h0.size ≤ b38 := Nat.le_trans (Nat.le_refl _) (Nat.le_of_eq g38.symm)
    have own_ne_oX25519_b38 : oX25519 ≠ b38 := Nat.ne_of_lt (Nat.lt_of_lt_of_le EX_oX25519.lt (Nat.le_of_eq g38.symm))
    have own_ne_oED448_b38 : oED448 ≠ b38 := Nat.ne_of_lt (Nat.lt_of_lt_of_le EX_oED448.lt (Nat.le_of_eq g38.symm))
    have own_ne_oED448_okp_b38 : oED448_okp ≠ b38 := Nat.ne_of_lt (Nat.lt_of_lt_of_le EX_oED448_okp.lt (Nat.le_of_eq g38.symm))
    have own_ne_oED448_okp_edwards_b38 : oED448_okp_edwards ≠ b38 := Nat.ne_of_lt (Nat.lt_of_lt_of_le EX_oED448_okp_edwards.lt (Nat.le_of_eq g38.symm))
    have own_ne_oED25519_okp_b38 : oED25519_okp ≠ b38 := Nat.ne_of_lt (Nat.lt_of_lt_of_le EX_oED25519_okp.lt (Nat.le_of_eq g38.symm))
    have own_ne_oED25519_b38 : oED25519 ≠ b38 := Nat.ne_of_lt (Nat.lt_of_lt_of_le EX_oED25519.lt (Nat.le_of_eq g38.symm))
    have own_ne_oED25519_okp_edwards_b38 : oED25519_okp_edwards ≠ b38 := Nat.ne_of_lt (Nat.lt_of_lt_of_le EX_oED25519_okp_edwards.lt (Nat.le_of_eq g38.symm))
    have own_ne_oX448_b38 : oX448 ≠ b38 := Nat.ne_of_lt (Nat.lt_of_lt_of_le EX_oX448.lt (Nat.le_of_eq g38.symm))
    have own_ne_oX25519_okp_b38 : oX25519_okp ≠ b38 := Nat.ne_of_lt (Nat.lt_of_lt_of_le EX_oX25519_okp.lt (Nat.le_of_eq g38.symm))
    have own_ne_oX448_okp_b38 : oX448_okp ≠ b38 := Nat.ne_of_lt (Nat.lt_of_lt_of_le EX_oX448_okp.lt (Nat.le_of_eq g38.symm))
    have Kp38 : Keep h0 h38 [] := Keep.ext (Keep.refl h0 []) E38
    have V38 : Arv Z h38 b38 k38 .byte (56 : Int32) [(.int (0 : Int32)), (.int (0 : Int32)), (.int (0 : Int32)), (.int (0 : Int32)), (.int (0 : Int32)), (.int (0 : Int32)), (.int (0 : Int32)), (.int (0 : Int32)), (.int (0 : Int32)), (.int (0 : Int32)), (.int (0 : Int32)), (.int (0 : Int32)), (.int (0 : Int32)), (.int (0 : Int32)), (.int (0 : Int32)), (.int (0 : Int32)), (.int (0 : Int32)), (.int (0 : Int32)), (.int (0 : Int32)), (.int (0 : Int32)), (.int (0 : Int32)), (.int (0 : Int32)), (.int (0 : Int32)), (.int (0 : Int32)), (.int (0 : Int32)), (.int (0 : Int32)), (.int (0 : Int32)), (.int (0 : Int32)), (.int (0 : Int32)), (.int (0 : Int32)), (.int (0 : Int32)), (.int (0 : Int32)), (.int (0 : Int32)), (.int (0 : Int32)), (.int (0 : Int32)), (.int (0 : Int32)), (.int (0 : Int32)), (.int (0 : Int32)), (.int (0 : Int32)), (.int (0 : Int32)), (.int (0 : Int32)), (.int (0 : Int32)), (.int (0 : Int32)), (.int (0 : Int32)), (.int (0 : Int32)), (.int (0 : Int32)), (.int (0 : Int32)), (.int (0 : Int32)), (.int (0 : Int32)), (.int (0 : Int32)), (.int (0 : Int32)), (.int (0 : Int32)), (.int (0 : Int32)), (.int (0 : Int32)), (.int (0 : Int32)), (.int (0 : Int32))] (.int (0 : Int32)) := (Arv.new A38 (by decide)).pad (pad_rep [] (.int (0 : Int32)) 56)
    have K38 : ∀ t, own_S p e below T38 (mkF m 39 #[.val (.int p0), .val (.int p1), .val (.int p2), .val (.int p3), .val (.int (1 : Int32)), .val (.ref oX448), .unset, .unset, .unset] [(.ref b38)]) t → Steps p.tables e below SE t := fun t k => K37 _ (st38 _ k)
    have K39 : ∀ t, own_S p e below T38 (mkF m 80 #[.val (.int p0), .val (.int p1), .val (.int p2), .val (.int p3), .val (.int (1 : Int32)), .val (.ref oX448), .val (.ref b38), .unset, .unset] [(.int ((p2).toInt8.toInt32)), (.int (0 : Int32)), (.ref b38)]) t → Steps p.tables e below SE t := by
      intro t k
      refine K38 _ ?_
      refine XS.astore X38.here hx rfl (hb hby at_39) rfl rfl (l' := #[.val (.int p0), .val (.int p1), .val (.int p2), .val (.int p3), .val (.int (1 : Int32)), .val (.ref oX448), .val (.ref b38), .unset, .unset]) rfl ?_
      show own_S p e below T38 (mkF m 41 #[.val (.int p0), .val (.int p1), .val (.int p2), .val (.int p3), .val (.int (1 : Int32)), .val (.ref oX448), .val (.ref b38), .unset, .unset] []) _
      refine XS.goto X38.here hx rfl (pc0 := 41) (pc' := 75) rfl (hb hby at_41) (by decide) (by decide) ?_
      show own_S p e below T38 (mkF m 75 #[.val (.int p0), .val (.int p1), .val (.int p2), .val (.int p3), .val (.int (1 : Int32)), .val (.ref oX448), .val (.ref b38), .unset, .unset] []) _
      refine XS.aload X38.here hx rfl (hb hby at_75) rfl rfl ?_
      show own_S p e below T38 (mkF m 77 #[.val (.int p0), .val (.int p1), .val (.int p2), .val (.int p3), .val (.int (1 : Int32)), .val (.ref oX448), .val (.ref b38), .unset, .unset] [(.ref b38)]) _
      refine XS.iconst X38.here hx rfl (hb hby at_77) ?_
      show own_S p e below T38 (mkF m 78 #[.val (.int p0), .val (.int p1), .val (.int p2), .val (.int p3), .val (.int (1 : Int32)), .val (.ref oX448), .val (.ref b38), .unset, .unset] [(.int (0 : Int32)), (.ref b38)]) _
      refine XS.iloadN X38.here hx rfl (hb hby at_78) rfl ?_
      show own_S p e below T38 (mkF m 79 #[.val (.int p0), .val (.int p1), .val (.int p2), .val (.int p3), .val (.int (1 : Int32)), .val (.ref oX448), .val (.ref b38), .unset, .unset] [(.int p2), (.int (0 : Int32)), (.ref b38)]) _
      refine XS.i2b X38.here hx rfl (hb hby at_79) rfl ?_
      exact k
    obtain ⟨cl40, Ar40, qk40, S40, Ng40, Hh40, Gg40⟩ := id V38
    have hin40 : ¬ ((0 : Int32) < 0 ∨ cl40.slots.size ≤ ((0 : Int32)).toNatClampNeg) := inb_of S40 ⟨by decide, by decide⟩
    obtain ⟨T41, h41, X41, e41, W41, st41⟩ := stB X38 hx hZ e38 Ar40 (j := (0 : Int32)) hin40 (g := (mkF m 80 #[.val (.int p0), .val (.int p1), .val (.int p2), .val (.int p3), .val (.int (1 : Int32)), .val (.ref oX448), .val (.ref b38), .unset, .unset] [(.int ((p2).toInt8.toInt32)), (.int (0 : Int32)), (.ref b38)])) rfl rfl (hb hby at_80)
    have V41 : Arv Z h41 b38 k38 .byte (56 : Int32) [(.int (((p2).toInt8.toInt32)).toInt8.toInt32), (.int (0 : Int32)), (.int (0 : Int32)), (.int (0 : Int32)), (.int (0 : Int32)), (.int (0 : Int32)), (.int (0 : Int32)), (.int (0 : Int32)), (.int (0 : Int32)), (.int (0 : Int32)), (.int (0 : Int32)), (.int (0 : Int32)), (.int (0 : Int32)), (.int (0 : Int32)), (.int (0 : Int32)), (.int (0 : Int32)), (.int (0 : Int32)), (.int (0 : Int32)), (.int (0 : Int32)), (.int (0 : Int32)), (.int (0 : Int32)), (.int (0 : Int32)), (.int (0 : Int32)), (.int (0 : Int32)), (.int (0 : Int32)), (.int (0 : Int32)), (.int (0 : Int32)), (.int (0 : Int32)), (.int (0 : Int32)), (.int (0 : Int32)), (.int (0 : Int32)), (.int (0 : Int32)), (.int (0 : Int32)), (.int (0 : Int32)), (.int (0 : Int32)), (.int (0 : Int32)), (.int (0 : Int32)), (.int (0 : Int32)), (.int (0 : Int32)), (.int (0 : Int32)), (.int (0 : Int32)), (.int (0 : Int32)), (.int (0 : Int32)), (.int (0 : Int32)), (.int (0 : Int32)), (.int (0 : Int32)), (.int (0 : Int32)), (.int (0 : Int32)), (.int (0 : Int32)), (.int (0 : Int32)), (.int (0 : Int32)), (.int (0 : Int32)), (.int (0 : Int32)), (.int (0 : Int32)), (.int (0 : Int32)), (.int (0 : Int32))] (.int (0 : Int32)) := Arv.set Ar40 qk40 S40 Ng40 Hh40 Gg40 (fits_nar_byte _) W41 0 rfl (Nat.le_of_ble_eq_true rfl)
    have N41 := Fr.snoc X41 N0 g_b38
    have Kp41 : Keep h0 h41 [] := Keep.wr Kp38 W41 (Or.inr sz_b38)
    have K41 : ∀ t, own_S p e below T41 (mkF m 81 #[.val (.int p0), .val (.int p1), .val (.int p2), .val (.int p3), .val (.int (1 : Int32)), .val (.ref oX448), .val (.ref b38), .unset, .unset] []) t → Steps p.tables e below SE t := fun t k => K39 _ (st41 _ k)
    have K42 : ∀ t, own_S p e below T41 (mkF m 85 #[.val (.int p0), .val (.int p1), .val (.int p2), .val (.int p3), .val (.int (1 : Int32)), .val (.ref oX448), .val (.ref b38), .unset, .unset] [(.ref b38), (.ref b38)]) t → Steps p.tables e below SE t := by
      intro t k
      refine K41 _ ?_
      refine XS.aload X41.here hx rfl (hb hby at_81) rfl rfl ?_
      show own_S p e below T41 (mkF m 83 #[.val (.int p0), .val (.int p1), .val (.int p2), .val (.int p3), .val (.int (1 : Int32)), .val (.ref oX448), .val (.ref b38), .unset, .unset] [(.ref b38)]) _
      refine XS.aload X41.here hx rfl (hb hby at_83) rfl rfl ?_
      exact k
    obtain ⟨cl43, Ar43, -, S43, Ng43, -, -⟩ := id V41
    have K44 : ∀ t, own_S p e below T41 (mkF m 88 #[.val (.int p0), .val (.int p1), .val (.int p2), .val (.int p3), .val (.int (1 : Int32)), .val (.ref oX448), .val (.ref b38), .unset, .unset] [(.int ((56 : Int32) / (2 : Int32))), (.ref b38)]) t → Steps p.tables e below SE t := by
      intro t k
      refine K42 _ ?_
      refine X41.arraylength hx (by rw [e41]; exact Ar43.1) (State.isArrayOf_alike hZ.alike Ar43.2.1) (g := (mkF m 85 #[.val (.int p0), .val (.int p1), .val (.int p2), .val (.int p3), .val (.int (1 : Int32)), .val (.ref oX448), .val (.ref b38), .unset, .unset] [(.ref b38), (.ref b38)])) rfl rfl (hb hby at_85) _ ?_
      rw [len_of S43 Ng43]
      show own_S p e below T41 (mkF m 86 #[.val (.int p0), .val (.int p1), .val (.int p2), .val (.int p3), .val (.int (1 : Int32)), .val (.ref oX448), .val (.ref b38), .unset, .unset] [(.int (56 : Int32)), (.ref b38)]) _
      refine XS.iconst X41.here hx rfl (hb hby at_86) ?_
      show own_S p e below T41 (mkF m 87 #[.val (.int p0), .val (.int p1), .val (.int p2), .val (.int p3), .val (.int (1 : Int32)), .val (.ref oX448), .val (.ref b38), .unset, .unset] [(.int (2 : Int32)), (.int (56 : Int32)), (.ref b38)]) _
      refine XS.idiv X41.here hx rfl (hb hby at_87) rfl (by decide) ?_
      exact k
    rw [(by decide : ((56 : Int32) / (2 : Int32)) = (28 : Int32))] at K44
    have K45 : ∀ t, own_S p e below T41 (mkF m 90 #[.val (.int p0), .val (.int p1), .val (.int p2), .val (.int p3), .val (.int (1 : Int32)), .val (.ref oX448), .val (.ref b38), .unset, .unset] [(.int ((p3).toInt8.toInt32)), (.int (28 : Int32)), (.ref b38)]) t → Steps p.tables e below SE t := by
      intro t k
      refine K44 _ ?_
      refine XS.iloadN X41.here hx rfl (hb hby at_88) rfl ?_
      show own_S p e below T41 (mkF m 89 #[.val (.int p0), .val (.int p1), .val (.int p2), .val (.int p3), .val (.int (1 : Int32)), .val (.ref oX448), .val (.ref b38), .unset, .unset] [(.int p3), (.int (28 : Int32)), (.ref b38)]) _
      refine XS.i2b X41.here hx rfl (hb hby at_89) rfl ?_
      exact k
    obtain ⟨cl46, Ar46, qk46, S46, Ng46, Hh46, Gg46⟩ := id V41
    have hin46 : ¬ ((28 : Int32) < 0 ∨ cl46.slots.size ≤ ((28 : Int32)).toNatClampNeg) := inb_of S46 ⟨by decide, by decide⟩
    obtain ⟨T47, h47, X47, e47, W47, st47⟩ := stB X41 hx hZ e41 Ar46 (j := (28 : Int32)) hin46 (g := (mkF m 90 #[.val (.int p0), .val (.int p1), .val (.int p2), .val (.int p3), .val (.int (1 : Int32)), .val (.ref oX448), .val (.ref b38), .unset, .unset] [(.int ((p3).toInt8.toInt32)), (.int (28 : Int32)), (.ref b38)])) rfl rfl (hb hby at_90)
    have V47 : Arv Z h47 b38 k38 .byte (56 : Int32) [(.int (((p2).toInt8.toInt32)).toInt8.toInt32), (.int (0 : Int32)), (.int (0 : Int32)), (.int (0 : Int32)), (.int (0 : Int32)), (.int (0 : Int32)), (.int (0 : Int32)), (.int (0 : Int32)), (.int (0 : Int32)), (.int (0 : Int32)), (.int (0 : Int32)), (.int (0 : Int32)), (.int (0 : Int32)), (.int (0 : Int32)), (.int (0 : Int32)), (.int (0 : Int32)), (.int (0 : Int32)), (.int (0 : Int32)), (.int (0 : Int32)), (.int (0 : Int32)), (.int (0 : Int32)), (.int (0 : Int32)), (.int (0 : Int32)), (.int (0 : Int32)), (.int (0 : Int32)), (.int (0 : Int32)), (.int (0 : Int32)), (.int (0 : Int32)), (.int (((p3).toInt8.toInt32)).toInt8.toInt32), (.int (0 : Int32)), (.int (0 : Int32)), (.int (0 : Int32)), (.int (0 : Int32)), (.int (0 : Int32)), (.int (0 : Int32)), (.int (0 : Int32)), (.int (0 : Int32)), (.int (0 : Int32)), (.int (0 : Int32)), (.int (0 : Int32)), (.int (0 : Int32)), (.int (0 : Int32)), (.int (0 : Int32)), (.int (0 : Int32)), (.int (0 : Int32)), (.int (0 : Int32)), (.int (0 : Int32)), (.int (0 : Int32)), (.int (0 : Int32)), (.int (0 : Int32)), (.int (0 : Int32)), (.int (0 : Int32)), (.int (0 : Int32)), (.int (0 : Int32)), (.int (0 : Int32)), (.int (0 : Int32))] (.int (0 : Int32)) := Arv.set Ar46 qk46 S46 Ng46 Hh46 Gg46 (fits_nar_byte _) W47 28 rfl (Nat.le_of_ble_eq_true rfl)
    have N47 := Fr.snoc X47 N41 g_b38
    have Kp47 : Keep h0 h47 [] := Keep.wr Kp41 W47 (Or.inr sz_b38)
    have K47 : ∀ t, own_S p e below T47 (mkF m 91 #[.val (.int p0), .val (.int p1), .val (.int p2), .val (.int p3), .val (.int (1 : Int32)), .val (.ref oX448), .val (.ref b38), .unset, .unset] []) t → Steps p.tables e below SE t := fun t k => K45 _ (st47 _ k)
    have K48 : ∀ t, own_S p e below T47 (mkF m 95 #[.val (.int p0), .val (.int p1), .val (.int p2), .val (.int p3), .val (.int (1 : Int32)), .val (.ref oX448), .val (.ref b38), .unset, .unset] [(.ref b38), (.ref b38)]) t → Steps p.tables e below SE t := by
      intro t k
      refine K47 _ ?_
      refine XS.aload X47.here hx rfl (hb hby at_91) rfl rfl ?_
      show own_S p e below T47 (mkF m 93 #[.val (.int p0), .val (.int p1), .val (.int p2), .val (.int p3), .val (.int (1 : Int32)), .val (.ref oX448), .val (.ref b38), .unset, .unset] [(.ref b38)]) _
      refine XS.aload X47.here hx rfl (hb hby at_93) rfl rfl ?_
      exact k
    obtain ⟨cl49, Ar49, -, S49, Ng49, -, -⟩ := id V47
    have K50 : ∀ t, own_S p e below T47 (mkF m 100 #[.val (.int p0), .val (.int p1), .val (.int p2), .val (.int p3), .val (.int (1 : Int32)), .val (.ref oX448), .val (.ref b38), .unset, .unset] [(.int ((p1).toInt8.toInt32)), (.int (55 : Int32)), (.ref b38)]) t → Steps p.tables e below SE t := by
      intro t k
      refine K48 _ ?_
      refine X47.arraylength hx (by rw [e47]; exact Ar49.1) (State.isArrayOf_alike hZ.alike Ar49.2.1) (g := (mkF m 95 #[.val (.int p0), .val (.int p1), .val (.int p2), .val (.int p3), .val (.int (1 : Int32)), .val (.ref oX448), .val (.ref b38), .unset, .unset] [(.ref b38), (.ref b38)])) rfl rfl (hb hby at_95) _ ?_
      rw [len_of S49 Ng49]
      show own_S p e below T47 (mkF m 96 #[.val (.int p0), .val (.int p1), .val (.int p2), .val (.int p3), .val (.int (1 : Int32)), .val (.ref oX448), .val (.ref b38), .unset, .unset] [(.int (56 : Int32)), (.ref b38)]) _
      refine XS.iconst X47.here hx rfl (hb hby at_96) ?_
      show own_S p e below T47 (mkF m 97 #[.val (.int p0), .val (.int p1), .val (.int p2), .val (.int p3), .val (.int (1 : Int32)), .val (.ref oX448), .val (.ref b38), .unset, .unset] [(.int (1 : Int32)), (.int (56 : Int32)), (.ref b38)]) _
      refine XS.isub X47.here hx rfl (hb hby at_97) rfl ?_
      show own_S p e below T47 (mkF m 98 #[.val (.int p0), .val (.int p1), .val (.int p2), .val (.int p3), .val (.int (1 : Int32)), .val (.ref oX448), .val (.ref b38), .unset, .unset] [(.int (55 : Int32)), (.ref b38)]) _
      refine XS.iloadN X47.here hx rfl (hb hby at_98) rfl ?_
      show own_S p e below T47 (mkF m 99 #[.val (.int p0), .val (.int p1), .val (.int p2), .val (.int p3), .val (.int (1 : Int32)), .val (.ref oX448), .val (.ref b38), .unset, .unset] [(.int p1), (.int (55 : Int32)), (.ref b38)]) _
      refine XS.i2b X47.here hx rfl (hb hby at_99) rfl ?_
      exact k
    obtain ⟨cl51, Ar51, qk51, S51, Ng51, Hh51, Gg51⟩ := id V47
    have hin51 : ¬ ((55 : Int32) < 0 ∨ cl51.slots.size ≤ ((55 : Int32)).toNatClampNeg) := inb_of S51 ⟨by decide, by decide⟩
    obtain ⟨T52, h52, X52, e52, W52, st52⟩ := stB X47 hx hZ e47 Ar51 (j := (55 : Int32)) hin51 (g := (mkF m 100 #[.val (.int p0), .val (.int p1), .val (.int p2), .val (.int p3), .val (.int (1 : Int32)), .val (.ref oX448), .val (.ref b38), .unset, .unset] [(.int ((p1).toInt8.toInt32)), (.int (55 : Int32)), (.ref b38)])) rfl rfl (hb hby at_100)
    have V52 : Arv Z h52 b38 k38 .byte (56 : Int32) [(.int (((p2).toInt8.toInt32)).toInt8.toInt32), (.int (0 : Int32)), (.int (0 : Int32)), (.int (0 : Int32)), (.int (0 : Int32)), (.int (0 : Int32)), (.int (0 : Int32)), (.int (0 : Int32)), (.int (0 : Int32)), (.int (0 : Int32)), (.int (0 : Int32)), (.int (0 : Int32)), (.int (0 : Int32)), (.int (0 : Int32)), (.int (0 : Int32)), (.int (0 : Int32)), (.int (0 : Int32)), (.int (0 : Int32)), (.int (0 : Int32)), (.int (0 : Int32)), (.int (0 : Int32)), (.int (0 : Int32)), (.int (0 : Int32)), (.int (0 : Int32)), (.int (0 : Int32)), (.int (0 : Int32)), (.int (0 : Int32)), (.int (0 : Int32)), (.int (((p3).toInt8.toInt32)).toInt8.toInt32), (.int (0 : Int32)), (.int (0 : Int32)), (.int (0 : Int32)), (.int (0 : Int32)), (.int (0 : Int32)), (.int (0 : Int32)), (.int (0 : Int32)), (.int (0 : Int32)), (.int (0 : Int32)), (.int (0 : Int32)), (.int (0 : Int32)), (.int (0 : Int32)), (.int (0 : Int32)), (.int (0 : Int32)), (.int (0 : Int32)), (.int (0 : Int32)), (.int (0 : Int32)), (.int (0 : Int32)), (.int (0 : Int32)), (.int (0 : Int32)), (.int (0 : Int32)), (.int (0 : Int32)), (.int (0 : Int32)), (.int (0 : Int32)), (.int (0 : Int32)), (.int (0 : Int32)), (.int (((p1).toInt8.toInt32)).toInt8.toInt32)] (.int (0 : Int32)) := Arv.set Ar51 qk51 S51 Ng51 Hh51 Gg51 (fits_nar_byte _) W52 55 rfl (Nat.le_of_ble_eq_true rfl)
    have N52 := Fr.snoc X52 N47 g_b38
    have Kp52 : Keep h0 h52 [] := Keep.wr Kp47 W52 (Or.inr sz_b38)
    have K52 : ∀ t, own_S p e below T52 (mkF m 101 #[.val (.int p0), .val (.int p1), .val (.int p2), .val (.int p3), .val (.int (1 : Int32)), .val (.ref oX448), .val (.ref b38), .unset, .unset] []) t → Steps p.tables e below SE t := fun t k => K50 _ (st52 _ k)
    obtain ⟨top, htop, K54⟩ : ∃ top : Int32, top = (if (p1 &&& (128 : Int32)) = 0 then (0 : Int32) else (1 : Int32)) ∧ ∀ t, own_S p e below T52 (mkF m 114 #[.val (.int p0), .val (.int p1), .val (.int p2), .val (.int p3), .val (.int (1 : Int32)), .val (.ref oX448), .val (.ref b38), .unset, .unset] [(.int top)]) t → Steps p.tables e below SE t := by
      have K56 : ∀ t, own_S p e below T52 (mkF m 106 #[.val (.int p0), .val (.int p1), .val (.int p2), .val (.int p3), .val (.int (1 : Int32)), .val (.ref oX448), .val (.ref b38), .unset, .unset] [(.int (p1 &&& (128 : Int32)))]) t → Steps p.tables e below SE t := by
        intro t k
        refine K52 _ ?_
        refine XS.iloadN X52.here hx rfl (hb hby at_101) rfl ?_
        show own_S p e below T52 (mkF m 102 #[.val (.int p0), .val (.int p1), .val (.int p2), .val (.int p3), .val (.int (1 : Int32)), .val (.ref oX448), .val (.ref b38), .unset, .unset] [(.int p1)]) _
        refine XS.sipush X52.here hx rfl (hb hby at_102) ?_
        show own_S p e below T52 (mkF m 105 #[.val (.int p0), .val (.int p1), .val (.int p2), .val (.int p3), .val (.int (1 : Int32)), .val (.ref oX448), .val (.ref b38), .unset, .unset] [(.int (128 : Int32)), (.int p1)]) _
        refine XS.iand X52.here hx rfl (hb hby at_105) rfl ?_
        exact k
      by_cases c106_55 : (p1 &&& (128 : Int32)) = 0
      · skip
        have K57 : ∀ t, own_S p e below T52 (mkF m 114 #[.val (.int p0), .val (.int p1), .val (.int p2), .val (.int p3), .val (.int (1 : Int32)), .val (.ref oX448), .val (.ref b38), .unset, .unset] [(.int (0 : Int32))]) t → Steps p.tables e below SE t := by
          intro t k
          refine K56 _ ?_
          refine XS.ifYes X52.here hx rfl (pc0 := 106) (pc' := 113) rfl (hb hby at_106) rfl (XT.i0_eq_t c106_55) (by decide) (by decide) ?_
          show own_S p e below T52 (mkF m 113 #[.val (.int p0), .val (.int p1), .val (.int p2), .val (.int p3), .val (.int (1 : Int32)), .val (.ref oX448), .val (.ref b38), .unset, .unset] []) _
          refine XS.iconst X52.here hx rfl (hb hby at_113) ?_
          exact k
        exact ⟨(0 : Int32), (by simp only [if_pos c106_55]), K57⟩
      · skip
        have K58 : ∀ t, own_S p e below T52 (mkF m 114 #[.val (.int p0), .val (.int p1), .val (.int p2), .val (.int p3), .val (.int (1 : Int32)), .val (.ref oX448), .val (.ref b38), .unset, .unset] [(.int (1 : Int32))]) t → Steps p.tables e below SE t := by
          intro t k
          refine K56 _ ?_
          refine XS.ifNo X52.here hx rfl (hb hby at_106) rfl (XT.i0_eq_f c106_55) ?_
          show own_S p e below T52 (mkF m 109 #[.val (.int p0), .val (.int p1), .val (.int p2), .val (.int p3), .val (.int (1 : Int32)), .val (.ref oX448), .val (.ref b38), .unset, .unset] []) _
          refine XS.iconst X52.here hx rfl (hb hby at_109) ?_
          show own_S p e below T52 (mkF m 110 #[.val (.int p0), .val (.int p1), .val (.int p2), .val (.int p3), .val (.int (1 : Int32)), .val (.ref oX448), .val (.ref b38), .unset, .unset] [(.int (1 : Int32))]) _
          refine XS.goto X52.here hx rfl (pc0 := 110) (pc' := 114) rfl (hb hby at_110) (by decide) (by decide) ?_
          exact k
        exact ⟨(1 : Int32), (by simp only [if_neg c106_55]), K58⟩
    have hfin : (if ((((((p1).toInt8.toInt32)).toInt8.toInt32) &&& (255 : Int32)) &&& (-256 : Int32)) = 0 then (0 : Int32) else (1 : Int32)) = (0 : Int32) := by rw [own_none, if_pos rfl]
    have K59 : ∀ t, own_S p e below T52 (mkF m 137 #[.val (.int p0), .val (.int p1), .val (.int p2), .val (.int p3), .val (.int (1 : Int32)), .val (.ref oX448), .val (.ref b38), .val (.int top), .val (.int (0 : Int32))] [(.ref b38), (.ref oX448)]) t → Steps p.tables e below SE t := by
      intro t k
      refine K54 _ ?_
      refine XS.istore X52.here hx rfl (hb hby at_114) rfl (l' := #[.val (.int p0), .val (.int p1), .val (.int p2), .val (.int p3), .val (.int (1 : Int32)), .val (.ref oX448), .val (.ref b38), .val (.int top), .unset]) rfl ?_
      show own_S p e below T52 (mkF m 116 #[.val (.int p0), .val (.int p1), .val (.int p2), .val (.int p3), .val (.int (1 : Int32)), .val (.ref oX448), .val (.ref b38), .val (.int top), .unset] []) _
      refine XS.iload X52.here hx rfl (hb hby at_116) rfl ?_
      show own_S p e below T52 (mkF m 118 #[.val (.int p0), .val (.int p1), .val (.int p2), .val (.int p3), .val (.int (1 : Int32)), .val (.ref oX448), .val (.ref b38), .val (.int top), .unset] [(.int (1 : Int32))]) _
      refine XS.ifYes X52.here hx rfl (pc0 := 118) (pc' := 130) rfl (hb hby at_118) rfl (XT.i0_ne_t (by decide : ¬ ((1 : Int32) = 0))) (by decide) (by decide) ?_
      show own_S p e below T52 (mkF m 130 #[.val (.int p0), .val (.int p1), .val (.int p2), .val (.int p3), .val (.int (1 : Int32)), .val (.ref oX448), .val (.ref b38), .val (.int top), .unset] []) _
      refine XS.iconst X52.here hx rfl (hb hby at_130) ?_
      show own_S p e below T52 (mkF m 131 #[.val (.int p0), .val (.int p1), .val (.int p2), .val (.int p3), .val (.int (1 : Int32)), .val (.ref oX448), .val (.ref b38), .val (.int top), .unset] [(.int (0 : Int32))]) _
      refine XS.istore X52.here hx rfl (hb hby at_131) rfl (l' := #[.val (.int p0), .val (.int p1), .val (.int p2), .val (.int p3), .val (.int (1 : Int32)), .val (.ref oX448), .val (.ref b38), .val (.int top), .val (.int (0 : Int32))]) rfl ?_
      show own_S p e below T52 (mkF m 133 #[.val (.int p0), .val (.int p1), .val (.int p2), .val (.int p3), .val (.int (1 : Int32)), .val (.ref oX448), .val (.ref b38), .val (.int top), .val (.int (0 : Int32))] []) _
      refine XS.aload X52.here hx rfl (hb hby at_133) rfl rfl ?_
      show own_S p e below T52 (mkF m 135 #[.val (.int p0), .val (.int p1), .val (.int p2), .val (.int p3), .val (.int (1 : Int32)), .val (.ref oX448), .val (.ref b38), .val (.int top), .val (.int (0 : Int32))] [(.ref oX448)]) _
      refine XS.aload X52.here hx rfl (hb hby at_135) rfl rfl ?_
      exact k
    obtain ⟨cq60, kq60, q60a, q60b, q60c⟩ := isOf hZ e52 (EX_oX448.ext (own_ext Kp52))
    obtain ⟨_, _, ⟨T60, L60, k60, n60⟩, -, X60, ⟨Lc60, hQ60, l60, y60, z60⟩, st60⟩ := X52.virtualBack hx (y := (⟨"com/example/whorl/whorl/Curve", "setsIgnoredBit", "([B)Z"⟩ : MethodName)) (z := (⟨"com/example/whorl/whorl/Curve", "setsIgnoredBit", "([B)Z"⟩ : MethodName)) hown (mvT hZ (hw _ (List.mem_of_getElem? (i := 4) rfl))) (mvT hZ (hw _ (List.mem_of_getElem? (i := 5) rfl))) (notFace_of_selects (args := #[]) (mvT hZ (hw _ (List.mem_of_getElem? (i := 7) rfl)))) (mvT hZ (hw _ (List.mem_of_getElem? (i := 7) rfl))) (mvT hZ (hw _ (List.mem_of_getElem? (i := 6) rfl))) (by decide) (backOf (W := 0) (rm1_1 l Z a0 hw [] oX448 b38 oX448_okp k38 ((((p2).toInt8.toInt32)).toInt8.toInt32) ((((p3).toInt8.toInt32)).toInt8.toInt32) ((((p1).toInt8.toInt32)).toInt8.toInt32)  h52 n0 (Nat.le_trans Z0 Kp52.1) (FL_oX448_okp.ext (own_ext Kp52)) (FL_oX448_okp_edwards.ext (own_ext Kp52)) (FL_oX448_okp_coordinateBits.ext (own_ext Kp52)) V52) hZ (hw _ (List.mem_of_getElem? (i := 8) rfl)) (hw _ (List.mem_of_getElem? (i := 1) rfl)) (by decide) (by decide)) q60a q60c (g := (mkF m 137 #[.val (.int p0), .val (.int p1), .val (.int p2), .val (.int p3), .val (.int (1 : Int32)), .val (.ref oX448), .val (.ref b38), .val (.int top), .val (.int (0 : Int32))] [(.ref b38), (.ref oX448)])) rfl (by rw [hml]; rfl) (Steps.refl _) (argsL := [(.ref b38)]) (rest := []) (lenOf pd_0_0 rfl) rfl (by show 2 * 0 + _ ≤ _; exact Nat.le_of_eq rfl) (hb hby at_137) (fun _ _ => ⟨rfl, e52, (by decide : 1 + 0 ≤ _), (by decide : 56 + 0 ≤ _)⟩)
    dsimp only [Pt.U, Pt.locs, Pt.cells, Pt.slots] at X60 l60 y60 z60 st60 hQ60
    subst l60 y60 z60
    obtain ⟨rfl, Nq60, e60⟩ := hQ60
    have N60 := Fr.app N52 Nq60
    have K60 : ∀ t, own_S p e below T60 (mkF m 140 #[.val (.int p0), .val (.int p1), .val (.int p2), .val (.int p3), .val (.int (1 : Int32)), .val (.ref oX448), .val (.ref b38), .val (.int top), .val (.int (0 : Int32))] [(.int (if ((((((p1).toInt8.toInt32)).toInt8.toInt32) &&& (255 : Int32)) &&& (-256 : Int32)) = 0 then (0 : Int32) else (1 : Int32)))]) t → Steps p.tables e below SE t := fun t k => K59 _ (st60.trans k)
    have K61 : ∀ t, own_S p e below T60 (mkF m 150 #[.val (.int p0), .val (.int p1), .val (.int p2), .val (.int p3), .val (.int (1 : Int32)), .val (.ref oX448), .val (.ref b38), .val (.int top), .val (.int (0 : Int32))] [(.int (1 : Int32))]) t → Steps p.tables e below SE t := by
      intro t k
      refine K60 _ ?_
      refine XS.iload X60.here hx rfl (hb hby at_140) rfl ?_
      show own_S p e below T60 (mkF m 142 #[.val (.int p0), .val (.int p1), .val (.int p2), .val (.int p3), .val (.int (1 : Int32)), .val (.ref oX448), .val (.ref b38), .val (.int top), .val (.int (0 : Int32))] [(.int (0 : Int32)), (.int (if ((((((p1).toInt8.toInt32)).toInt8.toInt32) &&& (255 : Int32)) &&& (-256 : Int32)) = 0 then (0 : Int32) else (1 : Int32)))]) _
      refine XS.icmpNo X60.here hx rfl (hb hby at_142) rfl (XT.ii_ne_f hfin) ?_
      show own_S p e below T60 (mkF m 145 #[.val (.int p0), .val (.int p1), .val (.int p2), .val (.int p3), .val (.int (1 : Int32)), .val (.ref oX448), .val (.ref b38), .val (.int top), .val (.int (0 : Int32))] []) _
      refine XS.iconst X60.here hx rfl (hb hby at_145) ?_
      show own_S p e below T60 (mkF m 146 #[.val (.int p0), .val (.int p1), .val (.int p2), .val (.int p3), .val (.int (1 : Int32)), .val (.ref oX448), .val (.ref b38), .val (.int top), .val (.int (0 : Int32))] [(.int (1 : Int32))]) _
      refine XS.goto X60.here hx rfl (pc0 := 146) (pc' := 150) rfl (hb hby at_146) (by decide) (by decide) ?_
      exact k
    obtain ⟨fs, hr, hrun, hended, hW, hsame⟩ := X60.leave (v := some (.int (1 : Int32))) (fun h => by rw [Bd.returns] at h; cases h)
    refine ⟨_, _, K61 _ ?_, hrun, hended, _, _, rfl, ?_, ⟨_, rfl⟩, hW, hsame.mono (by decide) (by decide)⟩
    · exact retN X60 hx (t := .boolean) Bd.returns (by simp) (hb hby at_150) hr
    · show Q0 Z p0 p1 p2 p3 oX25519 oX25519_okp oED448 oED448_okp oED448_okp_edwards oED25519 oED25519_okp oED25519_okp_edwards oX448 oX448_okp h0 n0 _ T60.heap _
      rw [e60]
      exact ⟨rfl, N60⟩
  · skip
    rw [q] at K1
    have K62 : ∀ t, own_S p e below s₁ (mkF m 50 #[.val (.int p0), .val (.int p1), .val (.int p2), .val (.int p3), .val (.int (2 : Int32)), .unset, .unset, .unset, .unset] []) t → Steps p.tables e below SE t := by
      intro t k
      refine K1 _ ?_
      refine XS.iload X0.here hx rfl (hb hby at_5) rfl ?_
      show own_S p e below s₁ (mkF m 7 #[.val (.int p0), .val (.int p1), .val (.int p2), .val (.int p3), .val (.int (2 : Int32)), .unset, .unset, .unset, .unset] [(.int (2 : Int32))]) _
      refine XS.ifYes X0.here hx rfl (pc0 := 7) (pc' := 24) rfl (hb hby at_7) rfl (XT.i0_ne_t (by decide : ¬ ((2 : Int32) = 0))) (by decide) (by decide) ?_
      show own_S p e below s₁ (mkF m 24 #[.val (.int p0), .val (.int p1), .val (.int p2), .val (.int p3), .val (.int (2 : Int32)), .unset, .unset, .unset, .unset] []) _
      refine XS.iload X0.here hx rfl (hb hby at_24) rfl ?_
      show own_S p e below s₁ (mkF m 26 #[.val (.int p0), .val (.int p1), .val (.int p2), .val (.int p3), .val (.int (2 : Int32)), .unset, .unset, .unset, .unset] [(.int (2 : Int32))]) _
      refine XS.iconst X0.here hx rfl (hb hby at_26) ?_
      show own_S p e below s₁ (mkF m 27 #[.val (.int p0), .val (.int p1), .val (.int p2), .val (.int p3), .val (.int (2 : Int32)), .unset, .unset, .unset, .unset] [(.int (1 : Int32)), (.int (2 : Int32))]) _
      refine XS.icmpYes X0.here hx rfl (pc0 := 27) (pc' := 44) rfl (hb hby at_27) rfl (XT.ii_ne_t (by decide : ¬ ((2 : Int32) = (1 : Int32)))) (by decide) (by decide) ?_
      show own_S p e below s₁ (mkF m 44 #[.val (.int p0), .val (.int p1), .val (.int p2), .val (.int p3), .val (.int (2 : Int32)), .unset, .unset, .unset, .unset] []) _
      refine XS.iload X0.here hx rfl (hb hby at_44) rfl ?_
      show own_S p e below s₁ (mkF m 46 #[.val (.int p0), .val (.int p1), .val (.int p2), .val (.int p3), .val (.int (2 : Int32)), .unset, .unset, .unset, .unset] [(.int (2 : Int32))]) _
      refine XS.iconst X0.here hx rfl (hb hby at_46) ?_
      show own_S p e below s₁ (mkF m 47 #[.val (.int p0), .val (.int p1), .val (.int p2), .val (.int p3), .val (.int (2 : Int32)), .unset, .unset, .unset, .unset] [(.int (2 : Int32)), (.int (2 : Int32))]) _
      refine XS.icmpNo X0.here hx rfl (hb hby at_47) rfl (XT.ii_ne_f (by decide : (2 : Int32) = (2 : Int32))) ?_
      exact k
    obtain ⟨T63, X63, e63, st63⟩ := getS2 X0 hx hZ hown (host := "") (Or.inl (hw _ (List.mem_of_getElem? (i := 17) rfl))) Via.refl e0 ST_ED25519 (g := (mkF m 50 #[.val (.int p0), .val (.int p1), .val (.int p2), .val (.int p3), .val (.int (2 : Int32)), .unset, .unset, .unset, .unset] [])) rfl (hb hby at_50)
    have K63 : ∀ t, own_S p e below T63 (mkF m 53 #[.val (.int p0), .val (.int p1), .val (.int p2), .val (.int p3), .val (.int (2 : Int32)), .unset, .unset, .unset, .unset] [(.ref oED25519)]) t → Steps p.tables e below SE t := fun t k => K62 _ (st63 _ k)
    have K64 : ∀ t, own_S p e below T63 (mkF m 57 #[.val (.int p0), .val (.int p1), .val (.int p2), .val (.int p3), .val (.int (2 : Int32)), .val (.ref oED25519), .unset, .unset, .unset] [(.int (32 : Int32))]) t → Steps p.tables e below SE t := by
      intro t k
      refine K63 _ ?_
      refine XS.astore X63.here hx rfl (hb hby at_53) rfl rfl (l' := #[.val (.int p0), .val (.int p1), .val (.int p2), .val (.int p3), .val (.int (2 : Int32)), .val (.ref oED25519), .unset, .unset, .unset]) rfl ?_
      show own_S p e below T63 (mkF m 55 #[.val (.int p0), .val (.int p1), .val (.int p2), .val (.int p3), .val (.int (2 : Int32)), .val (.ref oED25519), .unset, .unset, .unset] []) _
      refine XS.bipush X63.here hx rfl (hb hby at_55) ?_
      exact k
    obtain ⟨T65, h65, k65, X65, e65, E65, A65, st65⟩ := newP X63 hx hZ (hw _ (List.mem_of_getElem? (i := 3) rfl)) e63 (g := (mkF m 57 #[.val (.int p0), .val (.int p1), .val (.int p2), .val (.int p3), .val (.int (2 : Int32)), .val (.ref oED25519), .unset, .unset, .unset] [(.int (32 : Int32))])) rfl (hb hby at_57) rfl (by decide) (cap := 32) (by decide) (by decide) (by decide) (by decide)
    obtain ⟨b65, g65⟩ : ∃ z, z = h0.size := ⟨_, rfl⟩
    rw [← g65] at A65 st65
    have g_b65 : n0 ≤ b65 := Nat.le_trans Z0 (Nat.le_of_eq g65.symm)
    have sz_b65 : h0.size ≤ b65 := Nat.le_trans (Nat.le_refl _) (Nat.le_of_eq g65.symm)
    have own_ne_oX25519_b65 : oX25519 ≠ b65 := Nat.ne_of_lt (Nat.lt_of_lt_of_le EX_oX25519.lt (Nat.le_of_eq g65.symm))
    have own_ne_oED448_b65 : oED448 ≠ b65 := Nat.ne_of_lt (Nat.lt_of_lt_of_le EX_oED448.lt (Nat.le_of_eq g65.symm))
    have own_ne_oED448_okp_b65 : oED448_okp ≠ b65 := Nat.ne_of_lt (Nat.lt_of_lt_of_le EX_oED448_okp.lt (Nat.le_of_eq g65.symm))
    have own_ne_oED448_okp_edwards_b65 : oED448_okp_edwards ≠ b65 := Nat.ne_of_lt (Nat.lt_of_lt_of_le EX_oED448_okp_edwards.lt (Nat.le_of_eq g65.symm))
    have own_ne_oED25519_okp_b65 : oED25519_okp ≠ b65 := Nat.ne_of_lt (Nat.lt_of_lt_of_le EX_oED25519_okp.lt (Nat.le_of_eq g65.symm))
    have own_ne_oED25519_b65 : oED25519 ≠ b65 := Nat.ne_of_lt (Nat.lt_of_lt_of_le EX_oED25519.lt (Nat.le_of_eq g65.symm))
    have own_ne_oED25519_okp_edwards_b65 : oED25519_okp_edwards ≠ b65 := Nat.ne_of_lt (Nat.lt_of_lt_of_le EX_oED25519_okp_edwards.lt (Nat.le_of_eq g65.symm))
    have own_ne_oX448_b65 : oX448 ≠ b65 := Nat.ne_of_lt (Nat.lt_of_lt_of_le EX_oX448.lt (Nat.le_of_eq g65.symm))
    have own_ne_oX25519_okp_b65 : oX25519_okp ≠ b65 := Nat.ne_of_lt (Nat.lt_of_lt_of_le EX_oX25519_okp.lt (Nat.le_of_eq g65.symm))
    have own_ne_oX448_okp_b65 : oX448_okp ≠ b65 := Nat.ne_of_lt (Nat.lt_of_lt_of_le EX_oX448_okp.lt (Nat.le_of_eq g65.symm))
    have Kp65 : Keep h0 h65 [] := Keep.ext (Keep.refl h0 []) E65
    have V65 : Arv Z h65 b65 k65 .byte (32 : Int32) [(.int (0 : Int32)), (.int (0 : Int32)), (.int (0 : Int32)), (.int (0 : Int32)), (.int (0 : Int32)), (.int (0 : Int32)), (.int (0 : Int32)), (.int (0 : Int32)), (.int (0 : Int32)), (.int (0 : Int32)), (.int (0 : Int32)), (.int (0 : Int32)), (.int (0 : Int32)), (.int (0 : Int32)), (.int (0 : Int32)), (.int (0 : Int32)), (.int (0 : Int32)), (.int (0 : Int32)), (.int (0 : Int32)), (.int (0 : Int32)), (.int (0 : Int32)), (.int (0 : Int32)), (.int (0 : Int32)), (.int (0 : Int32)), (.int (0 : Int32)), (.int (0 : Int32)), (.int (0 : Int32)), (.int (0 : Int32)), (.int (0 : Int32)), (.int (0 : Int32)), (.int (0 : Int32)), (.int (0 : Int32))] (.int (0 : Int32)) := (Arv.new A65 (by decide)).pad (pad_rep [] (.int (0 : Int32)) 32)
    have K65 : ∀ t, own_S p e below T65 (mkF m 59 #[.val (.int p0), .val (.int p1), .val (.int p2), .val (.int p3), .val (.int (2 : Int32)), .val (.ref oED25519), .unset, .unset, .unset] [(.ref b65)]) t → Steps p.tables e below SE t := fun t k => K64 _ (st65 _ k)
    have K66 : ∀ t, own_S p e below T65 (mkF m 80 #[.val (.int p0), .val (.int p1), .val (.int p2), .val (.int p3), .val (.int (2 : Int32)), .val (.ref oED25519), .val (.ref b65), .unset, .unset] [(.int ((p2).toInt8.toInt32)), (.int (0 : Int32)), (.ref b65)]) t → Steps p.tables e below SE t := by
      intro t k
      refine K65 _ ?_
      refine XS.astore X65.here hx rfl (hb hby at_59) rfl rfl (l' := #[.val (.int p0), .val (.int p1), .val (.int p2), .val (.int p3), .val (.int (2 : Int32)), .val (.ref oED25519), .val (.ref b65), .unset, .unset]) rfl ?_
      show own_S p e below T65 (mkF m 61 #[.val (.int p0), .val (.int p1), .val (.int p2), .val (.int p3), .val (.int (2 : Int32)), .val (.ref oED25519), .val (.ref b65), .unset, .unset] []) _
      refine XS.goto X65.here hx rfl (pc0 := 61) (pc' := 75) rfl (hb hby at_61) (by decide) (by decide) ?_
      show own_S p e below T65 (mkF m 75 #[.val (.int p0), .val (.int p1), .val (.int p2), .val (.int p3), .val (.int (2 : Int32)), .val (.ref oED25519), .val (.ref b65), .unset, .unset] []) _
      refine XS.aload X65.here hx rfl (hb hby at_75) rfl rfl ?_
      show own_S p e below T65 (mkF m 77 #[.val (.int p0), .val (.int p1), .val (.int p2), .val (.int p3), .val (.int (2 : Int32)), .val (.ref oED25519), .val (.ref b65), .unset, .unset] [(.ref b65)]) _
      refine XS.iconst X65.here hx rfl (hb hby at_77) ?_
      show own_S p e below T65 (mkF m 78 #[.val (.int p0), .val (.int p1), .val (.int p2), .val (.int p3), .val (.int (2 : Int32)), .val (.ref oED25519), .val (.ref b65), .unset, .unset] [(.int (0 : Int32)), (.ref b65)]) _
      refine XS.iloadN X65.here hx rfl (hb hby at_78) rfl ?_
      show own_S p e below T65 (mkF m 79 #[.val (.int p0), .val (.int p1), .val (.int p2), .val (.int p3), .val (.int (2 : Int32)), .val (.ref oED25519), .val (.ref b65), .unset, .unset] [(.int p2), (.int (0 : Int32)), (.ref b65)]) _
      refine XS.i2b X65.here hx rfl (hb hby at_79) rfl ?_
      exact k
    obtain ⟨cl67, Ar67, qk67, S67, Ng67, Hh67, Gg67⟩ := id V65
    have hin67 : ¬ ((0 : Int32) < 0 ∨ cl67.slots.size ≤ ((0 : Int32)).toNatClampNeg) := inb_of S67 ⟨by decide, by decide⟩
    obtain ⟨T68, h68, X68, e68, W68, st68⟩ := stB X65 hx hZ e65 Ar67 (j := (0 : Int32)) hin67 (g := (mkF m 80 #[.val (.int p0), .val (.int p1), .val (.int p2), .val (.int p3), .val (.int (2 : Int32)), .val (.ref oED25519), .val (.ref b65), .unset, .unset] [(.int ((p2).toInt8.toInt32)), (.int (0 : Int32)), (.ref b65)])) rfl rfl (hb hby at_80)
    have V68 : Arv Z h68 b65 k65 .byte (32 : Int32) [(.int (((p2).toInt8.toInt32)).toInt8.toInt32), (.int (0 : Int32)), (.int (0 : Int32)), (.int (0 : Int32)), (.int (0 : Int32)), (.int (0 : Int32)), (.int (0 : Int32)), (.int (0 : Int32)), (.int (0 : Int32)), (.int (0 : Int32)), (.int (0 : Int32)), (.int (0 : Int32)), (.int (0 : Int32)), (.int (0 : Int32)), (.int (0 : Int32)), (.int (0 : Int32)), (.int (0 : Int32)), (.int (0 : Int32)), (.int (0 : Int32)), (.int (0 : Int32)), (.int (0 : Int32)), (.int (0 : Int32)), (.int (0 : Int32)), (.int (0 : Int32)), (.int (0 : Int32)), (.int (0 : Int32)), (.int (0 : Int32)), (.int (0 : Int32)), (.int (0 : Int32)), (.int (0 : Int32)), (.int (0 : Int32)), (.int (0 : Int32))] (.int (0 : Int32)) := Arv.set Ar67 qk67 S67 Ng67 Hh67 Gg67 (fits_nar_byte _) W68 0 rfl (Nat.le_of_ble_eq_true rfl)
    have N68 := Fr.snoc X68 N0 g_b65
    have Kp68 : Keep h0 h68 [] := Keep.wr Kp65 W68 (Or.inr sz_b65)
    have K68 : ∀ t, own_S p e below T68 (mkF m 81 #[.val (.int p0), .val (.int p1), .val (.int p2), .val (.int p3), .val (.int (2 : Int32)), .val (.ref oED25519), .val (.ref b65), .unset, .unset] []) t → Steps p.tables e below SE t := fun t k => K66 _ (st68 _ k)
    have K69 : ∀ t, own_S p e below T68 (mkF m 85 #[.val (.int p0), .val (.int p1), .val (.int p2), .val (.int p3), .val (.int (2 : Int32)), .val (.ref oED25519), .val (.ref b65), .unset, .unset] [(.ref b65), (.ref b65)]) t → Steps p.tables e below SE t := by
      intro t k
      refine K68 _ ?_
      refine XS.aload X68.here hx rfl (hb hby at_81) rfl rfl ?_
      show own_S p e below T68 (mkF m 83 #[.val (.int p0), .val (.int p1), .val (.int p2), .val (.int p3), .val (.int (2 : Int32)), .val (.ref oED25519), .val (.ref b65), .unset, .unset] [(.ref b65)]) _
      refine XS.aload X68.here hx rfl (hb hby at_83) rfl rfl ?_
      exact k
    obtain ⟨cl70, Ar70, -, S70, Ng70, -, -⟩ := id V68
    have K71 : ∀ t, own_S p e below T68 (mkF m 88 #[.val (.int p0), .val (.int p1), .val (.int p2), .val (.int p3), .val (.int (2 : Int32)), .val (.ref oED25519), .val (.ref b65), .unset, .unset] [(.int ((32 : Int32) / (2 : Int32))), (.ref b65)]) t → Steps p.tables e below SE t := by
      intro t k
      refine K69 _ ?_
      refine X68.arraylength hx (by rw [e68]; exact Ar70.1) (State.isArrayOf_alike hZ.alike Ar70.2.1) (g := (mkF m 85 #[.val (.int p0), .val (.int p1), .val (.int p2), .val (.int p3), .val (.int (2 : Int32)), .val (.ref oED25519), .val (.ref b65), .unset, .unset] [(.ref b65), (.ref b65)])) rfl rfl (hb hby at_85) _ ?_
      rw [len_of S70 Ng70]
      show own_S p e below T68 (mkF m 86 #[.val (.int p0), .val (.int p1), .val (.int p2), .val (.int p3), .val (.int (2 : Int32)), .val (.ref oED25519), .val (.ref b65), .unset, .unset] [(.int (32 : Int32)), (.ref b65)]) _
      refine XS.iconst X68.here hx rfl (hb hby at_86) ?_
      show own_S p e below T68 (mkF m 87 #[.val (.int p0), .val (.int p1), .val (.int p2), .val (.int p3), .val (.int (2 : Int32)), .val (.ref oED25519), .val (.ref b65), .unset, .unset] [(.int (2 : Int32)), (.int (32 : Int32)), (.ref b65)]) _
      refine XS.idiv X68.here hx rfl (hb hby at_87) rfl (by decide) ?_
      exact k
    rw [(by decide : ((32 : Int32) / (2 : Int32)) = (16 : Int32))] at K71
    have K72 : ∀ t, own_S p e below T68 (mkF m 90 #[.val (.int p0), .val (.int p1), .val (.int p2), .val (.int p3), .val (.int (2 : Int32)), .val (.ref oED25519), .val (.ref b65), .unset, .unset] [(.int ((p3).toInt8.toInt32)), (.int (16 : Int32)), (.ref b65)]) t → Steps p.tables e below SE t := by
      intro t k
      refine K71 _ ?_
      refine XS.iloadN X68.here hx rfl (hb hby at_88) rfl ?_
      show own_S p e below T68 (mkF m 89 #[.val (.int p0), .val (.int p1), .val (.int p2), .val (.int p3), .val (.int (2 : Int32)), .val (.ref oED25519), .val (.ref b65), .unset, .unset] [(.int p3), (.int (16 : Int32)), (.ref b65)]) _
      refine XS.i2b X68.here hx rfl (hb hby at_89) rfl ?_
      exact k
    obtain ⟨cl73, Ar73, qk73, S73, Ng73, Hh73, Gg73⟩ := id V68
    have hin73 : ¬ ((16 : Int32) < 0 ∨ cl73.slots.size ≤ ((16 : Int32)).toNatClampNeg) := inb_of S73 ⟨by decide, by decide⟩
    obtain ⟨T74, h74, X74, e74, W74, st74⟩ := stB X68 hx hZ e68 Ar73 (j := (16 : Int32)) hin73 (g := (mkF m 90 #[.val (.int p0), .val (.int p1), .val (.int p2), .val (.int p3), .val (.int (2 : Int32)), .val (.ref oED25519), .val (.ref b65), .unset, .unset] [(.int ((p3).toInt8.toInt32)), (.int (16 : Int32)), (.ref b65)])) rfl rfl (hb hby at_90)
    have V74 : Arv Z h74 b65 k65 .byte (32 : Int32) [(.int (((p2).toInt8.toInt32)).toInt8.toInt32), (.int (0 : Int32)), (.int (0 : Int32)), (.int (0 : Int32)), (.int (0 : Int32)), (.int (0 : Int32)), (.int (0 : Int32)), (.int (0 : Int32)), (.int (0 : Int32)), (.int (0 : Int32)), (.int (0 : Int32)), (.int (0 : Int32)), (.int (0 : Int32)), (.int (0 : Int32)), (.int (0 : Int32)), (.int (0 : Int32)), (.int (((p3).toInt8.toInt32)).toInt8.toInt32), (.int (0 : Int32)), (.int (0 : Int32)), (.int (0 : Int32)), (.int (0 : Int32)), (.int (0 : Int32)), (.int (0 : Int32)), (.int (0 : Int32)), (.int (0 : Int32)), (.int (0 : Int32)), (.int (0 : Int32)), (.int (0 : Int32)), (.int (0 : Int32)), (.int (0 : Int32)), (.int (0 : Int32)), (.int (0 : Int32))] (.int (0 : Int32)) := Arv.set Ar73 qk73 S73 Ng73 Hh73 Gg73 (fits_nar_byte _) W74 16 rfl (Nat.le_of_ble_eq_true rfl)
    have N74 := Fr.snoc X74 N68 g_b65
    have Kp74 : Keep h0 h74 [] := Keep.wr Kp68 W74 (Or.inr sz_b65)
    have K74 : ∀ t, own_S p e below T74 (mkF m 91 #[.val (.int p0), .val (.int p1), .val (.int p2), .val (.int p3), .val (.int (2 : Int32)), .val (.ref oED25519), .val (.ref b65), .unset, .unset] []) t → Steps p.tables e below SE t := fun t k => K72 _ (st74 _ k)
    have K75 : ∀ t, own_S p e below T74 (mkF m 95 #[.val (.int p0), .val (.int p1), .val (.int p2), .val (.int p3), .val (.int (2 : Int32)), .val (.ref oED25519), .val (.ref b65), .unset, .unset] [(.ref b65), (.ref b65)]) t → Steps p.tables e below SE t := by
      intro t k
      refine K74 _ ?_
      refine XS.aload X74.here hx rfl (hb hby at_91) rfl rfl ?_
      show own_S p e below T74 (mkF m 93 #[.val (.int p0), .val (.int p1), .val (.int p2), .val (.int p3), .val (.int (2 : Int32)), .val (.ref oED25519), .val (.ref b65), .unset, .unset] [(.ref b65)]) _
      refine XS.aload X74.here hx rfl (hb hby at_93) rfl rfl ?_
      exact k
    obtain ⟨cl76, Ar76, -, S76, Ng76, -, -⟩ := id V74
    have K77 : ∀ t, own_S p e below T74 (mkF m 100 #[.val (.int p0), .val (.int p1), .val (.int p2), .val (.int p3), .val (.int (2 : Int32)), .val (.ref oED25519), .val (.ref b65), .unset, .unset] [(.int ((p1).toInt8.toInt32)), (.int (31 : Int32)), (.ref b65)]) t → Steps p.tables e below SE t := by
      intro t k
      refine K75 _ ?_
      refine X74.arraylength hx (by rw [e74]; exact Ar76.1) (State.isArrayOf_alike hZ.alike Ar76.2.1) (g := (mkF m 95 #[.val (.int p0), .val (.int p1), .val (.int p2), .val (.int p3), .val (.int (2 : Int32)), .val (.ref oED25519), .val (.ref b65), .unset, .unset] [(.ref b65), (.ref b65)])) rfl rfl (hb hby at_95) _ ?_
      rw [len_of S76 Ng76]
      show own_S p e below T74 (mkF m 96 #[.val (.int p0), .val (.int p1), .val (.int p2), .val (.int p3), .val (.int (2 : Int32)), .val (.ref oED25519), .val (.ref b65), .unset, .unset] [(.int (32 : Int32)), (.ref b65)]) _
      refine XS.iconst X74.here hx rfl (hb hby at_96) ?_
      show own_S p e below T74 (mkF m 97 #[.val (.int p0), .val (.int p1), .val (.int p2), .val (.int p3), .val (.int (2 : Int32)), .val (.ref oED25519), .val (.ref b65), .unset, .unset] [(.int (1 : Int32)), (.int (32 : Int32)), (.ref b65)]) _
      refine XS.isub X74.here hx rfl (hb hby at_97) rfl ?_
      show own_S p e below T74 (mkF m 98 #[.val (.int p0), .val (.int p1), .val (.int p2), .val (.int p3), .val (.int (2 : Int32)), .val (.ref oED25519), .val (.ref b65), .unset, .unset] [(.int (31 : Int32)), (.ref b65)]) _
      refine XS.iloadN X74.here hx rfl (hb hby at_98) rfl ?_
      show own_S p e below T74 (mkF m 99 #[.val (.int p0), .val (.int p1), .val (.int p2), .val (.int p3), .val (.int (2 : Int32)), .val (.ref oED25519), .val (.ref b65), .unset, .unset] [(.int p1), (.int (31 : Int32)), (.ref b65)]) _
      refine XS.i2b X74.here hx rfl (hb hby at_99) rfl ?_
      exact k
    obtain ⟨cl78, Ar78, qk78, S78, Ng78, Hh78, Gg78⟩ := id V74
    have hin78 : ¬ ((31 : Int32) < 0 ∨ cl78.slots.size ≤ ((31 : Int32)).toNatClampNeg) := inb_of S78 ⟨by decide, by decide⟩
    obtain ⟨T79, h79, X79, e79, W79, st79⟩ := stB X74 hx hZ e74 Ar78 (j := (31 : Int32)) hin78 (g := (mkF m 100 #[.val (.int p0), .val (.int p1), .val (.int p2), .val (.int p3), .val (.int (2 : Int32)), .val (.ref oED25519), .val (.ref b65), .unset, .unset] [(.int ((p1).toInt8.toInt32)), (.int (31 : Int32)), (.ref b65)])) rfl rfl (hb hby at_100)
    have V79 : Arv Z h79 b65 k65 .byte (32 : Int32) [(.int (((p2).toInt8.toInt32)).toInt8.toInt32), (.int (0 : Int32)), (.int (0 : Int32)), (.int (0 : Int32)), (.int (0 : Int32)), (.int (0 : Int32)), (.int (0 : Int32)), (.int (0 : Int32)), (.int (0 : Int32)), (.int (0 : Int32)), (.int (0 : Int32)), (.int (0 : Int32)), (.int (0 : Int32)), (.int (0 : Int32)), (.int (0 : Int32)), (.int (0 : Int32)), (.int (((p3).toInt8.toInt32)).toInt8.toInt32), (.int (0 : Int32)), (.int (0 : Int32)), (.int (0 : Int32)), (.int (0 : Int32)), (.int (0 : Int32)), (.int (0 : Int32)), (.int (0 : Int32)), (.int (0 : Int32)), (.int (0 : Int32)), (.int (0 : Int32)), (.int (0 : Int32)), (.int (0 : Int32)), (.int (0 : Int32)), (.int (0 : Int32)), (.int (((p1).toInt8.toInt32)).toInt8.toInt32)] (.int (0 : Int32)) := Arv.set Ar78 qk78 S78 Ng78 Hh78 Gg78 (fits_nar_byte _) W79 31 rfl (Nat.le_of_ble_eq_true rfl)
    have N79 := Fr.snoc X79 N74 g_b65
    have Kp79 : Keep h0 h79 [] := Keep.wr Kp74 W79 (Or.inr sz_b65)
    have K79 : ∀ t, own_S p e below T79 (mkF m 101 #[.val (.int p0), .val (.int p1), .val (.int p2), .val (.int p3), .val (.int (2 : Int32)), .val (.ref oED25519), .val (.ref b65), .unset, .unset] []) t → Steps p.tables e below SE t := fun t k => K77 _ (st79 _ k)
    obtain ⟨top, htop, K81⟩ : ∃ top : Int32, top = (if (p1 &&& (128 : Int32)) = 0 then (0 : Int32) else (1 : Int32)) ∧ ∀ t, own_S p e below T79 (mkF m 114 #[.val (.int p0), .val (.int p1), .val (.int p2), .val (.int p3), .val (.int (2 : Int32)), .val (.ref oED25519), .val (.ref b65), .unset, .unset] [(.int top)]) t → Steps p.tables e below SE t := by
      have K83 : ∀ t, own_S p e below T79 (mkF m 106 #[.val (.int p0), .val (.int p1), .val (.int p2), .val (.int p3), .val (.int (2 : Int32)), .val (.ref oED25519), .val (.ref b65), .unset, .unset] [(.int (p1 &&& (128 : Int32)))]) t → Steps p.tables e below SE t := by
        intro t k
        refine K79 _ ?_
        refine XS.iloadN X79.here hx rfl (hb hby at_101) rfl ?_
        show own_S p e below T79 (mkF m 102 #[.val (.int p0), .val (.int p1), .val (.int p2), .val (.int p3), .val (.int (2 : Int32)), .val (.ref oED25519), .val (.ref b65), .unset, .unset] [(.int p1)]) _
        refine XS.sipush X79.here hx rfl (hb hby at_102) ?_
        show own_S p e below T79 (mkF m 105 #[.val (.int p0), .val (.int p1), .val (.int p2), .val (.int p3), .val (.int (2 : Int32)), .val (.ref oED25519), .val (.ref b65), .unset, .unset] [(.int (128 : Int32)), (.int p1)]) _
        refine XS.iand X79.here hx rfl (hb hby at_105) rfl ?_
        exact k
      by_cases c106_82 : (p1 &&& (128 : Int32)) = 0
      · skip
        have K84 : ∀ t, own_S p e below T79 (mkF m 114 #[.val (.int p0), .val (.int p1), .val (.int p2), .val (.int p3), .val (.int (2 : Int32)), .val (.ref oED25519), .val (.ref b65), .unset, .unset] [(.int (0 : Int32))]) t → Steps p.tables e below SE t := by
          intro t k
          refine K83 _ ?_
          refine XS.ifYes X79.here hx rfl (pc0 := 106) (pc' := 113) rfl (hb hby at_106) rfl (XT.i0_eq_t c106_82) (by decide) (by decide) ?_
          show own_S p e below T79 (mkF m 113 #[.val (.int p0), .val (.int p1), .val (.int p2), .val (.int p3), .val (.int (2 : Int32)), .val (.ref oED25519), .val (.ref b65), .unset, .unset] []) _
          refine XS.iconst X79.here hx rfl (hb hby at_113) ?_
          exact k
        exact ⟨(0 : Int32), (by simp only [if_pos c106_82]), K84⟩
      · skip
        have K85 : ∀ t, own_S p e below T79 (mkF m 114 #[.val (.int p0), .val (.int p1), .val (.int p2), .val (.int p3), .val (.int (2 : Int32)), .val (.ref oED25519), .val (.ref b65), .unset, .unset] [(.int (1 : Int32))]) t → Steps p.tables e below SE t := by
          intro t k
          refine K83 _ ?_
          refine XS.ifNo X79.here hx rfl (hb hby at_106) rfl (XT.i0_eq_f c106_82) ?_
          show own_S p e below T79 (mkF m 109 #[.val (.int p0), .val (.int p1), .val (.int p2), .val (.int p3), .val (.int (2 : Int32)), .val (.ref oED25519), .val (.ref b65), .unset, .unset] []) _
          refine XS.iconst X79.here hx rfl (hb hby at_109) ?_
          show own_S p e below T79 (mkF m 110 #[.val (.int p0), .val (.int p1), .val (.int p2), .val (.int p3), .val (.int (2 : Int32)), .val (.ref oED25519), .val (.ref b65), .unset, .unset] [(.int (1 : Int32))]) _
          refine XS.goto X79.here hx rfl (pc0 := 110) (pc' := 114) rfl (hb hby at_110) (by decide) (by decide) ?_
          exact k
        exact ⟨(1 : Int32), (by simp only [if_neg c106_82]), K85⟩
    have K86 : ∀ t, own_S p e below T79 (mkF m 137 #[.val (.int p0), .val (.int p1), .val (.int p2), .val (.int p3), .val (.int (2 : Int32)), .val (.ref oED25519), .val (.ref b65), .val (.int top), .val (.int (0 : Int32))] [(.ref b65), (.ref oED25519)]) t → Steps p.tables e below SE t := by
      intro t k
      refine K81 _ ?_
      refine XS.istore X79.here hx rfl (hb hby at_114) rfl (l' := #[.val (.int p0), .val (.int p1), .val (.int p2), .val (.int p3), .val (.int (2 : Int32)), .val (.ref oED25519), .val (.ref b65), .val (.int top), .unset]) rfl ?_
      show own_S p e below T79 (mkF m 116 #[.val (.int p0), .val (.int p1), .val (.int p2), .val (.int p3), .val (.int (2 : Int32)), .val (.ref oED25519), .val (.ref b65), .val (.int top), .unset] []) _
      refine XS.iload X79.here hx rfl (hb hby at_116) rfl ?_
      show own_S p e below T79 (mkF m 118 #[.val (.int p0), .val (.int p1), .val (.int p2), .val (.int p3), .val (.int (2 : Int32)), .val (.ref oED25519), .val (.ref b65), .val (.int top), .unset] [(.int (2 : Int32))]) _
      refine XS.ifYes X79.here hx rfl (pc0 := 118) (pc' := 130) rfl (hb hby at_118) rfl (XT.i0_ne_t (by decide : ¬ ((2 : Int32) = 0))) (by decide) (by decide) ?_
      show own_S p e below T79 (mkF m 130 #[.val (.int p0), .val (.int p1), .val (.int p2), .val (.int p3), .val (.int (2 : Int32)), .val (.ref oED25519), .val (.ref b65), .val (.int top), .unset] []) _
      refine XS.iconst X79.here hx rfl (hb hby at_130) ?_
      show own_S p e below T79 (mkF m 131 #[.val (.int p0), .val (.int p1), .val (.int p2), .val (.int p3), .val (.int (2 : Int32)), .val (.ref oED25519), .val (.ref b65), .val (.int top), .unset] [(.int (0 : Int32))]) _
      refine XS.istore X79.here hx rfl (hb hby at_131) rfl (l' := #[.val (.int p0), .val (.int p1), .val (.int p2), .val (.int p3), .val (.int (2 : Int32)), .val (.ref oED25519), .val (.ref b65), .val (.int top), .val (.int (0 : Int32))]) rfl ?_
      show own_S p e below T79 (mkF m 133 #[.val (.int p0), .val (.int p1), .val (.int p2), .val (.int p3), .val (.int (2 : Int32)), .val (.ref oED25519), .val (.ref b65), .val (.int top), .val (.int (0 : Int32))] []) _
      refine XS.aload X79.here hx rfl (hb hby at_133) rfl rfl ?_
      show own_S p e below T79 (mkF m 135 #[.val (.int p0), .val (.int p1), .val (.int p2), .val (.int p3), .val (.int (2 : Int32)), .val (.ref oED25519), .val (.ref b65), .val (.int top), .val (.int (0 : Int32))] [(.ref oED25519)]) _
      refine XS.aload X79.here hx rfl (hb hby at_135) rfl rfl ?_
      exact k
    obtain ⟨cq87, kq87, q87a, q87b, q87c⟩ := isOf hZ e79 (EX_oED25519.ext (own_ext Kp79))
    obtain ⟨_, _, ⟨T87, L87, k87, n87⟩, -, X87, ⟨Lc87, hQ87, l87, y87, z87⟩, st87⟩ := X79.virtualBack hx (y := (⟨"com/example/whorl/whorl/Curve", "setsIgnoredBit", "([B)Z"⟩ : MethodName)) (z := (⟨"com/example/whorl/whorl/Curve", "setsIgnoredBit", "([B)Z"⟩ : MethodName)) hown (mvT hZ (hw _ (List.mem_of_getElem? (i := 4) rfl))) (mvT hZ (hw _ (List.mem_of_getElem? (i := 5) rfl))) (notFace_of_selects (args := #[]) (mvT hZ (hw _ (List.mem_of_getElem? (i := 7) rfl)))) (mvT hZ (hw _ (List.mem_of_getElem? (i := 7) rfl))) (mvT hZ (hw _ (List.mem_of_getElem? (i := 6) rfl))) (by decide) (backOf (W := 0) (rm1_2 l Z a0 hw [] oED25519 b65 oED25519_okp k65 ((((p2).toInt8.toInt32)).toInt8.toInt32) ((((p3).toInt8.toInt32)).toInt8.toInt32) ((((p1).toInt8.toInt32)).toInt8.toInt32) oED25519_okp_edwards h79 n0 (Nat.le_trans Z0 Kp79.1) (FL_oED25519_okp.ext (own_ext Kp79)) (FL_oED25519_okp_edwards.ext (own_ext Kp79)) (FL_oED25519_okp_coordinateBits.ext (own_ext Kp79)) V79) hZ (hw _ (List.mem_of_getElem? (i := 8) rfl)) (hw _ (List.mem_of_getElem? (i := 1) rfl)) (by decide) (by decide)) q87a q87c (g := (mkF m 137 #[.val (.int p0), .val (.int p1), .val (.int p2), .val (.int p3), .val (.int (2 : Int32)), .val (.ref oED25519), .val (.ref b65), .val (.int top), .val (.int (0 : Int32))] [(.ref b65), (.ref oED25519)])) rfl (by rw [hml]; rfl) (Steps.refl _) (argsL := [(.ref b65)]) (rest := []) (lenOf pd_0_0 rfl) rfl (by show 2 * 0 + _ ≤ _; exact Nat.le_of_eq rfl) (hb hby at_137) (fun _ _ => ⟨rfl, e79, (by decide : 1 + 0 ≤ _), (by decide : 32 + 0 ≤ _)⟩)
    dsimp only [Pt.U, Pt.locs, Pt.cells, Pt.slots] at X87 l87 y87 z87 st87 hQ87
    subst l87 y87 z87
    obtain ⟨rfl, Nq87, e87⟩ := hQ87
    have N87 := Fr.app N79 Nq87
    have K87 : ∀ t, own_S p e below T87 (mkF m 140 #[.val (.int p0), .val (.int p1), .val (.int p2), .val (.int p3), .val (.int (2 : Int32)), .val (.ref oED25519), .val (.ref b65), .val (.int top), .val (.int (0 : Int32))] [(.int (0 : Int32))]) t → Steps p.tables e below SE t := fun t k => K86 _ (st87.trans k)
    have K88 : ∀ t, own_S p e below T87 (mkF m 150 #[.val (.int p0), .val (.int p1), .val (.int p2), .val (.int p3), .val (.int (2 : Int32)), .val (.ref oED25519), .val (.ref b65), .val (.int top), .val (.int (0 : Int32))] [(.int (1 : Int32))]) t → Steps p.tables e below SE t := by
      intro t k
      refine K87 _ ?_
      refine XS.iload X87.here hx rfl (hb hby at_140) rfl ?_
      show own_S p e below T87 (mkF m 142 #[.val (.int p0), .val (.int p1), .val (.int p2), .val (.int p3), .val (.int (2 : Int32)), .val (.ref oED25519), .val (.ref b65), .val (.int top), .val (.int (0 : Int32))] [(.int (0 : Int32)), (.int (0 : Int32))]) _
      refine XS.icmpNo X87.here hx rfl (hb hby at_142) rfl (XT.ii_ne_f (by decide : (0 : Int32) = (0 : Int32))) ?_
      show own_S p e below T87 (mkF m 145 #[.val (.int p0), .val (.int p1), .val (.int p2), .val (.int p3), .val (.int (2 : Int32)), .val (.ref oED25519), .val (.ref b65), .val (.int top), .val (.int (0 : Int32))] []) _
      refine XS.iconst X87.here hx rfl (hb hby at_145) ?_
      show own_S p e below T87 (mkF m 146 #[.val (.int p0), .val (.int p1), .val (.int p2), .val (.int p3), .val (.int (2 : Int32)), .val (.ref oED25519), .val (.ref b65), .val (.int top), .val (.int (0 : Int32))] [(.int (1 : Int32))]) _
      refine XS.goto X87.here hx rfl (pc0 := 146) (pc' := 150) rfl (hb hby at_146) (by decide) (by decide) ?_
      exact k
    obtain ⟨fs, hr, hrun, hended, hW, hsame⟩ := X87.leave (v := some (.int (1 : Int32))) (fun h => by rw [Bd.returns] at h; cases h)
    refine ⟨_, _, K88 _ ?_, hrun, hended, _, _, rfl, ?_, ⟨_, rfl⟩, hW, hsame.mono (by decide) (by decide)⟩
    · exact retN X87 hx (t := .boolean) Bd.returns (by simp) (hb hby at_150) hr
    · show Q0 Z p0 p1 p2 p3 oX25519 oX25519_okp oED448 oED448_okp oED448_okp_edwards oED25519 oED25519_okp oED25519_okp_edwards oX448 oX448_okp h0 n0 _ T87.heap _
      rw [e87]
      exact ⟨rfl, N87⟩
  · skip
    rw [q] at K1
    have K89 : ∀ t, own_S p e below s₁ (mkF m 64 #[.val (.int p0), .val (.int p1), .val (.int p2), .val (.int p3), .val (.int (3 : Int32)), .unset, .unset, .unset, .unset] []) t → Steps p.tables e below SE t := by
      intro t k
      refine K1 _ ?_
      refine XS.iload X0.here hx rfl (hb hby at_5) rfl ?_
      show own_S p e below s₁ (mkF m 7 #[.val (.int p0), .val (.int p1), .val (.int p2), .val (.int p3), .val (.int (3 : Int32)), .unset, .unset, .unset, .unset] [(.int (3 : Int32))]) _
      refine XS.ifYes X0.here hx rfl (pc0 := 7) (pc' := 24) rfl (hb hby at_7) rfl (XT.i0_ne_t (by decide : ¬ ((3 : Int32) = 0))) (by decide) (by decide) ?_
      show own_S p e below s₁ (mkF m 24 #[.val (.int p0), .val (.int p1), .val (.int p2), .val (.int p3), .val (.int (3 : Int32)), .unset, .unset, .unset, .unset] []) _
      refine XS.iload X0.here hx rfl (hb hby at_24) rfl ?_
      show own_S p e below s₁ (mkF m 26 #[.val (.int p0), .val (.int p1), .val (.int p2), .val (.int p3), .val (.int (3 : Int32)), .unset, .unset, .unset, .unset] [(.int (3 : Int32))]) _
      refine XS.iconst X0.here hx rfl (hb hby at_26) ?_
      show own_S p e below s₁ (mkF m 27 #[.val (.int p0), .val (.int p1), .val (.int p2), .val (.int p3), .val (.int (3 : Int32)), .unset, .unset, .unset, .unset] [(.int (1 : Int32)), (.int (3 : Int32))]) _
      refine XS.icmpYes X0.here hx rfl (pc0 := 27) (pc' := 44) rfl (hb hby at_27) rfl (XT.ii_ne_t (by decide : ¬ ((3 : Int32) = (1 : Int32)))) (by decide) (by decide) ?_
      show own_S p e below s₁ (mkF m 44 #[.val (.int p0), .val (.int p1), .val (.int p2), .val (.int p3), .val (.int (3 : Int32)), .unset, .unset, .unset, .unset] []) _
      refine XS.iload X0.here hx rfl (hb hby at_44) rfl ?_
      show own_S p e below s₁ (mkF m 46 #[.val (.int p0), .val (.int p1), .val (.int p2), .val (.int p3), .val (.int (3 : Int32)), .unset, .unset, .unset, .unset] [(.int (3 : Int32))]) _
      refine XS.iconst X0.here hx rfl (hb hby at_46) ?_
      show own_S p e below s₁ (mkF m 47 #[.val (.int p0), .val (.int p1), .val (.int p2), .val (.int p3), .val (.int (3 : Int32)), .unset, .unset, .unset, .unset] [(.int (2 : Int32)), (.int (3 : Int32))]) _
      refine XS.icmpYes X0.here hx rfl (pc0 := 47) (pc' := 64) rfl (hb hby at_47) rfl (XT.ii_ne_t (by decide : ¬ ((3 : Int32) = (2 : Int32)))) (by decide) (by decide) ?_
      exact k
    obtain ⟨T90, X90, e90, st90⟩ := getS2 X0 hx hZ hown (host := "") (Or.inl (hw _ (List.mem_of_getElem? (i := 15) rfl))) Via.refl e0 ST_ED448 (g := (mkF m 64 #[.val (.int p0), .val (.int p1), .val (.int p2), .val (.int p3), .val (.int (3 : Int32)), .unset, .unset, .unset, .unset] [])) rfl (hb hby at_64)
    have K90 : ∀ t, own_S p e below T90 (mkF m 67 #[.val (.int p0), .val (.int p1), .val (.int p2), .val (.int p3), .val (.int (3 : Int32)), .unset, .unset, .unset, .unset] [(.ref oED448)]) t → Steps p.tables e below SE t := fun t k => K89 _ (st90 _ k)
    have K91 : ∀ t, own_S p e below T90 (mkF m 71 #[.val (.int p0), .val (.int p1), .val (.int p2), .val (.int p3), .val (.int (3 : Int32)), .val (.ref oED448), .unset, .unset, .unset] [(.int (57 : Int32))]) t → Steps p.tables e below SE t := by
      intro t k
      refine K90 _ ?_
      refine XS.astore X90.here hx rfl (hb hby at_67) rfl rfl (l' := #[.val (.int p0), .val (.int p1), .val (.int p2), .val (.int p3), .val (.int (3 : Int32)), .val (.ref oED448), .unset, .unset, .unset]) rfl ?_
      show own_S p e below T90 (mkF m 69 #[.val (.int p0), .val (.int p1), .val (.int p2), .val (.int p3), .val (.int (3 : Int32)), .val (.ref oED448), .unset, .unset, .unset] []) _
      refine XS.bipush X90.here hx rfl (hb hby at_69) ?_
      exact k
    obtain ⟨T92, h92, k92, X92, e92, E92, A92, st92⟩ := newP X90 hx hZ (hw _ (List.mem_of_getElem? (i := 3) rfl)) e90 (g := (mkF m 71 #[.val (.int p0), .val (.int p1), .val (.int p2), .val (.int p3), .val (.int (3 : Int32)), .val (.ref oED448), .unset, .unset, .unset] [(.int (57 : Int32))])) rfl (hb hby at_71) rfl (by decide) (cap := 57) (by decide) (by decide) (by decide) (by decide)
    obtain ⟨b92, g92⟩ : ∃ z, z = h0.size := ⟨_, rfl⟩
    rw [← g92] at A92 st92
    have g_b92 : n0 ≤ b92 := Nat.le_trans Z0 (Nat.le_of_eq g92.symm)
    have sz_b92 : h0.size ≤ b92 := Nat.le_trans (Nat.le_refl _) (Nat.le_of_eq g92.symm)
    have own_ne_oX25519_b92 : oX25519 ≠ b92 := Nat.ne_of_lt (Nat.lt_of_lt_of_le EX_oX25519.lt (Nat.le_of_eq g92.symm))
    have own_ne_oED448_b92 : oED448 ≠ b92 := Nat.ne_of_lt (Nat.lt_of_lt_of_le EX_oED448.lt (Nat.le_of_eq g92.symm))
    have own_ne_oED448_okp_b92 : oED448_okp ≠ b92 := Nat.ne_of_lt (Nat.lt_of_lt_of_le EX_oED448_okp.lt (Nat.le_of_eq g92.symm))
    have own_ne_oED448_okp_edwards_b92 : oED448_okp_edwards ≠ b92 := Nat.ne_of_lt (Nat.lt_of_lt_of_le EX_oED448_okp_edwards.lt (Nat.le_of_eq g92.symm))
    have own_ne_oED25519_okp_b92 : oED25519_okp ≠ b92 := Nat.ne_of_lt (Nat.lt_of_lt_of_le EX_oED25519_okp.lt (Nat.le_of_eq g92.symm))
    have own_ne_oED25519_b92 : oED25519 ≠ b92 := Nat.ne_of_lt (Nat.lt_of_lt_of_le EX_oED25519.lt (Nat.le_of_eq g92.symm))
    have own_ne_oED25519_okp_edwards_b92 : oED25519_okp_edwards ≠ b92 := Nat.ne_of_lt (Nat.lt_of_lt_of_le EX_oED25519_okp_edwards.lt (Nat.le_of_eq g92.symm))
    have own_ne_oX448_b92 : oX448 ≠ b92 := Nat.ne_of_lt (Nat.lt_of_lt_of_le EX_oX448.lt (Nat.le_of_eq g92.symm))
    have own_ne_oX25519_okp_b92 : oX25519_okp ≠ b92 := Nat.ne_of_lt (Nat.lt_of_lt_of_le EX_oX25519_okp.lt (Nat.le_of_eq g92.symm))
    have own_ne_oX448_okp_b92 : oX448_okp ≠ b92 := Nat.ne_of_lt (Nat.lt_of_lt_of_le EX_oX448_okp.lt (Nat.le_of_eq g92.symm))
    have Kp92 : Keep h0 h92 [] := Keep.ext (Keep.refl h0 []) E92
    have V92 : Arv Z h92 b92 k92 .byte (57 : Int32) [(.int (0 : Int32)), (.int (0 : Int32)), (.int (0 : Int32)), (.int (0 : Int32)), (.int (0 : Int32)), (.int (0 : Int32)), (.int (0 : Int32)), (.int (0 : Int32)), (.int (0 : Int32)), (.int (0 : Int32)), (.int (0 : Int32)), (.int (0 : Int32)), (.int (0 : Int32)), (.int (0 : Int32)), (.int (0 : Int32)), (.int (0 : Int32)), (.int (0 : Int32)), (.int (0 : Int32)), (.int (0 : Int32)), (.int (0 : Int32)), (.int (0 : Int32)), (.int (0 : Int32)), (.int (0 : Int32)), (.int (0 : Int32)), (.int (0 : Int32)), (.int (0 : Int32)), (.int (0 : Int32)), (.int (0 : Int32)), (.int (0 : Int32)), (.int (0 : Int32)), (.int (0 : Int32)), (.int (0 : Int32)), (.int (0 : Int32)), (.int (0 : Int32)), (.int (0 : Int32)), (.int (0 : Int32)), (.int (0 : Int32)), (.int (0 : Int32)), (.int (0 : Int32)), (.int (0 : Int32)), (.int (0 : Int32)), (.int (0 : Int32)), (.int (0 : Int32)), (.int (0 : Int32)), (.int (0 : Int32)), (.int (0 : Int32)), (.int (0 : Int32)), (.int (0 : Int32)), (.int (0 : Int32)), (.int (0 : Int32)), (.int (0 : Int32)), (.int (0 : Int32)), (.int (0 : Int32)), (.int (0 : Int32)), (.int (0 : Int32)), (.int (0 : Int32)), (.int (0 : Int32))] (.int (0 : Int32)) := (Arv.new A92 (by decide)).pad (pad_rep [] (.int (0 : Int32)) 57)
    have K92 : ∀ t, own_S p e below T92 (mkF m 73 #[.val (.int p0), .val (.int p1), .val (.int p2), .val (.int p3), .val (.int (3 : Int32)), .val (.ref oED448), .unset, .unset, .unset] [(.ref b92)]) t → Steps p.tables e below SE t := fun t k => K91 _ (st92 _ k)
    have K93 : ∀ t, own_S p e below T92 (mkF m 80 #[.val (.int p0), .val (.int p1), .val (.int p2), .val (.int p3), .val (.int (3 : Int32)), .val (.ref oED448), .val (.ref b92), .unset, .unset] [(.int ((p2).toInt8.toInt32)), (.int (0 : Int32)), (.ref b92)]) t → Steps p.tables e below SE t := by
      intro t k
      refine K92 _ ?_
      refine XS.astore X92.here hx rfl (hb hby at_73) rfl rfl (l' := #[.val (.int p0), .val (.int p1), .val (.int p2), .val (.int p3), .val (.int (3 : Int32)), .val (.ref oED448), .val (.ref b92), .unset, .unset]) rfl ?_
      show own_S p e below T92 (mkF m 75 #[.val (.int p0), .val (.int p1), .val (.int p2), .val (.int p3), .val (.int (3 : Int32)), .val (.ref oED448), .val (.ref b92), .unset, .unset] []) _
      refine XS.aload X92.here hx rfl (hb hby at_75) rfl rfl ?_
      show own_S p e below T92 (mkF m 77 #[.val (.int p0), .val (.int p1), .val (.int p2), .val (.int p3), .val (.int (3 : Int32)), .val (.ref oED448), .val (.ref b92), .unset, .unset] [(.ref b92)]) _
      refine XS.iconst X92.here hx rfl (hb hby at_77) ?_
      show own_S p e below T92 (mkF m 78 #[.val (.int p0), .val (.int p1), .val (.int p2), .val (.int p3), .val (.int (3 : Int32)), .val (.ref oED448), .val (.ref b92), .unset, .unset] [(.int (0 : Int32)), (.ref b92)]) _
      refine XS.iloadN X92.here hx rfl (hb hby at_78) rfl ?_
      show own_S p e below T92 (mkF m 79 #[.val (.int p0), .val (.int p1), .val (.int p2), .val (.int p3), .val (.int (3 : Int32)), .val (.ref oED448), .val (.ref b92), .unset, .unset] [(.int p2), (.int (0 : Int32)), (.ref b92)]) _
      refine XS.i2b X92.here hx rfl (hb hby at_79) rfl ?_
      exact k
    obtain ⟨cl94, Ar94, qk94, S94, Ng94, Hh94, Gg94⟩ := id V92
    have hin94 : ¬ ((0 : Int32) < 0 ∨ cl94.slots.size ≤ ((0 : Int32)).toNatClampNeg) := inb_of S94 ⟨by decide, by decide⟩
    obtain ⟨T95, h95, X95, e95, W95, st95⟩ := stB X92 hx hZ e92 Ar94 (j := (0 : Int32)) hin94 (g := (mkF m 80 #[.val (.int p0), .val (.int p1), .val (.int p2), .val (.int p3), .val (.int (3 : Int32)), .val (.ref oED448), .val (.ref b92), .unset, .unset] [(.int ((p2).toInt8.toInt32)), (.int (0 : Int32)), (.ref b92)])) rfl rfl (hb hby at_80)
    have V95 : Arv Z h95 b92 k92 .byte (57 : Int32) [(.int (((p2).toInt8.toInt32)).toInt8.toInt32), (.int (0 : Int32)), (.int (0 : Int32)), (.int (0 : Int32)), (.int (0 : Int32)), (.int (0 : Int32)), (.int (0 : Int32)), (.int (0 : Int32)), (.int (0 : Int32)), (.int (0 : Int32)), (.int (0 : Int32)), (.int (0 : Int32)), (.int (0 : Int32)), (.int (0 : Int32)), (.int (0 : Int32)), (.int (0 : Int32)), (.int (0 : Int32)), (.int (0 : Int32)), (.int (0 : Int32)), (.int (0 : Int32)), (.int (0 : Int32)), (.int (0 : Int32)), (.int (0 : Int32)), (.int (0 : Int32)), (.int (0 : Int32)), (.int (0 : Int32)), (.int (0 : Int32)), (.int (0 : Int32)), (.int (0 : Int32)), (.int (0 : Int32)), (.int (0 : Int32)), (.int (0 : Int32)), (.int (0 : Int32)), (.int (0 : Int32)), (.int (0 : Int32)), (.int (0 : Int32)), (.int (0 : Int32)), (.int (0 : Int32)), (.int (0 : Int32)), (.int (0 : Int32)), (.int (0 : Int32)), (.int (0 : Int32)), (.int (0 : Int32)), (.int (0 : Int32)), (.int (0 : Int32)), (.int (0 : Int32)), (.int (0 : Int32)), (.int (0 : Int32)), (.int (0 : Int32)), (.int (0 : Int32)), (.int (0 : Int32)), (.int (0 : Int32)), (.int (0 : Int32)), (.int (0 : Int32)), (.int (0 : Int32)), (.int (0 : Int32)), (.int (0 : Int32))] (.int (0 : Int32)) := Arv.set Ar94 qk94 S94 Ng94 Hh94 Gg94 (fits_nar_byte _) W95 0 rfl (Nat.le_of_ble_eq_true rfl)
    have N95 := Fr.snoc X95 N0 g_b92
    have Kp95 : Keep h0 h95 [] := Keep.wr Kp92 W95 (Or.inr sz_b92)
    have K95 : ∀ t, own_S p e below T95 (mkF m 81 #[.val (.int p0), .val (.int p1), .val (.int p2), .val (.int p3), .val (.int (3 : Int32)), .val (.ref oED448), .val (.ref b92), .unset, .unset] []) t → Steps p.tables e below SE t := fun t k => K93 _ (st95 _ k)
    have K96 : ∀ t, own_S p e below T95 (mkF m 85 #[.val (.int p0), .val (.int p1), .val (.int p2), .val (.int p3), .val (.int (3 : Int32)), .val (.ref oED448), .val (.ref b92), .unset, .unset] [(.ref b92), (.ref b92)]) t → Steps p.tables e below SE t := by
      intro t k
      refine K95 _ ?_
      refine XS.aload X95.here hx rfl (hb hby at_81) rfl rfl ?_
      show own_S p e below T95 (mkF m 83 #[.val (.int p0), .val (.int p1), .val (.int p2), .val (.int p3), .val (.int (3 : Int32)), .val (.ref oED448), .val (.ref b92), .unset, .unset] [(.ref b92)]) _
      refine XS.aload X95.here hx rfl (hb hby at_83) rfl rfl ?_
      exact k
    obtain ⟨cl97, Ar97, -, S97, Ng97, -, -⟩ := id V95
    have K98 : ∀ t, own_S p e below T95 (mkF m 88 #[.val (.int p0), .val (.int p1), .val (.int p2), .val (.int p3), .val (.int (3 : Int32)), .val (.ref oED448), .val (.ref b92), .unset, .unset] [(.int ((57 : Int32) / (2 : Int32))), (.ref b92)]) t → Steps p.tables e below SE t := by
      intro t k
      refine K96 _ ?_
      refine X95.arraylength hx (by rw [e95]; exact Ar97.1) (State.isArrayOf_alike hZ.alike Ar97.2.1) (g := (mkF m 85 #[.val (.int p0), .val (.int p1), .val (.int p2), .val (.int p3), .val (.int (3 : Int32)), .val (.ref oED448), .val (.ref b92), .unset, .unset] [(.ref b92), (.ref b92)])) rfl rfl (hb hby at_85) _ ?_
      rw [len_of S97 Ng97]
      show own_S p e below T95 (mkF m 86 #[.val (.int p0), .val (.int p1), .val (.int p2), .val (.int p3), .val (.int (3 : Int32)), .val (.ref oED448), .val (.ref b92), .unset, .unset] [(.int (57 : Int32)), (.ref b92)]) _
      refine XS.iconst X95.here hx rfl (hb hby at_86) ?_
      show own_S p e below T95 (mkF m 87 #[.val (.int p0), .val (.int p1), .val (.int p2), .val (.int p3), .val (.int (3 : Int32)), .val (.ref oED448), .val (.ref b92), .unset, .unset] [(.int (2 : Int32)), (.int (57 : Int32)), (.ref b92)]) _
      refine XS.idiv X95.here hx rfl (hb hby at_87) rfl (by decide) ?_
      exact k
    rw [(by decide : ((57 : Int32) / (2 : Int32)) = (28 : Int32))] at K98
    have K99 : ∀ t, own_S p e below T95 (mkF m 90 #[.val (.int p0), .val (.int p1), .val (.int p2), .val (.int p3), .val (.int (3 : Int32)), .val (.ref oED448), .val (.ref b92), .unset, .unset] [(.int ((p3).toInt8.toInt32)), (.int (28 : Int32)), (.ref b92)]) t → Steps p.tables e below SE t := by
      intro t k
      refine K98 _ ?_
      refine XS.iloadN X95.here hx rfl (hb hby at_88) rfl ?_
      show own_S p e below T95 (mkF m 89 #[.val (.int p0), .val (.int p1), .val (.int p2), .val (.int p3), .val (.int (3 : Int32)), .val (.ref oED448), .val (.ref b92), .unset, .unset] [(.int p3), (.int (28 : Int32)), (.ref b92)]) _
      refine XS.i2b X95.here hx rfl (hb hby at_89) rfl ?_
      exact k
    obtain ⟨cl100, Ar100, qk100, S100, Ng100, Hh100, Gg100⟩ := id V95
    have hin100 : ¬ ((28 : Int32) < 0 ∨ cl100.slots.size ≤ ((28 : Int32)).toNatClampNeg) := inb_of S100 ⟨by decide, by decide⟩
    obtain ⟨T101, h101, X101, e101, W101, st101⟩ := stB X95 hx hZ e95 Ar100 (j := (28 : Int32)) hin100 (g := (mkF m 90 #[.val (.int p0), .val (.int p1), .val (.int p2), .val (.int p3), .val (.int (3 : Int32)), .val (.ref oED448), .val (.ref b92), .unset, .unset] [(.int ((p3).toInt8.toInt32)), (.int (28 : Int32)), (.ref b92)])) rfl rfl (hb hby at_90)
    have V101 : Arv Z h101 b92 k92 .byte (57 : Int32) [(.int (((p2).toInt8.toInt32)).toInt8.toInt32), (.int (0 : Int32)), (.int (0 : Int32)), (.int (0 : Int32)), (.int (0 : Int32)), (.int (0 : Int32)), (.int (0 : Int32)), (.int (0 : Int32)), (.int (0 : Int32)), (.int (0 : Int32)), (.int (0 : Int32)), (.int (0 : Int32)), (.int (0 : Int32)), (.int (0 : Int32)), (.int (0 : Int32)), (.int (0 : Int32)), (.int (0 : Int32)), (.int (0 : Int32)), (.int (0 : Int32)), (.int (0 : Int32)), (.int (0 : Int32)), (.int (0 : Int32)), (.int (0 : Int32)), (.int (0 : Int32)), (.int (0 : Int32)), (.int (0 : Int32)), (.int (0 : Int32)), (.int (0 : Int32)), (.int (((p3).toInt8.toInt32)).toInt8.toInt32), (.int (0 : Int32)), (.int (0 : Int32)), (.int (0 : Int32)), (.int (0 : Int32)), (.int (0 : Int32)), (.int (0 : Int32)), (.int (0 : Int32)), (.int (0 : Int32)), (.int (0 : Int32)), (.int (0 : Int32)), (.int (0 : Int32)), (.int (0 : Int32)), (.int (0 : Int32)), (.int (0 : Int32)), (.int (0 : Int32)), (.int (0 : Int32)), (.int (0 : Int32)), (.int (0 : Int32)), (.int (0 : Int32)), (.int (0 : Int32)), (.int (0 : Int32)), (.int (0 : Int32)), (.int (0 : Int32)), (.int (0 : Int32)), (.int (0 : Int32)), (.int (0 : Int32)), (.int (0 : Int32)), (.int (0 : Int32))] (.int (0 : Int32)) := Arv.set Ar100 qk100 S100 Ng100 Hh100 Gg100 (fits_nar_byte _) W101 28 rfl (Nat.le_of_ble_eq_true rfl)
    have N101 := Fr.snoc X101 N95 g_b92
    have Kp101 : Keep h0 h101 [] := Keep.wr Kp95 W101 (Or.inr sz_b92)
    have K101 : ∀ t, own_S p e below T101 (mkF m 91 #[.val (.int p0), .val (.int p1), .val (.int p2), .val (.int p3), .val (.int (3 : Int32)), .val (.ref oED448), .val (.ref b92), .unset, .unset] []) t → Steps p.tables e below SE t := fun t k => K99 _ (st101 _ k)
    have K102 : ∀ t, own_S p e below T101 (mkF m 95 #[.val (.int p0), .val (.int p1), .val (.int p2), .val (.int p3), .val (.int (3 : Int32)), .val (.ref oED448), .val (.ref b92), .unset, .unset] [(.ref b92), (.ref b92)]) t → Steps p.tables e below SE t := by
      intro t k
      refine K101 _ ?_
      refine XS.aload X101.here hx rfl (hb hby at_91) rfl rfl ?_
      show own_S p e below T101 (mkF m 93 #[.val (.int p0), .val (.int p1), .val (.int p2), .val (.int p3), .val (.int (3 : Int32)), .val (.ref oED448), .val (.ref b92), .unset, .unset] [(.ref b92)]) _
      refine XS.aload X101.here hx rfl (hb hby at_93) rfl rfl ?_
      exact k
    obtain ⟨cl103, Ar103, -, S103, Ng103, -, -⟩ := id V101
    have K104 : ∀ t, own_S p e below T101 (mkF m 100 #[.val (.int p0), .val (.int p1), .val (.int p2), .val (.int p3), .val (.int (3 : Int32)), .val (.ref oED448), .val (.ref b92), .unset, .unset] [(.int ((p1).toInt8.toInt32)), (.int (56 : Int32)), (.ref b92)]) t → Steps p.tables e below SE t := by
      intro t k
      refine K102 _ ?_
      refine X101.arraylength hx (by rw [e101]; exact Ar103.1) (State.isArrayOf_alike hZ.alike Ar103.2.1) (g := (mkF m 95 #[.val (.int p0), .val (.int p1), .val (.int p2), .val (.int p3), .val (.int (3 : Int32)), .val (.ref oED448), .val (.ref b92), .unset, .unset] [(.ref b92), (.ref b92)])) rfl rfl (hb hby at_95) _ ?_
      rw [len_of S103 Ng103]
      show own_S p e below T101 (mkF m 96 #[.val (.int p0), .val (.int p1), .val (.int p2), .val (.int p3), .val (.int (3 : Int32)), .val (.ref oED448), .val (.ref b92), .unset, .unset] [(.int (57 : Int32)), (.ref b92)]) _
      refine XS.iconst X101.here hx rfl (hb hby at_96) ?_
      show own_S p e below T101 (mkF m 97 #[.val (.int p0), .val (.int p1), .val (.int p2), .val (.int p3), .val (.int (3 : Int32)), .val (.ref oED448), .val (.ref b92), .unset, .unset] [(.int (1 : Int32)), (.int (57 : Int32)), (.ref b92)]) _
      refine XS.isub X101.here hx rfl (hb hby at_97) rfl ?_
      show own_S p e below T101 (mkF m 98 #[.val (.int p0), .val (.int p1), .val (.int p2), .val (.int p3), .val (.int (3 : Int32)), .val (.ref oED448), .val (.ref b92), .unset, .unset] [(.int (56 : Int32)), (.ref b92)]) _
      refine XS.iloadN X101.here hx rfl (hb hby at_98) rfl ?_
      show own_S p e below T101 (mkF m 99 #[.val (.int p0), .val (.int p1), .val (.int p2), .val (.int p3), .val (.int (3 : Int32)), .val (.ref oED448), .val (.ref b92), .unset, .unset] [(.int p1), (.int (56 : Int32)), (.ref b92)]) _
      refine XS.i2b X101.here hx rfl (hb hby at_99) rfl ?_
      exact k
    obtain ⟨cl105, Ar105, qk105, S105, Ng105, Hh105, Gg105⟩ := id V101
    have hin105 : ¬ ((56 : Int32) < 0 ∨ cl105.slots.size ≤ ((56 : Int32)).toNatClampNeg) := inb_of S105 ⟨by decide, by decide⟩
    obtain ⟨T106, h106, X106, e106, W106, st106⟩ := stB X101 hx hZ e101 Ar105 (j := (56 : Int32)) hin105 (g := (mkF m 100 #[.val (.int p0), .val (.int p1), .val (.int p2), .val (.int p3), .val (.int (3 : Int32)), .val (.ref oED448), .val (.ref b92), .unset, .unset] [(.int ((p1).toInt8.toInt32)), (.int (56 : Int32)), (.ref b92)])) rfl rfl (hb hby at_100)
    have V106 : Arv Z h106 b92 k92 .byte (57 : Int32) [(.int (((p2).toInt8.toInt32)).toInt8.toInt32), (.int (0 : Int32)), (.int (0 : Int32)), (.int (0 : Int32)), (.int (0 : Int32)), (.int (0 : Int32)), (.int (0 : Int32)), (.int (0 : Int32)), (.int (0 : Int32)), (.int (0 : Int32)), (.int (0 : Int32)), (.int (0 : Int32)), (.int (0 : Int32)), (.int (0 : Int32)), (.int (0 : Int32)), (.int (0 : Int32)), (.int (0 : Int32)), (.int (0 : Int32)), (.int (0 : Int32)), (.int (0 : Int32)), (.int (0 : Int32)), (.int (0 : Int32)), (.int (0 : Int32)), (.int (0 : Int32)), (.int (0 : Int32)), (.int (0 : Int32)), (.int (0 : Int32)), (.int (0 : Int32)), (.int (((p3).toInt8.toInt32)).toInt8.toInt32), (.int (0 : Int32)), (.int (0 : Int32)), (.int (0 : Int32)), (.int (0 : Int32)), (.int (0 : Int32)), (.int (0 : Int32)), (.int (0 : Int32)), (.int (0 : Int32)), (.int (0 : Int32)), (.int (0 : Int32)), (.int (0 : Int32)), (.int (0 : Int32)), (.int (0 : Int32)), (.int (0 : Int32)), (.int (0 : Int32)), (.int (0 : Int32)), (.int (0 : Int32)), (.int (0 : Int32)), (.int (0 : Int32)), (.int (0 : Int32)), (.int (0 : Int32)), (.int (0 : Int32)), (.int (0 : Int32)), (.int (0 : Int32)), (.int (0 : Int32)), (.int (0 : Int32)), (.int (0 : Int32)), (.int (((p1).toInt8.toInt32)).toInt8.toInt32)] (.int (0 : Int32)) := Arv.set Ar105 qk105 S105 Ng105 Hh105 Gg105 (fits_nar_byte _) W106 56 rfl (Nat.le_of_ble_eq_true rfl)
    have N106 := Fr.snoc X106 N101 g_b92
    have Kp106 : Keep h0 h106 [] := Keep.wr Kp101 W106 (Or.inr sz_b92)
    have K106 : ∀ t, own_S p e below T106 (mkF m 101 #[.val (.int p0), .val (.int p1), .val (.int p2), .val (.int p3), .val (.int (3 : Int32)), .val (.ref oED448), .val (.ref b92), .unset, .unset] []) t → Steps p.tables e below SE t := fun t k => K104 _ (st106 _ k)
    obtain ⟨top, htop, K108⟩ : ∃ top : Int32, top = (if (p1 &&& (128 : Int32)) = 0 then (0 : Int32) else (1 : Int32)) ∧ ∀ t, own_S p e below T106 (mkF m 114 #[.val (.int p0), .val (.int p1), .val (.int p2), .val (.int p3), .val (.int (3 : Int32)), .val (.ref oED448), .val (.ref b92), .unset, .unset] [(.int top)]) t → Steps p.tables e below SE t := by
      have K110 : ∀ t, own_S p e below T106 (mkF m 106 #[.val (.int p0), .val (.int p1), .val (.int p2), .val (.int p3), .val (.int (3 : Int32)), .val (.ref oED448), .val (.ref b92), .unset, .unset] [(.int (p1 &&& (128 : Int32)))]) t → Steps p.tables e below SE t := by
        intro t k
        refine K106 _ ?_
        refine XS.iloadN X106.here hx rfl (hb hby at_101) rfl ?_
        show own_S p e below T106 (mkF m 102 #[.val (.int p0), .val (.int p1), .val (.int p2), .val (.int p3), .val (.int (3 : Int32)), .val (.ref oED448), .val (.ref b92), .unset, .unset] [(.int p1)]) _
        refine XS.sipush X106.here hx rfl (hb hby at_102) ?_
        show own_S p e below T106 (mkF m 105 #[.val (.int p0), .val (.int p1), .val (.int p2), .val (.int p3), .val (.int (3 : Int32)), .val (.ref oED448), .val (.ref b92), .unset, .unset] [(.int (128 : Int32)), (.int p1)]) _
        refine XS.iand X106.here hx rfl (hb hby at_105) rfl ?_
        exact k
      by_cases c106_109 : (p1 &&& (128 : Int32)) = 0
      · skip
        have K111 : ∀ t, own_S p e below T106 (mkF m 114 #[.val (.int p0), .val (.int p1), .val (.int p2), .val (.int p3), .val (.int (3 : Int32)), .val (.ref oED448), .val (.ref b92), .unset, .unset] [(.int (0 : Int32))]) t → Steps p.tables e below SE t := by
          intro t k
          refine K110 _ ?_
          refine XS.ifYes X106.here hx rfl (pc0 := 106) (pc' := 113) rfl (hb hby at_106) rfl (XT.i0_eq_t c106_109) (by decide) (by decide) ?_
          show own_S p e below T106 (mkF m 113 #[.val (.int p0), .val (.int p1), .val (.int p2), .val (.int p3), .val (.int (3 : Int32)), .val (.ref oED448), .val (.ref b92), .unset, .unset] []) _
          refine XS.iconst X106.here hx rfl (hb hby at_113) ?_
          exact k
        exact ⟨(0 : Int32), (by simp only [if_pos c106_109]), K111⟩
      · skip
        have K112 : ∀ t, own_S p e below T106 (mkF m 114 #[.val (.int p0), .val (.int p1), .val (.int p2), .val (.int p3), .val (.int (3 : Int32)), .val (.ref oED448), .val (.ref b92), .unset, .unset] [(.int (1 : Int32))]) t → Steps p.tables e below SE t := by
          intro t k
          refine K110 _ ?_
          refine XS.ifNo X106.here hx rfl (hb hby at_106) rfl (XT.i0_eq_f c106_109) ?_
          show own_S p e below T106 (mkF m 109 #[.val (.int p0), .val (.int p1), .val (.int p2), .val (.int p3), .val (.int (3 : Int32)), .val (.ref oED448), .val (.ref b92), .unset, .unset] []) _
          refine XS.iconst X106.here hx rfl (hb hby at_109) ?_
          show own_S p e below T106 (mkF m 110 #[.val (.int p0), .val (.int p1), .val (.int p2), .val (.int p3), .val (.int (3 : Int32)), .val (.ref oED448), .val (.ref b92), .unset, .unset] [(.int (1 : Int32))]) _
          refine XS.goto X106.here hx rfl (pc0 := 110) (pc' := 114) rfl (hb hby at_110) (by decide) (by decide) ?_
          exact k
        exact ⟨(1 : Int32), (by simp only [if_neg c106_109]), K112⟩
    have K113 : ∀ t, own_S p e below T106 (mkF m 137 #[.val (.int p0), .val (.int p1), .val (.int p2), .val (.int p3), .val (.int (3 : Int32)), .val (.ref oED448), .val (.ref b92), .val (.int top), .val (.int (0 : Int32))] [(.ref b92), (.ref oED448)]) t → Steps p.tables e below SE t := by
      intro t k
      refine K108 _ ?_
      refine XS.istore X106.here hx rfl (hb hby at_114) rfl (l' := #[.val (.int p0), .val (.int p1), .val (.int p2), .val (.int p3), .val (.int (3 : Int32)), .val (.ref oED448), .val (.ref b92), .val (.int top), .unset]) rfl ?_
      show own_S p e below T106 (mkF m 116 #[.val (.int p0), .val (.int p1), .val (.int p2), .val (.int p3), .val (.int (3 : Int32)), .val (.ref oED448), .val (.ref b92), .val (.int top), .unset] []) _
      refine XS.iload X106.here hx rfl (hb hby at_116) rfl ?_
      show own_S p e below T106 (mkF m 118 #[.val (.int p0), .val (.int p1), .val (.int p2), .val (.int p3), .val (.int (3 : Int32)), .val (.ref oED448), .val (.ref b92), .val (.int top), .unset] [(.int (3 : Int32))]) _
      refine XS.ifYes X106.here hx rfl (pc0 := 118) (pc' := 130) rfl (hb hby at_118) rfl (XT.i0_ne_t (by decide : ¬ ((3 : Int32) = 0))) (by decide) (by decide) ?_
      show own_S p e below T106 (mkF m 130 #[.val (.int p0), .val (.int p1), .val (.int p2), .val (.int p3), .val (.int (3 : Int32)), .val (.ref oED448), .val (.ref b92), .val (.int top), .unset] []) _
      refine XS.iconst X106.here hx rfl (hb hby at_130) ?_
      show own_S p e below T106 (mkF m 131 #[.val (.int p0), .val (.int p1), .val (.int p2), .val (.int p3), .val (.int (3 : Int32)), .val (.ref oED448), .val (.ref b92), .val (.int top), .unset] [(.int (0 : Int32))]) _
      refine XS.istore X106.here hx rfl (hb hby at_131) rfl (l' := #[.val (.int p0), .val (.int p1), .val (.int p2), .val (.int p3), .val (.int (3 : Int32)), .val (.ref oED448), .val (.ref b92), .val (.int top), .val (.int (0 : Int32))]) rfl ?_
      show own_S p e below T106 (mkF m 133 #[.val (.int p0), .val (.int p1), .val (.int p2), .val (.int p3), .val (.int (3 : Int32)), .val (.ref oED448), .val (.ref b92), .val (.int top), .val (.int (0 : Int32))] []) _
      refine XS.aload X106.here hx rfl (hb hby at_133) rfl rfl ?_
      show own_S p e below T106 (mkF m 135 #[.val (.int p0), .val (.int p1), .val (.int p2), .val (.int p3), .val (.int (3 : Int32)), .val (.ref oED448), .val (.ref b92), .val (.int top), .val (.int (0 : Int32))] [(.ref oED448)]) _
      refine XS.aload X106.here hx rfl (hb hby at_135) rfl rfl ?_
      exact k
    obtain ⟨cq114, kq114, q114a, q114b, q114c⟩ := isOf hZ e106 (EX_oED448.ext (own_ext Kp106))
    obtain ⟨_, _, ⟨T114, L114, k114, n114⟩, -, X114, ⟨Lc114, hQ114, l114, y114, z114⟩, st114⟩ := X106.virtualBack hx (y := (⟨"com/example/whorl/whorl/Curve", "setsIgnoredBit", "([B)Z"⟩ : MethodName)) (z := (⟨"com/example/whorl/whorl/Curve", "setsIgnoredBit", "([B)Z"⟩ : MethodName)) hown (mvT hZ (hw _ (List.mem_of_getElem? (i := 4) rfl))) (mvT hZ (hw _ (List.mem_of_getElem? (i := 5) rfl))) (notFace_of_selects (args := #[]) (mvT hZ (hw _ (List.mem_of_getElem? (i := 7) rfl)))) (mvT hZ (hw _ (List.mem_of_getElem? (i := 7) rfl))) (mvT hZ (hw _ (List.mem_of_getElem? (i := 6) rfl))) (by decide) (backOf (W := 0) (rm1_3 l Z a0 hw [] oED448 b92 oED448_okp k92 ((((p2).toInt8.toInt32)).toInt8.toInt32) ((((p3).toInt8.toInt32)).toInt8.toInt32) ((((p1).toInt8.toInt32)).toInt8.toInt32) oED448_okp_edwards h106 n0 (Nat.le_trans Z0 Kp106.1) (FL_oED448_okp.ext (own_ext Kp106)) (FL_oED448_okp_edwards.ext (own_ext Kp106)) (FL_oED448_okp_coordinateBits.ext (own_ext Kp106)) V106) hZ (hw _ (List.mem_of_getElem? (i := 8) rfl)) (hw _ (List.mem_of_getElem? (i := 1) rfl)) (by decide) (by decide)) q114a q114c (g := (mkF m 137 #[.val (.int p0), .val (.int p1), .val (.int p2), .val (.int p3), .val (.int (3 : Int32)), .val (.ref oED448), .val (.ref b92), .val (.int top), .val (.int (0 : Int32))] [(.ref b92), (.ref oED448)])) rfl (by rw [hml]; rfl) (Steps.refl _) (argsL := [(.ref b92)]) (rest := []) (lenOf pd_0_0 rfl) rfl (by show 2 * 0 + _ ≤ _; exact Nat.le_of_eq rfl) (hb hby at_137) (fun _ _ => ⟨rfl, e106, (by decide : 1 + 0 ≤ _), (by decide : 57 + 0 ≤ _)⟩)
    dsimp only [Pt.U, Pt.locs, Pt.cells, Pt.slots] at X114 l114 y114 z114 st114 hQ114
    subst l114 y114 z114
    obtain ⟨rfl, Nq114, e114⟩ := hQ114
    have N114 := Fr.app N106 Nq114
    have K114 : ∀ t, own_S p e below T114 (mkF m 140 #[.val (.int p0), .val (.int p1), .val (.int p2), .val (.int p3), .val (.int (3 : Int32)), .val (.ref oED448), .val (.ref b92), .val (.int top), .val (.int (0 : Int32))] [(.int (0 : Int32))]) t → Steps p.tables e below SE t := fun t k => K113 _ (st114.trans k)
    have K115 : ∀ t, own_S p e below T114 (mkF m 150 #[.val (.int p0), .val (.int p1), .val (.int p2), .val (.int p3), .val (.int (3 : Int32)), .val (.ref oED448), .val (.ref b92), .val (.int top), .val (.int (0 : Int32))] [(.int (1 : Int32))]) t → Steps p.tables e below SE t := by
      intro t k
      refine K114 _ ?_
      refine XS.iload X114.here hx rfl (hb hby at_140) rfl ?_
      show own_S p e below T114 (mkF m 142 #[.val (.int p0), .val (.int p1), .val (.int p2), .val (.int p3), .val (.int (3 : Int32)), .val (.ref oED448), .val (.ref b92), .val (.int top), .val (.int (0 : Int32))] [(.int (0 : Int32)), (.int (0 : Int32))]) _
      refine XS.icmpNo X114.here hx rfl (hb hby at_142) rfl (XT.ii_ne_f (by decide : (0 : Int32) = (0 : Int32))) ?_
      show own_S p e below T114 (mkF m 145 #[.val (.int p0), .val (.int p1), .val (.int p2), .val (.int p3), .val (.int (3 : Int32)), .val (.ref oED448), .val (.ref b92), .val (.int top), .val (.int (0 : Int32))] []) _
      refine XS.iconst X114.here hx rfl (hb hby at_145) ?_
      show own_S p e below T114 (mkF m 146 #[.val (.int p0), .val (.int p1), .val (.int p2), .val (.int p3), .val (.int (3 : Int32)), .val (.ref oED448), .val (.ref b92), .val (.int top), .val (.int (0 : Int32))] [(.int (1 : Int32))]) _
      refine XS.goto X114.here hx rfl (pc0 := 146) (pc' := 150) rfl (hb hby at_146) (by decide) (by decide) ?_
      exact k
    obtain ⟨fs, hr, hrun, hended, hW, hsame⟩ := X114.leave (v := some (.int (1 : Int32))) (fun h => by rw [Bd.returns] at h; cases h)
    refine ⟨_, _, K115 _ ?_, hrun, hended, _, _, rfl, ?_, ⟨_, rfl⟩, hW, hsame.mono (by decide) (by decide)⟩
    · exact retN X114 hx (t := .boolean) Bd.returns (by simp) (hb hby at_150) hr
    · show Q0 Z p0 p1 p2 p3 oX25519 oX25519_okp oED448 oED448_okp oED448_okp_edwards oED25519 oED25519_okp oED25519_okp_edwards oX448 oX448_okp h0 n0 _ T114.heap _
      rw [e114]
      exact ⟨rfl, N114⟩
set_option maxRecDepth 65536 in
set_option maxHeartbeats 40000000 in
theorem comes_1 {Post : Tables → Env → Array Value → State → Outcome → State → Prop} (hpost : ∀ tb e args s v u, (limb_1_1.after args s (.returned v) u = true ∧ limb_1_2.after args s (.returned v) u = true ∧ True) → FrameEnd s (.returned v) u (Jvm.fieldLocs frame_1_writes args s ++ Jvm.arrayLocs frame_1_arrays args s ++ Jvm.staticLocs frame_1_statics s) 16 192 → Post tb e args s (.returned v) u) :
    ArmFor flags0 classFile x code maxLocals ret World_1 tables_1 room_1 Calls_1 rest_1 Pre_1 Post := by
  intro l hfl _ _ p e ha hc hk s m args below hf hA hF happ hP
  obtain ⟨hcalls, hrest, hpre⟩ := hP
  obtain ⟨-, -, -, hnamed, -, -, -, hat⟩ := (Spec.applies_iff hf).mp happ
  obtain ⟨hg, hn⟩ := and_e (Cond.before_iff.mp (show (Jvm.Cond.and given_1 narrow_1).before args s = true from hpre))
  obtain ⟨hcount, hg0⟩ := and_e hg
  obtain ⟨ha0, hg1⟩ := and_e hg0
  obtain ⟨ha1, hg2⟩ := and_e hg1
  obtain ⟨ha2, hg3⟩ := and_e hg2
  obtain ⟨w0, w1, w2, w3, rfl⟩ : ∃ w0 w1 w2 w3 : Value, args = #[w0, w1, w2, w3] := by
    have hs : args.size = 4 := by simpa [Cond.value, given_1] using hcount
    obtain ⟨L⟩ := args
    match L, hs with
    | [w0, w1, w2, w3], _ => exact ⟨w0, w1, w2, w3, rfl⟩
  have hw := fun d (hd : d ∈ tables_1) => atoms_spec (ws := Jvm.Cond.code x code maxLocals ret :: tables_1) hat d (List.mem_cons_of_mem _ hd)
  have hfit : Fit s := fun {y c} hc i hi => by
    obtain ⟨ha, rfl⟩ := Array.getElem?_eq_some_iff.mp hc
    have q := List.all_eq_true.mp ((Array.all_eq_true_iff_forall_mem.mp hF) _ (Array.getElem_mem ha)) i (List.mem_range.mpr hi)
    simpa [Array.getElem?_eq_getElem hi] using q
  obtain ⟨i0, ei0⟩ := is_v ha0
  obtain rfl : w0 = (.int i0) := Option.some.inj ei0
  obtain ⟨i1, ei1⟩ := is_v ha1
  obtain rfl : w1 = (.int i1) := Option.some.inj ei1
  obtain ⟨i2, ei2⟩ := is_v ha2
  obtain rfl : w2 = (.int i2) := Option.some.inj ei2
  obtain ⟨i3, ei3⟩ := is_v hg3
  obtain rfl : w3 = (.int i3) := Option.some.inj ei3
  obtain ⟨hc0, hcr0⟩ := and_e hn
  obtain ⟨hc1, hcr1⟩ := and_e hcr0
  obtain ⟨hc2, hcr2⟩ := and_e hcr1
  obtain ⟨hc3, hcr3⟩ := and_e hcr2
  obtain ⟨hc4, hcr4⟩ := and_e hcr3
  obtain ⟨hc5, hcr5⟩ := and_e hcr4
  obtain ⟨hc6, hcr6⟩ := and_e hcr5
  obtain ⟨hc7, hcr7⟩ := and_e hcr6
  obtain ⟨hc8, hcr8⟩ := and_e hcr7
  obtain ⟨hc9, hcr9⟩ := and_e hcr8
  obtain ⟨hc10, hcr10⟩ := and_e hcr9
  obtain ⟨hc11, hcr11⟩ := and_e hcr10
  obtain ⟨hc12, hcr12⟩ := and_e hcr11
  obtain ⟨hc13, hcr13⟩ := and_e hcr12
  obtain ⟨hc14, hcr14⟩ := and_e hcr13
  obtain ⟨oX25519, ev_oX25519⟩ := exa_v hc0
  have ST_X25519 : Sta s s.heap "com/example/whorl/whorl/Curve" "X25519" "Lcom/example/whorl/whorl/Curve;" (.ref oX25519) := Sta.start ev_oX25519 (Or.inr ⟨(hw _ (List.mem_of_getElem? (i := 1) rfl)), (hw _ (List.mem_of_getElem? (i := 2) rfl))⟩)
  have EX_oX25519 : Exa s s.heap oX25519 "com/example/whorl/whorl/Curve" := Exa.start ev_oX25519 hc0
  obtain ⟨oX25519_okp, ev_oX25519_okp⟩ := exa_v hc1
  have FL_oX25519_okp : Fld s s.heap oX25519 "com/example/whorl/whorl/Curve" "okp" "Lcom/example/whorl/whorl/Curve$Okp;" (.ref oX25519_okp) := Fld.start ((fld_at ev_oX25519).symm.trans ev_oX25519_okp)
  have EX_oX25519_okp : Exa s s.heap oX25519_okp "com/example/whorl/whorl/Curve$Okp" := Exa.start ev_oX25519_okp hc1
  have evn1 := null_v hc2
  have FL_oX25519_okp_edwards : Fld s s.heap oX25519_okp "com/example/whorl/whorl/Curve$Okp" "edwards" "Lcom/example/whorl/whorl/Curve$Edwards;" .null := Fld.start ((fld_at ev_oX25519_okp).symm.trans evn1)
  have evn2 := own_eqI hc3
  have FL_oX25519_okp_coordinateBits : Fld s s.heap oX25519_okp "com/example/whorl/whorl/Curve$Okp" "coordinateBits" "I" (.int (127 : Int32)) := Fld.start ((fld_at ev_oX25519_okp).symm.trans evn2)
  obtain ⟨oED448, ev_oED448⟩ := exa_v hc4
  have ST_ED448 : Sta s s.heap "com/example/whorl/whorl/Curve" "ED448" "Lcom/example/whorl/whorl/Curve;" (.ref oED448) := Sta.start ev_oED448 (Or.inr ⟨(hw _ (List.mem_of_getElem? (i := 1) rfl)), (hw _ (List.mem_of_getElem? (i := 16) rfl))⟩)
  have EX_oED448 : Exa s s.heap oED448 "com/example/whorl/whorl/Curve" := Exa.start ev_oED448 hc4
  obtain ⟨oED448_okp, ev_oED448_okp⟩ := exa_v hc5
  have FL_oED448_okp : Fld s s.heap oED448 "com/example/whorl/whorl/Curve" "okp" "Lcom/example/whorl/whorl/Curve$Okp;" (.ref oED448_okp) := Fld.start ((fld_at ev_oED448).symm.trans ev_oED448_okp)
  have EX_oED448_okp : Exa s s.heap oED448_okp "com/example/whorl/whorl/Curve$Okp" := Exa.start ev_oED448_okp hc5
  obtain ⟨oED448_okp_edwards, ev_oED448_okp_edwards⟩ := exa_v hc6
  have FL_oED448_okp_edwards : Fld s s.heap oED448_okp "com/example/whorl/whorl/Curve$Okp" "edwards" "Lcom/example/whorl/whorl/Curve$Edwards;" (.ref oED448_okp_edwards) := Fld.start ((fld_at ev_oED448_okp).symm.trans ev_oED448_okp_edwards)
  have EX_oED448_okp_edwards : Exa s s.heap oED448_okp_edwards "com/example/whorl/whorl/Curve$Edwards" := Exa.start ev_oED448_okp_edwards hc6
  obtain ⟨oED25519, ev_oED25519⟩ := exa_v hc7
  have ST_ED25519 : Sta s s.heap "com/example/whorl/whorl/Curve" "ED25519" "Lcom/example/whorl/whorl/Curve;" (.ref oED25519) := Sta.start ev_oED25519 (Or.inr ⟨(hw _ (List.mem_of_getElem? (i := 1) rfl)), (hw _ (List.mem_of_getElem? (i := 18) rfl))⟩)
  have EX_oED25519 : Exa s s.heap oED25519 "com/example/whorl/whorl/Curve" := Exa.start ev_oED25519 hc7
  obtain ⟨oED25519_okp, ev_oED25519_okp⟩ := exa_v hc8
  have FL_oED25519_okp : Fld s s.heap oED25519 "com/example/whorl/whorl/Curve" "okp" "Lcom/example/whorl/whorl/Curve$Okp;" (.ref oED25519_okp) := Fld.start ((fld_at ev_oED25519).symm.trans ev_oED25519_okp)
  have EX_oED25519_okp : Exa s s.heap oED25519_okp "com/example/whorl/whorl/Curve$Okp" := Exa.start ev_oED25519_okp hc8
  obtain ⟨oED25519_okp_edwards, ev_oED25519_okp_edwards⟩ := exa_v hc9
  have FL_oED25519_okp_edwards : Fld s s.heap oED25519_okp "com/example/whorl/whorl/Curve$Okp" "edwards" "Lcom/example/whorl/whorl/Curve$Edwards;" (.ref oED25519_okp_edwards) := Fld.start ((fld_at ev_oED25519_okp).symm.trans ev_oED25519_okp_edwards)
  have EX_oED25519_okp_edwards : Exa s s.heap oED25519_okp_edwards "com/example/whorl/whorl/Curve$Edwards" := Exa.start ev_oED25519_okp_edwards hc9
  obtain ⟨oX448, ev_oX448⟩ := exa_v hc10
  have ST_X448 : Sta s s.heap "com/example/whorl/whorl/Curve" "X448" "Lcom/example/whorl/whorl/Curve;" (.ref oX448) := Sta.start ev_oX448 (Or.inr ⟨(hw _ (List.mem_of_getElem? (i := 1) rfl)), (hw _ (List.mem_of_getElem? (i := 20) rfl))⟩)
  have EX_oX448 : Exa s s.heap oX448 "com/example/whorl/whorl/Curve" := Exa.start ev_oX448 hc10
  obtain ⟨oX448_okp, ev_oX448_okp⟩ := exa_v hc11
  have FL_oX448_okp : Fld s s.heap oX448 "com/example/whorl/whorl/Curve" "okp" "Lcom/example/whorl/whorl/Curve$Okp;" (.ref oX448_okp) := Fld.start ((fld_at ev_oX448).symm.trans ev_oX448_okp)
  have EX_oX448_okp : Exa s s.heap oX448_okp "com/example/whorl/whorl/Curve$Okp" := Exa.start ev_oX448_okp hc11
  have evn3 := null_v hc12
  have FL_oX448_okp_edwards : Fld s s.heap oX448_okp "com/example/whorl/whorl/Curve$Okp" "edwards" "Lcom/example/whorl/whorl/Curve$Edwards;" .null := Fld.start ((fld_at ev_oX448_okp).symm.trans evn3)
  have evn4 := own_eqI hc13
  have FL_oX448_okp_coordinateBits : Fld s s.heap oX448_okp "com/example/whorl/whorl/Curve$Okp" "coordinateBits" "I" (.int (255 : Int32)) := Fld.start ((fld_at ev_oX448_okp).symm.trans evn4)
  have evn5 := own_eqI hc14
  have FL_oED448_okp_coordinateBits : Fld s s.heap oED448_okp "com/example/whorl/whorl/Curve$Okp" "coordinateBits" "I" (.int (127 : Int32)) := Fld.start ((fld_at ev_oED448_okp).symm.trans evn5)
  have evn6 := own_eqI hcr14
  have FL_oED25519_okp_coordinateBits : Fld s s.heap oED25519_okp "com/example/whorl/whorl/Curve$Okp" "coordinateBits" "I" (.int (127 : Int32)) := Fld.start ((fld_at ev_oED25519_okp).symm.trans evn6)
  obtain ⟨n, o, h1, h2, h3, _, L, rfl, ⟨rfl, N⟩, hq⟩ := rm0 l s _ hw tables_1 i0 i1 i2 i3 oX25519 oX25519_okp oED448 oED448_okp oED448_okp_edwards oED25519 oED25519_okp oED25519_okp_edwards oX448 oX448_okp s.heap s.heap.size (Nat.le_refl _) ST_X25519 EX_oX25519 FL_oX25519_okp EX_oX25519_okp FL_oX25519_okp_edwards FL_oX25519_okp_coordinateBits ST_ED448 EX_oED448 FL_oED448_okp EX_oED448_okp FL_oED448_okp_edwards EX_oED448_okp_edwards ST_ED25519 EX_oED25519 FL_oED25519_okp EX_oED25519_okp FL_oED25519_okp_edwards EX_oED25519_okp_edwards ST_X448 EX_oX448 FL_oX448_okp EX_oX448_okp FL_oX448_okp_edwards FL_oX448_okp_coordinateBits FL_oED448_okp_coordinateBits FL_oED25519_okp_coordinateBits p e ha hc hk s m _ below hf ((Spec.applies_iff_loose hf).mp happ).1 ⟨rfl, State.Warmed39.refl s, rfl⟩ trivial
  refine ⟨n, _, h1, h2, h3, hpost _ _ _ _ _ _ ⟨Cond.after_iff.mpr rfl, Cond.after_iff.mpr (eq_i res_at (Term.int_eval (1)) rfl), trivial⟩ ⟨hq.1, hq.2.1, (hq.2.2.sift fun y hy => Or.inr (N y hy)).mono (by decide) (by decide)⟩⟩
theorem main_1_1 : Claimed_1_1 := comes_1 fun _ _ _ _ _ _ h hF => ⟨h.1, hF⟩
theorem main_1_2 : Claimed_1_2 := comes_1 fun _ _ _ _ _ _ h hF => ⟨h.2.1, hF⟩
end Jvm.Pilot.@@N@@
namespace Jvm.Pilot.@@N@@
open Jvm Jvm.ClassFile Sem Op Lib Jvm.Free Jvm.Stand Jvm.Pilot.@@N@@.Jvm.D
/-! MADE BY PROGRAM (witnessworld.py) out of the Statement's table words and the real class files: 14 classes; the members and pool entries that the words name. The judged class is class 1, her method 1. -/
namespace start1
open Jvm.ClassFile
def u (s : String) : CpInfo := .utf8 (stringToUtf16 s)
/-- a pool by its gaps: so many unusable entries, then the entry; so many at the end -/
def gap : Nat → List CpInfo → List CpInfo
  | 0, r => r
  | n + 1, r => .unusable :: gap n r
def poolList (es : List (Nat × CpInfo)) (last : Nat) : List CpInfo := es.foldr (fun e r => gap e.1 (e.2 :: r)) (gap last [])
def pool (es : List (Nat × CpInfo)) (last : Nat) : Array CpInfo := ⟨poolList es last⟩
def fileOf (pool : Array CpInfo) (this : Nat) (attrs : Array Attribute := #[]) (ms : Array MethodInfo := #[]) (fl : Nat := 33) (sup : Nat := 0) (ifs : Array Nat := #[]) (fds : Array FieldInfo := #[]) : ClassFile where
  minorVersion := 0
  majorVersion := 65
  constantPool := pool
  accessFlags := fl
  thisClass := this
  superClass := sup
  interfaces := ifs
  fields := fds
  methods := ms
  attributes := attrs
def plain (name : String) (sup : Option ClassId) : Class where
  name := name
  kind := .ordinary
  loader := none
  accessFlags := 33
  super := sup
  interfaces := #[]
  cf := none
  fields := #[]
  methods := #[]
  instanceTypes := #[]
  staticTypes := #[]
  resolved := #[]
  callSites := []
  init := .initialized
  statics := none
  mirror := none

def pool0 : Array CpInfo := pool [(5, u "<init>"), (0, u "()V"), (1, .class_ 10), (1, u "java/lang/Object")] 113

def k0m0 : Method := { name := "<init>", desc := "()V", sig := { parameters := [], returnType := none }, accessFlags := 1, code := none }
/-- java/lang/Object -/
def k0 : Class := { plain "java/lang/Object" none with
  accessFlags := 33
  interfaces := #[]
  cf := some (fileOf pool0 8 #[] #[{ accessFlags := 1, nameIndex := 5, descriptorIndex := 6, attributes := #[] }] 33 0 #[] #[])
  fields := #[]
  methods := #[k0m0]
  instanceTypes := #[]
  staticTypes := #[]
  resolved := Array.replicate 124 none
  statics := none }

def pool1 : Array CpInfo := pool [(2, .class_ 4), (1, u "java/lang/Object"), (0, u "<init>"), (0, u "()V"), (0, .fieldref 8 9), (0, .class_ 10), (0, .nameAndType 11 12), (0, u "com/example/whorl/whorl/Curve"), (0, u "X25519"), (0, u "Lcom/example/whorl/whorl/Curve;"), (0, .fieldref 8 14), (0, .nameAndType 15 12), (0, u "X448"), (0, .fieldref 8 17), (0, .nameAndType 18 12), (0, u "ED25519"), (0, .fieldref 8 20), (0, .nameAndType 21 12), (0, u "ED448"), (0, .methodref 8 23), (0, .nameAndType 24 25), (0, u "setsIgnoredBit"), (0, u "([B)Z"), (0, .class_ 27), (0, u "com/example/whorl/whorl/CurveSetsIgnoredBitPinLaw"), (2, u "law"), (0, u "(IIII)Z")] 5

def k1m0 : Method := { name := "<init>", desc := "()V", sig := { parameters := [], returnType := none }, accessFlags := 2, code := none }
def k1c1 : Code := { maxStack := 3, maxLocals := 9, code := code, exceptionTable := #[], attributes := #[] }
def k1m1 : Method := { name := "law", desc := "(IIII)Z", sig := { parameters := [.int, .int, .int, .int], returnType := some .boolean }, accessFlags := 9, code := some k1c1 }
/-- com/example/whorl/whorl/CurveSetsIgnoredBitPinLaw -/
def k1 : Class := { plain "com/example/whorl/whorl/CurveSetsIgnoredBitPinLaw" (some 0) with
  accessFlags := 49
  interfaces := #[]
  cf := some (fileOf pool1 26 #[] #[{ accessFlags := 2, nameIndex := 5, descriptorIndex := 6, attributes := #[] }, { accessFlags := 9, nameIndex := 30, descriptorIndex := 31, attributes := #[] }] 49 2 #[] #[])
  fields := #[]
  methods := #[k1m0, k1m1]
  instanceTypes := #[]
  staticTypes := #[]
  resolved := Array.replicate 37 none
  statics := none }

def pool2 : Array CpInfo := pool [(1, .class_ 2), (0, u "java/lang/constant/Constable"), (0, .class_ 4), (0, u "java/lang/Object")] 6

/-- java/lang/constant/Constable -/
def k2 : Class := { plain "java/lang/constant/Constable" (some 0) with
  accessFlags := 1537
  interfaces := #[]
  cf := some (fileOf pool2 1 #[] #[] 1537 3 #[] #[])
  fields := #[]
  methods := #[]
  instanceTypes := #[]
  staticTypes := #[]
  resolved := Array.replicate 11 none
  statics := none }

def pool3 : Array CpInfo := pool [(1, .class_ 2), (0, u "java/lang/Comparable"), (0, .class_ 4), (0, u "java/lang/Object")] 7

/-- java/lang/Comparable -/
def k3 : Class := { plain "java/lang/Comparable" (some 0) with
  accessFlags := 1537
  interfaces := #[]
  cf := some (fileOf pool3 1 #[] #[] 1537 3 #[] #[])
  fields := #[]
  methods := #[]
  instanceTypes := #[]
  staticTypes := #[]
  resolved := Array.replicate 12 none
  statics := none }

def pool4 : Array CpInfo := pool [(1, .class_ 2), (0, u "java/io/Serializable"), (0, .class_ 4), (0, u "java/lang/Object")] 2

/-- java/io/Serializable -/
def k4 : Class := { plain "java/io/Serializable" (some 0) with
  accessFlags := 1537
  interfaces := #[]
  cf := some (fileOf pool4 1 #[] #[] 1537 3 #[] #[])
  fields := #[]
  methods := #[]
  instanceTypes := #[]
  staticTypes := #[]
  resolved := Array.replicate 7 none
  statics := none }

def pool5 : Array CpInfo := pool [(2, .class_ 4), (1, u "java/lang/Enum"), (0, u "name"), (0, u "Ljava/lang/String;"), (2, u "ordinal"), (0, u "I"), (1, .class_ 14), (1, u "java/lang/Object"), (4, u "hash"), (86, .class_ 108), (1, u "java/lang/Enum$EnumDesc"), (2, .class_ 112), (0, u "java/lang/constant/Constable"), (0, .class_ 114), (0, u "java/lang/Comparable"), (0, .class_ 116), (0, u "java/io/Serializable")] 87

/-- java/lang/Enum -/
def k5 : Class := { plain "java/lang/Enum" (some 0) with
  accessFlags := 1057
  interfaces := #[2, 3, 4]
  cf := some (fileOf pool5 2 #[.nestMembers #[106]] #[] 1057 12 #[111, 113, 115] #[{ accessFlags := 18, nameIndex := 5, descriptorIndex := 6, attributes := #[] }, { accessFlags := 18, nameIndex := 9, descriptorIndex := 10, attributes := #[] }, { accessFlags := 2, nameIndex := 19, descriptorIndex := 10, attributes := #[] }])
  fields := #[{ name := "name", type := (.object "java/lang/String"), accessFlags := 18, slot := 0, constantValue := 0 }, { name := "ordinal", type := .int, accessFlags := 18, slot := 1, constantValue := 0 }, { name := "hash", type := .int, accessFlags := 2, slot := 2, constantValue := 0 }]
  methods := #[]
  instanceTypes := #[(.object "java/lang/String"), .int, .int]
  staticTypes := #[]
  resolved := Array.replicate 204 none
  statics := none }

def pool6 : Array CpInfo := pool [(1, .class_ 2), (0, u "com/example/whorl/whorl/Curve"), (2, u "P_256"), (0, u "Lcom/example/whorl/whorl/Curve;"), (2, u "P_384"), (2, u "P_521"), (2, u "X25519"), (2, u "X448"), (2, u "ED25519"), (2, u "ED448"), (2, u "$VALUES"), (0, u "[Lcom/example/whorl/whorl/Curve;"), (6, .class_ 37), (1, u "java/lang/Enum"), (8, u "crv"), (0, u "I"), (2, u "jwkName"), (0, u "Ljava/lang/String;"), (2, u "keyType"), (0, u "Lcom/example/whorl/whorl/CoseKeyType;"), (2, u "octets"), (2, u "weierstrass"), (0, u "Lcom/example/whorl/whorl/Curve$Weierstrass;"), (0, .fieldref 1 64), (0, .nameAndType 65 66), (0, u "okp"), (0, u "Lcom/example/whorl/whorl/Curve$Okp;"), (6, .class_ 74), (0, u "com/example/whorl/whorl/Curve$Weierstrass"), (27, u "ALL"), (21, .fieldref 125 126), (0, .class_ 127), (0, .nameAndType 128 129), (0, u "com/example/whorl/whorl/Curve$Okp"), (0, u "edwards"), (0, u "Lcom/example/whorl/whorl/Curve$Edwards;"), (14, .class_ 146), (1, u "com/example/whorl/whorl/Curve$Edwards"), (1, u "([B)Z"), (0, .fieldref 125 150), (0, .nameAndType 151 47), (0, u "coordinateBits"), (146, u "setsIgnoredBit")] 22

def k6c0 : Code := { maxStack := 3, maxLocals := 2, code := prog_12_method_13_code, exceptionTable := #[], attributes := #[] }
def k6m0 : Method := { name := "setsIgnoredBit", desc := "([B)Z", sig := { parameters := [(.array .byte)], returnType := some .boolean }, accessFlags := 0, code := some k6c0 }
/-- com/example/whorl/whorl/Curve -/
def k6 : Class := { plain "com/example/whorl/whorl/Curve" (some 5) with
  accessFlags := 16432
  interfaces := #[]
  cf := some (fileOf pool6 1 #[.nestMembers #[144, 125, 73]] #[{ accessFlags := 0, nameIndex := 298, descriptorIndex := 148, attributes := #[] }] 16432 35 #[] #[{ accessFlags := 16409, nameIndex := 5, descriptorIndex := 6, attributes := #[] }, { accessFlags := 16409, nameIndex := 9, descriptorIndex := 6, attributes := #[] }, { accessFlags := 16409, nameIndex := 12, descriptorIndex := 6, attributes := #[] }, { accessFlags := 16409, nameIndex := 15, descriptorIndex := 6, attributes := #[] }, { accessFlags := 16409, nameIndex := 18, descriptorIndex := 6, attributes := #[] }, { accessFlags := 16409, nameIndex := 21, descriptorIndex := 6, attributes := #[] }, { accessFlags := 16409, nameIndex := 24, descriptorIndex := 6, attributes := #[] }, { accessFlags := 26, nameIndex := 102, descriptorIndex := 28, attributes := #[] }, { accessFlags := 16, nameIndex := 46, descriptorIndex := 47, attributes := #[] }, { accessFlags := 16, nameIndex := 50, descriptorIndex := 51, attributes := #[] }, { accessFlags := 16, nameIndex := 54, descriptorIndex := 55, attributes := #[] }, { accessFlags := 16, nameIndex := 58, descriptorIndex := 47, attributes := #[] }, { accessFlags := 18, nameIndex := 61, descriptorIndex := 62, attributes := #[] }, { accessFlags := 18, nameIndex := 65, descriptorIndex := 66, attributes := #[] }, { accessFlags := 4122, nameIndex := 27, descriptorIndex := 28, attributes := #[] }])
  fields := #[{ name := "P_256", type := (.object "com/example/whorl/whorl/Curve"), accessFlags := 16409, slot := 0, constantValue := 0 }, { name := "P_384", type := (.object "com/example/whorl/whorl/Curve"), accessFlags := 16409, slot := 1, constantValue := 0 }, { name := "P_521", type := (.object "com/example/whorl/whorl/Curve"), accessFlags := 16409, slot := 2, constantValue := 0 }, { name := "X25519", type := (.object "com/example/whorl/whorl/Curve"), accessFlags := 16409, slot := 3, constantValue := 0 }, { name := "X448", type := (.object "com/example/whorl/whorl/Curve"), accessFlags := 16409, slot := 4, constantValue := 0 }, { name := "ED25519", type := (.object "com/example/whorl/whorl/Curve"), accessFlags := 16409, slot := 5, constantValue := 0 }, { name := "ED448", type := (.object "com/example/whorl/whorl/Curve"), accessFlags := 16409, slot := 6, constantValue := 0 }, { name := "ALL", type := (.array (.object "com/example/whorl/whorl/Curve")), accessFlags := 26, slot := 7, constantValue := 0 }, { name := "crv", type := .int, accessFlags := 16, slot := 3, constantValue := 0 }, { name := "jwkName", type := (.object "java/lang/String"), accessFlags := 16, slot := 4, constantValue := 0 }, { name := "keyType", type := (.object "com/example/whorl/whorl/CoseKeyType"), accessFlags := 16, slot := 5, constantValue := 0 }, { name := "octets", type := .int, accessFlags := 16, slot := 6, constantValue := 0 }, { name := "weierstrass", type := (.object "com/example/whorl/whorl/Curve$Weierstrass"), accessFlags := 18, slot := 7, constantValue := 0 }, { name := "okp", type := (.object "com/example/whorl/whorl/Curve$Okp"), accessFlags := 18, slot := 8, constantValue := 0 }, { name := "$VALUES", type := (.array (.object "com/example/whorl/whorl/Curve")), accessFlags := 4122, slot := 8, constantValue := 0 }]
  methods := #[k6m0]
  instanceTypes := #[(.object "java/lang/String"), .int, .int, .int, (.object "java/lang/String"), (.object "com/example/whorl/whorl/CoseKeyType"), .int, (.object "com/example/whorl/whorl/Curve$Weierstrass"), (.object "com/example/whorl/whorl/Curve$Okp")]
  staticTypes := #[(.object "com/example/whorl/whorl/Curve"), (.object "com/example/whorl/whorl/Curve"), (.object "com/example/whorl/whorl/Curve"), (.object "com/example/whorl/whorl/Curve"), (.object "com/example/whorl/whorl/Curve"), (.object "com/example/whorl/whorl/Curve"), (.object "com/example/whorl/whorl/Curve"), (.array (.object "com/example/whorl/whorl/Curve")), (.array (.object "com/example/whorl/whorl/Curve"))]
  resolved := Array.replicate 124 none ++ #[some (.field 7 2)] ++ Array.replicate 24 none ++ #[some (.field 7 4)] ++ Array.replicate 171 none
  statics := some 0 }

def pool7 : Array CpInfo := pool [(2, .class_ 4), (1, u "java/lang/Object"), (3, .class_ 10), (1, u "com/example/whorl/whorl/Curve$Okp"), (0, u "edwards"), (0, u "Lcom/example/whorl/whorl/Curve$Edwards;"), (2, u "coordinate"), (0, u "Ljava/lang/String;"), (8, u "coordinateBits"), (0, u "I"), (6, u "prime"), (0, u "[B"), (3, u "Ljava/math/BigInteger;"), (2, u "one"), (6, u "primeLessOne"), (2, u "decoding"), (57, u "P25519"), (2, u "P448"), (14, .class_ 128), (0, u "com/example/whorl/whorl/Curve")] 17

/-- com/example/whorl/whorl/Curve$Okp -/
def k7 : Class := { plain "com/example/whorl/whorl/Curve$Okp" (some 0) with
  accessFlags := 48
  interfaces := #[]
  cf := some (fileOf pool7 8 #[.nestHost 127] #[] 48 2 #[] #[{ accessFlags := 24, nameIndex := 109, descriptorIndex := 38, attributes := #[] }, { accessFlags := 24, nameIndex := 112, descriptorIndex := 38, attributes := #[] }, { accessFlags := 18, nameIndex := 11, descriptorIndex := 12, attributes := #[] }, { accessFlags := 18, nameIndex := 15, descriptorIndex := 16, attributes := #[] }, { accessFlags := 18, nameIndex := 25, descriptorIndex := 26, attributes := #[] }, { accessFlags := 18, nameIndex := 33, descriptorIndex := 34, attributes := #[] }, { accessFlags := 18, nameIndex := 41, descriptorIndex := 34, attributes := #[] }, { accessFlags := 18, nameIndex := 48, descriptorIndex := 34, attributes := #[] }, { accessFlags := 18, nameIndex := 51, descriptorIndex := 16, attributes := #[] }])
  fields := #[{ name := "P25519", type := (.object "java/math/BigInteger"), accessFlags := 24, slot := 0, constantValue := 0 }, { name := "P448", type := (.object "java/math/BigInteger"), accessFlags := 24, slot := 1, constantValue := 0 }, { name := "edwards", type := (.object "com/example/whorl/whorl/Curve$Edwards"), accessFlags := 18, slot := 0, constantValue := 0 }, { name := "coordinate", type := (.object "java/lang/String"), accessFlags := 18, slot := 1, constantValue := 0 }, { name := "coordinateBits", type := .int, accessFlags := 18, slot := 2, constantValue := 0 }, { name := "prime", type := (.array .byte), accessFlags := 18, slot := 3, constantValue := 0 }, { name := "one", type := (.array .byte), accessFlags := 18, slot := 4, constantValue := 0 }, { name := "primeLessOne", type := (.array .byte), accessFlags := 18, slot := 5, constantValue := 0 }, { name := "decoding", type := (.object "java/lang/String"), accessFlags := 18, slot := 6, constantValue := 0 }]
  methods := #[]
  instanceTypes := #[(.object "com/example/whorl/whorl/Curve$Edwards"), (.object "java/lang/String"), .int, (.array .byte), (.array .byte), (.array .byte), (.object "java/lang/String")]
  staticTypes := #[(.object "java/math/BigInteger"), (.object "java/math/BigInteger")]
  resolved := Array.replicate 146 none
  statics := none }

def pool8 : Array CpInfo := pool [(2, .class_ 4), (1, u "java/lang/Object"), (8, .class_ 15), (1, u "com/example/whorl/whorl/Curve$Edwards"), (0, u "field"), (0, u "Lcom/example/whorl/whorl/PrimeField;"), (8, u "yOctets"), (0, u "I"), (2, u "yTopBits"), (6, u "d"), (0, u "[I"), (10, u "minusA"), (9, u "minusOne"), (42, .class_ 103), (0, u "com/example/whorl/whorl/Curve")] 16

/-- com/example/whorl/whorl/Curve$Edwards -/
def k8 : Class := { plain "com/example/whorl/whorl/Curve$Edwards" (some 0) with
  accessFlags := 48
  interfaces := #[]
  cf := some (fileOf pool8 13 #[.nestHost 102] #[] 48 2 #[] #[{ accessFlags := 18, nameIndex := 16, descriptorIndex := 17, attributes := #[] }, { accessFlags := 18, nameIndex := 26, descriptorIndex := 27, attributes := #[] }, { accessFlags := 18, nameIndex := 30, descriptorIndex := 27, attributes := #[] }, { accessFlags := 18, nameIndex := 37, descriptorIndex := 38, attributes := #[] }, { accessFlags := 18, nameIndex := 49, descriptorIndex := 38, attributes := #[] }, { accessFlags := 18, nameIndex := 59, descriptorIndex := 38, attributes := #[] }])
  fields := #[{ name := "field", type := (.object "com/example/whorl/whorl/PrimeField"), accessFlags := 18, slot := 0, constantValue := 0 }, { name := "yOctets", type := .int, accessFlags := 18, slot := 1, constantValue := 0 }, { name := "yTopBits", type := .int, accessFlags := 18, slot := 2, constantValue := 0 }, { name := "d", type := (.array .int), accessFlags := 18, slot := 3, constantValue := 0 }, { name := "minusA", type := (.array .int), accessFlags := 18, slot := 4, constantValue := 0 }, { name := "minusOne", type := (.array .int), accessFlags := 18, slot := 5, constantValue := 0 }]
  methods := #[]
  instanceTypes := #[(.object "com/example/whorl/whorl/PrimeField"), .int, .int, (.array .int), (.array .int), (.array .int)]
  staticTypes := #[]
  resolved := Array.replicate 120 none
  statics := none }

def pool9 : Array CpInfo := pool [(1, u "java/lang/Cloneable"), (0, .class_ 1), (0, u "java/lang/Object"), (0, .class_ 3)] 3

/-- java/lang/Cloneable -/
def k9 : Class := { plain "java/lang/Cloneable" (some 0) with
  accessFlags := 1537
  interfaces := #[]
  cf := some (fileOf pool9 2 #[] #[] 1537 4 #[] #[])
  fields := #[]
  methods := #[]
  instanceTypes := #[]
  staticTypes := #[]
  resolved := Array.replicate 8 none
  statics := none }

/-- the primitive byte -/
def k10 : Class := { plain "byte" none with kind := .primitive 'B', accessFlags := 0x411 }
/-- [B -/
def k11 : Class := { plain "[B" (some 0) with kind := .array 10 .byte, interfaces := #[9, 4], accessFlags := 1041 }

/-- the primitive int -/
def k12 : Class := { plain "int" none with kind := .primitive 'I', accessFlags := 0x411 }
/-- [I -/
def k13 : Class := { plain "[I" (some 0) with kind := .array 12 .int, interfaces := #[9, 4], accessFlags := 1041 }

def heap : Heap := #[{ cls := 6, slots := #[.null, .null, .null, .ref 6, .ref 7, .ref 8, .ref 9, .null, .null], vm := .statics 6 },
  { cls := 7, slots := #[.null, .null, .int 127, .null, .null, .null, .null], vm := .none },
  { cls := 7, slots := #[.null, .null, .int 255, .null, .null, .null, .null], vm := .none },
  { cls := 8, slots := #[.null, .int 32, .int 127, .null, .null, .null], vm := .none },
  { cls := 7, slots := #[.ref 3, .null, .int 127, .null, .null, .null, .null], vm := .none },
  { cls := 7, slots := #[.ref 3, .null, .int 127, .null, .null, .null, .null], vm := .none },
  { cls := 6, slots := #[.null, .int 3, .int 0, .int 4, .null, .null, .int 32, .null, .ref 1], vm := .none },
  { cls := 6, slots := #[.null, .int 4, .int 0, .int 5, .null, .null, .int 56, .null, .ref 2], vm := .none },
  { cls := 6, slots := #[.null, .int 5, .int 0, .int 6, .null, .null, .int 32, .null, .ref 4], vm := .none },
  { cls := 6, slots := #[.null, .int 6, .int 0, .int 7, .null, .null, .int 57, .null, .ref 5], vm := .none }]
def classes : Array Class := #[k0, k1, k2, k3, k4, k5, k6, k7, k8, k9, k10, k11, k12, k13]
def interned : List (Array UInt16 × Addr) := []
def slotsUsed : Nat := 79
def theMethod : MethodId := ⟨1, 1⟩
def args0 : Array Value := #[.int 1, .int 2, .int 3, .int 4]
def aboutOver (below : List Frame) : State where
  vm := { classes := classes, interned := interned.toArray }
  heap := heap
  slotsUsed := slotsUsed
  threads := #[{ frames := .invoking theMethod args0 :: below }]
def below0 : List Frame := [.native { method := ⟨0, 0⟩, args := #[] }]
def about1 : State := aboutOver below0
def p0 : Program := .bare "" "" ""
def e0 : Env := launch0.env 0 0 0
theorem w_frames : about1.frames = Frame.invoking theMethod args0 :: below0 := rfl
set_option maxRecDepth 65536 in
theorem w_args : argsFit about1.vm theMethod args0 = true := by decide +kernel
set_option maxRecDepth 65536 in
theorem w_heap : heapFits about1 = true := by decide +kernel
set_option maxRecDepth 65536 in
theorem w_runnable : about1.curStatus? = some .runnable := by decide +kernel
set_option maxRecDepth 65536 in
theorem w_alone : about1.alone = true := by decide +kernel
set_option maxRecDepth 65536 in
theorem w_named : about1.methodNamed? x = some theMethod := by decide +kernel
set_option maxRecDepth 65536 in
theorem w_hears : about1.hears theMethod below0 = true := by decide +kernel
set_option maxRecDepth 65536 in
theorem w_ripe : about1.ripe theMethod args0 below0 = true := by decide +kernel
theorem w_running : about1.status = .running := rfl
set_option maxRecDepth 65536 in
theorem w_room : about1.hasRoom e0.platform room_1 = true :=
  launch0.hasRoom_least _ room_1 (by decide +kernel) (by decide +kernel) (by decide +kernel) (by decide +kernel) (by decide +kernel) (by decide +kernel)
theorem allAtoms_all (ts : List Jvm.Cond) (a : Array Jvm.Value) (st : Jvm.State) : (allAtoms ts).before a st = ts.all (fun c => c.before a st) := by
  induction ts with
  | nil => rfl
  | cons c t ih =>
    show (Jvm.Cond.and c (allAtoms t)).before a st = _
    rw [Jvm.Cond.before_and, ih, List.all_cons]
def words1 : List Jvm.Cond := Jvm.Cond.code x code maxLocals ret :: tables_1
/-- a 'code' word, met by the world's own term for the bytes: nothing is compared byte by byte -/
theorem code_word {y : MethodName} {bytes : ByteArray} {mx : Nat} {rt : Option FieldType} {a : Array Value} {s : State} {m : MethodId} {meth : Method} {c : Code} (h1 : s.methodNamed? y = some m) (h2 : s.vm.method? m = some meth) (h3 : meth.code = some c) (h4 : c.code = bytes)
    (h5 : (c.maxLocals == mx && c.exceptionTable.isEmpty && decide (c.maxStack ≤ mostOperands) && decide (meth.sig.returnType = rt) && !meth.locks && decide (parseMethodDescriptor y.desc = some meth.sig)) = true) : (Jvm.Cond.code y bytes mx rt).before a s = true := by
  simp only [Bool.and_eq_true, beq_iff_eq, Bool.not_eq_true', decide_eq_true_eq] at h5
  obtain ⟨⟨⟨⟨⟨g1, g2⟩, g3⟩, g4⟩, g5⟩, g6⟩ := h5
  simp [Cond.before, Cond.holds, Cond.value, h1, h2, h3, h4, g1, g2, g3, g4, g5, g6]
def isCode : Jvm.Cond → Bool
  | .code _ _ _ _ => true
  | _ => false
theorem all_split {L : List Jvm.Cond} {P : Jvm.Cond → Bool} (h1 : L.all (fun c => isCode c || P c) = true) (h2 : ∀ c ∈ L.filter isCode, P c = true) : L.all P = true := by
  refine List.all_eq_true.mpr fun c hc => ?_
  have h := List.all_eq_true.mp h1 c hc
  rcases Bool.eq_false_or_eq_true (isCode c) with hi | hi
  · exact h2 c (List.mem_filter.mpr ⟨hc, hi⟩)
  · simpa [hi] using h
set_option maxRecDepth 65536 in
theorem w_c0 : (Jvm.Cond.code x code maxLocals ret).before args0 about1 = true := code_word (m := ⟨1, 1⟩) (meth := k1m1) (c := k1c1) (by decide +kernel) rfl rfl rfl (by decide +kernel)
set_option maxRecDepth 65536 in
theorem w_c1 : (Jvm.Cond.code ({ cls := "com/example/whorl/whorl/Curve", name := "setsIgnoredBit", desc := "([B)Z" } : Jvm.MethodName) prog_12_method_13_code (2 : Nat) (Option.some Jvm.ClassFile.FieldType.boolean)).before args0 about1 = true := code_word (m := ⟨6, 0⟩) (meth := k6m0) (c := k6c0) (by decide +kernel) rfl rfl rfl (by decide +kernel)
def codes1 : List Jvm.Cond := [Jvm.Cond.code x code maxLocals ret, Jvm.Cond.code ({ cls := "com/example/whorl/whorl/Curve", name := "setsIgnoredBit", desc := "([B)Z" } : Jvm.MethodName) prog_12_method_13_code (2 : Nat) (Option.some Jvm.ClassFile.FieldType.boolean)]
set_option maxRecDepth 65536 in
theorem codes_eq : words1.filter isCode = codes1 := rfl
theorem w_codes : ∀ c ∈ words1.filter isCode, c.before args0 about1 = true := by
  rw [codes_eq]
  intro c hc
  simp only [codes1, List.mem_cons, List.not_mem_nil, or_false] at hc
  rcases hc with rfl | rfl
  · exact w_c0
  · exact w_c1
set_option maxRecDepth 65536 in
theorem w_t1 : words1.all (fun c => isCode c || c.before args0 about1) = true := by decide +kernel
theorem w_tables : (allAtoms (Jvm.Cond.code x code maxLocals ret :: tables_1)).before args0 about1 = true := by
  rw [allAtoms_all]
  show words1.all (fun c => c.before args0 about1) = true
  refine all_split ?_ w_codes
  rw [w_t1]
set_option maxRecDepth 65536 in
theorem w_case : (Jvm.Cond.and given_1 narrow_1).before args0 about1 = true := by decide +kernel
theorem w_applies : (headSpec (Jvm.Cond.code x code maxLocals ret :: tables_1) room_1).applies x e0.platform about1 = true :=
  (Spec.applies_iff w_frames).mpr ⟨w_running, w_runnable, w_alone, w_named, w_hears, w_ripe, w_room, w_tables⟩
theorem atStart : AtStart classFile x code maxLocals ret World_1 tables_1 room_1 Calls_1 rest_1 Pre_1 launch0 p0 e0 about1 theMethod args0 below0 :=
  ⟨lists_1, trivial, launch0.admits_env _ _ _, launch0.least_env, fairChoices_fair.cas, fairChoices_fair.clock, w_frames, w_args, w_heap, w_applies, trivial, trivial, w_case⟩
end start1
theorem witness_1 : WitnessClaimed_1 := ⟨start1.p0, start1.e0, start1.about1, start1.theMethod, start1.args0, start1.below0, start1.atStart⟩
end Jvm.Pilot.@@N@@
