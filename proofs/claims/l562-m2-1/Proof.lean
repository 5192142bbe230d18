import JvmDerived
import JvmDerived.Pilot.@@N@@Statement
import JvmDerived.Pilot.@@N@@Code
set_option linter.unusedVariables false
set_option linter.unusedSimpArgs false
namespace Jvm.RoadKit
open Sem ClassFile Op Lib Jvm.Stand Jvm.Free Jvm.LawKit
section New
variable {p : Program} {l : Launch} {e : Env} {R : Room} {s : State} {m : MethodId} {args : Array Value} {below : List Frame} {meth : Method} {c : Code} {T : State} {locs : List Loc} {cells slots : Nat}
theorem retI (X : Stand p l e R s m args below meth c T locs cells slots) (hx : p.tables.exec = Jvm.exec) {pc : Nat} {Ls : Array Slot} {z : Int32} {rest : List Value} (hret : meth.sig.returnType = some .int) (hd : decode c.code pc = .ok (.ireturn, 1)) {fs : List Frame}
    (hl : ∀ (f : JFrame) (acts : List Action), f.method = m → f.locked = none → f.entered = [] → (doReturn e (T.setTop f) acts (some (.int z))).1 = T.setFrames fs) : Steps p.tables e below (T.setTop (mkF m pc Ls (.int z :: rest))) (T.setFrames fs) := by
  have hm' : T.vm.method? m = some meth := X.method'
  have hn : narrow .int (.int z) = .int z := rfl
  show Steps p.tables e below (T.setTop { method := m, pc := pc, locals := Ls, stack := _ :: rest, locked := none }) _
  jvm_step X.here [X.here.top, hx, hd, hm', hret, hn]
  first | (intro acts; rw [hl _ acts rfl rfl rfl]) | rw [hl _ _ rfl rfl rfl]
  exact Steps.refl _
end New
end Jvm.RoadKit
@@BLOCK:NumsL.lean.txt@@
namespace Jvm.Pilot.@@N@@
open Jvm Jvm.ClassFile Sem Op Lib Jvm.Free Jvm.Stand Jvm.LawKit Jvm.RoadKit Bundle Jvm.Pilot.@@N@@.Jvm.D
abbrev own_S (p : Program) (e : Env) (below : List Frame) (T : State) (g : JFrame) (t : State) : Prop := Steps p.tables e below (T.setTop g) t
theorem own_ext {h h' : Heap} (K : Keep h h' []) : Ext h h' := ⟨K.1, fun a c q => K.2.1 a c q nin0⟩
theorem own_eqI {args : Array Value} {s : State} {t : Term} {n : Int32} (h : (Jvm.Cond.eq t (.int n)).value args s none s [] = some true) : t.eval args s none [] s = some (.int n) := by
  obtain ⟨x, y, h1, h2, h3, h4⟩ := cmp_v (Or.inl h)
  cases (Term.int_eval n (args := args) (s := s) (first := s) (o := none) (idx := [])).symm.trans h2
  obtain ⟨z, rfl⟩ : ∃ z, x = .int z := h4
  rw [h1]
  simp [Cond.value, h1, Term.eval] at h
  rw [h]
theorem own_eqJ {args : Array Value} {s : State} {t : Term} {n : Int64} (h : (Jvm.Cond.eq t (.long n)).value args s none s [] = some true) : t.eval args s none [] s = some (.long n) := by
  obtain ⟨x, y, h1, h2, h3, h4⟩ := cmp_v (Or.inl h)
  cases (long_at n (args := args) (s := s) (first := s) (o := none) (idx := [])).symm.trans h2
  obtain ⟨z, rfl⟩ : ∃ z, x = .long z := h4
  rw [h1]
  simp [Cond.value, h1, Term.eval] at h
  rw [h]
theorem own_eqR {args : Array Value} {s : State} {t u : Term} {x : Addr} (hu : u.eval args s none [] s = some (.ref x)) (h : (Jvm.Cond.eq t u).value args s none s [] = some true) : t.eval args s none [] s = some (.ref x) := by
  obtain ⟨z, y, h1, h2, h3, h4⟩ := cmp_v (Or.inl h)
  cases hu.symm.trans h2
  have hz : z.isRef = true := h4.2
  have e := gotT (eq_R h1 hu hz rfl) h
  rw [h1, e]

theorem own_len {args : Array Value} {s : State} {t : Term} {x : Addr} {cl : Cell} {z : Int32} (ht : t.eval args s none [] s = some (.ref x)) (ha : s.arrayAt? x = some cl) (h : (Term.length t).eval args s none [] s = some (.int z)) : cl.slots.size < 2 ^ 31 ∧ cl.slots.size.toInt32 = z := by
  simp [Term.eval, ht, ha] at h
  exact h
theorem own_n15 (x n : Int32) (h : n = ((x &&& (2147483647 : Int32)) % (15 : Int32))) : n = (0 : Int32) ∨ n = (1 : Int32) ∨ n = (2 : Int32) ∨ n = (3 : Int32) ∨ n = (4 : Int32) ∨ n = (5 : Int32) ∨ n = (6 : Int32) ∨ n = (7 : Int32) ∨ n = (8 : Int32) ∨ n = (9 : Int32) ∨ n = (10 : Int32) ∨ n = (11 : Int32) ∨ n = (12 : Int32) ∨ n = (13 : Int32) ∨ n = (14 : Int32) := by
  have e1 : (x &&& (2147483647 : Int32)).toInt = x.toInt % 2 ^ 31 := Jvm.Kit.i32_mask x 2147483647 (k := 31) (by decide) (by decide)
  have e2 : ((x &&& (2147483647 : Int32)) % (15 : Int32)).toInt = (x &&& (2147483647 : Int32)).toInt % (15 : Int32).toInt := Jvm.Kit.i32_rem_nonneg (by omega)
  have c15 : (15 : Int32).toInt = 15 := by decide
  have k0 : (0 : Int32).toInt = 0 := by decide
  have k1 : (1 : Int32).toInt = 1 := by decide
  have k2 : (2 : Int32).toInt = 2 := by decide
  have k3 : (3 : Int32).toInt = 3 := by decide
  have k4 : (4 : Int32).toInt = 4 := by decide
  have k5 : (5 : Int32).toInt = 5 := by decide
  have k6 : (6 : Int32).toInt = 6 := by decide
  have k7 : (7 : Int32).toInt = 7 := by decide
  have k8 : (8 : Int32).toInt = 8 := by decide
  have k9 : (9 : Int32).toInt = 9 := by decide
  have k10 : (10 : Int32).toInt = 10 := by decide
  have k11 : (11 : Int32).toInt = 11 := by decide
  have k12 : (12 : Int32).toInt = 12 := by decide
  have k13 : (13 : Int32).toInt = 13 := by decide
  have k14 : (14 : Int32).toInt = 14 := by decide
  rw [c15, ← h] at e2
  simp only [← Int32.toInt_inj]
  omega
theorem d1_0 : decode prog_30_method_6_code 0 = .ok (.aload_n 0, 1) := by decide +kernel
theorem d1_1 : decode prog_30_method_6_code 1 = .ok (.getfield 71, 3) := by decide +kernel
theorem d1_4 : decode prog_30_method_6_code 4 = .ok (.iconst 4, 1) := by decide +kernel
theorem d1_5 : decode prog_30_method_6_code 5 = .ok (.ishl, 1) := by decide +kernel
theorem d1_6 : decode prog_30_method_6_code 6 = .ok (.aload_n 0, 1) := by decide +kernel
theorem d1_7 : decode prog_30_method_6_code 7 = .ok (.getfield 75, 3) := by decide +kernel
theorem d1_10 : decode prog_30_method_6_code 10 = .ok (.iconst (-1), 1) := by decide +kernel
theorem d1_11 : decode prog_30_method_6_code 11 = .ok (.if_icmp .ne 7, 3) := by decide +kernel
theorem d1_14 : decode prog_30_method_6_code 14 = .ok (.iconst 0, 1) := by decide +kernel
theorem d1_15 : decode prog_30_method_6_code 15 = .ok (.goto 7, 3) := by decide +kernel
theorem d1_18 : decode prog_30_method_6_code 18 = .ok (.aload_n 0, 1) := by decide +kernel
theorem d1_19 : decode prog_30_method_6_code 19 = .ok (.getfield 75, 3) := by decide +kernel
theorem d1_22 : decode prog_30_method_6_code 22 = .ok (.ior, 1) := by decide +kernel
theorem d1_23 : decode prog_30_method_6_code 23 = .ok (.ireturn, 1) := by decide +kernel
theorem pn_1 : plainName "com/example/headroom/headroom/io/PacketType" = true := by first | (simp [plainName, overriddenIn]; done) | decide +kernel
theorem ef_1 (m : MethodId) (r0 : Addr) : entryFrame m #[(.ref r0)] 1 = mkF m 0 #[.val (.ref r0)] [] := by first | (simp [entryFrame, mkF, argsToLocals, Value.category]; done) | rfl
def Q1 (Z : State) (r0 : Addr) (vv : Int32) (fl : Int32) (h0 : Heap) (n0 : Nat) (v : Option Value) (h : Heap) (L : List Loc) : Prop := v = some (.int (if fl = (-1 : Int32) then ((vv <<< ((4 : Int32) &&& 31)) ||| (0 : Int32)) else ((vv <<< ((4 : Int32) &&& 31)) ||| fl))) ∧ Fr n0 L ∧ h = h0
set_option maxRecDepth 65536 in
set_option maxHeartbeats 40000000 in
theorem rm1 (l : Launch) (Z : State) (a0 : Array Value) (hw : ∀ d ∈ tables_1, d.before a0 Z = true) (ws : List Jvm.Cond) (r0 : Addr) (vv : Int32) (fl : Int32) (h0 : Heap) (n0 : Nat) (Z0 : n0 ≤ h0.size) (Fv : Fld Z h0 r0 "com/example/headroom/headroom/io/PacketType" "value" "I" (.int vv)) (Ff : Fld Z h0 r0 "com/example/headroom/headroom/io/PacketType" "flags" "I" (.int fl)) :
    MetFree l (⟨"com/example/headroom/headroom/io/PacketType", "firstByte", "()I"⟩ : MethodName) (head1 (Jvm.Cond.code (⟨"com/example/headroom/headroom/io/PacketType", "firstByte", "()I"⟩ : MethodName) prog_30_method_6_code 1 (some .int) :: ws) ({ frames := 0, cells := 0, slots := 0, locals := 0 } : Room)) (fun a U => a = #[(.ref r0)] ∧ Z.Warmed39 U.vm ∧ U.heap = h0) (fun _ _ _ _ _ => True) (fun _ U o U' => ∃ v L, o = .returned v ∧ Q1 Z r0 vv fl h0 n0 v U'.heap L ∧ FrameEnd U o U' L ({ frames := 0, cells := 0, slots := 0, locals := 0 } : Room).cells ({ frames := 0, cells := 0, slots := 0, locals := 0 } : Room).slots) := by
  refine MetFree.of_bodySF (plainFor_of_name pn_1) hisR ?_
  intro p e s m args below meth c s₁ Bd hml0 hP hK
  obtain ⟨rfl, hZ, hh⟩ := hP
  have hx := Bd.exec
  have hby := Bd.bytes
  have hml : c.maxLocals = 1 := hml0
  have hown : s.vm.findClass "com/example/headroom/headroom/io/PacketType" = some m.cls := findClass_of_methodNamed Bd.named
  have hnm := (name_of_methodNamed Bd.named Bd.method).1
  have X0 : Stand p l e ({ frames := 0, cells := 0, slots := 0, locals := 0 } : Room) s m #[(.ref r0)] below meth c s₁ [] 0 0 := Stand.of_body Bd
  have e0 : s₁.heap = h0 := by rw [← hh, Bd.state]; rfl
  have N0 := Fr.nil n0
  have K0 : ∀ t, Steps p.tables e below (s₁.setTop (mkF m 0 #[.val (.ref r0)] [])) t → Steps p.tables e below (s₁.setTop (entryFrame m #[(.ref r0)] 1)) t := fun t k => castTop (ef_1 m r0) k
  generalize s₁.setTop (entryFrame m #[(.ref r0)] 1) = SE at K0 ⊢
  have K1 : ∀ t, own_S p e below s₁ (mkF m 1 #[.val (.ref r0)] [(.ref r0)]) t → Steps p.tables e below SE t := by
    intro t k
    refine K0 _ ?_
    refine XS.aloadN X0.here hx rfl (hb hby d1_0) rfl rfl ?_
    exact k
  obtain ⟨T2, X2, e2, st2⟩ := getF X0 hx hZ hown (host := "") (Or.inl (hw _ (List.mem_of_getElem? (i := 41) rfl))) Via.refl e0 Fv (g := (mkF m 1 #[.val (.ref r0)] [(.ref r0)])) rfl rfl (hb hby d1_1)
  have K2 : ∀ t, own_S p e below T2 (mkF m 4 #[.val (.ref r0)] [(.int vv)]) t → Steps p.tables e below SE t := fun t k => K1 _ (st2 _ k)
  have K3 : ∀ t, own_S p e below T2 (mkF m 7 #[.val (.ref r0)] [(.ref r0), (.int (vv <<< ((4 : Int32) &&& 31)))]) t → Steps p.tables e below SE t := by
    intro t k
    refine K2 _ ?_
    refine XS.iconst X2.here hx rfl (hb hby d1_4) ?_
    show own_S p e below T2 (mkF m 5 #[.val (.ref r0)] [(.int (4 : Int32)), (.int vv)]) _
    refine XS.ishl X2.here hx rfl (hb hby d1_5) rfl ?_
    show own_S p e below T2 (mkF m 6 #[.val (.ref r0)] [(.int (vv <<< ((4 : Int32) &&& 31)))]) _
    refine XS.aloadN X2.here hx rfl (hb hby d1_6) rfl rfl ?_
    exact k
  obtain ⟨T4, X4, e4, st4⟩ := getF X2 hx hZ hown (host := "") (Or.inl (hw _ (List.mem_of_getElem? (i := 43) rfl))) Via.refl e2 Ff (g := (mkF m 7 #[.val (.ref r0)] [(.ref r0), (.int (vv <<< ((4 : Int32) &&& 31)))])) rfl rfl (hb hby d1_7)
  have K4 : ∀ t, own_S p e below T4 (mkF m 10 #[.val (.ref r0)] [(.int fl), (.int (vv <<< ((4 : Int32) &&& 31)))]) t → Steps p.tables e below SE t := fun t k => K3 _ (st4 _ k)
  have K6 : ∀ t, own_S p e below T4 (mkF m 11 #[.val (.ref r0)] [(.int (-1 : Int32)), (.int fl), (.int (vv <<< ((4 : Int32) &&& 31)))]) t → Steps p.tables e below SE t := by
    intro t k
    refine K4 _ ?_
    refine XS.iconst X4.here hx rfl (hb hby d1_10) ?_
    exact k
  by_cases c11_5 : fl = (-1 : Int32)
  · skip
    have K7 : ∀ t, own_S p e below T4 (mkF m 23 #[.val (.ref r0)] [(.int ((vv <<< ((4 : Int32) &&& 31)) ||| (0 : Int32)))]) t → Steps p.tables e below SE t := by
      intro t k
      refine K6 _ ?_
      refine XS.icmpNo X4.here hx rfl (hb hby d1_11) rfl (XT.ii_ne_f c11_5) ?_
      show own_S p e below T4 (mkF m 14 #[.val (.ref r0)] [(.int (vv <<< ((4 : Int32) &&& 31)))]) _
      refine XS.iconst X4.here hx rfl (hb hby d1_14) ?_
      show own_S p e below T4 (mkF m 15 #[.val (.ref r0)] [(.int (0 : Int32)), (.int (vv <<< ((4 : Int32) &&& 31)))]) _
      refine XS.goto X4.here hx rfl (pc0 := 15) (pc' := 22) rfl (hb hby d1_15) (by decide) (by decide) ?_
      show own_S p e below T4 (mkF m 22 #[.val (.ref r0)] [(.int (0 : Int32)), (.int (vv <<< ((4 : Int32) &&& 31)))]) _
      refine XS.ior X4.here hx rfl (hb hby d1_22) rfl ?_
      exact k
    obtain ⟨fs, hr, hrun, hended, hW, hsame⟩ := X4.leave (v := some (.int ((vv <<< ((4 : Int32) &&& 31)) ||| (0 : Int32)))) (fun h => by rw [Bd.returns] at h; cases h)
    refine ⟨_, _, K7 _ ?_, hrun, hended, _, _, rfl, ?_, ⟨_, rfl⟩, hW, hsame.mono (by decide) (by decide)⟩
    · exact retI X4 hx Bd.returns (hb hby d1_23) hr
    · show Q1 Z r0 vv fl h0 n0 _ T4.heap _
      rw [e4]
      exact ⟨(by simp only [if_pos c11_5]), N0, rfl⟩
  · skip
    have K8 : ∀ t, own_S p e below T4 (mkF m 19 #[.val (.ref r0)] [(.ref r0), (.int (vv <<< ((4 : Int32) &&& 31)))]) t → Steps p.tables e below SE t := by
      intro t k
      refine K6 _ ?_
      refine XS.icmpYes X4.here hx rfl (pc0 := 11) (pc' := 18) rfl (hb hby d1_11) rfl (XT.ii_ne_t c11_5) (by decide) (by decide) ?_
      show own_S p e below T4 (mkF m 18 #[.val (.ref r0)] [(.int (vv <<< ((4 : Int32) &&& 31)))]) _
      refine XS.aloadN X4.here hx rfl (hb hby d1_18) rfl rfl ?_
      exact k
    obtain ⟨T9, X9, e9, st9⟩ := getF X4 hx hZ hown (host := "") (Or.inl (hw _ (List.mem_of_getElem? (i := 43) rfl))) Via.refl e4 Ff (g := (mkF m 19 #[.val (.ref r0)] [(.ref r0), (.int (vv <<< ((4 : Int32) &&& 31)))])) rfl rfl (hb hby d1_19)
    have K9 : ∀ t, own_S p e below T9 (mkF m 22 #[.val (.ref r0)] [(.int fl), (.int (vv <<< ((4 : Int32) &&& 31)))]) t → Steps p.tables e below SE t := fun t k => K8 _ (st9 _ k)
    have K10 : ∀ t, own_S p e below T9 (mkF m 23 #[.val (.ref r0)] [(.int ((vv <<< ((4 : Int32) &&& 31)) ||| fl))]) t → Steps p.tables e below SE t := by
      intro t k
      refine K9 _ ?_
      refine XS.ior X9.here hx rfl (hb hby d1_22) rfl ?_
      exact k
    obtain ⟨fs, hr, hrun, hended, hW, hsame⟩ := X9.leave (v := some (.int ((vv <<< ((4 : Int32) &&& 31)) ||| fl))) (fun h => by rw [Bd.returns] at h; cases h)
    refine ⟨_, _, K10 _ ?_, hrun, hended, _, _, rfl, ?_, ⟨_, rfl⟩, hW, hsame.mono (by decide) (by decide)⟩
    · exact retI X9 hx Bd.returns (hb hby d1_23) hr
    · show Q1 Z r0 vv fl h0 n0 _ T9.heap _
      rw [e9]
      exact ⟨(by simp only [if_neg c11_5]), N0, rfl⟩
theorem d2_0 : decode prog_30_method_5_code 0 = .ok (.getstatic 78, 3) := by decide +kernel
theorem d2_3 : decode prog_30_method_5_code 3 = .ok (.iload_n 0, 1) := by decide +kernel
theorem d2_4 : decode prog_30_method_5_code 4 = .ok (.iconst 4, 1) := by decide +kernel
theorem d2_5 : decode prog_30_method_5_code 5 = .ok (.iushr, 1) := by decide +kernel
theorem d2_6 : decode prog_30_method_5_code 6 = .ok (.aaload, 1) := by decide +kernel
theorem d2_7 : decode prog_30_method_5_code 7 = .ok (.astore_n 1, 1) := by decide +kernel
theorem d2_8 : decode prog_30_method_5_code 8 = .ok (.aload_n 1, 1) := by decide +kernel
theorem d2_9 : decode prog_30_method_5_code 9 = .ok (.ifnonnull 9, 3) := by decide +kernel
theorem d2_18 : decode prog_30_method_5_code 18 = .ok (.aload_n 1, 1) := by decide +kernel
theorem d2_19 : decode prog_30_method_5_code 19 = .ok (.getfield 75, 3) := by decide +kernel
theorem d2_22 : decode prog_30_method_5_code 22 = .ok (.iconst (-1), 1) := by decide +kernel
theorem d2_23 : decode prog_30_method_5_code 23 = .ok (.if_icmp .eq 35, 3) := by decide +kernel
theorem d2_26 : decode prog_30_method_5_code 26 = .ok (.iload_n 0, 1) := by decide +kernel
theorem d2_27 : decode prog_30_method_5_code 27 = .ok (.bipush 15, 2) := by decide +kernel
theorem d2_29 : decode prog_30_method_5_code 29 = .ok (.iand, 1) := by decide +kernel
theorem d2_30 : decode prog_30_method_5_code 30 = .ok (.aload_n 1, 1) := by decide +kernel
theorem d2_31 : decode prog_30_method_5_code 31 = .ok (.getfield 75, 3) := by decide +kernel
theorem d2_34 : decode prog_30_method_5_code 34 = .ok (.if_icmp .eq 24, 3) := by decide +kernel
theorem d2_58 : decode prog_30_method_5_code 58 = .ok (.aload_n 1, 1) := by decide +kernel
theorem d2_59 : decode prog_30_method_5_code 59 = .ok (.areturn, 1) := by decide +kernel
theorem ef_2 (m : MethodId) (p0 : Int32) : entryFrame m #[(.int p0)] 2 = mkF m 0 #[.val (.int p0), .unset] [] := by first | (simp [entryFrame, mkF, argsToLocals, Value.category]; done) | rfl
def Q2 (Z : State) (p0 : Int32) (ba : Addr) (kB : ClassId) (lv : List Value) (oi : Addr) (j : Int32) (fl : Int32) (h0 : Heap) (n0 : Nat) (v : Option Value) (h : Heap) (L : List Loc) : Prop := v = some (.ref oi) ∧ Fr n0 L ∧ h = h0
set_option maxRecDepth 65536 in
set_option maxHeartbeats 40000000 in
theorem rm2 (l : Launch) (Z : State) (a0 : Array Value) (hw : ∀ d ∈ tables_1, d.before a0 Z = true) (ws : List Jvm.Cond) (p0 : Int32) (ba : Addr) (kB : ClassId) (lv : List Value) (oi : Addr) (j : Int32) (fl : Int32) (h0 : Heap) (n0 : Nat) (Z0 : n0 ≤ h0.size) (Sb : Sta Z h0 "com/example/headroom/headroom/io/PacketType" "BY_VALUE" "[Lcom/example/headroom/headroom/io/PacketType;" (.ref ba)) (Vb : Arv Z h0 ba kB (.object "com/example/headroom/headroom/io/PacketType") (16 : Int32) lv .null) (Ff : Fld Z h0 oi "com/example/headroom/headroom/io/PacketType" "flags" "I" (.int fl)) (hj : ((p0.toUInt32 >>> ((4 : Int32) &&& 31).toUInt32).toInt32) = j) (hj0 : ¬ j < 0 ∧ j < (16 : Int32)) (hv : lv.getD j.toNatClampNeg .null = .ref oi) (hfl : fl = (-1 : Int32) ∨ (p0 &&& (15 : Int32)) = fl) :
    MetFree l (⟨"com/example/headroom/headroom/io/PacketType", "of", "(I)Lcom/example/headroom/headroom/io/PacketType;"⟩ : MethodName) (head1 (Jvm.Cond.code (⟨"com/example/headroom/headroom/io/PacketType", "of", "(I)Lcom/example/headroom/headroom/io/PacketType;"⟩ : MethodName) prog_30_method_5_code 2 (some (.object "com/example/headroom/headroom/io/PacketType")) :: ws) ({ frames := 0, cells := 0, slots := 0, locals := 0 } : Room)) (fun a U => a = #[(.int p0)] ∧ Z.Warmed39 U.vm ∧ U.heap = h0) (fun _ _ _ _ _ => True) (fun _ U o U' => ∃ v L, o = .returned v ∧ Q2 Z p0 ba kB lv oi j fl h0 n0 v U'.heap L ∧ FrameEnd U o U' L ({ frames := 0, cells := 0, slots := 0, locals := 0 } : Room).cells ({ frames := 0, cells := 0, slots := 0, locals := 0 } : Room).slots) := by
  refine MetFree.of_bodySF (plainFor_of_name pn_1) hisR ?_
  intro p e s m args below meth c s₁ Bd hml0 hP hK
  obtain ⟨rfl, hZ, hh⟩ := hP
  have hx := Bd.exec
  have hby := Bd.bytes
  have hml : c.maxLocals = 2 := hml0
  have hown : s.vm.findClass "com/example/headroom/headroom/io/PacketType" = some m.cls := findClass_of_methodNamed Bd.named
  have hnm := (name_of_methodNamed Bd.named Bd.method).1
  have X0 : Stand p l e ({ frames := 0, cells := 0, slots := 0, locals := 0 } : Room) s m #[(.int p0)] below meth c s₁ [] 0 0 := Stand.of_body Bd
  have e0 : s₁.heap = h0 := by rw [← hh, Bd.state]; rfl
  have N0 := Fr.nil n0
  have K0 : ∀ t, Steps p.tables e below (s₁.setTop (mkF m 0 #[.val (.int p0), .unset] [])) t → Steps p.tables e below (s₁.setTop (entryFrame m #[(.int p0)] 2)) t := fun t k => castTop (ef_2 m p0) k
  generalize s₁.setTop (entryFrame m #[(.int p0)] 2) = SE at K0 ⊢
  obtain ⟨T1, X1, e1, st1⟩ := getS2 X0 hx hZ hown (host := "") (Or.inl (hw _ (List.mem_of_getElem? (i := 48) rfl))) Via.refl e0 Sb (g := (mkF m 0 #[.val (.int p0), .unset] [])) rfl (hb hby d2_0)
  have K1 : ∀ t, own_S p e below T1 (mkF m 3 #[.val (.int p0), .unset] [(.ref ba)]) t → Steps p.tables e below SE t := fun t k => K0 _ (st1 _ k)
  have K2 : ∀ t, own_S p e below T1 (mkF m 6 #[.val (.int p0), .unset] [(.int ((p0.toUInt32 >>> ((4 : Int32) &&& 31).toUInt32).toInt32)), (.ref ba)]) t → Steps p.tables e below SE t := by
    intro t k
    refine K1 _ ?_
    refine XS.iloadN X1.here hx rfl (hb hby d2_3) rfl ?_
    show own_S p e below T1 (mkF m 4 #[.val (.int p0), .unset] [(.int p0), (.ref ba)]) _
    refine XS.iconst X1.here hx rfl (hb hby d2_4) ?_
    show own_S p e below T1 (mkF m 5 #[.val (.int p0), .unset] [(.int (4 : Int32)), (.int p0), (.ref ba)]) _
    refine XS.iushr X1.here hx rfl (hb hby d2_5) rfl ?_
    exact k
  rw [hj] at K2
  obtain ⟨cl1, Ar1, qk1, S1, Ng1, Hh1, Gg1⟩ := Vb
  have hin1 : ¬ (j < 0 ∨ cl1.slots.size ≤ j.toNatClampNeg) := inb_of S1 hj0
  have hat1 : cl1.slots[j.toNatClampNeg]? = some (.ref oi) := Has.at Hh1 hin1 hv
  have K3 : ∀ t, own_S p e below T1 (mkF m 19 #[.val (.int p0), .val (.ref oi)] [(.ref oi)]) t → Steps p.tables e below SE t := by
    intro t k
    refine K2 _ ?_
    refine X1.aaload hx (j := j) (v := (.ref oi)) (by rw [e1]; exact Ar1.1) (State.isArrayOf_alike hZ.alike Ar1.2.1) rfl Ar1.2.2 hin1 hat1 (g := (mkF m 6 #[.val (.int p0), .unset] [(.int j), (.ref ba)])) rfl rfl (hb hby d2_6) _ ?_
    show own_S p e below T1 (mkF m 7 #[.val (.int p0), .unset] [(.ref oi)]) _
    refine XS.astoreN X1.here hx rfl (hb hby d2_7) rfl rfl (l' := #[.val (.int p0), .val (.ref oi)]) rfl ?_
    show own_S p e below T1 (mkF m 8 #[.val (.int p0), .val (.ref oi)] []) _
    refine XS.aloadN X1.here hx rfl (hb hby d2_8) rfl rfl ?_
    show own_S p e below T1 (mkF m 9 #[.val (.int p0), .val (.ref oi)] [(.ref oi)]) _
    refine XS.ifnonnullYes X1.here hx rfl (pc0 := 9) (pc' := 18) rfl (hb hby d2_9) rfl (by decide) (by decide) ?_
    show own_S p e below T1 (mkF m 18 #[.val (.int p0), .val (.ref oi)] []) _
    refine XS.aloadN X1.here hx rfl (hb hby d2_18) rfl rfl ?_
    exact k
  obtain ⟨T4, X4, e4, st4⟩ := getF X1 hx hZ hown (host := "") (Or.inl (hw _ (List.mem_of_getElem? (i := 43) rfl))) Via.refl e1 Ff (g := (mkF m 19 #[.val (.int p0), .val (.ref oi)] [(.ref oi)])) rfl rfl (hb hby d2_19)
  have K4 : ∀ t, own_S p e below T4 (mkF m 22 #[.val (.int p0), .val (.ref oi)] [(.int fl)]) t → Steps p.tables e below SE t := fun t k => K3 _ (st4 _ k)
  have K5 : ∀ t, own_S p e below T4 (mkF m 23 #[.val (.int p0), .val (.ref oi)] [(.int (-1 : Int32)), (.int fl)]) t → Steps p.tables e below SE t := by
    intro t k
    refine K4 _ ?_
    refine XS.iconst X4.here hx rfl (hb hby d2_22) ?_
    exact k
  by_cases cq : fl = (-1 : Int32)
  · skip
    have K6 : ∀ t, own_S p e below T4 (mkF m 59 #[.val (.int p0), .val (.ref oi)] [(.ref oi)]) t → Steps p.tables e below SE t := by
      intro t k
      refine K5 _ ?_
      refine XS.icmpYes X4.here hx rfl (pc0 := 23) (pc' := 58) rfl (hb hby d2_23) rfl (XT.ii_eq_t cq) (by decide) (by decide) ?_
      show own_S p e below T4 (mkF m 58 #[.val (.int p0), .val (.ref oi)] []) _
      refine XS.aloadN X4.here hx rfl (hb hby d2_58) rfl rfl ?_
      exact k
    obtain ⟨fs, hr, hrun, hended, hW, hsame⟩ := X4.leave (v := some (.ref oi)) (fun h => by rw [Bd.returns] at h; cases h)
    refine ⟨_, _, K6 _ ?_, hrun, hended, _, _, rfl, ?_, ⟨_, rfl⟩, hW, hsame.mono (by decide) (by decide)⟩
    · show Steps p.tables e below (T4.setTop (mkF m 59 #[.val (.int p0), .val (.ref oi)] [(.ref oi)])) _
      jvm_step X4.here [X4.here.top, hx, (hb hby d2_59), X4.method', Bd.returns, Value.isRef, FieldType.isReference]
      first | (intro acts; rw [hr _ acts rfl rfl rfl]) | rw [hr _ _ rfl rfl rfl]
      exact Steps.refl _
    · show Q2 Z p0 ba kB lv oi j fl h0 n0 _ T4.heap _
      rw [e4]
      exact ⟨rfl, N0, rfl⟩
  · skip
    have K7 : ∀ t, own_S p e below T4 (mkF m 31 #[.val (.int p0), .val (.ref oi)] [(.ref oi), (.int (p0 &&& (15 : Int32)))]) t → Steps p.tables e below SE t := by
      intro t k
      refine K5 _ ?_
      refine XS.icmpNo X4.here hx rfl (hb hby d2_23) rfl (XT.ii_eq_f cq) ?_
      show own_S p e below T4 (mkF m 26 #[.val (.int p0), .val (.ref oi)] []) _
      refine XS.iloadN X4.here hx rfl (hb hby d2_26) rfl ?_
      show own_S p e below T4 (mkF m 27 #[.val (.int p0), .val (.ref oi)] [(.int p0)]) _
      refine XS.bipush X4.here hx rfl (hb hby d2_27) ?_
      show own_S p e below T4 (mkF m 29 #[.val (.int p0), .val (.ref oi)] [(.int (15 : Int32)), (.int p0)]) _
      refine XS.iand X4.here hx rfl (hb hby d2_29) rfl ?_
      show own_S p e below T4 (mkF m 30 #[.val (.int p0), .val (.ref oi)] [(.int (p0 &&& (15 : Int32)))]) _
      refine XS.aloadN X4.here hx rfl (hb hby d2_30) rfl rfl ?_
      exact k
    obtain ⟨T8, X8, e8, st8⟩ := getF X4 hx hZ hown (host := "") (Or.inl (hw _ (List.mem_of_getElem? (i := 43) rfl))) Via.refl e4 Ff (g := (mkF m 31 #[.val (.int p0), .val (.ref oi)] [(.ref oi), (.int (p0 &&& (15 : Int32)))])) rfl rfl (hb hby d2_31)
    have K8 : ∀ t, own_S p e below T8 (mkF m 34 #[.val (.int p0), .val (.ref oi)] [(.int fl), (.int (p0 &&& (15 : Int32)))]) t → Steps p.tables e below SE t := fun t k => K7 _ (st8 _ k)
    have K9 : ∀ t, own_S p e below T8 (mkF m 59 #[.val (.int p0), .val (.ref oi)] [(.ref oi)]) t → Steps p.tables e below SE t := by
      intro t k
      refine K8 _ ?_
      refine XS.icmpYes X8.here hx rfl (pc0 := 34) (pc' := 58) rfl (hb hby d2_34) rfl (XT.ii_eq_t (hfl.resolve_left cq)) (by decide) (by decide) ?_
      show own_S p e below T8 (mkF m 58 #[.val (.int p0), .val (.ref oi)] []) _
      refine XS.aloadN X8.here hx rfl (hb hby d2_58) rfl rfl ?_
      exact k
    obtain ⟨fs, hr, hrun, hended, hW, hsame⟩ := X8.leave (v := some (.ref oi)) (fun h => by rw [Bd.returns] at h; cases h)
    refine ⟨_, _, K9 _ ?_, hrun, hended, _, _, rfl, ?_, ⟨_, rfl⟩, hW, hsame.mono (by decide) (by decide)⟩
    · show Steps p.tables e below (T8.setTop (mkF m 59 #[.val (.int p0), .val (.ref oi)] [(.ref oi)])) _
      jvm_step X8.here [X8.here.top, hx, (hb hby d2_59), X8.method', Bd.returns, Value.isRef, FieldType.isReference]
      first | (intro acts; rw [hr _ acts rfl rfl rfl]) | rw [hr _ _ rfl rfl rfl]
      exact Steps.refl _
    · show Q2 Z p0 ba kB lv oi j fl h0 n0 _ T8.heap _
      rw [e8]
      exact ⟨rfl, N0, rfl⟩
theorem pn_0 : plainName "com/example/headroom/headroom/io/PacketTypeFirstBytePinLaw" = true := by first | (simp [plainName, overriddenIn]; done) | decide +kernel
theorem pd_0_0 : parseMethodDescriptor "()I" = some ⟨[], some .int⟩ := by decide +kernel
theorem pd_0_1 : parseMethodDescriptor "(I)Lcom/example/headroom/headroom/io/PacketType;" = some ⟨[.int], some (.object "com/example/headroom/headroom/io/PacketType")⟩ := by decide +kernel
theorem ef_0 (m : MethodId) (p0 : Int32) : entryFrame m #[(.int p0)] maxLocals = mkF m 0 #[.val (.int p0), .unset, .unset, .unset, .unset, .unset] [] := by first | (simp [entryFrame, mkF, argsToLocals, Value.category, maxLocals]; done) | rfl
def Q0 (Z : State) (p0 : Int32) (oCONNECT : Addr) (oCONNACK : Addr) (oPUBLISH : Addr) (oPUBACK : Addr) (oPUBREC : Addr) (oPUBREL : Addr) (oPUBCOMP : Addr) (oSUBSCRIBE : Addr) (oSUBACK : Addr) (oUNSUBSCRIBE : Addr) (oUNSUBACK : Addr) (oPINGREQ : Addr) (oPINGRESP : Addr) (oDISCONNECT : Addr) (oAUTH : Addr) (oBY : Addr) (kB : ClassId) (h0 : Heap) (n0 : Nat) (v : Option Value) (h : Heap) (L : List Loc) : Prop := v = some (.int 1) ∧ Fr n0 L
set_option maxRecDepth 65536 in
set_option maxHeartbeats 40000000 in
theorem rm0 (l : Launch) (Z : State) (a0 : Array Value) (hw : ∀ d ∈ tables_1, d.before a0 Z = true) (ws : List Jvm.Cond) (p0 : Int32) (oCONNECT : Addr) (oCONNACK : Addr) (oPUBLISH : Addr) (oPUBACK : Addr) (oPUBREC : Addr) (oPUBREL : Addr) (oPUBCOMP : Addr) (oSUBSCRIBE : Addr) (oSUBACK : Addr) (oUNSUBSCRIBE : Addr) (oUNSUBACK : Addr) (oPINGREQ : Addr) (oPINGRESP : Addr) (oDISCONNECT : Addr) (oAUTH : Addr) (oBY : Addr) (kB : ClassId) (h0 : Heap) (n0 : Nat) (Z0 : n0 ≤ h0.size) (ST_CONNECT : Sta Z h0 "com/example/headroom/headroom/io/PacketType" "CONNECT" "Lcom/example/headroom/headroom/io/PacketType;" (.ref oCONNECT)) (EX_oCONNECT : Exa Z h0 oCONNECT "com/example/headroom/headroom/io/PacketType") (ST_CONNACK : Sta Z h0 "com/example/headroom/headroom/io/PacketType" "CONNACK" "Lcom/example/headroom/headroom/io/PacketType;" (.ref oCONNACK)) (EX_oCONNACK : Exa Z h0 oCONNACK "com/example/headroom/headroom/io/PacketType") (ST_PUBLISH : Sta Z h0 "com/example/headroom/headroom/io/PacketType" "PUBLISH" "Lcom/example/headroom/headroom/io/PacketType;" (.ref oPUBLISH)) (EX_oPUBLISH : Exa Z h0 oPUBLISH "com/example/headroom/headroom/io/PacketType") (ST_PUBACK : Sta Z h0 "com/example/headroom/headroom/io/PacketType" "PUBACK" "Lcom/example/headroom/headroom/io/PacketType;" (.ref oPUBACK)) (EX_oPUBACK : Exa Z h0 oPUBACK "com/example/headroom/headroom/io/PacketType") (ST_PUBREC : Sta Z h0 "com/example/headroom/headroom/io/PacketType" "PUBREC" "Lcom/example/headroom/headroom/io/PacketType;" (.ref oPUBREC)) (EX_oPUBREC : Exa Z h0 oPUBREC "com/example/headroom/headroom/io/PacketType") (ST_PUBREL : Sta Z h0 "com/example/headroom/headroom/io/PacketType" "PUBREL" "Lcom/example/headroom/headroom/io/PacketType;" (.ref oPUBREL)) (EX_oPUBREL : Exa Z h0 oPUBREL "com/example/headroom/headroom/io/PacketType") (ST_PUBCOMP : Sta Z h0 "com/example/headroom/headroom/io/PacketType" "PUBCOMP" "Lcom/example/headroom/headroom/io/PacketType;" (.ref oPUBCOMP)) (EX_oPUBCOMP : Exa Z h0 oPUBCOMP "com/example/headroom/headroom/io/PacketType") (ST_SUBSCRIBE : Sta Z h0 "com/example/headroom/headroom/io/PacketType" "SUBSCRIBE" "Lcom/example/headroom/headroom/io/PacketType;" (.ref oSUBSCRIBE)) (EX_oSUBSCRIBE : Exa Z h0 oSUBSCRIBE "com/example/headroom/headroom/io/PacketType") (ST_SUBACK : Sta Z h0 "com/example/headroom/headroom/io/PacketType" "SUBACK" "Lcom/example/headroom/headroom/io/PacketType;" (.ref oSUBACK)) (EX_oSUBACK : Exa Z h0 oSUBACK "com/example/headroom/headroom/io/PacketType") (ST_UNSUBSCRIBE : Sta Z h0 "com/example/headroom/headroom/io/PacketType" "UNSUBSCRIBE" "Lcom/example/headroom/headroom/io/PacketType;" (.ref oUNSUBSCRIBE)) (EX_oUNSUBSCRIBE : Exa Z h0 oUNSUBSCRIBE "com/example/headroom/headroom/io/PacketType") (ST_UNSUBACK : Sta Z h0 "com/example/headroom/headroom/io/PacketType" "UNSUBACK" "Lcom/example/headroom/headroom/io/PacketType;" (.ref oUNSUBACK)) (EX_oUNSUBACK : Exa Z h0 oUNSUBACK "com/example/headroom/headroom/io/PacketType") (ST_PINGREQ : Sta Z h0 "com/example/headroom/headroom/io/PacketType" "PINGREQ" "Lcom/example/headroom/headroom/io/PacketType;" (.ref oPINGREQ)) (EX_oPINGREQ : Exa Z h0 oPINGREQ "com/example/headroom/headroom/io/PacketType") (ST_PINGRESP : Sta Z h0 "com/example/headroom/headroom/io/PacketType" "PINGRESP" "Lcom/example/headroom/headroom/io/PacketType;" (.ref oPINGRESP)) (EX_oPINGRESP : Exa Z h0 oPINGRESP "com/example/headroom/headroom/io/PacketType") (ST_DISCONNECT : Sta Z h0 "com/example/headroom/headroom/io/PacketType" "DISCONNECT" "Lcom/example/headroom/headroom/io/PacketType;" (.ref oDISCONNECT)) (EX_oDISCONNECT : Exa Z h0 oDISCONNECT "com/example/headroom/headroom/io/PacketType") (ST_AUTH : Sta Z h0 "com/example/headroom/headroom/io/PacketType" "AUTH" "Lcom/example/headroom/headroom/io/PacketType;" (.ref oAUTH)) (EX_oAUTH : Exa Z h0 oAUTH "com/example/headroom/headroom/io/PacketType") (FL_oCONNECT_value : Fld Z h0 oCONNECT "com/example/headroom/headroom/io/PacketType" "value" "I" (.int (1 : Int32))) (FL_oCONNECT_flags : Fld Z h0 oCONNECT "com/example/headroom/headroom/io/PacketType" "flags" "I" (.int (0 : Int32))) (ST_BY_VALUE : Sta Z h0 "com/example/headroom/headroom/io/PacketType" "BY_VALUE" "[Lcom/example/headroom/headroom/io/PacketType;" (.ref oBY)) (FL_oPUBACK_value : Fld Z h0 oPUBACK "com/example/headroom/headroom/io/PacketType" "value" "I" (.int (4 : Int32))) (FL_oPUBACK_flags : Fld Z h0 oPUBACK "com/example/headroom/headroom/io/PacketType" "flags" "I" (.int (0 : Int32))) (FL_oPUBREL_value : Fld Z h0 oPUBREL "com/example/headroom/headroom/io/PacketType" "value" "I" (.int (6 : Int32))) (FL_oPUBREL_flags : Fld Z h0 oPUBREL "com/example/headroom/headroom/io/PacketType" "flags" "I" (.int (2 : Int32))) (FL_oDISCONNECT_value : Fld Z h0 oDISCONNECT "com/example/headroom/headroom/io/PacketType" "value" "I" (.int (14 : Int32))) (FL_oDISCONNECT_flags : Fld Z h0 oDISCONNECT "com/example/headroom/headroom/io/PacketType" "flags" "I" (.int (0 : Int32))) (FL_oPUBCOMP_value : Fld Z h0 oPUBCOMP "com/example/headroom/headroom/io/PacketType" "value" "I" (.int (7 : Int32))) (FL_oPUBCOMP_flags : Fld Z h0 oPUBCOMP "com/example/headroom/headroom/io/PacketType" "flags" "I" (.int (0 : Int32))) (FL_oAUTH_value : Fld Z h0 oAUTH "com/example/headroom/headroom/io/PacketType" "value" "I" (.int (15 : Int32))) (FL_oAUTH_flags : Fld Z h0 oAUTH "com/example/headroom/headroom/io/PacketType" "flags" "I" (.int (0 : Int32))) (FL_oSUBSCRIBE_value : Fld Z h0 oSUBSCRIBE "com/example/headroom/headroom/io/PacketType" "value" "I" (.int (8 : Int32))) (FL_oSUBSCRIBE_flags : Fld Z h0 oSUBSCRIBE "com/example/headroom/headroom/io/PacketType" "flags" "I" (.int (2 : Int32))) (FL_oPUBLISH_value : Fld Z h0 oPUBLISH "com/example/headroom/headroom/io/PacketType" "value" "I" (.int (3 : Int32))) (FL_oPUBLISH_flags : Fld Z h0 oPUBLISH "com/example/headroom/headroom/io/PacketType" "flags" "I" (.int (-1 : Int32))) (FL_oPINGREQ_value : Fld Z h0 oPINGREQ "com/example/headroom/headroom/io/PacketType" "value" "I" (.int (12 : Int32))) (FL_oPINGREQ_flags : Fld Z h0 oPINGREQ "com/example/headroom/headroom/io/PacketType" "flags" "I" (.int (0 : Int32))) (FL_oUNSUBACK_value : Fld Z h0 oUNSUBACK "com/example/headroom/headroom/io/PacketType" "value" "I" (.int (11 : Int32))) (FL_oUNSUBACK_flags : Fld Z h0 oUNSUBACK "com/example/headroom/headroom/io/PacketType" "flags" "I" (.int (0 : Int32))) (FL_oSUBACK_value : Fld Z h0 oSUBACK "com/example/headroom/headroom/io/PacketType" "value" "I" (.int (9 : Int32))) (FL_oSUBACK_flags : Fld Z h0 oSUBACK "com/example/headroom/headroom/io/PacketType" "flags" "I" (.int (0 : Int32))) (FL_oCONNACK_value : Fld Z h0 oCONNACK "com/example/headroom/headroom/io/PacketType" "value" "I" (.int (2 : Int32))) (FL_oCONNACK_flags : Fld Z h0 oCONNACK "com/example/headroom/headroom/io/PacketType" "flags" "I" (.int (0 : Int32))) (FL_oPINGRESP_value : Fld Z h0 oPINGRESP "com/example/headroom/headroom/io/PacketType" "value" "I" (.int (13 : Int32))) (FL_oPINGRESP_flags : Fld Z h0 oPINGRESP "com/example/headroom/headroom/io/PacketType" "flags" "I" (.int (0 : Int32))) (FL_oPUBREC_value : Fld Z h0 oPUBREC "com/example/headroom/headroom/io/PacketType" "value" "I" (.int (5 : Int32))) (FL_oPUBREC_flags : Fld Z h0 oPUBREC "com/example/headroom/headroom/io/PacketType" "flags" "I" (.int (0 : Int32))) (FL_oUNSUBSCRIBE_value : Fld Z h0 oUNSUBSCRIBE "com/example/headroom/headroom/io/PacketType" "value" "I" (.int (10 : Int32))) (FL_oUNSUBSCRIBE_flags : Fld Z h0 oUNSUBSCRIBE "com/example/headroom/headroom/io/PacketType" "flags" "I" (.int (2 : Int32))) (VB : Arv Z h0 oBY kB (.object "com/example/headroom/headroom/io/PacketType") (16 : Int32) [.null, (.ref oCONNECT), (.ref oCONNACK), (.ref oPUBLISH), (.ref oPUBACK), (.ref oPUBREC), (.ref oPUBREL), (.ref oPUBCOMP), (.ref oSUBSCRIBE), (.ref oSUBACK), (.ref oUNSUBSCRIBE), (.ref oUNSUBACK), (.ref oPINGREQ), (.ref oPINGRESP), (.ref oDISCONNECT), (.ref oAUTH)] .null) :
    MetFree l x (head1 (Jvm.Cond.code x code maxLocals ret :: ws) room_1) (fun a U => a = #[(.int p0)] ∧ Z.Warmed39 U.vm ∧ U.heap = h0) (fun _ _ _ _ _ => True) (fun _ U o U' => ∃ v L, o = .returned v ∧ Q0 Z p0 oCONNECT oCONNACK oPUBLISH oPUBACK oPUBREC oPUBREL oPUBCOMP oSUBSCRIBE oSUBACK oUNSUBSCRIBE oUNSUBACK oPINGREQ oPINGRESP oDISCONNECT oAUTH oBY kB h0 n0 v U'.heap L ∧ FrameEnd U o U' L room_1.cells room_1.slots) := by
  refine MetFree.of_bodySF (plainFor_of_name pn_0) hisR ?_
  intro p e s m args below meth c s₁ Bd hml0 hP hK
  obtain ⟨rfl, hZ, hh⟩ := hP
  have hx := Bd.exec
  have hby := Bd.bytes
  have hml : c.maxLocals = 6 := hml0
  have hown : s.vm.findClass "com/example/headroom/headroom/io/PacketTypeFirstBytePinLaw" = some m.cls := findClass_of_methodNamed Bd.named
  have hnm := (name_of_methodNamed Bd.named Bd.method).1
  have X0 : Stand p l e room_1 s m #[(.int p0)] below meth c s₁ [] 0 0 := Stand.of_body Bd
  have e0 : s₁.heap = h0 := by rw [← hh, Bd.state]; rfl
  have N0 := Fr.nil n0
  have K0 : ∀ t, Steps p.tables e below (s₁.setTop (mkF m 0 #[.val (.int p0), .unset, .unset, .unset, .unset, .unset] [])) t → Steps p.tables e below (s₁.setTop (entryFrame m #[(.int p0)] maxLocals)) t := fun t k => castTop (ef_0 m p0) k
  generalize s₁.setTop (entryFrame m #[(.int p0)] maxLocals) = SE at K0 ⊢
  have K1 : ∀ t, own_S p e below s₁ (mkF m 2 #[.val (.int p0), .unset, .unset, .unset, .unset, .unset] [(.int (15 : Int32))]) t → Steps p.tables e below SE t := by
    intro t k
    refine K0 _ ?_
    refine XS.bipush X0.here hx rfl (hb hby at_0) ?_
    exact k
  obtain ⟨T2, h2, k2, X2, e2, E2, A2, O2, st2⟩ := newR X0 hx hZ hown (hw _ (List.mem_of_getElem? (i := 0) rfl)) (hw _ (List.mem_of_getElem? (i := 1) rfl)) e0 (g := (mkF m 2 #[.val (.int p0), .unset, .unset, .unset, .unset, .unset] [(.int (15 : Int32))])) rfl (hb hby at_2) rfl (by decide) (cap := 15) (by decide) (by decide) (by decide) (by decide)
  obtain ⟨b2, g2⟩ : ∃ z, z = h0.size := ⟨_, rfl⟩
  rw [← g2] at A2 st2
  have g_b2 : n0 ≤ b2 := Nat.le_trans Z0 (Nat.le_of_eq g2.symm)
  have sz_b2 : h0.size ≤ b2 := Nat.le_trans (Nat.le_refl _) (Nat.le_of_eq g2.symm)
  have own_ne_oPUBCOMP_b2 : oPUBCOMP ≠ b2 := Nat.ne_of_lt (Nat.lt_of_lt_of_le EX_oPUBCOMP.lt (Nat.le_of_eq g2.symm))
  have own_ne_oUNSUBACK_b2 : oUNSUBACK ≠ b2 := Nat.ne_of_lt (Nat.lt_of_lt_of_le EX_oUNSUBACK.lt (Nat.le_of_eq g2.symm))
  have own_ne_oPINGRESP_b2 : oPINGRESP ≠ b2 := Nat.ne_of_lt (Nat.lt_of_lt_of_le EX_oPINGRESP.lt (Nat.le_of_eq g2.symm))
  have own_ne_oDISCONNECT_b2 : oDISCONNECT ≠ b2 := Nat.ne_of_lt (Nat.lt_of_lt_of_le EX_oDISCONNECT.lt (Nat.le_of_eq g2.symm))
  have own_ne_oBY_b2 : oBY ≠ b2 := Nat.ne_of_lt (Nat.lt_of_lt_of_le VB.lt (Nat.le_of_eq g2.symm))
  have own_ne_oUNSUBSCRIBE_b2 : oUNSUBSCRIBE ≠ b2 := Nat.ne_of_lt (Nat.lt_of_lt_of_le EX_oUNSUBSCRIBE.lt (Nat.le_of_eq g2.symm))
  have own_ne_oSUBSCRIBE_b2 : oSUBSCRIBE ≠ b2 := Nat.ne_of_lt (Nat.lt_of_lt_of_le EX_oSUBSCRIBE.lt (Nat.le_of_eq g2.symm))
  have own_ne_oSUBACK_b2 : oSUBACK ≠ b2 := Nat.ne_of_lt (Nat.lt_of_lt_of_le EX_oSUBACK.lt (Nat.le_of_eq g2.symm))
  have own_ne_oAUTH_b2 : oAUTH ≠ b2 := Nat.ne_of_lt (Nat.lt_of_lt_of_le EX_oAUTH.lt (Nat.le_of_eq g2.symm))
  have own_ne_oCONNECT_b2 : oCONNECT ≠ b2 := Nat.ne_of_lt (Nat.lt_of_lt_of_le EX_oCONNECT.lt (Nat.le_of_eq g2.symm))
  have own_ne_oPUBREL_b2 : oPUBREL ≠ b2 := Nat.ne_of_lt (Nat.lt_of_lt_of_le EX_oPUBREL.lt (Nat.le_of_eq g2.symm))
  have own_ne_oPINGREQ_b2 : oPINGREQ ≠ b2 := Nat.ne_of_lt (Nat.lt_of_lt_of_le EX_oPINGREQ.lt (Nat.le_of_eq g2.symm))
  have own_ne_oPUBREC_b2 : oPUBREC ≠ b2 := Nat.ne_of_lt (Nat.lt_of_lt_of_le EX_oPUBREC.lt (Nat.le_of_eq g2.symm))
  have own_ne_oPUBACK_b2 : oPUBACK ≠ b2 := Nat.ne_of_lt (Nat.lt_of_lt_of_le EX_oPUBACK.lt (Nat.le_of_eq g2.symm))
  have own_ne_oCONNACK_b2 : oCONNACK ≠ b2 := Nat.ne_of_lt (Nat.lt_of_lt_of_le EX_oCONNACK.lt (Nat.le_of_eq g2.symm))
  have own_ne_oPUBLISH_b2 : oPUBLISH ≠ b2 := Nat.ne_of_lt (Nat.lt_of_lt_of_le EX_oPUBLISH.lt (Nat.le_of_eq g2.symm))
  have Kp2 : Keep h0 h2 [] := Keep.ext (Keep.refl h0 []) E2
  have V2 : Arv Z h2 b2 k2 (.object "com/example/headroom/headroom/io/PacketType") (15 : Int32) [.null, .null, .null, .null, .null, .null, .null, .null, .null, .null, .null, .null, .null, .null, .null] .null := (Arv.new A2 (by decide)).pad (pad_rep [] .null 15)
  have K2 : ∀ t, own_S p e below T2 (mkF m 5 #[.val (.int p0), .unset, .unset, .unset, .unset, .unset] [(.ref b2)]) t → Steps p.tables e below SE t := fun t k => K1 _ (st2 _ k)
  have K3 : ∀ t, own_S p e below T2 (mkF m 7 #[.val (.int p0), .unset, .unset, .unset, .unset, .unset] [(.int (0 : Int32)), (.ref b2), (.ref b2)]) t → Steps p.tables e below SE t := by
    intro t k
    refine K2 _ ?_
    refine XS.dup X2.here hx rfl (hb hby at_5) rfl rfl ?_
    show own_S p e below T2 (mkF m 6 #[.val (.int p0), .unset, .unset, .unset, .unset, .unset] [(.ref b2), (.ref b2)]) _
    refine XS.iconst X2.here hx rfl (hb hby at_6) ?_
    exact k
  obtain ⟨T4, X4, e4, st4⟩ := getS2 X2 hx hZ hown (host := "") (Or.inl (hw _ (List.mem_of_getElem? (i := 2) rfl))) Via.refl e2 (ST_CONNECT.ext (own_ext Kp2)) (g := (mkF m 7 #[.val (.int p0), .unset, .unset, .unset, .unset, .unset] [(.int (0 : Int32)), (.ref b2), (.ref b2)])) rfl (hb hby at_7)
  have K4 : ∀ t, own_S p e below T4 (mkF m 10 #[.val (.int p0), .unset, .unset, .unset, .unset, .unset] [(.ref oCONNECT), (.int (0 : Int32)), (.ref b2), (.ref b2)]) t → Steps p.tables e below SE t := fun t k => K3 _ (st4 _ k)
  obtain ⟨cl5, Ar5, qk5, S5, Ng5, Hh5, Gg5⟩ := id V2
  have hin5 : ¬ ((0 : Int32) < 0 ∨ cl5.slots.size ≤ ((0 : Int32)).toNatClampNeg) := inb_of S5 ⟨by decide, by decide⟩
  obtain ⟨T6, h6, X6, e6, W6, st6⟩ := stR X4 hx hZ e4 Ar5 (j := (0 : Int32)) hin5 rfl (Sto.ofV Ar5 qk5 O2 (Ins.self (EX_oCONNECT.ext (own_ext Kp2)))) (g := (mkF m 10 #[.val (.int p0), .unset, .unset, .unset, .unset, .unset] [(.ref oCONNECT), (.int (0 : Int32)), (.ref b2), (.ref b2)])) rfl rfl (hb hby at_10)
  have V6 : Arv Z h6 b2 k2 (.object "com/example/headroom/headroom/io/PacketType") (15 : Int32) [(.ref oCONNECT), .null, .null, .null, .null, .null, .null, .null, .null, .null, .null, .null, .null, .null, .null] .null := Arv.set Ar5 qk5 S5 Ng5 Hh5 Gg5 rfl W6 0 rfl (Nat.le_of_ble_eq_true rfl)
  have N6 := Fr.snoc X6 N0 g_b2
  have Kp6 : Keep h0 h6 [] := Keep.wr Kp2 W6 (Or.inr sz_b2)
  have K6 : ∀ t, own_S p e below T6 (mkF m 11 #[.val (.int p0), .unset, .unset, .unset, .unset, .unset] [(.ref b2)]) t → Steps p.tables e below SE t := fun t k => K4 _ (st6 _ k)
  have K7 : ∀ t, own_S p e below T6 (mkF m 13 #[.val (.int p0), .unset, .unset, .unset, .unset, .unset] [(.int (1 : Int32)), (.ref b2), (.ref b2)]) t → Steps p.tables e below SE t := by
    intro t k
    refine K6 _ ?_
    refine XS.dup X6.here hx rfl (hb hby at_11) rfl rfl ?_
    show own_S p e below T6 (mkF m 12 #[.val (.int p0), .unset, .unset, .unset, .unset, .unset] [(.ref b2), (.ref b2)]) _
    refine XS.iconst X6.here hx rfl (hb hby at_12) ?_
    exact k
  obtain ⟨T8, X8, e8, st8⟩ := getS2 X6 hx hZ hown (host := "") (Or.inl (hw _ (List.mem_of_getElem? (i := 6) rfl))) Via.refl e6 (ST_CONNACK.ext (own_ext Kp6)) (g := (mkF m 13 #[.val (.int p0), .unset, .unset, .unset, .unset, .unset] [(.int (1 : Int32)), (.ref b2), (.ref b2)])) rfl (hb hby at_13)
  have K8 : ∀ t, own_S p e below T8 (mkF m 16 #[.val (.int p0), .unset, .unset, .unset, .unset, .unset] [(.ref oCONNACK), (.int (1 : Int32)), (.ref b2), (.ref b2)]) t → Steps p.tables e below SE t := fun t k => K7 _ (st8 _ k)
  obtain ⟨cl9, Ar9, qk9, S9, Ng9, Hh9, Gg9⟩ := id V6
  have hin9 : ¬ ((1 : Int32) < 0 ∨ cl9.slots.size ≤ ((1 : Int32)).toNatClampNeg) := inb_of S9 ⟨by decide, by decide⟩
  obtain ⟨T10, h10, X10, e10, W10, st10⟩ := stR X8 hx hZ e8 Ar9 (j := (1 : Int32)) hin9 rfl (Sto.ofV Ar9 qk9 O2 (Ins.self (EX_oCONNACK.ext (own_ext Kp6)))) (g := (mkF m 16 #[.val (.int p0), .unset, .unset, .unset, .unset, .unset] [(.ref oCONNACK), (.int (1 : Int32)), (.ref b2), (.ref b2)])) rfl rfl (hb hby at_16)
  have V10 : Arv Z h10 b2 k2 (.object "com/example/headroom/headroom/io/PacketType") (15 : Int32) [(.ref oCONNECT), (.ref oCONNACK), .null, .null, .null, .null, .null, .null, .null, .null, .null, .null, .null, .null, .null] .null := Arv.set Ar9 qk9 S9 Ng9 Hh9 Gg9 rfl W10 1 rfl (Nat.le_of_ble_eq_true rfl)
  have N10 := Fr.snoc X10 N6 g_b2
  have Kp10 : Keep h0 h10 [] := Keep.wr Kp6 W10 (Or.inr sz_b2)
  have K10 : ∀ t, own_S p e below T10 (mkF m 17 #[.val (.int p0), .unset, .unset, .unset, .unset, .unset] [(.ref b2)]) t → Steps p.tables e below SE t := fun t k => K8 _ (st10 _ k)
  have K11 : ∀ t, own_S p e below T10 (mkF m 19 #[.val (.int p0), .unset, .unset, .unset, .unset, .unset] [(.int (2 : Int32)), (.ref b2), (.ref b2)]) t → Steps p.tables e below SE t := by
    intro t k
    refine K10 _ ?_
    refine XS.dup X10.here hx rfl (hb hby at_17) rfl rfl ?_
    show own_S p e below T10 (mkF m 18 #[.val (.int p0), .unset, .unset, .unset, .unset, .unset] [(.ref b2), (.ref b2)]) _
    refine XS.iconst X10.here hx rfl (hb hby at_18) ?_
    exact k
  obtain ⟨T12, X12, e12, st12⟩ := getS2 X10 hx hZ hown (host := "") (Or.inl (hw _ (List.mem_of_getElem? (i := 8) rfl))) Via.refl e10 (ST_PUBLISH.ext (own_ext Kp10)) (g := (mkF m 19 #[.val (.int p0), .unset, .unset, .unset, .unset, .unset] [(.int (2 : Int32)), (.ref b2), (.ref b2)])) rfl (hb hby at_19)
  have K12 : ∀ t, own_S p e below T12 (mkF m 22 #[.val (.int p0), .unset, .unset, .unset, .unset, .unset] [(.ref oPUBLISH), (.int (2 : Int32)), (.ref b2), (.ref b2)]) t → Steps p.tables e below SE t := fun t k => K11 _ (st12 _ k)
  obtain ⟨cl13, Ar13, qk13, S13, Ng13, Hh13, Gg13⟩ := id V10
  have hin13 : ¬ ((2 : Int32) < 0 ∨ cl13.slots.size ≤ ((2 : Int32)).toNatClampNeg) := inb_of S13 ⟨by decide, by decide⟩
  obtain ⟨T14, h14, X14, e14, W14, st14⟩ := stR X12 hx hZ e12 Ar13 (j := (2 : Int32)) hin13 rfl (Sto.ofV Ar13 qk13 O2 (Ins.self (EX_oPUBLISH.ext (own_ext Kp10)))) (g := (mkF m 22 #[.val (.int p0), .unset, .unset, .unset, .unset, .unset] [(.ref oPUBLISH), (.int (2 : Int32)), (.ref b2), (.ref b2)])) rfl rfl (hb hby at_22)
  have V14 : Arv Z h14 b2 k2 (.object "com/example/headroom/headroom/io/PacketType") (15 : Int32) [(.ref oCONNECT), (.ref oCONNACK), (.ref oPUBLISH), .null, .null, .null, .null, .null, .null, .null, .null, .null, .null, .null, .null] .null := Arv.set Ar13 qk13 S13 Ng13 Hh13 Gg13 rfl W14 2 rfl (Nat.le_of_ble_eq_true rfl)
  have N14 := Fr.snoc X14 N10 g_b2
  have Kp14 : Keep h0 h14 [] := Keep.wr Kp10 W14 (Or.inr sz_b2)
  have K14 : ∀ t, own_S p e below T14 (mkF m 23 #[.val (.int p0), .unset, .unset, .unset, .unset, .unset] [(.ref b2)]) t → Steps p.tables e below SE t := fun t k => K12 _ (st14 _ k)
  have K15 : ∀ t, own_S p e below T14 (mkF m 25 #[.val (.int p0), .unset, .unset, .unset, .unset, .unset] [(.int (3 : Int32)), (.ref b2), (.ref b2)]) t → Steps p.tables e below SE t := by
    intro t k
    refine K14 _ ?_
    refine XS.dup X14.here hx rfl (hb hby at_23) rfl rfl ?_
    show own_S p e below T14 (mkF m 24 #[.val (.int p0), .unset, .unset, .unset, .unset, .unset] [(.ref b2), (.ref b2)]) _
    refine XS.iconst X14.here hx rfl (hb hby at_24) ?_
    exact k
  obtain ⟨T16, X16, e16, st16⟩ := getS2 X14 hx hZ hown (host := "") (Or.inl (hw _ (List.mem_of_getElem? (i := 10) rfl))) Via.refl e14 (ST_PUBACK.ext (own_ext Kp14)) (g := (mkF m 25 #[.val (.int p0), .unset, .unset, .unset, .unset, .unset] [(.int (3 : Int32)), (.ref b2), (.ref b2)])) rfl (hb hby at_25)
  have K16 : ∀ t, own_S p e below T16 (mkF m 28 #[.val (.int p0), .unset, .unset, .unset, .unset, .unset] [(.ref oPUBACK), (.int (3 : Int32)), (.ref b2), (.ref b2)]) t → Steps p.tables e below SE t := fun t k => K15 _ (st16 _ k)
  obtain ⟨cl17, Ar17, qk17, S17, Ng17, Hh17, Gg17⟩ := id V14
  have hin17 : ¬ ((3 : Int32) < 0 ∨ cl17.slots.size ≤ ((3 : Int32)).toNatClampNeg) := inb_of S17 ⟨by decide, by decide⟩
  obtain ⟨T18, h18, X18, e18, W18, st18⟩ := stR X16 hx hZ e16 Ar17 (j := (3 : Int32)) hin17 rfl (Sto.ofV Ar17 qk17 O2 (Ins.self (EX_oPUBACK.ext (own_ext Kp14)))) (g := (mkF m 28 #[.val (.int p0), .unset, .unset, .unset, .unset, .unset] [(.ref oPUBACK), (.int (3 : Int32)), (.ref b2), (.ref b2)])) rfl rfl (hb hby at_28)
  have V18 : Arv Z h18 b2 k2 (.object "com/example/headroom/headroom/io/PacketType") (15 : Int32) [(.ref oCONNECT), (.ref oCONNACK), (.ref oPUBLISH), (.ref oPUBACK), .null, .null, .null, .null, .null, .null, .null, .null, .null, .null, .null] .null := Arv.set Ar17 qk17 S17 Ng17 Hh17 Gg17 rfl W18 3 rfl (Nat.le_of_ble_eq_true rfl)
  have N18 := Fr.snoc X18 N14 g_b2
  have Kp18 : Keep h0 h18 [] := Keep.wr Kp14 W18 (Or.inr sz_b2)
  have K18 : ∀ t, own_S p e below T18 (mkF m 29 #[.val (.int p0), .unset, .unset, .unset, .unset, .unset] [(.ref b2)]) t → Steps p.tables e below SE t := fun t k => K16 _ (st18 _ k)
  have K19 : ∀ t, own_S p e below T18 (mkF m 31 #[.val (.int p0), .unset, .unset, .unset, .unset, .unset] [(.int (4 : Int32)), (.ref b2), (.ref b2)]) t → Steps p.tables e below SE t := by
    intro t k
    refine K18 _ ?_
    refine XS.dup X18.here hx rfl (hb hby at_29) rfl rfl ?_
    show own_S p e below T18 (mkF m 30 #[.val (.int p0), .unset, .unset, .unset, .unset, .unset] [(.ref b2), (.ref b2)]) _
    refine XS.iconst X18.here hx rfl (hb hby at_30) ?_
    exact k
  obtain ⟨T20, X20, e20, st20⟩ := getS2 X18 hx hZ hown (host := "") (Or.inl (hw _ (List.mem_of_getElem? (i := 12) rfl))) Via.refl e18 (ST_PUBREC.ext (own_ext Kp18)) (g := (mkF m 31 #[.val (.int p0), .unset, .unset, .unset, .unset, .unset] [(.int (4 : Int32)), (.ref b2), (.ref b2)])) rfl (hb hby at_31)
  have K20 : ∀ t, own_S p e below T20 (mkF m 34 #[.val (.int p0), .unset, .unset, .unset, .unset, .unset] [(.ref oPUBREC), (.int (4 : Int32)), (.ref b2), (.ref b2)]) t → Steps p.tables e below SE t := fun t k => K19 _ (st20 _ k)
  obtain ⟨cl21, Ar21, qk21, S21, Ng21, Hh21, Gg21⟩ := id V18
  have hin21 : ¬ ((4 : Int32) < 0 ∨ cl21.slots.size ≤ ((4 : Int32)).toNatClampNeg) := inb_of S21 ⟨by decide, by decide⟩
  obtain ⟨T22, h22, X22, e22, W22, st22⟩ := stR X20 hx hZ e20 Ar21 (j := (4 : Int32)) hin21 rfl (Sto.ofV Ar21 qk21 O2 (Ins.self (EX_oPUBREC.ext (own_ext Kp18)))) (g := (mkF m 34 #[.val (.int p0), .unset, .unset, .unset, .unset, .unset] [(.ref oPUBREC), (.int (4 : Int32)), (.ref b2), (.ref b2)])) rfl rfl (hb hby at_34)
  have V22 : Arv Z h22 b2 k2 (.object "com/example/headroom/headroom/io/PacketType") (15 : Int32) [(.ref oCONNECT), (.ref oCONNACK), (.ref oPUBLISH), (.ref oPUBACK), (.ref oPUBREC), .null, .null, .null, .null, .null, .null, .null, .null, .null, .null] .null := Arv.set Ar21 qk21 S21 Ng21 Hh21 Gg21 rfl W22 4 rfl (Nat.le_of_ble_eq_true rfl)
  have N22 := Fr.snoc X22 N18 g_b2
  have Kp22 : Keep h0 h22 [] := Keep.wr Kp18 W22 (Or.inr sz_b2)
  have K22 : ∀ t, own_S p e below T22 (mkF m 35 #[.val (.int p0), .unset, .unset, .unset, .unset, .unset] [(.ref b2)]) t → Steps p.tables e below SE t := fun t k => K20 _ (st22 _ k)
  have K23 : ∀ t, own_S p e below T22 (mkF m 37 #[.val (.int p0), .unset, .unset, .unset, .unset, .unset] [(.int (5 : Int32)), (.ref b2), (.ref b2)]) t → Steps p.tables e below SE t := by
    intro t k
    refine K22 _ ?_
    refine XS.dup X22.here hx rfl (hb hby at_35) rfl rfl ?_
    show own_S p e below T22 (mkF m 36 #[.val (.int p0), .unset, .unset, .unset, .unset, .unset] [(.ref b2), (.ref b2)]) _
    refine XS.iconst X22.here hx rfl (hb hby at_36) ?_
    exact k
  obtain ⟨T24, X24, e24, st24⟩ := getS2 X22 hx hZ hown (host := "") (Or.inl (hw _ (List.mem_of_getElem? (i := 14) rfl))) Via.refl e22 (ST_PUBREL.ext (own_ext Kp22)) (g := (mkF m 37 #[.val (.int p0), .unset, .unset, .unset, .unset, .unset] [(.int (5 : Int32)), (.ref b2), (.ref b2)])) rfl (hb hby at_37)
  have K24 : ∀ t, own_S p e below T24 (mkF m 40 #[.val (.int p0), .unset, .unset, .unset, .unset, .unset] [(.ref oPUBREL), (.int (5 : Int32)), (.ref b2), (.ref b2)]) t → Steps p.tables e below SE t := fun t k => K23 _ (st24 _ k)
  obtain ⟨cl25, Ar25, qk25, S25, Ng25, Hh25, Gg25⟩ := id V22
  have hin25 : ¬ ((5 : Int32) < 0 ∨ cl25.slots.size ≤ ((5 : Int32)).toNatClampNeg) := inb_of S25 ⟨by decide, by decide⟩
  obtain ⟨T26, h26, X26, e26, W26, st26⟩ := stR X24 hx hZ e24 Ar25 (j := (5 : Int32)) hin25 rfl (Sto.ofV Ar25 qk25 O2 (Ins.self (EX_oPUBREL.ext (own_ext Kp22)))) (g := (mkF m 40 #[.val (.int p0), .unset, .unset, .unset, .unset, .unset] [(.ref oPUBREL), (.int (5 : Int32)), (.ref b2), (.ref b2)])) rfl rfl (hb hby at_40)
  have V26 : Arv Z h26 b2 k2 (.object "com/example/headroom/headroom/io/PacketType") (15 : Int32) [(.ref oCONNECT), (.ref oCONNACK), (.ref oPUBLISH), (.ref oPUBACK), (.ref oPUBREC), (.ref oPUBREL), .null, .null, .null, .null, .null, .null, .null, .null, .null] .null := Arv.set Ar25 qk25 S25 Ng25 Hh25 Gg25 rfl W26 5 rfl (Nat.le_of_ble_eq_true rfl)
  have N26 := Fr.snoc X26 N22 g_b2
  have Kp26 : Keep h0 h26 [] := Keep.wr Kp22 W26 (Or.inr sz_b2)
  have K26 : ∀ t, own_S p e below T26 (mkF m 41 #[.val (.int p0), .unset, .unset, .unset, .unset, .unset] [(.ref b2)]) t → Steps p.tables e below SE t := fun t k => K24 _ (st26 _ k)
  have K27 : ∀ t, own_S p e below T26 (mkF m 44 #[.val (.int p0), .unset, .unset, .unset, .unset, .unset] [(.int (6 : Int32)), (.ref b2), (.ref b2)]) t → Steps p.tables e below SE t := by
    intro t k
    refine K26 _ ?_
    refine XS.dup X26.here hx rfl (hb hby at_41) rfl rfl ?_
    show own_S p e below T26 (mkF m 42 #[.val (.int p0), .unset, .unset, .unset, .unset, .unset] [(.ref b2), (.ref b2)]) _
    refine XS.bipush X26.here hx rfl (hb hby at_42) ?_
    exact k
  obtain ⟨T28, X28, e28, st28⟩ := getS2 X26 hx hZ hown (host := "") (Or.inl (hw _ (List.mem_of_getElem? (i := 16) rfl))) Via.refl e26 (ST_PUBCOMP.ext (own_ext Kp26)) (g := (mkF m 44 #[.val (.int p0), .unset, .unset, .unset, .unset, .unset] [(.int (6 : Int32)), (.ref b2), (.ref b2)])) rfl (hb hby at_44)
  have K28 : ∀ t, own_S p e below T28 (mkF m 47 #[.val (.int p0), .unset, .unset, .unset, .unset, .unset] [(.ref oPUBCOMP), (.int (6 : Int32)), (.ref b2), (.ref b2)]) t → Steps p.tables e below SE t := fun t k => K27 _ (st28 _ k)
  obtain ⟨cl29, Ar29, qk29, S29, Ng29, Hh29, Gg29⟩ := id V26
  have hin29 : ¬ ((6 : Int32) < 0 ∨ cl29.slots.size ≤ ((6 : Int32)).toNatClampNeg) := inb_of S29 ⟨by decide, by decide⟩
  obtain ⟨T30, h30, X30, e30, W30, st30⟩ := stR X28 hx hZ e28 Ar29 (j := (6 : Int32)) hin29 rfl (Sto.ofV Ar29 qk29 O2 (Ins.self (EX_oPUBCOMP.ext (own_ext Kp26)))) (g := (mkF m 47 #[.val (.int p0), .unset, .unset, .unset, .unset, .unset] [(.ref oPUBCOMP), (.int (6 : Int32)), (.ref b2), (.ref b2)])) rfl rfl (hb hby at_47)
  have V30 : Arv Z h30 b2 k2 (.object "com/example/headroom/headroom/io/PacketType") (15 : Int32) [(.ref oCONNECT), (.ref oCONNACK), (.ref oPUBLISH), (.ref oPUBACK), (.ref oPUBREC), (.ref oPUBREL), (.ref oPUBCOMP), .null, .null, .null, .null, .null, .null, .null, .null] .null := Arv.set Ar29 qk29 S29 Ng29 Hh29 Gg29 rfl W30 6 rfl (Nat.le_of_ble_eq_true rfl)
  have N30 := Fr.snoc X30 N26 g_b2
  have Kp30 : Keep h0 h30 [] := Keep.wr Kp26 W30 (Or.inr sz_b2)
  have K30 : ∀ t, own_S p e below T30 (mkF m 48 #[.val (.int p0), .unset, .unset, .unset, .unset, .unset] [(.ref b2)]) t → Steps p.tables e below SE t := fun t k => K28 _ (st30 _ k)
  have K31 : ∀ t, own_S p e below T30 (mkF m 51 #[.val (.int p0), .unset, .unset, .unset, .unset, .unset] [(.int (7 : Int32)), (.ref b2), (.ref b2)]) t → Steps p.tables e below SE t := by
    intro t k
    refine K30 _ ?_
    refine XS.dup X30.here hx rfl (hb hby at_48) rfl rfl ?_
    show own_S p e below T30 (mkF m 49 #[.val (.int p0), .unset, .unset, .unset, .unset, .unset] [(.ref b2), (.ref b2)]) _
    refine XS.bipush X30.here hx rfl (hb hby at_49) ?_
    exact k
  obtain ⟨T32, X32, e32, st32⟩ := getS2 X30 hx hZ hown (host := "") (Or.inl (hw _ (List.mem_of_getElem? (i := 18) rfl))) Via.refl e30 (ST_SUBSCRIBE.ext (own_ext Kp30)) (g := (mkF m 51 #[.val (.int p0), .unset, .unset, .unset, .unset, .unset] [(.int (7 : Int32)), (.ref b2), (.ref b2)])) rfl (hb hby at_51)
  have K32 : ∀ t, own_S p e below T32 (mkF m 54 #[.val (.int p0), .unset, .unset, .unset, .unset, .unset] [(.ref oSUBSCRIBE), (.int (7 : Int32)), (.ref b2), (.ref b2)]) t → Steps p.tables e below SE t := fun t k => K31 _ (st32 _ k)
  obtain ⟨cl33, Ar33, qk33, S33, Ng33, Hh33, Gg33⟩ := id V30
  have hin33 : ¬ ((7 : Int32) < 0 ∨ cl33.slots.size ≤ ((7 : Int32)).toNatClampNeg) := inb_of S33 ⟨by decide, by decide⟩
  obtain ⟨T34, h34, X34, e34, W34, st34⟩ := stR X32 hx hZ e32 Ar33 (j := (7 : Int32)) hin33 rfl (Sto.ofV Ar33 qk33 O2 (Ins.self (EX_oSUBSCRIBE.ext (own_ext Kp30)))) (g := (mkF m 54 #[.val (.int p0), .unset, .unset, .unset, .unset, .unset] [(.ref oSUBSCRIBE), (.int (7 : Int32)), (.ref b2), (.ref b2)])) rfl rfl (hb hby at_54)
  have V34 : Arv Z h34 b2 k2 (.object "com/example/headroom/headroom/io/PacketType") (15 : Int32) [(.ref oCONNECT), (.ref oCONNACK), (.ref oPUBLISH), (.ref oPUBACK), (.ref oPUBREC), (.ref oPUBREL), (.ref oPUBCOMP), (.ref oSUBSCRIBE), .null, .null, .null, .null, .null, .null, .null] .null := Arv.set Ar33 qk33 S33 Ng33 Hh33 Gg33 rfl W34 7 rfl (Nat.le_of_ble_eq_true rfl)
  have N34 := Fr.snoc X34 N30 g_b2
  have Kp34 : Keep h0 h34 [] := Keep.wr Kp30 W34 (Or.inr sz_b2)
  have K34 : ∀ t, own_S p e below T34 (mkF m 55 #[.val (.int p0), .unset, .unset, .unset, .unset, .unset] [(.ref b2)]) t → Steps p.tables e below SE t := fun t k => K32 _ (st34 _ k)
  have K35 : ∀ t, own_S p e below T34 (mkF m 58 #[.val (.int p0), .unset, .unset, .unset, .unset, .unset] [(.int (8 : Int32)), (.ref b2), (.ref b2)]) t → Steps p.tables e below SE t := by
    intro t k
    refine K34 _ ?_
    refine XS.dup X34.here hx rfl (hb hby at_55) rfl rfl ?_
    show own_S p e below T34 (mkF m 56 #[.val (.int p0), .unset, .unset, .unset, .unset, .unset] [(.ref b2), (.ref b2)]) _
    refine XS.bipush X34.here hx rfl (hb hby at_56) ?_
    exact k
  obtain ⟨T36, X36, e36, st36⟩ := getS2 X34 hx hZ hown (host := "") (Or.inl (hw _ (List.mem_of_getElem? (i := 20) rfl))) Via.refl e34 (ST_SUBACK.ext (own_ext Kp34)) (g := (mkF m 58 #[.val (.int p0), .unset, .unset, .unset, .unset, .unset] [(.int (8 : Int32)), (.ref b2), (.ref b2)])) rfl (hb hby at_58)
  have K36 : ∀ t, own_S p e below T36 (mkF m 61 #[.val (.int p0), .unset, .unset, .unset, .unset, .unset] [(.ref oSUBACK), (.int (8 : Int32)), (.ref b2), (.ref b2)]) t → Steps p.tables e below SE t := fun t k => K35 _ (st36 _ k)
  obtain ⟨cl37, Ar37, qk37, S37, Ng37, Hh37, Gg37⟩ := id V34
  have hin37 : ¬ ((8 : Int32) < 0 ∨ cl37.slots.size ≤ ((8 : Int32)).toNatClampNeg) := inb_of S37 ⟨by decide, by decide⟩
  obtain ⟨T38, h38, X38, e38, W38, st38⟩ := stR X36 hx hZ e36 Ar37 (j := (8 : Int32)) hin37 rfl (Sto.ofV Ar37 qk37 O2 (Ins.self (EX_oSUBACK.ext (own_ext Kp34)))) (g := (mkF m 61 #[.val (.int p0), .unset, .unset, .unset, .unset, .unset] [(.ref oSUBACK), (.int (8 : Int32)), (.ref b2), (.ref b2)])) rfl rfl (hb hby at_61)
  have V38 : Arv Z h38 b2 k2 (.object "com/example/headroom/headroom/io/PacketType") (15 : Int32) [(.ref oCONNECT), (.ref oCONNACK), (.ref oPUBLISH), (.ref oPUBACK), (.ref oPUBREC), (.ref oPUBREL), (.ref oPUBCOMP), (.ref oSUBSCRIBE), (.ref oSUBACK), .null, .null, .null, .null, .null, .null] .null := Arv.set Ar37 qk37 S37 Ng37 Hh37 Gg37 rfl W38 8 rfl (Nat.le_of_ble_eq_true rfl)
  have N38 := Fr.snoc X38 N34 g_b2
  have Kp38 : Keep h0 h38 [] := Keep.wr Kp34 W38 (Or.inr sz_b2)
  have K38 : ∀ t, own_S p e below T38 (mkF m 62 #[.val (.int p0), .unset, .unset, .unset, .unset, .unset] [(.ref b2)]) t → Steps p.tables e below SE t := fun t k => K36 _ (st38 _ k)
  have K39 : ∀ t, own_S p e below T38 (mkF m 65 #[.val (.int p0), .unset, .unset, .unset, .unset, .unset] [(.int (9 : Int32)), (.ref b2), (.ref b2)]) t → Steps p.tables e below SE t := by
    intro t k
    refine K38 _ ?_
    refine XS.dup X38.here hx rfl (hb hby at_62) rfl rfl ?_
    show own_S p e below T38 (mkF m 63 #[.val (.int p0), .unset, .unset, .unset, .unset, .unset] [(.ref b2), (.ref b2)]) _
    refine XS.bipush X38.here hx rfl (hb hby at_63) ?_
    exact k
  obtain ⟨T40, X40, e40, st40⟩ := getS2 X38 hx hZ hown (host := "") (Or.inl (hw _ (List.mem_of_getElem? (i := 22) rfl))) Via.refl e38 (ST_UNSUBSCRIBE.ext (own_ext Kp38)) (g := (mkF m 65 #[.val (.int p0), .unset, .unset, .unset, .unset, .unset] [(.int (9 : Int32)), (.ref b2), (.ref b2)])) rfl (hb hby at_65)
  have K40 : ∀ t, own_S p e below T40 (mkF m 68 #[.val (.int p0), .unset, .unset, .unset, .unset, .unset] [(.ref oUNSUBSCRIBE), (.int (9 : Int32)), (.ref b2), (.ref b2)]) t → Steps p.tables e below SE t := fun t k => K39 _ (st40 _ k)
  obtain ⟨cl41, Ar41, qk41, S41, Ng41, Hh41, Gg41⟩ := id V38
  have hin41 : ¬ ((9 : Int32) < 0 ∨ cl41.slots.size ≤ ((9 : Int32)).toNatClampNeg) := inb_of S41 ⟨by decide, by decide⟩
  obtain ⟨T42, h42, X42, e42, W42, st42⟩ := stR X40 hx hZ e40 Ar41 (j := (9 : Int32)) hin41 rfl (Sto.ofV Ar41 qk41 O2 (Ins.self (EX_oUNSUBSCRIBE.ext (own_ext Kp38)))) (g := (mkF m 68 #[.val (.int p0), .unset, .unset, .unset, .unset, .unset] [(.ref oUNSUBSCRIBE), (.int (9 : Int32)), (.ref b2), (.ref b2)])) rfl rfl (hb hby at_68)
  have V42 : Arv Z h42 b2 k2 (.object "com/example/headroom/headroom/io/PacketType") (15 : Int32) [(.ref oCONNECT), (.ref oCONNACK), (.ref oPUBLISH), (.ref oPUBACK), (.ref oPUBREC), (.ref oPUBREL), (.ref oPUBCOMP), (.ref oSUBSCRIBE), (.ref oSUBACK), (.ref oUNSUBSCRIBE), .null, .null, .null, .null, .null] .null := Arv.set Ar41 qk41 S41 Ng41 Hh41 Gg41 rfl W42 9 rfl (Nat.le_of_ble_eq_true rfl)
  have N42 := Fr.snoc X42 N38 g_b2
  have Kp42 : Keep h0 h42 [] := Keep.wr Kp38 W42 (Or.inr sz_b2)
  have K42 : ∀ t, own_S p e below T42 (mkF m 69 #[.val (.int p0), .unset, .unset, .unset, .unset, .unset] [(.ref b2)]) t → Steps p.tables e below SE t := fun t k => K40 _ (st42 _ k)
  have K43 : ∀ t, own_S p e below T42 (mkF m 72 #[.val (.int p0), .unset, .unset, .unset, .unset, .unset] [(.int (10 : Int32)), (.ref b2), (.ref b2)]) t → Steps p.tables e below SE t := by
    intro t k
    refine K42 _ ?_
    refine XS.dup X42.here hx rfl (hb hby at_69) rfl rfl ?_
    show own_S p e below T42 (mkF m 70 #[.val (.int p0), .unset, .unset, .unset, .unset, .unset] [(.ref b2), (.ref b2)]) _
    refine XS.bipush X42.here hx rfl (hb hby at_70) ?_
    exact k
  obtain ⟨T44, X44, e44, st44⟩ := getS2 X42 hx hZ hown (host := "") (Or.inl (hw _ (List.mem_of_getElem? (i := 24) rfl))) Via.refl e42 (ST_UNSUBACK.ext (own_ext Kp42)) (g := (mkF m 72 #[.val (.int p0), .unset, .unset, .unset, .unset, .unset] [(.int (10 : Int32)), (.ref b2), (.ref b2)])) rfl (hb hby at_72)
  have K44 : ∀ t, own_S p e below T44 (mkF m 75 #[.val (.int p0), .unset, .unset, .unset, .unset, .unset] [(.ref oUNSUBACK), (.int (10 : Int32)), (.ref b2), (.ref b2)]) t → Steps p.tables e below SE t := fun t k => K43 _ (st44 _ k)
  obtain ⟨cl45, Ar45, qk45, S45, Ng45, Hh45, Gg45⟩ := id V42
  have hin45 : ¬ ((10 : Int32) < 0 ∨ cl45.slots.size ≤ ((10 : Int32)).toNatClampNeg) := inb_of S45 ⟨by decide, by decide⟩
  obtain ⟨T46, h46, X46, e46, W46, st46⟩ := stR X44 hx hZ e44 Ar45 (j := (10 : Int32)) hin45 rfl (Sto.ofV Ar45 qk45 O2 (Ins.self (EX_oUNSUBACK.ext (own_ext Kp42)))) (g := (mkF m 75 #[.val (.int p0), .unset, .unset, .unset, .unset, .unset] [(.ref oUNSUBACK), (.int (10 : Int32)), (.ref b2), (.ref b2)])) rfl rfl (hb hby at_75)
  have V46 : Arv Z h46 b2 k2 (.object "com/example/headroom/headroom/io/PacketType") (15 : Int32) [(.ref oCONNECT), (.ref oCONNACK), (.ref oPUBLISH), (.ref oPUBACK), (.ref oPUBREC), (.ref oPUBREL), (.ref oPUBCOMP), (.ref oSUBSCRIBE), (.ref oSUBACK), (.ref oUNSUBSCRIBE), (.ref oUNSUBACK), .null, .null, .null, .null] .null := Arv.set Ar45 qk45 S45 Ng45 Hh45 Gg45 rfl W46 10 rfl (Nat.le_of_ble_eq_true rfl)
  have N46 := Fr.snoc X46 N42 g_b2
  have Kp46 : Keep h0 h46 [] := Keep.wr Kp42 W46 (Or.inr sz_b2)
  have K46 : ∀ t, own_S p e below T46 (mkF m 76 #[.val (.int p0), .unset, .unset, .unset, .unset, .unset] [(.ref b2)]) t → Steps p.tables e below SE t := fun t k => K44 _ (st46 _ k)
  have K47 : ∀ t, own_S p e below T46 (mkF m 79 #[.val (.int p0), .unset, .unset, .unset, .unset, .unset] [(.int (11 : Int32)), (.ref b2), (.ref b2)]) t → Steps p.tables e below SE t := by
    intro t k
    refine K46 _ ?_
    refine XS.dup X46.here hx rfl (hb hby at_76) rfl rfl ?_
    show own_S p e below T46 (mkF m 77 #[.val (.int p0), .unset, .unset, .unset, .unset, .unset] [(.ref b2), (.ref b2)]) _
    refine XS.bipush X46.here hx rfl (hb hby at_77) ?_
    exact k
  obtain ⟨T48, X48, e48, st48⟩ := getS2 X46 hx hZ hown (host := "") (Or.inl (hw _ (List.mem_of_getElem? (i := 26) rfl))) Via.refl e46 (ST_PINGREQ.ext (own_ext Kp46)) (g := (mkF m 79 #[.val (.int p0), .unset, .unset, .unset, .unset, .unset] [(.int (11 : Int32)), (.ref b2), (.ref b2)])) rfl (hb hby at_79)
  have K48 : ∀ t, own_S p e below T48 (mkF m 82 #[.val (.int p0), .unset, .unset, .unset, .unset, .unset] [(.ref oPINGREQ), (.int (11 : Int32)), (.ref b2), (.ref b2)]) t → Steps p.tables e below SE t := fun t k => K47 _ (st48 _ k)
  obtain ⟨cl49, Ar49, qk49, S49, Ng49, Hh49, Gg49⟩ := id V46
  have hin49 : ¬ ((11 : Int32) < 0 ∨ cl49.slots.size ≤ ((11 : Int32)).toNatClampNeg) := inb_of S49 ⟨by decide, by decide⟩
  obtain ⟨T50, h50, X50, e50, W50, st50⟩ := stR X48 hx hZ e48 Ar49 (j := (11 : Int32)) hin49 rfl (Sto.ofV Ar49 qk49 O2 (Ins.self (EX_oPINGREQ.ext (own_ext Kp46)))) (g := (mkF m 82 #[.val (.int p0), .unset, .unset, .unset, .unset, .unset] [(.ref oPINGREQ), (.int (11 : Int32)), (.ref b2), (.ref b2)])) rfl rfl (hb hby at_82)
  have V50 : Arv Z h50 b2 k2 (.object "com/example/headroom/headroom/io/PacketType") (15 : Int32) [(.ref oCONNECT), (.ref oCONNACK), (.ref oPUBLISH), (.ref oPUBACK), (.ref oPUBREC), (.ref oPUBREL), (.ref oPUBCOMP), (.ref oSUBSCRIBE), (.ref oSUBACK), (.ref oUNSUBSCRIBE), (.ref oUNSUBACK), (.ref oPINGREQ), .null, .null, .null] .null := Arv.set Ar49 qk49 S49 Ng49 Hh49 Gg49 rfl W50 11 rfl (Nat.le_of_ble_eq_true rfl)
  have N50 := Fr.snoc X50 N46 g_b2
  have Kp50 : Keep h0 h50 [] := Keep.wr Kp46 W50 (Or.inr sz_b2)
  have K50 : ∀ t, own_S p e below T50 (mkF m 83 #[.val (.int p0), .unset, .unset, .unset, .unset, .unset] [(.ref b2)]) t → Steps p.tables e below SE t := fun t k => K48 _ (st50 _ k)
  have K51 : ∀ t, own_S p e below T50 (mkF m 86 #[.val (.int p0), .unset, .unset, .unset, .unset, .unset] [(.int (12 : Int32)), (.ref b2), (.ref b2)]) t → Steps p.tables e below SE t := by
    intro t k
    refine K50 _ ?_
    refine XS.dup X50.here hx rfl (hb hby at_83) rfl rfl ?_
    show own_S p e below T50 (mkF m 84 #[.val (.int p0), .unset, .unset, .unset, .unset, .unset] [(.ref b2), (.ref b2)]) _
    refine XS.bipush X50.here hx rfl (hb hby at_84) ?_
    exact k
  obtain ⟨T52, X52, e52, st52⟩ := getS2 X50 hx hZ hown (host := "") (Or.inl (hw _ (List.mem_of_getElem? (i := 28) rfl))) Via.refl e50 (ST_PINGRESP.ext (own_ext Kp50)) (g := (mkF m 86 #[.val (.int p0), .unset, .unset, .unset, .unset, .unset] [(.int (12 : Int32)), (.ref b2), (.ref b2)])) rfl (hb hby at_86)
  have K52 : ∀ t, own_S p e below T52 (mkF m 89 #[.val (.int p0), .unset, .unset, .unset, .unset, .unset] [(.ref oPINGRESP), (.int (12 : Int32)), (.ref b2), (.ref b2)]) t → Steps p.tables e below SE t := fun t k => K51 _ (st52 _ k)
  obtain ⟨cl53, Ar53, qk53, S53, Ng53, Hh53, Gg53⟩ := id V50
  have hin53 : ¬ ((12 : Int32) < 0 ∨ cl53.slots.size ≤ ((12 : Int32)).toNatClampNeg) := inb_of S53 ⟨by decide, by decide⟩
  obtain ⟨T54, h54, X54, e54, W54, st54⟩ := stR X52 hx hZ e52 Ar53 (j := (12 : Int32)) hin53 rfl (Sto.ofV Ar53 qk53 O2 (Ins.self (EX_oPINGRESP.ext (own_ext Kp50)))) (g := (mkF m 89 #[.val (.int p0), .unset, .unset, .unset, .unset, .unset] [(.ref oPINGRESP), (.int (12 : Int32)), (.ref b2), (.ref b2)])) rfl rfl (hb hby at_89)
  have V54 : Arv Z h54 b2 k2 (.object "com/example/headroom/headroom/io/PacketType") (15 : Int32) [(.ref oCONNECT), (.ref oCONNACK), (.ref oPUBLISH), (.ref oPUBACK), (.ref oPUBREC), (.ref oPUBREL), (.ref oPUBCOMP), (.ref oSUBSCRIBE), (.ref oSUBACK), (.ref oUNSUBSCRIBE), (.ref oUNSUBACK), (.ref oPINGREQ), (.ref oPINGRESP), .null, .null] .null := Arv.set Ar53 qk53 S53 Ng53 Hh53 Gg53 rfl W54 12 rfl (Nat.le_of_ble_eq_true rfl)
  have N54 := Fr.snoc X54 N50 g_b2
  have Kp54 : Keep h0 h54 [] := Keep.wr Kp50 W54 (Or.inr sz_b2)
  have K54 : ∀ t, own_S p e below T54 (mkF m 90 #[.val (.int p0), .unset, .unset, .unset, .unset, .unset] [(.ref b2)]) t → Steps p.tables e below SE t := fun t k => K52 _ (st54 _ k)
  have K55 : ∀ t, own_S p e below T54 (mkF m 93 #[.val (.int p0), .unset, .unset, .unset, .unset, .unset] [(.int (13 : Int32)), (.ref b2), (.ref b2)]) t → Steps p.tables e below SE t := by
    intro t k
    refine K54 _ ?_
    refine XS.dup X54.here hx rfl (hb hby at_90) rfl rfl ?_
    show own_S p e below T54 (mkF m 91 #[.val (.int p0), .unset, .unset, .unset, .unset, .unset] [(.ref b2), (.ref b2)]) _
    refine XS.bipush X54.here hx rfl (hb hby at_91) ?_
    exact k
  obtain ⟨T56, X56, e56, st56⟩ := getS2 X54 hx hZ hown (host := "") (Or.inl (hw _ (List.mem_of_getElem? (i := 30) rfl))) Via.refl e54 (ST_DISCONNECT.ext (own_ext Kp54)) (g := (mkF m 93 #[.val (.int p0), .unset, .unset, .unset, .unset, .unset] [(.int (13 : Int32)), (.ref b2), (.ref b2)])) rfl (hb hby at_93)
  have K56 : ∀ t, own_S p e below T56 (mkF m 96 #[.val (.int p0), .unset, .unset, .unset, .unset, .unset] [(.ref oDISCONNECT), (.int (13 : Int32)), (.ref b2), (.ref b2)]) t → Steps p.tables e below SE t := fun t k => K55 _ (st56 _ k)
  obtain ⟨cl57, Ar57, qk57, S57, Ng57, Hh57, Gg57⟩ := id V54
  have hin57 : ¬ ((13 : Int32) < 0 ∨ cl57.slots.size ≤ ((13 : Int32)).toNatClampNeg) := inb_of S57 ⟨by decide, by decide⟩
  obtain ⟨T58, h58, X58, e58, W58, st58⟩ := stR X56 hx hZ e56 Ar57 (j := (13 : Int32)) hin57 rfl (Sto.ofV Ar57 qk57 O2 (Ins.self (EX_oDISCONNECT.ext (own_ext Kp54)))) (g := (mkF m 96 #[.val (.int p0), .unset, .unset, .unset, .unset, .unset] [(.ref oDISCONNECT), (.int (13 : Int32)), (.ref b2), (.ref b2)])) rfl rfl (hb hby at_96)
  have V58 : Arv Z h58 b2 k2 (.object "com/example/headroom/headroom/io/PacketType") (15 : Int32) [(.ref oCONNECT), (.ref oCONNACK), (.ref oPUBLISH), (.ref oPUBACK), (.ref oPUBREC), (.ref oPUBREL), (.ref oPUBCOMP), (.ref oSUBSCRIBE), (.ref oSUBACK), (.ref oUNSUBSCRIBE), (.ref oUNSUBACK), (.ref oPINGREQ), (.ref oPINGRESP), (.ref oDISCONNECT), .null] .null := Arv.set Ar57 qk57 S57 Ng57 Hh57 Gg57 rfl W58 13 rfl (Nat.le_of_ble_eq_true rfl)
  have N58 := Fr.snoc X58 N54 g_b2
  have Kp58 : Keep h0 h58 [] := Keep.wr Kp54 W58 (Or.inr sz_b2)
  have K58 : ∀ t, own_S p e below T58 (mkF m 97 #[.val (.int p0), .unset, .unset, .unset, .unset, .unset] [(.ref b2)]) t → Steps p.tables e below SE t := fun t k => K56 _ (st58 _ k)
  have K59 : ∀ t, own_S p e below T58 (mkF m 100 #[.val (.int p0), .unset, .unset, .unset, .unset, .unset] [(.int (14 : Int32)), (.ref b2), (.ref b2)]) t → Steps p.tables e below SE t := by
    intro t k
    refine K58 _ ?_
    refine XS.dup X58.here hx rfl (hb hby at_97) rfl rfl ?_
    show own_S p e below T58 (mkF m 98 #[.val (.int p0), .unset, .unset, .unset, .unset, .unset] [(.ref b2), (.ref b2)]) _
    refine XS.bipush X58.here hx rfl (hb hby at_98) ?_
    exact k
  obtain ⟨T60, X60, e60, st60⟩ := getS2 X58 hx hZ hown (host := "") (Or.inl (hw _ (List.mem_of_getElem? (i := 32) rfl))) Via.refl e58 (ST_AUTH.ext (own_ext Kp58)) (g := (mkF m 100 #[.val (.int p0), .unset, .unset, .unset, .unset, .unset] [(.int (14 : Int32)), (.ref b2), (.ref b2)])) rfl (hb hby at_100)
  have K60 : ∀ t, own_S p e below T60 (mkF m 103 #[.val (.int p0), .unset, .unset, .unset, .unset, .unset] [(.ref oAUTH), (.int (14 : Int32)), (.ref b2), (.ref b2)]) t → Steps p.tables e below SE t := fun t k => K59 _ (st60 _ k)
  obtain ⟨cl61, Ar61, qk61, S61, Ng61, Hh61, Gg61⟩ := id V58
  have hin61 : ¬ ((14 : Int32) < 0 ∨ cl61.slots.size ≤ ((14 : Int32)).toNatClampNeg) := inb_of S61 ⟨by decide, by decide⟩
  obtain ⟨T62, h62, X62, e62, W62, st62⟩ := stR X60 hx hZ e60 Ar61 (j := (14 : Int32)) hin61 rfl (Sto.ofV Ar61 qk61 O2 (Ins.self (EX_oAUTH.ext (own_ext Kp58)))) (g := (mkF m 103 #[.val (.int p0), .unset, .unset, .unset, .unset, .unset] [(.ref oAUTH), (.int (14 : Int32)), (.ref b2), (.ref b2)])) rfl rfl (hb hby at_103)
  have V62 : Arv Z h62 b2 k2 (.object "com/example/headroom/headroom/io/PacketType") (15 : Int32) [(.ref oCONNECT), (.ref oCONNACK), (.ref oPUBLISH), (.ref oPUBACK), (.ref oPUBREC), (.ref oPUBREL), (.ref oPUBCOMP), (.ref oSUBSCRIBE), (.ref oSUBACK), (.ref oUNSUBSCRIBE), (.ref oUNSUBACK), (.ref oPINGREQ), (.ref oPINGRESP), (.ref oDISCONNECT), (.ref oAUTH)] .null := Arv.set Ar61 qk61 S61 Ng61 Hh61 Gg61 rfl W62 14 rfl (Nat.le_of_ble_eq_true rfl)
  have N62 := Fr.snoc X62 N58 g_b2
  have Kp62 : Keep h0 h62 [] := Keep.wr Kp58 W62 (Or.inr sz_b2)
  have K62 : ∀ t, own_S p e below T62 (mkF m 104 #[.val (.int p0), .unset, .unset, .unset, .unset, .unset] [(.ref b2)]) t → Steps p.tables e below SE t := fun t k => K60 _ (st62 _ k)
  have K63 : ∀ t, own_S p e below T62 (mkF m 107 #[.val (.int p0), .val (.ref b2), .unset, .unset, .unset, .unset] [(.int (15 : Int32))]) t → Steps p.tables e below SE t := by
    intro t k
    refine K62 _ ?_
    refine XS.astoreN X62.here hx rfl (hb hby at_104) rfl rfl (l' := #[.val (.int p0), .val (.ref b2), .unset, .unset, .unset, .unset]) rfl ?_
    show own_S p e below T62 (mkF m 105 #[.val (.int p0), .val (.ref b2), .unset, .unset, .unset, .unset] []) _
    refine XS.bipush X62.here hx rfl (hb hby at_105) ?_
    exact k
  obtain ⟨T64, h64, k64, X64, e64, E64, A64, st64⟩ := newP X62 hx hZ (hw _ (List.mem_of_getElem? (i := 34) rfl)) e62 (g := (mkF m 107 #[.val (.int p0), .val (.ref b2), .unset, .unset, .unset, .unset] [(.int (15 : Int32))])) rfl (hb hby at_107) rfl (by decide) (cap := 15) (by decide) (by decide) (by decide) (by decide)
  obtain ⟨b64, g64⟩ : ∃ z, z = h62.size := ⟨_, rfl⟩
  rw [← g64] at A64 st64
  have g_b64 : n0 ≤ b64 := Nat.le_trans (Nat.le_trans Z0 Kp62.1) (Nat.le_of_eq g64.symm)
  have sz_b64 : h0.size ≤ b64 := Nat.le_trans Kp62.1 (Nat.le_of_eq g64.symm)
  have own_ne_b2_b64 : b2 ≠ b64 := Nat.ne_of_lt (Nat.lt_of_lt_of_le V62.lt (Nat.le_of_eq g64.symm))
  have own_ne_oPUBCOMP_b64 : oPUBCOMP ≠ b64 := Nat.ne_of_lt (Nat.lt_of_lt_of_le (EX_oPUBCOMP.ext (own_ext Kp62)).lt (Nat.le_of_eq g64.symm))
  have own_ne_oUNSUBACK_b64 : oUNSUBACK ≠ b64 := Nat.ne_of_lt (Nat.lt_of_lt_of_le (EX_oUNSUBACK.ext (own_ext Kp62)).lt (Nat.le_of_eq g64.symm))
  have own_ne_oPINGRESP_b64 : oPINGRESP ≠ b64 := Nat.ne_of_lt (Nat.lt_of_lt_of_le (EX_oPINGRESP.ext (own_ext Kp62)).lt (Nat.le_of_eq g64.symm))
  have own_ne_oDISCONNECT_b64 : oDISCONNECT ≠ b64 := Nat.ne_of_lt (Nat.lt_of_lt_of_le (EX_oDISCONNECT.ext (own_ext Kp62)).lt (Nat.le_of_eq g64.symm))
  have own_ne_oBY_b64 : oBY ≠ b64 := Nat.ne_of_lt (Nat.lt_of_lt_of_le (VB.ext (own_ext Kp62)).lt (Nat.le_of_eq g64.symm))
  have own_ne_oUNSUBSCRIBE_b64 : oUNSUBSCRIBE ≠ b64 := Nat.ne_of_lt (Nat.lt_of_lt_of_le (EX_oUNSUBSCRIBE.ext (own_ext Kp62)).lt (Nat.le_of_eq g64.symm))
  have own_ne_oSUBSCRIBE_b64 : oSUBSCRIBE ≠ b64 := Nat.ne_of_lt (Nat.lt_of_lt_of_le (EX_oSUBSCRIBE.ext (own_ext Kp62)).lt (Nat.le_of_eq g64.symm))
  have own_ne_oSUBACK_b64 : oSUBACK ≠ b64 := Nat.ne_of_lt (Nat.lt_of_lt_of_le (EX_oSUBACK.ext (own_ext Kp62)).lt (Nat.le_of_eq g64.symm))
  have own_ne_oAUTH_b64 : oAUTH ≠ b64 := Nat.ne_of_lt (Nat.lt_of_lt_of_le (EX_oAUTH.ext (own_ext Kp62)).lt (Nat.le_of_eq g64.symm))
  have own_ne_oCONNECT_b64 : oCONNECT ≠ b64 := Nat.ne_of_lt (Nat.lt_of_lt_of_le (EX_oCONNECT.ext (own_ext Kp62)).lt (Nat.le_of_eq g64.symm))
  have own_ne_oPUBREL_b64 : oPUBREL ≠ b64 := Nat.ne_of_lt (Nat.lt_of_lt_of_le (EX_oPUBREL.ext (own_ext Kp62)).lt (Nat.le_of_eq g64.symm))
  have own_ne_oPINGREQ_b64 : oPINGREQ ≠ b64 := Nat.ne_of_lt (Nat.lt_of_lt_of_le (EX_oPINGREQ.ext (own_ext Kp62)).lt (Nat.le_of_eq g64.symm))
  have own_ne_oPUBREC_b64 : oPUBREC ≠ b64 := Nat.ne_of_lt (Nat.lt_of_lt_of_le (EX_oPUBREC.ext (own_ext Kp62)).lt (Nat.le_of_eq g64.symm))
  have own_ne_oPUBACK_b64 : oPUBACK ≠ b64 := Nat.ne_of_lt (Nat.lt_of_lt_of_le (EX_oPUBACK.ext (own_ext Kp62)).lt (Nat.le_of_eq g64.symm))
  have own_ne_oCONNACK_b64 : oCONNACK ≠ b64 := Nat.ne_of_lt (Nat.lt_of_lt_of_le (EX_oCONNACK.ext (own_ext Kp62)).lt (Nat.le_of_eq g64.symm))
  have own_ne_oPUBLISH_b64 : oPUBLISH ≠ b64 := Nat.ne_of_lt (Nat.lt_of_lt_of_le (EX_oPUBLISH.ext (own_ext Kp62)).lt (Nat.le_of_eq g64.symm))
  have Kp64 : Keep h0 h64 [] := Keep.ext Kp62 E64
  have V64 : Arv Z h64 b64 k64 .int (15 : Int32) [(.int (0 : Int32)), (.int (0 : Int32)), (.int (0 : Int32)), (.int (0 : Int32)), (.int (0 : Int32)), (.int (0 : Int32)), (.int (0 : Int32)), (.int (0 : Int32)), (.int (0 : Int32)), (.int (0 : Int32)), (.int (0 : Int32)), (.int (0 : Int32)), (.int (0 : Int32)), (.int (0 : Int32)), (.int (0 : Int32))] (.int (0 : Int32)) := (Arv.new A64 (by decide)).pad (pad_rep [] (.int (0 : Int32)) 15)
  have K64 : ∀ t, own_S p e below T64 (mkF m 109 #[.val (.int p0), .val (.ref b2), .unset, .unset, .unset, .unset] [(.ref b64)]) t → Steps p.tables e below SE t := fun t k => K63 _ (st64 _ k)
  have K65 : ∀ t, own_S p e below T64 (mkF m 113 #[.val (.int p0), .val (.ref b2), .unset, .unset, .unset, .unset] [(.int (16 : Int32)), (.int (0 : Int32)), (.ref b64), (.ref b64)]) t → Steps p.tables e below SE t := by
    intro t k
    refine K64 _ ?_
    refine XS.dup X64.here hx rfl (hb hby at_109) rfl rfl ?_
    show own_S p e below T64 (mkF m 110 #[.val (.int p0), .val (.ref b2), .unset, .unset, .unset, .unset] [(.ref b64), (.ref b64)]) _
    refine XS.iconst X64.here hx rfl (hb hby at_110) ?_
    show own_S p e below T64 (mkF m 111 #[.val (.int p0), .val (.ref b2), .unset, .unset, .unset, .unset] [(.int (0 : Int32)), (.ref b64), (.ref b64)]) _
    refine XS.bipush X64.here hx rfl (hb hby at_111) ?_
    exact k
  obtain ⟨cl66, Ar66, qk66, S66, Ng66, Hh66, Gg66⟩ := id V64
  have hin66 : ¬ ((0 : Int32) < 0 ∨ cl66.slots.size ≤ ((0 : Int32)).toNatClampNeg) := inb_of S66 ⟨by decide, by decide⟩
  obtain ⟨T67, h67, X67, e67, W67, st67⟩ := stI X64 hx hZ e64 Ar66 (j := (0 : Int32)) hin66 (g := (mkF m 113 #[.val (.int p0), .val (.ref b2), .unset, .unset, .unset, .unset] [(.int (16 : Int32)), (.int (0 : Int32)), (.ref b64), (.ref b64)])) rfl rfl (hb hby at_113)
  have V67 : Arv Z h67 b64 k64 .int (15 : Int32) [(.int (16 : Int32)), (.int (0 : Int32)), (.int (0 : Int32)), (.int (0 : Int32)), (.int (0 : Int32)), (.int (0 : Int32)), (.int (0 : Int32)), (.int (0 : Int32)), (.int (0 : Int32)), (.int (0 : Int32)), (.int (0 : Int32)), (.int (0 : Int32)), (.int (0 : Int32)), (.int (0 : Int32)), (.int (0 : Int32))] (.int (0 : Int32)) := Arv.set Ar66 qk66 S66 Ng66 Hh66 Gg66 rfl W67 0 rfl (Nat.le_of_ble_eq_true rfl)
  have N67 := Fr.snoc X67 N62 g_b64
  have Kp67 : Keep h0 h67 [] := Keep.wr Kp64 W67 (Or.inr sz_b64)
  have K67 : ∀ t, own_S p e below T67 (mkF m 114 #[.val (.int p0), .val (.ref b2), .unset, .unset, .unset, .unset] [(.ref b64)]) t → Steps p.tables e below SE t := fun t k => K65 _ (st67 _ k)
  have K68 : ∀ t, own_S p e below T67 (mkF m 118 #[.val (.int p0), .val (.ref b2), .unset, .unset, .unset, .unset] [(.int (32 : Int32)), (.int (1 : Int32)), (.ref b64), (.ref b64)]) t → Steps p.tables e below SE t := by
    intro t k
    refine K67 _ ?_
    refine XS.dup X67.here hx rfl (hb hby at_114) rfl rfl ?_
    show own_S p e below T67 (mkF m 115 #[.val (.int p0), .val (.ref b2), .unset, .unset, .unset, .unset] [(.ref b64), (.ref b64)]) _
    refine XS.iconst X67.here hx rfl (hb hby at_115) ?_
    show own_S p e below T67 (mkF m 116 #[.val (.int p0), .val (.ref b2), .unset, .unset, .unset, .unset] [(.int (1 : Int32)), (.ref b64), (.ref b64)]) _
    refine XS.bipush X67.here hx rfl (hb hby at_116) ?_
    exact k
  obtain ⟨cl69, Ar69, qk69, S69, Ng69, Hh69, Gg69⟩ := id V67
  have hin69 : ¬ ((1 : Int32) < 0 ∨ cl69.slots.size ≤ ((1 : Int32)).toNatClampNeg) := inb_of S69 ⟨by decide, by decide⟩
  obtain ⟨T70, h70, X70, e70, W70, st70⟩ := stI X67 hx hZ e67 Ar69 (j := (1 : Int32)) hin69 (g := (mkF m 118 #[.val (.int p0), .val (.ref b2), .unset, .unset, .unset, .unset] [(.int (32 : Int32)), (.int (1 : Int32)), (.ref b64), (.ref b64)])) rfl rfl (hb hby at_118)
  have V70 : Arv Z h70 b64 k64 .int (15 : Int32) [(.int (16 : Int32)), (.int (32 : Int32)), (.int (0 : Int32)), (.int (0 : Int32)), (.int (0 : Int32)), (.int (0 : Int32)), (.int (0 : Int32)), (.int (0 : Int32)), (.int (0 : Int32)), (.int (0 : Int32)), (.int (0 : Int32)), (.int (0 : Int32)), (.int (0 : Int32)), (.int (0 : Int32)), (.int (0 : Int32))] (.int (0 : Int32)) := Arv.set Ar69 qk69 S69 Ng69 Hh69 Gg69 rfl W70 1 rfl (Nat.le_of_ble_eq_true rfl)
  have N70 := Fr.snoc X70 N67 g_b64
  have Kp70 : Keep h0 h70 [] := Keep.wr Kp67 W70 (Or.inr sz_b64)
  have K70 : ∀ t, own_S p e below T70 (mkF m 119 #[.val (.int p0), .val (.ref b2), .unset, .unset, .unset, .unset] [(.ref b64)]) t → Steps p.tables e below SE t := fun t k => K68 _ (st70 _ k)
  have K71 : ∀ t, own_S p e below T70 (mkF m 123 #[.val (.int p0), .val (.ref b2), .unset, .unset, .unset, .unset] [(.int (48 : Int32)), (.int (2 : Int32)), (.ref b64), (.ref b64)]) t → Steps p.tables e below SE t := by
    intro t k
    refine K70 _ ?_
    refine XS.dup X70.here hx rfl (hb hby at_119) rfl rfl ?_
    show own_S p e below T70 (mkF m 120 #[.val (.int p0), .val (.ref b2), .unset, .unset, .unset, .unset] [(.ref b64), (.ref b64)]) _
    refine XS.iconst X70.here hx rfl (hb hby at_120) ?_
    show own_S p e below T70 (mkF m 121 #[.val (.int p0), .val (.ref b2), .unset, .unset, .unset, .unset] [(.int (2 : Int32)), (.ref b64), (.ref b64)]) _
    refine XS.bipush X70.here hx rfl (hb hby at_121) ?_
    exact k
  obtain ⟨cl72, Ar72, qk72, S72, Ng72, Hh72, Gg72⟩ := id V70
  have hin72 : ¬ ((2 : Int32) < 0 ∨ cl72.slots.size ≤ ((2 : Int32)).toNatClampNeg) := inb_of S72 ⟨by decide, by decide⟩
  obtain ⟨T73, h73, X73, e73, W73, st73⟩ := stI X70 hx hZ e70 Ar72 (j := (2 : Int32)) hin72 (g := (mkF m 123 #[.val (.int p0), .val (.ref b2), .unset, .unset, .unset, .unset] [(.int (48 : Int32)), (.int (2 : Int32)), (.ref b64), (.ref b64)])) rfl rfl (hb hby at_123)
  have V73 : Arv Z h73 b64 k64 .int (15 : Int32) [(.int (16 : Int32)), (.int (32 : Int32)), (.int (48 : Int32)), (.int (0 : Int32)), (.int (0 : Int32)), (.int (0 : Int32)), (.int (0 : Int32)), (.int (0 : Int32)), (.int (0 : Int32)), (.int (0 : Int32)), (.int (0 : Int32)), (.int (0 : Int32)), (.int (0 : Int32)), (.int (0 : Int32)), (.int (0 : Int32))] (.int (0 : Int32)) := Arv.set Ar72 qk72 S72 Ng72 Hh72 Gg72 rfl W73 2 rfl (Nat.le_of_ble_eq_true rfl)
  have N73 := Fr.snoc X73 N70 g_b64
  have Kp73 : Keep h0 h73 [] := Keep.wr Kp70 W73 (Or.inr sz_b64)
  have K73 : ∀ t, own_S p e below T73 (mkF m 124 #[.val (.int p0), .val (.ref b2), .unset, .unset, .unset, .unset] [(.ref b64)]) t → Steps p.tables e below SE t := fun t k => K71 _ (st73 _ k)
  have K74 : ∀ t, own_S p e below T73 (mkF m 128 #[.val (.int p0), .val (.ref b2), .unset, .unset, .unset, .unset] [(.int (64 : Int32)), (.int (3 : Int32)), (.ref b64), (.ref b64)]) t → Steps p.tables e below SE t := by
    intro t k
    refine K73 _ ?_
    refine XS.dup X73.here hx rfl (hb hby at_124) rfl rfl ?_
    show own_S p e below T73 (mkF m 125 #[.val (.int p0), .val (.ref b2), .unset, .unset, .unset, .unset] [(.ref b64), (.ref b64)]) _
    refine XS.iconst X73.here hx rfl (hb hby at_125) ?_
    show own_S p e below T73 (mkF m 126 #[.val (.int p0), .val (.ref b2), .unset, .unset, .unset, .unset] [(.int (3 : Int32)), (.ref b64), (.ref b64)]) _
    refine XS.bipush X73.here hx rfl (hb hby at_126) ?_
    exact k
  obtain ⟨cl75, Ar75, qk75, S75, Ng75, Hh75, Gg75⟩ := id V73
  have hin75 : ¬ ((3 : Int32) < 0 ∨ cl75.slots.size ≤ ((3 : Int32)).toNatClampNeg) := inb_of S75 ⟨by decide, by decide⟩
  obtain ⟨T76, h76, X76, e76, W76, st76⟩ := stI X73 hx hZ e73 Ar75 (j := (3 : Int32)) hin75 (g := (mkF m 128 #[.val (.int p0), .val (.ref b2), .unset, .unset, .unset, .unset] [(.int (64 : Int32)), (.int (3 : Int32)), (.ref b64), (.ref b64)])) rfl rfl (hb hby at_128)
  have V76 : Arv Z h76 b64 k64 .int (15 : Int32) [(.int (16 : Int32)), (.int (32 : Int32)), (.int (48 : Int32)), (.int (64 : Int32)), (.int (0 : Int32)), (.int (0 : Int32)), (.int (0 : Int32)), (.int (0 : Int32)), (.int (0 : Int32)), (.int (0 : Int32)), (.int (0 : Int32)), (.int (0 : Int32)), (.int (0 : Int32)), (.int (0 : Int32)), (.int (0 : Int32))] (.int (0 : Int32)) := Arv.set Ar75 qk75 S75 Ng75 Hh75 Gg75 rfl W76 3 rfl (Nat.le_of_ble_eq_true rfl)
  have N76 := Fr.snoc X76 N73 g_b64
  have Kp76 : Keep h0 h76 [] := Keep.wr Kp73 W76 (Or.inr sz_b64)
  have K76 : ∀ t, own_S p e below T76 (mkF m 129 #[.val (.int p0), .val (.ref b2), .unset, .unset, .unset, .unset] [(.ref b64)]) t → Steps p.tables e below SE t := fun t k => K74 _ (st76 _ k)
  have K77 : ∀ t, own_S p e below T76 (mkF m 133 #[.val (.int p0), .val (.ref b2), .unset, .unset, .unset, .unset] [(.int (80 : Int32)), (.int (4 : Int32)), (.ref b64), (.ref b64)]) t → Steps p.tables e below SE t := by
    intro t k
    refine K76 _ ?_
    refine XS.dup X76.here hx rfl (hb hby at_129) rfl rfl ?_
    show own_S p e below T76 (mkF m 130 #[.val (.int p0), .val (.ref b2), .unset, .unset, .unset, .unset] [(.ref b64), (.ref b64)]) _
    refine XS.iconst X76.here hx rfl (hb hby at_130) ?_
    show own_S p e below T76 (mkF m 131 #[.val (.int p0), .val (.ref b2), .unset, .unset, .unset, .unset] [(.int (4 : Int32)), (.ref b64), (.ref b64)]) _
    refine XS.bipush X76.here hx rfl (hb hby at_131) ?_
    exact k
  obtain ⟨cl78, Ar78, qk78, S78, Ng78, Hh78, Gg78⟩ := id V76
  have hin78 : ¬ ((4 : Int32) < 0 ∨ cl78.slots.size ≤ ((4 : Int32)).toNatClampNeg) := inb_of S78 ⟨by decide, by decide⟩
  obtain ⟨T79, h79, X79, e79, W79, st79⟩ := stI X76 hx hZ e76 Ar78 (j := (4 : Int32)) hin78 (g := (mkF m 133 #[.val (.int p0), .val (.ref b2), .unset, .unset, .unset, .unset] [(.int (80 : Int32)), (.int (4 : Int32)), (.ref b64), (.ref b64)])) rfl rfl (hb hby at_133)
  have V79 : Arv Z h79 b64 k64 .int (15 : Int32) [(.int (16 : Int32)), (.int (32 : Int32)), (.int (48 : Int32)), (.int (64 : Int32)), (.int (80 : Int32)), (.int (0 : Int32)), (.int (0 : Int32)), (.int (0 : Int32)), (.int (0 : Int32)), (.int (0 : Int32)), (.int (0 : Int32)), (.int (0 : Int32)), (.int (0 : Int32)), (.int (0 : Int32)), (.int (0 : Int32))] (.int (0 : Int32)) := Arv.set Ar78 qk78 S78 Ng78 Hh78 Gg78 rfl W79 4 rfl (Nat.le_of_ble_eq_true rfl)
  have N79 := Fr.snoc X79 N76 g_b64
  have Kp79 : Keep h0 h79 [] := Keep.wr Kp76 W79 (Or.inr sz_b64)
  have K79 : ∀ t, own_S p e below T79 (mkF m 134 #[.val (.int p0), .val (.ref b2), .unset, .unset, .unset, .unset] [(.ref b64)]) t → Steps p.tables e below SE t := fun t k => K77 _ (st79 _ k)
  have K80 : ∀ t, own_S p e below T79 (mkF m 138 #[.val (.int p0), .val (.ref b2), .unset, .unset, .unset, .unset] [(.int (98 : Int32)), (.int (5 : Int32)), (.ref b64), (.ref b64)]) t → Steps p.tables e below SE t := by
    intro t k
    refine K79 _ ?_
    refine XS.dup X79.here hx rfl (hb hby at_134) rfl rfl ?_
    show own_S p e below T79 (mkF m 135 #[.val (.int p0), .val (.ref b2), .unset, .unset, .unset, .unset] [(.ref b64), (.ref b64)]) _
    refine XS.iconst X79.here hx rfl (hb hby at_135) ?_
    show own_S p e below T79 (mkF m 136 #[.val (.int p0), .val (.ref b2), .unset, .unset, .unset, .unset] [(.int (5 : Int32)), (.ref b64), (.ref b64)]) _
    refine XS.bipush X79.here hx rfl (hb hby at_136) ?_
    exact k
  obtain ⟨cl81, Ar81, qk81, S81, Ng81, Hh81, Gg81⟩ := id V79
  have hin81 : ¬ ((5 : Int32) < 0 ∨ cl81.slots.size ≤ ((5 : Int32)).toNatClampNeg) := inb_of S81 ⟨by decide, by decide⟩
  obtain ⟨T82, h82, X82, e82, W82, st82⟩ := stI X79 hx hZ e79 Ar81 (j := (5 : Int32)) hin81 (g := (mkF m 138 #[.val (.int p0), .val (.ref b2), .unset, .unset, .unset, .unset] [(.int (98 : Int32)), (.int (5 : Int32)), (.ref b64), (.ref b64)])) rfl rfl (hb hby at_138)
  have V82 : Arv Z h82 b64 k64 .int (15 : Int32) [(.int (16 : Int32)), (.int (32 : Int32)), (.int (48 : Int32)), (.int (64 : Int32)), (.int (80 : Int32)), (.int (98 : Int32)), (.int (0 : Int32)), (.int (0 : Int32)), (.int (0 : Int32)), (.int (0 : Int32)), (.int (0 : Int32)), (.int (0 : Int32)), (.int (0 : Int32)), (.int (0 : Int32)), (.int (0 : Int32))] (.int (0 : Int32)) := Arv.set Ar81 qk81 S81 Ng81 Hh81 Gg81 rfl W82 5 rfl (Nat.le_of_ble_eq_true rfl)
  have N82 := Fr.snoc X82 N79 g_b64
  have Kp82 : Keep h0 h82 [] := Keep.wr Kp79 W82 (Or.inr sz_b64)
  have K82 : ∀ t, own_S p e below T82 (mkF m 139 #[.val (.int p0), .val (.ref b2), .unset, .unset, .unset, .unset] [(.ref b64)]) t → Steps p.tables e below SE t := fun t k => K80 _ (st82 _ k)
  have K83 : ∀ t, own_S p e below T82 (mkF m 144 #[.val (.int p0), .val (.ref b2), .unset, .unset, .unset, .unset] [(.int (112 : Int32)), (.int (6 : Int32)), (.ref b64), (.ref b64)]) t → Steps p.tables e below SE t := by
    intro t k
    refine K82 _ ?_
    refine XS.dup X82.here hx rfl (hb hby at_139) rfl rfl ?_
    show own_S p e below T82 (mkF m 140 #[.val (.int p0), .val (.ref b2), .unset, .unset, .unset, .unset] [(.ref b64), (.ref b64)]) _
    refine XS.bipush X82.here hx rfl (hb hby at_140) ?_
    show own_S p e below T82 (mkF m 142 #[.val (.int p0), .val (.ref b2), .unset, .unset, .unset, .unset] [(.int (6 : Int32)), (.ref b64), (.ref b64)]) _
    refine XS.bipush X82.here hx rfl (hb hby at_142) ?_
    exact k
  obtain ⟨cl84, Ar84, qk84, S84, Ng84, Hh84, Gg84⟩ := id V82
  have hin84 : ¬ ((6 : Int32) < 0 ∨ cl84.slots.size ≤ ((6 : Int32)).toNatClampNeg) := inb_of S84 ⟨by decide, by decide⟩
  obtain ⟨T85, h85, X85, e85, W85, st85⟩ := stI X82 hx hZ e82 Ar84 (j := (6 : Int32)) hin84 (g := (mkF m 144 #[.val (.int p0), .val (.ref b2), .unset, .unset, .unset, .unset] [(.int (112 : Int32)), (.int (6 : Int32)), (.ref b64), (.ref b64)])) rfl rfl (hb hby at_144)
  have V85 : Arv Z h85 b64 k64 .int (15 : Int32) [(.int (16 : Int32)), (.int (32 : Int32)), (.int (48 : Int32)), (.int (64 : Int32)), (.int (80 : Int32)), (.int (98 : Int32)), (.int (112 : Int32)), (.int (0 : Int32)), (.int (0 : Int32)), (.int (0 : Int32)), (.int (0 : Int32)), (.int (0 : Int32)), (.int (0 : Int32)), (.int (0 : Int32)), (.int (0 : Int32))] (.int (0 : Int32)) := Arv.set Ar84 qk84 S84 Ng84 Hh84 Gg84 rfl W85 6 rfl (Nat.le_of_ble_eq_true rfl)
  have N85 := Fr.snoc X85 N82 g_b64
  have Kp85 : Keep h0 h85 [] := Keep.wr Kp82 W85 (Or.inr sz_b64)
  have K85 : ∀ t, own_S p e below T85 (mkF m 145 #[.val (.int p0), .val (.ref b2), .unset, .unset, .unset, .unset] [(.ref b64)]) t → Steps p.tables e below SE t := fun t k => K83 _ (st85 _ k)
  have K86 : ∀ t, own_S p e below T85 (mkF m 151 #[.val (.int p0), .val (.ref b2), .unset, .unset, .unset, .unset] [(.int (130 : Int32)), (.int (7 : Int32)), (.ref b64), (.ref b64)]) t → Steps p.tables e below SE t := by
    intro t k
    refine K85 _ ?_
    refine XS.dup X85.here hx rfl (hb hby at_145) rfl rfl ?_
    show own_S p e below T85 (mkF m 146 #[.val (.int p0), .val (.ref b2), .unset, .unset, .unset, .unset] [(.ref b64), (.ref b64)]) _
    refine XS.bipush X85.here hx rfl (hb hby at_146) ?_
    show own_S p e below T85 (mkF m 148 #[.val (.int p0), .val (.ref b2), .unset, .unset, .unset, .unset] [(.int (7 : Int32)), (.ref b64), (.ref b64)]) _
    refine XS.sipush X85.here hx rfl (hb hby at_148) ?_
    exact k
  obtain ⟨cl87, Ar87, qk87, S87, Ng87, Hh87, Gg87⟩ := id V85
  have hin87 : ¬ ((7 : Int32) < 0 ∨ cl87.slots.size ≤ ((7 : Int32)).toNatClampNeg) := inb_of S87 ⟨by decide, by decide⟩
  obtain ⟨T88, h88, X88, e88, W88, st88⟩ := stI X85 hx hZ e85 Ar87 (j := (7 : Int32)) hin87 (g := (mkF m 151 #[.val (.int p0), .val (.ref b2), .unset, .unset, .unset, .unset] [(.int (130 : Int32)), (.int (7 : Int32)), (.ref b64), (.ref b64)])) rfl rfl (hb hby at_151)
  have V88 : Arv Z h88 b64 k64 .int (15 : Int32) [(.int (16 : Int32)), (.int (32 : Int32)), (.int (48 : Int32)), (.int (64 : Int32)), (.int (80 : Int32)), (.int (98 : Int32)), (.int (112 : Int32)), (.int (130 : Int32)), (.int (0 : Int32)), (.int (0 : Int32)), (.int (0 : Int32)), (.int (0 : Int32)), (.int (0 : Int32)), (.int (0 : Int32)), (.int (0 : Int32))] (.int (0 : Int32)) := Arv.set Ar87 qk87 S87 Ng87 Hh87 Gg87 rfl W88 7 rfl (Nat.le_of_ble_eq_true rfl)
  have N88 := Fr.snoc X88 N85 g_b64
  have Kp88 : Keep h0 h88 [] := Keep.wr Kp85 W88 (Or.inr sz_b64)
  have K88 : ∀ t, own_S p e below T88 (mkF m 152 #[.val (.int p0), .val (.ref b2), .unset, .unset, .unset, .unset] [(.ref b64)]) t → Steps p.tables e below SE t := fun t k => K86 _ (st88 _ k)
  have K89 : ∀ t, own_S p e below T88 (mkF m 158 #[.val (.int p0), .val (.ref b2), .unset, .unset, .unset, .unset] [(.int (144 : Int32)), (.int (8 : Int32)), (.ref b64), (.ref b64)]) t → Steps p.tables e below SE t := by
    intro t k
    refine K88 _ ?_
    refine XS.dup X88.here hx rfl (hb hby at_152) rfl rfl ?_
    show own_S p e below T88 (mkF m 153 #[.val (.int p0), .val (.ref b2), .unset, .unset, .unset, .unset] [(.ref b64), (.ref b64)]) _
    refine XS.bipush X88.here hx rfl (hb hby at_153) ?_
    show own_S p e below T88 (mkF m 155 #[.val (.int p0), .val (.ref b2), .unset, .unset, .unset, .unset] [(.int (8 : Int32)), (.ref b64), (.ref b64)]) _
    refine XS.sipush X88.here hx rfl (hb hby at_155) ?_
    exact k
  obtain ⟨cl90, Ar90, qk90, S90, Ng90, Hh90, Gg90⟩ := id V88
  have hin90 : ¬ ((8 : Int32) < 0 ∨ cl90.slots.size ≤ ((8 : Int32)).toNatClampNeg) := inb_of S90 ⟨by decide, by decide⟩
  obtain ⟨T91, h91, X91, e91, W91, st91⟩ := stI X88 hx hZ e88 Ar90 (j := (8 : Int32)) hin90 (g := (mkF m 158 #[.val (.int p0), .val (.ref b2), .unset, .unset, .unset, .unset] [(.int (144 : Int32)), (.int (8 : Int32)), (.ref b64), (.ref b64)])) rfl rfl (hb hby at_158)
  have V91 : Arv Z h91 b64 k64 .int (15 : Int32) [(.int (16 : Int32)), (.int (32 : Int32)), (.int (48 : Int32)), (.int (64 : Int32)), (.int (80 : Int32)), (.int (98 : Int32)), (.int (112 : Int32)), (.int (130 : Int32)), (.int (144 : Int32)), (.int (0 : Int32)), (.int (0 : Int32)), (.int (0 : Int32)), (.int (0 : Int32)), (.int (0 : Int32)), (.int (0 : Int32))] (.int (0 : Int32)) := Arv.set Ar90 qk90 S90 Ng90 Hh90 Gg90 rfl W91 8 rfl (Nat.le_of_ble_eq_true rfl)
  have N91 := Fr.snoc X91 N88 g_b64
  have Kp91 : Keep h0 h91 [] := Keep.wr Kp88 W91 (Or.inr sz_b64)
  have K91 : ∀ t, own_S p e below T91 (mkF m 159 #[.val (.int p0), .val (.ref b2), .unset, .unset, .unset, .unset] [(.ref b64)]) t → Steps p.tables e below SE t := fun t k => K89 _ (st91 _ k)
  have K92 : ∀ t, own_S p e below T91 (mkF m 165 #[.val (.int p0), .val (.ref b2), .unset, .unset, .unset, .unset] [(.int (162 : Int32)), (.int (9 : Int32)), (.ref b64), (.ref b64)]) t → Steps p.tables e below SE t := by
    intro t k
    refine K91 _ ?_
    refine XS.dup X91.here hx rfl (hb hby at_159) rfl rfl ?_
    show own_S p e below T91 (mkF m 160 #[.val (.int p0), .val (.ref b2), .unset, .unset, .unset, .unset] [(.ref b64), (.ref b64)]) _
    refine XS.bipush X91.here hx rfl (hb hby at_160) ?_
    show own_S p e below T91 (mkF m 162 #[.val (.int p0), .val (.ref b2), .unset, .unset, .unset, .unset] [(.int (9 : Int32)), (.ref b64), (.ref b64)]) _
    refine XS.sipush X91.here hx rfl (hb hby at_162) ?_
    exact k
  obtain ⟨cl93, Ar93, qk93, S93, Ng93, Hh93, Gg93⟩ := id V91
  have hin93 : ¬ ((9 : Int32) < 0 ∨ cl93.slots.size ≤ ((9 : Int32)).toNatClampNeg) := inb_of S93 ⟨by decide, by decide⟩
  obtain ⟨T94, h94, X94, e94, W94, st94⟩ := stI X91 hx hZ e91 Ar93 (j := (9 : Int32)) hin93 (g := (mkF m 165 #[.val (.int p0), .val (.ref b2), .unset, .unset, .unset, .unset] [(.int (162 : Int32)), (.int (9 : Int32)), (.ref b64), (.ref b64)])) rfl rfl (hb hby at_165)
  have V94 : Arv Z h94 b64 k64 .int (15 : Int32) [(.int (16 : Int32)), (.int (32 : Int32)), (.int (48 : Int32)), (.int (64 : Int32)), (.int (80 : Int32)), (.int (98 : Int32)), (.int (112 : Int32)), (.int (130 : Int32)), (.int (144 : Int32)), (.int (162 : Int32)), (.int (0 : Int32)), (.int (0 : Int32)), (.int (0 : Int32)), (.int (0 : Int32)), (.int (0 : Int32))] (.int (0 : Int32)) := Arv.set Ar93 qk93 S93 Ng93 Hh93 Gg93 rfl W94 9 rfl (Nat.le_of_ble_eq_true rfl)
  have N94 := Fr.snoc X94 N91 g_b64
  have Kp94 : Keep h0 h94 [] := Keep.wr Kp91 W94 (Or.inr sz_b64)
  have K94 : ∀ t, own_S p e below T94 (mkF m 166 #[.val (.int p0), .val (.ref b2), .unset, .unset, .unset, .unset] [(.ref b64)]) t → Steps p.tables e below SE t := fun t k => K92 _ (st94 _ k)
  have K95 : ∀ t, own_S p e below T94 (mkF m 172 #[.val (.int p0), .val (.ref b2), .unset, .unset, .unset, .unset] [(.int (176 : Int32)), (.int (10 : Int32)), (.ref b64), (.ref b64)]) t → Steps p.tables e below SE t := by
    intro t k
    refine K94 _ ?_
    refine XS.dup X94.here hx rfl (hb hby at_166) rfl rfl ?_
    show own_S p e below T94 (mkF m 167 #[.val (.int p0), .val (.ref b2), .unset, .unset, .unset, .unset] [(.ref b64), (.ref b64)]) _
    refine XS.bipush X94.here hx rfl (hb hby at_167) ?_
    show own_S p e below T94 (mkF m 169 #[.val (.int p0), .val (.ref b2), .unset, .unset, .unset, .unset] [(.int (10 : Int32)), (.ref b64), (.ref b64)]) _
    refine XS.sipush X94.here hx rfl (hb hby at_169) ?_
    exact k
  obtain ⟨cl96, Ar96, qk96, S96, Ng96, Hh96, Gg96⟩ := id V94
  have hin96 : ¬ ((10 : Int32) < 0 ∨ cl96.slots.size ≤ ((10 : Int32)).toNatClampNeg) := inb_of S96 ⟨by decide, by decide⟩
  obtain ⟨T97, h97, X97, e97, W97, st97⟩ := stI X94 hx hZ e94 Ar96 (j := (10 : Int32)) hin96 (g := (mkF m 172 #[.val (.int p0), .val (.ref b2), .unset, .unset, .unset, .unset] [(.int (176 : Int32)), (.int (10 : Int32)), (.ref b64), (.ref b64)])) rfl rfl (hb hby at_172)
  have V97 : Arv Z h97 b64 k64 .int (15 : Int32) [(.int (16 : Int32)), (.int (32 : Int32)), (.int (48 : Int32)), (.int (64 : Int32)), (.int (80 : Int32)), (.int (98 : Int32)), (.int (112 : Int32)), (.int (130 : Int32)), (.int (144 : Int32)), (.int (162 : Int32)), (.int (176 : Int32)), (.int (0 : Int32)), (.int (0 : Int32)), (.int (0 : Int32)), (.int (0 : Int32))] (.int (0 : Int32)) := Arv.set Ar96 qk96 S96 Ng96 Hh96 Gg96 rfl W97 10 rfl (Nat.le_of_ble_eq_true rfl)
  have N97 := Fr.snoc X97 N94 g_b64
  have Kp97 : Keep h0 h97 [] := Keep.wr Kp94 W97 (Or.inr sz_b64)
  have K97 : ∀ t, own_S p e below T97 (mkF m 173 #[.val (.int p0), .val (.ref b2), .unset, .unset, .unset, .unset] [(.ref b64)]) t → Steps p.tables e below SE t := fun t k => K95 _ (st97 _ k)
  have K98 : ∀ t, own_S p e below T97 (mkF m 179 #[.val (.int p0), .val (.ref b2), .unset, .unset, .unset, .unset] [(.int (192 : Int32)), (.int (11 : Int32)), (.ref b64), (.ref b64)]) t → Steps p.tables e below SE t := by
    intro t k
    refine K97 _ ?_
    refine XS.dup X97.here hx rfl (hb hby at_173) rfl rfl ?_
    show own_S p e below T97 (mkF m 174 #[.val (.int p0), .val (.ref b2), .unset, .unset, .unset, .unset] [(.ref b64), (.ref b64)]) _
    refine XS.bipush X97.here hx rfl (hb hby at_174) ?_
    show own_S p e below T97 (mkF m 176 #[.val (.int p0), .val (.ref b2), .unset, .unset, .unset, .unset] [(.int (11 : Int32)), (.ref b64), (.ref b64)]) _
    refine XS.sipush X97.here hx rfl (hb hby at_176) ?_
    exact k
  obtain ⟨cl99, Ar99, qk99, S99, Ng99, Hh99, Gg99⟩ := id V97
  have hin99 : ¬ ((11 : Int32) < 0 ∨ cl99.slots.size ≤ ((11 : Int32)).toNatClampNeg) := inb_of S99 ⟨by decide, by decide⟩
  obtain ⟨T100, h100, X100, e100, W100, st100⟩ := stI X97 hx hZ e97 Ar99 (j := (11 : Int32)) hin99 (g := (mkF m 179 #[.val (.int p0), .val (.ref b2), .unset, .unset, .unset, .unset] [(.int (192 : Int32)), (.int (11 : Int32)), (.ref b64), (.ref b64)])) rfl rfl (hb hby at_179)
  have V100 : Arv Z h100 b64 k64 .int (15 : Int32) [(.int (16 : Int32)), (.int (32 : Int32)), (.int (48 : Int32)), (.int (64 : Int32)), (.int (80 : Int32)), (.int (98 : Int32)), (.int (112 : Int32)), (.int (130 : Int32)), (.int (144 : Int32)), (.int (162 : Int32)), (.int (176 : Int32)), (.int (192 : Int32)), (.int (0 : Int32)), (.int (0 : Int32)), (.int (0 : Int32))] (.int (0 : Int32)) := Arv.set Ar99 qk99 S99 Ng99 Hh99 Gg99 rfl W100 11 rfl (Nat.le_of_ble_eq_true rfl)
  have N100 := Fr.snoc X100 N97 g_b64
  have Kp100 : Keep h0 h100 [] := Keep.wr Kp97 W100 (Or.inr sz_b64)
  have K100 : ∀ t, own_S p e below T100 (mkF m 180 #[.val (.int p0), .val (.ref b2), .unset, .unset, .unset, .unset] [(.ref b64)]) t → Steps p.tables e below SE t := fun t k => K98 _ (st100 _ k)
  have K101 : ∀ t, own_S p e below T100 (mkF m 186 #[.val (.int p0), .val (.ref b2), .unset, .unset, .unset, .unset] [(.int (208 : Int32)), (.int (12 : Int32)), (.ref b64), (.ref b64)]) t → Steps p.tables e below SE t := by
    intro t k
    refine K100 _ ?_
    refine XS.dup X100.here hx rfl (hb hby at_180) rfl rfl ?_
    show own_S p e below T100 (mkF m 181 #[.val (.int p0), .val (.ref b2), .unset, .unset, .unset, .unset] [(.ref b64), (.ref b64)]) _
    refine XS.bipush X100.here hx rfl (hb hby at_181) ?_
    show own_S p e below T100 (mkF m 183 #[.val (.int p0), .val (.ref b2), .unset, .unset, .unset, .unset] [(.int (12 : Int32)), (.ref b64), (.ref b64)]) _
    refine XS.sipush X100.here hx rfl (hb hby at_183) ?_
    exact k
  obtain ⟨cl102, Ar102, qk102, S102, Ng102, Hh102, Gg102⟩ := id V100
  have hin102 : ¬ ((12 : Int32) < 0 ∨ cl102.slots.size ≤ ((12 : Int32)).toNatClampNeg) := inb_of S102 ⟨by decide, by decide⟩
  obtain ⟨T103, h103, X103, e103, W103, st103⟩ := stI X100 hx hZ e100 Ar102 (j := (12 : Int32)) hin102 (g := (mkF m 186 #[.val (.int p0), .val (.ref b2), .unset, .unset, .unset, .unset] [(.int (208 : Int32)), (.int (12 : Int32)), (.ref b64), (.ref b64)])) rfl rfl (hb hby at_186)
  have V103 : Arv Z h103 b64 k64 .int (15 : Int32) [(.int (16 : Int32)), (.int (32 : Int32)), (.int (48 : Int32)), (.int (64 : Int32)), (.int (80 : Int32)), (.int (98 : Int32)), (.int (112 : Int32)), (.int (130 : Int32)), (.int (144 : Int32)), (.int (162 : Int32)), (.int (176 : Int32)), (.int (192 : Int32)), (.int (208 : Int32)), (.int (0 : Int32)), (.int (0 : Int32))] (.int (0 : Int32)) := Arv.set Ar102 qk102 S102 Ng102 Hh102 Gg102 rfl W103 12 rfl (Nat.le_of_ble_eq_true rfl)
  have N103 := Fr.snoc X103 N100 g_b64
  have Kp103 : Keep h0 h103 [] := Keep.wr Kp100 W103 (Or.inr sz_b64)
  have K103 : ∀ t, own_S p e below T103 (mkF m 187 #[.val (.int p0), .val (.ref b2), .unset, .unset, .unset, .unset] [(.ref b64)]) t → Steps p.tables e below SE t := fun t k => K101 _ (st103 _ k)
  have K104 : ∀ t, own_S p e below T103 (mkF m 193 #[.val (.int p0), .val (.ref b2), .unset, .unset, .unset, .unset] [(.int (224 : Int32)), (.int (13 : Int32)), (.ref b64), (.ref b64)]) t → Steps p.tables e below SE t := by
    intro t k
    refine K103 _ ?_
    refine XS.dup X103.here hx rfl (hb hby at_187) rfl rfl ?_
    show own_S p e below T103 (mkF m 188 #[.val (.int p0), .val (.ref b2), .unset, .unset, .unset, .unset] [(.ref b64), (.ref b64)]) _
    refine XS.bipush X103.here hx rfl (hb hby at_188) ?_
    show own_S p e below T103 (mkF m 190 #[.val (.int p0), .val (.ref b2), .unset, .unset, .unset, .unset] [(.int (13 : Int32)), (.ref b64), (.ref b64)]) _
    refine XS.sipush X103.here hx rfl (hb hby at_190) ?_
    exact k
  obtain ⟨cl105, Ar105, qk105, S105, Ng105, Hh105, Gg105⟩ := id V103
  have hin105 : ¬ ((13 : Int32) < 0 ∨ cl105.slots.size ≤ ((13 : Int32)).toNatClampNeg) := inb_of S105 ⟨by decide, by decide⟩
  obtain ⟨T106, h106, X106, e106, W106, st106⟩ := stI X103 hx hZ e103 Ar105 (j := (13 : Int32)) hin105 (g := (mkF m 193 #[.val (.int p0), .val (.ref b2), .unset, .unset, .unset, .unset] [(.int (224 : Int32)), (.int (13 : Int32)), (.ref b64), (.ref b64)])) rfl rfl (hb hby at_193)
  have V106 : Arv Z h106 b64 k64 .int (15 : Int32) [(.int (16 : Int32)), (.int (32 : Int32)), (.int (48 : Int32)), (.int (64 : Int32)), (.int (80 : Int32)), (.int (98 : Int32)), (.int (112 : Int32)), (.int (130 : Int32)), (.int (144 : Int32)), (.int (162 : Int32)), (.int (176 : Int32)), (.int (192 : Int32)), (.int (208 : Int32)), (.int (224 : Int32)), (.int (0 : Int32))] (.int (0 : Int32)) := Arv.set Ar105 qk105 S105 Ng105 Hh105 Gg105 rfl W106 13 rfl (Nat.le_of_ble_eq_true rfl)
  have N106 := Fr.snoc X106 N103 g_b64
  have Kp106 : Keep h0 h106 [] := Keep.wr Kp103 W106 (Or.inr sz_b64)
  have K106 : ∀ t, own_S p e below T106 (mkF m 194 #[.val (.int p0), .val (.ref b2), .unset, .unset, .unset, .unset] [(.ref b64)]) t → Steps p.tables e below SE t := fun t k => K104 _ (st106 _ k)
  have K107 : ∀ t, own_S p e below T106 (mkF m 200 #[.val (.int p0), .val (.ref b2), .unset, .unset, .unset, .unset] [(.int (240 : Int32)), (.int (14 : Int32)), (.ref b64), (.ref b64)]) t → Steps p.tables e below SE t := by
    intro t k
    refine K106 _ ?_
    refine XS.dup X106.here hx rfl (hb hby at_194) rfl rfl ?_
    show own_S p e below T106 (mkF m 195 #[.val (.int p0), .val (.ref b2), .unset, .unset, .unset, .unset] [(.ref b64), (.ref b64)]) _
    refine XS.bipush X106.here hx rfl (hb hby at_195) ?_
    show own_S p e below T106 (mkF m 197 #[.val (.int p0), .val (.ref b2), .unset, .unset, .unset, .unset] [(.int (14 : Int32)), (.ref b64), (.ref b64)]) _
    refine XS.sipush X106.here hx rfl (hb hby at_197) ?_
    exact k
  obtain ⟨cl108, Ar108, qk108, S108, Ng108, Hh108, Gg108⟩ := id V106
  have hin108 : ¬ ((14 : Int32) < 0 ∨ cl108.slots.size ≤ ((14 : Int32)).toNatClampNeg) := inb_of S108 ⟨by decide, by decide⟩
  obtain ⟨T109, h109, X109, e109, W109, st109⟩ := stI X106 hx hZ e106 Ar108 (j := (14 : Int32)) hin108 (g := (mkF m 200 #[.val (.int p0), .val (.ref b2), .unset, .unset, .unset, .unset] [(.int (240 : Int32)), (.int (14 : Int32)), (.ref b64), (.ref b64)])) rfl rfl (hb hby at_200)
  have V109 : Arv Z h109 b64 k64 .int (15 : Int32) [(.int (16 : Int32)), (.int (32 : Int32)), (.int (48 : Int32)), (.int (64 : Int32)), (.int (80 : Int32)), (.int (98 : Int32)), (.int (112 : Int32)), (.int (130 : Int32)), (.int (144 : Int32)), (.int (162 : Int32)), (.int (176 : Int32)), (.int (192 : Int32)), (.int (208 : Int32)), (.int (224 : Int32)), (.int (240 : Int32))] (.int (0 : Int32)) := Arv.set Ar108 qk108 S108 Ng108 Hh108 Gg108 rfl W109 14 rfl (Nat.le_of_ble_eq_true rfl)
  have N109 := Fr.snoc X109 N106 g_b64
  have Kp109 : Keep h0 h109 [] := Keep.wr Kp106 W109 (Or.inr sz_b64)
  have K109 : ∀ t, own_S p e below T109 (mkF m 201 #[.val (.int p0), .val (.ref b2), .unset, .unset, .unset, .unset] [(.ref b64)]) t → Steps p.tables e below SE t := fun t k => K107 _ (st109 _ k)
  have K110 : ∀ t, own_S p e below T109 (mkF m 210 #[.val (.int p0), .val (.ref b2), .val (.ref b64), .val (.int ((p0 &&& (2147483647 : Int32)) % (15 : Int32))), .unset, .unset] []) t → Steps p.tables e below SE t := by
    intro t k
    refine K109 _ ?_
    refine XS.astoreN X109.here hx rfl (hb hby at_201) rfl rfl (l' := #[.val (.int p0), .val (.ref b2), .val (.ref b64), .unset, .unset, .unset]) rfl ?_
    show own_S p e below T109 (mkF m 202 #[.val (.int p0), .val (.ref b2), .val (.ref b64), .unset, .unset, .unset] []) _
    refine XS.iloadN X109.here hx rfl (hb hby at_202) rfl ?_
    show own_S p e below T109 (mkF m 203 #[.val (.int p0), .val (.ref b2), .val (.ref b64), .unset, .unset, .unset] [(.int p0)]) _
    refine Stand.ldcI X109 hx hown (mvT hZ (hw _ (List.mem_of_getElem? (i := 35) rfl))) (v := (2147483647 : Int32)) (g := (mkF m 203 #[.val (.int p0), .val (.ref b2), .val (.ref b64), .unset, .unset, .unset] [(.int p0)])) rfl (hb hby at_203) ?_
    show own_S p e below T109 (mkF m 205 #[.val (.int p0), .val (.ref b2), .val (.ref b64), .unset, .unset, .unset] [(.int (2147483647 : Int32)), (.int p0)]) _
    refine XS.iand X109.here hx rfl (hb hby at_205) rfl ?_
    show own_S p e below T109 (mkF m 206 #[.val (.int p0), .val (.ref b2), .val (.ref b64), .unset, .unset, .unset] [(.int (p0 &&& (2147483647 : Int32)))]) _
    refine XS.bipush X109.here hx rfl (hb hby at_206) ?_
    show own_S p e below T109 (mkF m 208 #[.val (.int p0), .val (.ref b2), .val (.ref b64), .unset, .unset, .unset] [(.int (15 : Int32)), (.int (p0 &&& (2147483647 : Int32)))]) _
    refine iremM X109 hx rfl (hb hby at_208) rfl (by decide) ?_
    show own_S p e below T109 (mkF m 209 #[.val (.int p0), .val (.ref b2), .val (.ref b64), .unset, .unset, .unset] [(.int ((p0 &&& (2147483647 : Int32)) % (15 : Int32)))]) _
    refine XS.istoreN X109.here hx rfl (hb hby at_209) rfl (l' := #[.val (.int p0), .val (.ref b2), .val (.ref b64), .val (.int ((p0 &&& (2147483647 : Int32)) % (15 : Int32))), .unset, .unset]) rfl ?_
    exact k
  obtain ⟨ii, hii⟩ : ∃ z : Int32, z = ((p0 &&& (2147483647 : Int32)) % (15 : Int32)) := ⟨_, rfl⟩
  rw [← hii] at K110
  rcases own_n15 p0 ii hii with q | q | q | q | q | q | q | q | q | q | q | q | q | q | q
  · skip
    rw [q] at K110
    have K111 : ∀ t, own_S p e below T109 (mkF m 212 #[.val (.int p0), .val (.ref b2), .val (.ref b64), .val (.int (0 : Int32)), .unset, .unset] [(.int (0 : Int32)), (.ref b2)]) t → Steps p.tables e below SE t := by
      intro t k
      refine K110 _ ?_
      refine XS.aloadN X109.here hx rfl (hb hby at_210) rfl rfl ?_
      show own_S p e below T109 (mkF m 211 #[.val (.int p0), .val (.ref b2), .val (.ref b64), .val (.int (0 : Int32)), .unset, .unset] [(.ref b2)]) _
      refine XS.iloadN X109.here hx rfl (hb hby at_211) rfl ?_
      exact k
    obtain ⟨cl112, Ar112, qk112, S112, Ng112, Hh112, Gg112⟩ := id ((((((((((((((((V62.ext E64).other W67 (own_ne_b2_b64)).other W70 (own_ne_b2_b64)).other W73 (own_ne_b2_b64)).other W76 (own_ne_b2_b64)).other W79 (own_ne_b2_b64)).other W82 (own_ne_b2_b64)).other W85 (own_ne_b2_b64)).other W88 (own_ne_b2_b64)).other W91 (own_ne_b2_b64)).other W94 (own_ne_b2_b64)).other W97 (own_ne_b2_b64)).other W100 (own_ne_b2_b64)).other W103 (own_ne_b2_b64)).other W106 (own_ne_b2_b64)).other W109 (own_ne_b2_b64))
    have hin112 : ¬ ((0 : Int32) < 0 ∨ cl112.slots.size ≤ ((0 : Int32)).toNatClampNeg) := inb_of S112 ⟨by decide, by decide⟩
    have hat112 : cl112.slots[((0 : Int32)).toNatClampNeg]? = some (.ref oCONNECT) := Has.at Hh112 hin112 rfl
    have K113 : ∀ t, own_S p e below T109 (mkF m 217 #[.val (.int p0), .val (.ref b2), .val (.ref b64), .val (.int (0 : Int32)), .val (.ref oCONNECT), .unset] [(.ref oCONNECT)]) t → Steps p.tables e below SE t := by
      intro t k
      refine K111 _ ?_
      refine X109.aaload hx (j := (0 : Int32)) (v := (.ref oCONNECT)) (by rw [e109]; exact Ar112.1) (State.isArrayOf_alike hZ.alike Ar112.2.1) rfl Ar112.2.2 hin112 hat112 (g := (mkF m 212 #[.val (.int p0), .val (.ref b2), .val (.ref b64), .val (.int (0 : Int32)), .unset, .unset] [(.int (0 : Int32)), (.ref b2)])) rfl rfl (hb hby at_212) _ ?_
      show own_S p e below T109 (mkF m 213 #[.val (.int p0), .val (.ref b2), .val (.ref b64), .val (.int (0 : Int32)), .unset, .unset] [(.ref oCONNECT)]) _
      refine XS.astore X109.here hx rfl (hb hby at_213) rfl rfl (l' := #[.val (.int p0), .val (.ref b2), .val (.ref b64), .val (.int (0 : Int32)), .val (.ref oCONNECT), .unset]) rfl ?_
      show own_S p e below T109 (mkF m 215 #[.val (.int p0), .val (.ref b2), .val (.ref b64), .val (.int (0 : Int32)), .val (.ref oCONNECT), .unset] []) _
      refine XS.aload X109.here hx rfl (hb hby at_215) rfl rfl ?_
      exact k
    obtain ⟨cq114, kq114, q114a, q114b, q114c⟩ := isOf hZ e109 (EX_oCONNECT.ext (own_ext Kp109))
    obtain ⟨_, _, ⟨T114, L114, k114, n114⟩, -, X114, ⟨Lc114, hQ114, l114, y114, z114⟩, st114⟩ := X109.virtualBack hx (y := (⟨"com/example/headroom/headroom/io/PacketType", "firstByte", "()I"⟩ : MethodName)) (z := (⟨"com/example/headroom/headroom/io/PacketType", "firstByte", "()I"⟩ : MethodName)) hown (mvT hZ (hw _ (List.mem_of_getElem? (i := 36) rfl))) (mvT hZ (hw _ (List.mem_of_getElem? (i := 37) rfl))) (notFace_of_selects (args := #[]) (mvT hZ (hw _ (List.mem_of_getElem? (i := 39) rfl)))) (mvT hZ (hw _ (List.mem_of_getElem? (i := 39) rfl))) (mvT hZ (hw _ (List.mem_of_getElem? (i := 38) rfl))) (by decide) (backOf (W := 0) (rm1 l Z a0 hw [] oCONNECT (1 : Int32) (0 : Int32) h109 n0 (Nat.le_trans Z0 Kp109.1) (FL_oCONNECT_value.ext (own_ext Kp109)) (FL_oCONNECT_flags.ext (own_ext Kp109))) hZ (hw _ (List.mem_of_getElem? (i := 40) rfl)) (hw _ (List.mem_of_getElem? (i := 3) rfl)) (by decide) (by decide)) q114a q114c (g := (mkF m 217 #[.val (.int p0), .val (.ref b2), .val (.ref b64), .val (.int (0 : Int32)), .val (.ref oCONNECT), .unset] [(.ref oCONNECT)])) rfl (by rw [hml]; rfl) (Steps.refl _) (argsL := []) (rest := []) (lenOf pd_0_0 rfl) rfl (by show 2 * 0 + _ ≤ _; exact Nat.le_of_eq rfl) (hb hby at_217) (fun _ _ => ⟨rfl, e109, (by decide : 2 + 0 ≤ _), (by decide : 30 + 0 ≤ _)⟩)
    dsimp only [Pt.U, Pt.locs, Pt.cells, Pt.slots] at X114 l114 y114 z114 st114 hQ114
    rw [y114, z114] at X114
    obtain ⟨rfl, Nq114, e114⟩ := hQ114
    have N114 : Fr n0 L114 := by rw [l114]; exact Fr.app N109 Nq114
    have K114 : ∀ t, own_S p e below T114 (mkF m 220 #[.val (.int p0), .val (.ref b2), .val (.ref b64), .val (.int (0 : Int32)), .val (.ref oCONNECT), .unset] [(.int (if (0 : Int32) = (-1 : Int32) then (((1 : Int32) <<< ((4 : Int32) &&& 31)) ||| (0 : Int32)) else (((1 : Int32) <<< ((4 : Int32) &&& 31)) ||| (0 : Int32))))]) t → Steps p.tables e below SE t := fun t k => K113 _ (st114.trans k)
    rw [(by decide : (if (0 : Int32) = (-1 : Int32) then (((1 : Int32) <<< ((4 : Int32) &&& 31)) ||| (0 : Int32)) else (((1 : Int32) <<< ((4 : Int32) &&& 31)) ||| (0 : Int32))) = (16 : Int32))] at K114
    have K115 : ∀ t, own_S p e below T114 (mkF m 226 #[.val (.int p0), .val (.ref b2), .val (.ref b64), .val (.int (0 : Int32)), .val (.ref oCONNECT), .val (.int (16 : Int32))] [(.int (0 : Int32)), (.ref b64), (.int (16 : Int32))]) t → Steps p.tables e below SE t := by
      intro t k
      refine K114 _ ?_
      refine XS.istore X114.here hx rfl (hb hby at_220) rfl (l' := #[.val (.int p0), .val (.ref b2), .val (.ref b64), .val (.int (0 : Int32)), .val (.ref oCONNECT), .val (.int (16 : Int32))]) rfl ?_
      show own_S p e below T114 (mkF m 222 #[.val (.int p0), .val (.ref b2), .val (.ref b64), .val (.int (0 : Int32)), .val (.ref oCONNECT), .val (.int (16 : Int32))] []) _
      refine XS.iload X114.here hx rfl (hb hby at_222) rfl ?_
      show own_S p e below T114 (mkF m 224 #[.val (.int p0), .val (.ref b2), .val (.ref b64), .val (.int (0 : Int32)), .val (.ref oCONNECT), .val (.int (16 : Int32))] [(.int (16 : Int32))]) _
      refine XS.aloadN X114.here hx rfl (hb hby at_224) rfl rfl ?_
      show own_S p e below T114 (mkF m 225 #[.val (.int p0), .val (.ref b2), .val (.ref b64), .val (.int (0 : Int32)), .val (.ref oCONNECT), .val (.int (16 : Int32))] [(.ref b64), (.int (16 : Int32))]) _
      refine XS.iloadN X114.here hx rfl (hb hby at_225) rfl ?_
      exact k
    obtain ⟨cl116, Ar116, qk116, S116, Ng116, Hh116, Gg116⟩ := id V109
    have hin116 : ¬ ((0 : Int32) < 0 ∨ cl116.slots.size ≤ ((0 : Int32)).toNatClampNeg) := inb_of S116 ⟨by decide, by decide⟩
    have hat116 : cl116.slots[((0 : Int32)).toNatClampNeg]? = some (.int (16 : Int32)) := Has.at Hh116 hin116 rfl
    have K117 : ∀ t, own_S p e below T114 (mkF m 234 #[.val (.int p0), .val (.ref b2), .val (.ref b64), .val (.int (0 : Int32)), .val (.ref oCONNECT), .val (.int (16 : Int32))] [(.int (16 : Int32))]) t → Steps p.tables e below SE t := by
      intro t k
      refine K115 _ ?_
      refine X114.iaload hx (j := (0 : Int32)) (v := (.int (16 : Int32))) (by rw [e114]; exact Ar116.1) (State.isArrayOf_alike hZ.alike Ar116.2.1) Ar116.2.2 hin116 hat116 (g := (mkF m 226 #[.val (.int p0), .val (.ref b2), .val (.ref b64), .val (.int (0 : Int32)), .val (.ref oCONNECT), .val (.int (16 : Int32))] [(.int (0 : Int32)), (.ref b64), (.int (16 : Int32))])) rfl rfl (hb hby at_226) _ ?_
      show own_S p e below T114 (mkF m 227 #[.val (.int p0), .val (.ref b2), .val (.ref b64), .val (.int (0 : Int32)), .val (.ref oCONNECT), .val (.int (16 : Int32))] [(.int (16 : Int32)), (.int (16 : Int32))]) _
      refine XS.icmpYes X114.here hx rfl (pc0 := 227) (pc' := 232) rfl (hb hby at_227) rfl (XT.ii_eq_t (by decide : (16 : Int32) = (16 : Int32))) (by decide) (by decide) ?_
      show own_S p e below T114 (mkF m 232 #[.val (.int p0), .val (.ref b2), .val (.ref b64), .val (.int (0 : Int32)), .val (.ref oCONNECT), .val (.int (16 : Int32))] []) _
      refine XS.iload X114.here hx rfl (hb hby at_232) rfl ?_
      exact k
    obtain ⟨_, _, ⟨T118, L118, k118, n118⟩, -, X118, ⟨Lc118, hQ118, l118, y118, z118⟩, st118⟩ := Jvm.LawKit.callS X114 hx (y := (⟨"com/example/headroom/headroom/io/PacketType", "of", "(I)Lcom/example/headroom/headroom/io/PacketType;"⟩ : MethodName)) hown (mvT hZ (hw _ (List.mem_of_getElem? (i := 45) rfl))) (mvT hZ (hw _ (List.mem_of_getElem? (i := 46) rfl))) (mvT hZ (hw _ (List.mem_of_getElem? (i := 3) rfl))) (mvT hZ (hw _ (List.mem_of_getElem? (i := 47) rfl))) (by decide) (backOf (W := 0) (rm2 l Z a0 hw [] (16 : Int32) oBY kB _ oCONNECT (1 : Int32) (0 : Int32) h109 n0 (Nat.le_trans Z0 Kp109.1) (ST_BY_VALUE.ext (own_ext Kp109)) (VB.ext (own_ext Kp109)) (FL_oCONNECT_flags.ext (own_ext Kp109)) (by decide) ⟨by decide, by decide⟩ rfl (by decide)) hZ (hw _ (List.mem_of_getElem? (i := 47) rfl)) (hw _ (List.mem_of_getElem? (i := 3) rfl)) (by decide) (by decide)) (g := (mkF m 234 #[.val (.int p0), .val (.ref b2), .val (.ref b64), .val (.int (0 : Int32)), .val (.ref oCONNECT), .val (.int (16 : Int32))] [(.int (16 : Int32))])) rfl (by rw [hml]; rfl) (argsL := [(.int (16 : Int32))]) (rest := []) (lenOf pd_0_1 rfl) rfl (by show 2 * 0 + _ ≤ _; exact Nat.le_of_eq rfl) (hb hby at_234) (fun _ _ => ⟨rfl, e114, (by decide : 2 + 0 ≤ _), (by decide : 30 + 0 ≤ _)⟩)
    dsimp only [Pt.U, Pt.locs, Pt.cells, Pt.slots] at X118 l118 y118 z118 st118 hQ118
    rw [y118, z118] at X118
    obtain ⟨rfl, Nq118, e118⟩ := hQ118
    have N118 : Fr n0 L118 := by rw [l118]; exact Fr.app N114 Nq118
    have K118 : ∀ t, own_S p e below T118 (mkF m 237 #[.val (.int p0), .val (.ref b2), .val (.ref b64), .val (.int (0 : Int32)), .val (.ref oCONNECT), .val (.int (16 : Int32))] [(.ref oCONNECT)]) t → Steps p.tables e below SE t := fun t k => K117 _ (st118 _ k)
    have K119 : ∀ t, own_S p e below T118 (mkF m 247 #[.val (.int p0), .val (.ref b2), .val (.ref b64), .val (.int (0 : Int32)), .val (.ref oCONNECT), .val (.int (16 : Int32))] [(.int (1 : Int32))]) t → Steps p.tables e below SE t := by
      intro t k
      refine K118 _ ?_
      refine XS.aload X118.here hx rfl (hb hby at_237) rfl rfl ?_
      show own_S p e below T118 (mkF m 239 #[.val (.int p0), .val (.ref b2), .val (.ref b64), .val (.int (0 : Int32)), .val (.ref oCONNECT), .val (.int (16 : Int32))] [(.ref oCONNECT), (.ref oCONNECT)]) _
      refine Jvm.RoadKit.acmp (g := (mkF m 239 #[.val (.int p0), .val (.ref b2), .val (.ref b64), .val (.int (0 : Int32)), .val (.ref oCONNECT), .val (.int (16 : Int32))] [(.ref oCONNECT), (.ref oCONNECT)])) X118 hx rfl rfl rfl (pc0 := 239) (pc' := 242) (same := true) rfl (hb hby at_239) rfl (decide_eq_true rfl) (by decide) (by decide) ?_
      show own_S p e below T118 (mkF m 242 #[.val (.int p0), .val (.ref b2), .val (.ref b64), .val (.int (0 : Int32)), .val (.ref oCONNECT), .val (.int (16 : Int32))] []) _
      refine XS.iconst X118.here hx rfl (hb hby at_242) ?_
      show own_S p e below T118 (mkF m 243 #[.val (.int p0), .val (.ref b2), .val (.ref b64), .val (.int (0 : Int32)), .val (.ref oCONNECT), .val (.int (16 : Int32))] [(.int (1 : Int32))]) _
      refine XS.goto X118.here hx rfl (pc0 := 243) (pc' := 247) rfl (hb hby at_243) (by decide) (by decide) ?_
      exact k
    obtain ⟨fs, hr, hrun, hended, hW, hsame⟩ := X118.leave (v := some (.int (1 : Int32))) (fun h => by rw [Bd.returns] at h; cases h)
    refine ⟨_, _, K119 _ ?_, hrun, hended, _, _, rfl, ?_, ⟨_, rfl⟩, hW, hsame.mono (by decide) (by decide)⟩
    · exact retN X118 hx (t := .boolean) Bd.returns (by simp) (hb hby at_247) hr
    · show Q0 Z p0 oCONNECT oCONNACK oPUBLISH oPUBACK oPUBREC oPUBREL oPUBCOMP oSUBSCRIBE oSUBACK oUNSUBSCRIBE oUNSUBACK oPINGREQ oPINGRESP oDISCONNECT oAUTH oBY kB h0 n0 _ T118.heap _
      rw [e118]
      exact ⟨rfl, N118⟩
  · skip
    rw [q] at K110
    have K120 : ∀ t, own_S p e below T109 (mkF m 212 #[.val (.int p0), .val (.ref b2), .val (.ref b64), .val (.int (1 : Int32)), .unset, .unset] [(.int (1 : Int32)), (.ref b2)]) t → Steps p.tables e below SE t := by
      intro t k
      refine K110 _ ?_
      refine XS.aloadN X109.here hx rfl (hb hby at_210) rfl rfl ?_
      show own_S p e below T109 (mkF m 211 #[.val (.int p0), .val (.ref b2), .val (.ref b64), .val (.int (1 : Int32)), .unset, .unset] [(.ref b2)]) _
      refine XS.iloadN X109.here hx rfl (hb hby at_211) rfl ?_
      exact k
    obtain ⟨cl121, Ar121, qk121, S121, Ng121, Hh121, Gg121⟩ := id ((((((((((((((((V62.ext E64).other W67 (own_ne_b2_b64)).other W70 (own_ne_b2_b64)).other W73 (own_ne_b2_b64)).other W76 (own_ne_b2_b64)).other W79 (own_ne_b2_b64)).other W82 (own_ne_b2_b64)).other W85 (own_ne_b2_b64)).other W88 (own_ne_b2_b64)).other W91 (own_ne_b2_b64)).other W94 (own_ne_b2_b64)).other W97 (own_ne_b2_b64)).other W100 (own_ne_b2_b64)).other W103 (own_ne_b2_b64)).other W106 (own_ne_b2_b64)).other W109 (own_ne_b2_b64))
    have hin121 : ¬ ((1 : Int32) < 0 ∨ cl121.slots.size ≤ ((1 : Int32)).toNatClampNeg) := inb_of S121 ⟨by decide, by decide⟩
    have hat121 : cl121.slots[((1 : Int32)).toNatClampNeg]? = some (.ref oCONNACK) := Has.at Hh121 hin121 rfl
    have K122 : ∀ t, own_S p e below T109 (mkF m 217 #[.val (.int p0), .val (.ref b2), .val (.ref b64), .val (.int (1 : Int32)), .val (.ref oCONNACK), .unset] [(.ref oCONNACK)]) t → Steps p.tables e below SE t := by
      intro t k
      refine K120 _ ?_
      refine X109.aaload hx (j := (1 : Int32)) (v := (.ref oCONNACK)) (by rw [e109]; exact Ar121.1) (State.isArrayOf_alike hZ.alike Ar121.2.1) rfl Ar121.2.2 hin121 hat121 (g := (mkF m 212 #[.val (.int p0), .val (.ref b2), .val (.ref b64), .val (.int (1 : Int32)), .unset, .unset] [(.int (1 : Int32)), (.ref b2)])) rfl rfl (hb hby at_212) _ ?_
      show own_S p e below T109 (mkF m 213 #[.val (.int p0), .val (.ref b2), .val (.ref b64), .val (.int (1 : Int32)), .unset, .unset] [(.ref oCONNACK)]) _
      refine XS.astore X109.here hx rfl (hb hby at_213) rfl rfl (l' := #[.val (.int p0), .val (.ref b2), .val (.ref b64), .val (.int (1 : Int32)), .val (.ref oCONNACK), .unset]) rfl ?_
      show own_S p e below T109 (mkF m 215 #[.val (.int p0), .val (.ref b2), .val (.ref b64), .val (.int (1 : Int32)), .val (.ref oCONNACK), .unset] []) _
      refine XS.aload X109.here hx rfl (hb hby at_215) rfl rfl ?_
      exact k
    obtain ⟨cq123, kq123, q123a, q123b, q123c⟩ := isOf hZ e109 (EX_oCONNACK.ext (own_ext Kp109))
    obtain ⟨_, _, ⟨T123, L123, k123, n123⟩, -, X123, ⟨Lc123, hQ123, l123, y123, z123⟩, st123⟩ := X109.virtualBack hx (y := (⟨"com/example/headroom/headroom/io/PacketType", "firstByte", "()I"⟩ : MethodName)) (z := (⟨"com/example/headroom/headroom/io/PacketType", "firstByte", "()I"⟩ : MethodName)) hown (mvT hZ (hw _ (List.mem_of_getElem? (i := 36) rfl))) (mvT hZ (hw _ (List.mem_of_getElem? (i := 37) rfl))) (notFace_of_selects (args := #[]) (mvT hZ (hw _ (List.mem_of_getElem? (i := 39) rfl)))) (mvT hZ (hw _ (List.mem_of_getElem? (i := 39) rfl))) (mvT hZ (hw _ (List.mem_of_getElem? (i := 38) rfl))) (by decide) (backOf (W := 0) (rm1 l Z a0 hw [] oCONNACK (2 : Int32) (0 : Int32) h109 n0 (Nat.le_trans Z0 Kp109.1) (FL_oCONNACK_value.ext (own_ext Kp109)) (FL_oCONNACK_flags.ext (own_ext Kp109))) hZ (hw _ (List.mem_of_getElem? (i := 40) rfl)) (hw _ (List.mem_of_getElem? (i := 3) rfl)) (by decide) (by decide)) q123a q123c (g := (mkF m 217 #[.val (.int p0), .val (.ref b2), .val (.ref b64), .val (.int (1 : Int32)), .val (.ref oCONNACK), .unset] [(.ref oCONNACK)])) rfl (by rw [hml]; rfl) (Steps.refl _) (argsL := []) (rest := []) (lenOf pd_0_0 rfl) rfl (by show 2 * 0 + _ ≤ _; exact Nat.le_of_eq rfl) (hb hby at_217) (fun _ _ => ⟨rfl, e109, (by decide : 2 + 0 ≤ _), (by decide : 30 + 0 ≤ _)⟩)
    dsimp only [Pt.U, Pt.locs, Pt.cells, Pt.slots] at X123 l123 y123 z123 st123 hQ123
    rw [y123, z123] at X123
    obtain ⟨rfl, Nq123, e123⟩ := hQ123
    have N123 : Fr n0 L123 := by rw [l123]; exact Fr.app N109 Nq123
    have K123 : ∀ t, own_S p e below T123 (mkF m 220 #[.val (.int p0), .val (.ref b2), .val (.ref b64), .val (.int (1 : Int32)), .val (.ref oCONNACK), .unset] [(.int (if (0 : Int32) = (-1 : Int32) then (((2 : Int32) <<< ((4 : Int32) &&& 31)) ||| (0 : Int32)) else (((2 : Int32) <<< ((4 : Int32) &&& 31)) ||| (0 : Int32))))]) t → Steps p.tables e below SE t := fun t k => K122 _ (st123.trans k)
    rw [(by decide : (if (0 : Int32) = (-1 : Int32) then (((2 : Int32) <<< ((4 : Int32) &&& 31)) ||| (0 : Int32)) else (((2 : Int32) <<< ((4 : Int32) &&& 31)) ||| (0 : Int32))) = (32 : Int32))] at K123
    have K124 : ∀ t, own_S p e below T123 (mkF m 226 #[.val (.int p0), .val (.ref b2), .val (.ref b64), .val (.int (1 : Int32)), .val (.ref oCONNACK), .val (.int (32 : Int32))] [(.int (1 : Int32)), (.ref b64), (.int (32 : Int32))]) t → Steps p.tables e below SE t := by
      intro t k
      refine K123 _ ?_
      refine XS.istore X123.here hx rfl (hb hby at_220) rfl (l' := #[.val (.int p0), .val (.ref b2), .val (.ref b64), .val (.int (1 : Int32)), .val (.ref oCONNACK), .val (.int (32 : Int32))]) rfl ?_
      show own_S p e below T123 (mkF m 222 #[.val (.int p0), .val (.ref b2), .val (.ref b64), .val (.int (1 : Int32)), .val (.ref oCONNACK), .val (.int (32 : Int32))] []) _
      refine XS.iload X123.here hx rfl (hb hby at_222) rfl ?_
      show own_S p e below T123 (mkF m 224 #[.val (.int p0), .val (.ref b2), .val (.ref b64), .val (.int (1 : Int32)), .val (.ref oCONNACK), .val (.int (32 : Int32))] [(.int (32 : Int32))]) _
      refine XS.aloadN X123.here hx rfl (hb hby at_224) rfl rfl ?_
      show own_S p e below T123 (mkF m 225 #[.val (.int p0), .val (.ref b2), .val (.ref b64), .val (.int (1 : Int32)), .val (.ref oCONNACK), .val (.int (32 : Int32))] [(.ref b64), (.int (32 : Int32))]) _
      refine XS.iloadN X123.here hx rfl (hb hby at_225) rfl ?_
      exact k
    obtain ⟨cl125, Ar125, qk125, S125, Ng125, Hh125, Gg125⟩ := id V109
    have hin125 : ¬ ((1 : Int32) < 0 ∨ cl125.slots.size ≤ ((1 : Int32)).toNatClampNeg) := inb_of S125 ⟨by decide, by decide⟩
    have hat125 : cl125.slots[((1 : Int32)).toNatClampNeg]? = some (.int (32 : Int32)) := Has.at Hh125 hin125 rfl
    have K126 : ∀ t, own_S p e below T123 (mkF m 234 #[.val (.int p0), .val (.ref b2), .val (.ref b64), .val (.int (1 : Int32)), .val (.ref oCONNACK), .val (.int (32 : Int32))] [(.int (32 : Int32))]) t → Steps p.tables e below SE t := by
      intro t k
      refine K124 _ ?_
      refine X123.iaload hx (j := (1 : Int32)) (v := (.int (32 : Int32))) (by rw [e123]; exact Ar125.1) (State.isArrayOf_alike hZ.alike Ar125.2.1) Ar125.2.2 hin125 hat125 (g := (mkF m 226 #[.val (.int p0), .val (.ref b2), .val (.ref b64), .val (.int (1 : Int32)), .val (.ref oCONNACK), .val (.int (32 : Int32))] [(.int (1 : Int32)), (.ref b64), (.int (32 : Int32))])) rfl rfl (hb hby at_226) _ ?_
      show own_S p e below T123 (mkF m 227 #[.val (.int p0), .val (.ref b2), .val (.ref b64), .val (.int (1 : Int32)), .val (.ref oCONNACK), .val (.int (32 : Int32))] [(.int (32 : Int32)), (.int (32 : Int32))]) _
      refine XS.icmpYes X123.here hx rfl (pc0 := 227) (pc' := 232) rfl (hb hby at_227) rfl (XT.ii_eq_t (by decide : (32 : Int32) = (32 : Int32))) (by decide) (by decide) ?_
      show own_S p e below T123 (mkF m 232 #[.val (.int p0), .val (.ref b2), .val (.ref b64), .val (.int (1 : Int32)), .val (.ref oCONNACK), .val (.int (32 : Int32))] []) _
      refine XS.iload X123.here hx rfl (hb hby at_232) rfl ?_
      exact k
    obtain ⟨_, _, ⟨T127, L127, k127, n127⟩, -, X127, ⟨Lc127, hQ127, l127, y127, z127⟩, st127⟩ := Jvm.LawKit.callS X123 hx (y := (⟨"com/example/headroom/headroom/io/PacketType", "of", "(I)Lcom/example/headroom/headroom/io/PacketType;"⟩ : MethodName)) hown (mvT hZ (hw _ (List.mem_of_getElem? (i := 45) rfl))) (mvT hZ (hw _ (List.mem_of_getElem? (i := 46) rfl))) (mvT hZ (hw _ (List.mem_of_getElem? (i := 3) rfl))) (mvT hZ (hw _ (List.mem_of_getElem? (i := 47) rfl))) (by decide) (backOf (W := 0) (rm2 l Z a0 hw [] (32 : Int32) oBY kB _ oCONNACK (2 : Int32) (0 : Int32) h109 n0 (Nat.le_trans Z0 Kp109.1) (ST_BY_VALUE.ext (own_ext Kp109)) (VB.ext (own_ext Kp109)) (FL_oCONNACK_flags.ext (own_ext Kp109)) (by decide) ⟨by decide, by decide⟩ rfl (by decide)) hZ (hw _ (List.mem_of_getElem? (i := 47) rfl)) (hw _ (List.mem_of_getElem? (i := 3) rfl)) (by decide) (by decide)) (g := (mkF m 234 #[.val (.int p0), .val (.ref b2), .val (.ref b64), .val (.int (1 : Int32)), .val (.ref oCONNACK), .val (.int (32 : Int32))] [(.int (32 : Int32))])) rfl (by rw [hml]; rfl) (argsL := [(.int (32 : Int32))]) (rest := []) (lenOf pd_0_1 rfl) rfl (by show 2 * 0 + _ ≤ _; exact Nat.le_of_eq rfl) (hb hby at_234) (fun _ _ => ⟨rfl, e123, (by decide : 2 + 0 ≤ _), (by decide : 30 + 0 ≤ _)⟩)
    dsimp only [Pt.U, Pt.locs, Pt.cells, Pt.slots] at X127 l127 y127 z127 st127 hQ127
    rw [y127, z127] at X127
    obtain ⟨rfl, Nq127, e127⟩ := hQ127
    have N127 : Fr n0 L127 := by rw [l127]; exact Fr.app N123 Nq127
    have K127 : ∀ t, own_S p e below T127 (mkF m 237 #[.val (.int p0), .val (.ref b2), .val (.ref b64), .val (.int (1 : Int32)), .val (.ref oCONNACK), .val (.int (32 : Int32))] [(.ref oCONNACK)]) t → Steps p.tables e below SE t := fun t k => K126 _ (st127 _ k)
    have K128 : ∀ t, own_S p e below T127 (mkF m 247 #[.val (.int p0), .val (.ref b2), .val (.ref b64), .val (.int (1 : Int32)), .val (.ref oCONNACK), .val (.int (32 : Int32))] [(.int (1 : Int32))]) t → Steps p.tables e below SE t := by
      intro t k
      refine K127 _ ?_
      refine XS.aload X127.here hx rfl (hb hby at_237) rfl rfl ?_
      show own_S p e below T127 (mkF m 239 #[.val (.int p0), .val (.ref b2), .val (.ref b64), .val (.int (1 : Int32)), .val (.ref oCONNACK), .val (.int (32 : Int32))] [(.ref oCONNACK), (.ref oCONNACK)]) _
      refine Jvm.RoadKit.acmp (g := (mkF m 239 #[.val (.int p0), .val (.ref b2), .val (.ref b64), .val (.int (1 : Int32)), .val (.ref oCONNACK), .val (.int (32 : Int32))] [(.ref oCONNACK), (.ref oCONNACK)])) X127 hx rfl rfl rfl (pc0 := 239) (pc' := 242) (same := true) rfl (hb hby at_239) rfl (decide_eq_true rfl) (by decide) (by decide) ?_
      show own_S p e below T127 (mkF m 242 #[.val (.int p0), .val (.ref b2), .val (.ref b64), .val (.int (1 : Int32)), .val (.ref oCONNACK), .val (.int (32 : Int32))] []) _
      refine XS.iconst X127.here hx rfl (hb hby at_242) ?_
      show own_S p e below T127 (mkF m 243 #[.val (.int p0), .val (.ref b2), .val (.ref b64), .val (.int (1 : Int32)), .val (.ref oCONNACK), .val (.int (32 : Int32))] [(.int (1 : Int32))]) _
      refine XS.goto X127.here hx rfl (pc0 := 243) (pc' := 247) rfl (hb hby at_243) (by decide) (by decide) ?_
      exact k
    obtain ⟨fs, hr, hrun, hended, hW, hsame⟩ := X127.leave (v := some (.int (1 : Int32))) (fun h => by rw [Bd.returns] at h; cases h)
    refine ⟨_, _, K128 _ ?_, hrun, hended, _, _, rfl, ?_, ⟨_, rfl⟩, hW, hsame.mono (by decide) (by decide)⟩
    · exact retN X127 hx (t := .boolean) Bd.returns (by simp) (hb hby at_247) hr
    · show Q0 Z p0 oCONNECT oCONNACK oPUBLISH oPUBACK oPUBREC oPUBREL oPUBCOMP oSUBSCRIBE oSUBACK oUNSUBSCRIBE oUNSUBACK oPINGREQ oPINGRESP oDISCONNECT oAUTH oBY kB h0 n0 _ T127.heap _
      rw [e127]
      exact ⟨rfl, N127⟩
  · skip
    rw [q] at K110
    have K129 : ∀ t, own_S p e below T109 (mkF m 212 #[.val (.int p0), .val (.ref b2), .val (.ref b64), .val (.int (2 : Int32)), .unset, .unset] [(.int (2 : Int32)), (.ref b2)]) t → Steps p.tables e below SE t := by
      intro t k
      refine K110 _ ?_
      refine XS.aloadN X109.here hx rfl (hb hby at_210) rfl rfl ?_
      show own_S p e below T109 (mkF m 211 #[.val (.int p0), .val (.ref b2), .val (.ref b64), .val (.int (2 : Int32)), .unset, .unset] [(.ref b2)]) _
      refine XS.iloadN X109.here hx rfl (hb hby at_211) rfl ?_
      exact k
    obtain ⟨cl130, Ar130, qk130, S130, Ng130, Hh130, Gg130⟩ := id ((((((((((((((((V62.ext E64).other W67 (own_ne_b2_b64)).other W70 (own_ne_b2_b64)).other W73 (own_ne_b2_b64)).other W76 (own_ne_b2_b64)).other W79 (own_ne_b2_b64)).other W82 (own_ne_b2_b64)).other W85 (own_ne_b2_b64)).other W88 (own_ne_b2_b64)).other W91 (own_ne_b2_b64)).other W94 (own_ne_b2_b64)).other W97 (own_ne_b2_b64)).other W100 (own_ne_b2_b64)).other W103 (own_ne_b2_b64)).other W106 (own_ne_b2_b64)).other W109 (own_ne_b2_b64))
    have hin130 : ¬ ((2 : Int32) < 0 ∨ cl130.slots.size ≤ ((2 : Int32)).toNatClampNeg) := inb_of S130 ⟨by decide, by decide⟩
    have hat130 : cl130.slots[((2 : Int32)).toNatClampNeg]? = some (.ref oPUBLISH) := Has.at Hh130 hin130 rfl
    have K131 : ∀ t, own_S p e below T109 (mkF m 217 #[.val (.int p0), .val (.ref b2), .val (.ref b64), .val (.int (2 : Int32)), .val (.ref oPUBLISH), .unset] [(.ref oPUBLISH)]) t → Steps p.tables e below SE t := by
      intro t k
      refine K129 _ ?_
      refine X109.aaload hx (j := (2 : Int32)) (v := (.ref oPUBLISH)) (by rw [e109]; exact Ar130.1) (State.isArrayOf_alike hZ.alike Ar130.2.1) rfl Ar130.2.2 hin130 hat130 (g := (mkF m 212 #[.val (.int p0), .val (.ref b2), .val (.ref b64), .val (.int (2 : Int32)), .unset, .unset] [(.int (2 : Int32)), (.ref b2)])) rfl rfl (hb hby at_212) _ ?_
      show own_S p e below T109 (mkF m 213 #[.val (.int p0), .val (.ref b2), .val (.ref b64), .val (.int (2 : Int32)), .unset, .unset] [(.ref oPUBLISH)]) _
      refine XS.astore X109.here hx rfl (hb hby at_213) rfl rfl (l' := #[.val (.int p0), .val (.ref b2), .val (.ref b64), .val (.int (2 : Int32)), .val (.ref oPUBLISH), .unset]) rfl ?_
      show own_S p e below T109 (mkF m 215 #[.val (.int p0), .val (.ref b2), .val (.ref b64), .val (.int (2 : Int32)), .val (.ref oPUBLISH), .unset] []) _
      refine XS.aload X109.here hx rfl (hb hby at_215) rfl rfl ?_
      exact k
    obtain ⟨cq132, kq132, q132a, q132b, q132c⟩ := isOf hZ e109 (EX_oPUBLISH.ext (own_ext Kp109))
    obtain ⟨_, _, ⟨T132, L132, k132, n132⟩, -, X132, ⟨Lc132, hQ132, l132, y132, z132⟩, st132⟩ := X109.virtualBack hx (y := (⟨"com/example/headroom/headroom/io/PacketType", "firstByte", "()I"⟩ : MethodName)) (z := (⟨"com/example/headroom/headroom/io/PacketType", "firstByte", "()I"⟩ : MethodName)) hown (mvT hZ (hw _ (List.mem_of_getElem? (i := 36) rfl))) (mvT hZ (hw _ (List.mem_of_getElem? (i := 37) rfl))) (notFace_of_selects (args := #[]) (mvT hZ (hw _ (List.mem_of_getElem? (i := 39) rfl)))) (mvT hZ (hw _ (List.mem_of_getElem? (i := 39) rfl))) (mvT hZ (hw _ (List.mem_of_getElem? (i := 38) rfl))) (by decide) (backOf (W := 0) (rm1 l Z a0 hw [] oPUBLISH (3 : Int32) (-1 : Int32) h109 n0 (Nat.le_trans Z0 Kp109.1) (FL_oPUBLISH_value.ext (own_ext Kp109)) (FL_oPUBLISH_flags.ext (own_ext Kp109))) hZ (hw _ (List.mem_of_getElem? (i := 40) rfl)) (hw _ (List.mem_of_getElem? (i := 3) rfl)) (by decide) (by decide)) q132a q132c (g := (mkF m 217 #[.val (.int p0), .val (.ref b2), .val (.ref b64), .val (.int (2 : Int32)), .val (.ref oPUBLISH), .unset] [(.ref oPUBLISH)])) rfl (by rw [hml]; rfl) (Steps.refl _) (argsL := []) (rest := []) (lenOf pd_0_0 rfl) rfl (by show 2 * 0 + _ ≤ _; exact Nat.le_of_eq rfl) (hb hby at_217) (fun _ _ => ⟨rfl, e109, (by decide : 2 + 0 ≤ _), (by decide : 30 + 0 ≤ _)⟩)
    dsimp only [Pt.U, Pt.locs, Pt.cells, Pt.slots] at X132 l132 y132 z132 st132 hQ132
    rw [y132, z132] at X132
    obtain ⟨rfl, Nq132, e132⟩ := hQ132
    have N132 : Fr n0 L132 := by rw [l132]; exact Fr.app N109 Nq132
    have K132 : ∀ t, own_S p e below T132 (mkF m 220 #[.val (.int p0), .val (.ref b2), .val (.ref b64), .val (.int (2 : Int32)), .val (.ref oPUBLISH), .unset] [(.int (if (-1 : Int32) = (-1 : Int32) then (((3 : Int32) <<< ((4 : Int32) &&& 31)) ||| (0 : Int32)) else (((3 : Int32) <<< ((4 : Int32) &&& 31)) ||| (-1 : Int32))))]) t → Steps p.tables e below SE t := fun t k => K131 _ (st132.trans k)
    rw [(by decide : (if (-1 : Int32) = (-1 : Int32) then (((3 : Int32) <<< ((4 : Int32) &&& 31)) ||| (0 : Int32)) else (((3 : Int32) <<< ((4 : Int32) &&& 31)) ||| (-1 : Int32))) = (48 : Int32))] at K132
    have K133 : ∀ t, own_S p e below T132 (mkF m 226 #[.val (.int p0), .val (.ref b2), .val (.ref b64), .val (.int (2 : Int32)), .val (.ref oPUBLISH), .val (.int (48 : Int32))] [(.int (2 : Int32)), (.ref b64), (.int (48 : Int32))]) t → Steps p.tables e below SE t := by
      intro t k
      refine K132 _ ?_
      refine XS.istore X132.here hx rfl (hb hby at_220) rfl (l' := #[.val (.int p0), .val (.ref b2), .val (.ref b64), .val (.int (2 : Int32)), .val (.ref oPUBLISH), .val (.int (48 : Int32))]) rfl ?_
      show own_S p e below T132 (mkF m 222 #[.val (.int p0), .val (.ref b2), .val (.ref b64), .val (.int (2 : Int32)), .val (.ref oPUBLISH), .val (.int (48 : Int32))] []) _
      refine XS.iload X132.here hx rfl (hb hby at_222) rfl ?_
      show own_S p e below T132 (mkF m 224 #[.val (.int p0), .val (.ref b2), .val (.ref b64), .val (.int (2 : Int32)), .val (.ref oPUBLISH), .val (.int (48 : Int32))] [(.int (48 : Int32))]) _
      refine XS.aloadN X132.here hx rfl (hb hby at_224) rfl rfl ?_
      show own_S p e below T132 (mkF m 225 #[.val (.int p0), .val (.ref b2), .val (.ref b64), .val (.int (2 : Int32)), .val (.ref oPUBLISH), .val (.int (48 : Int32))] [(.ref b64), (.int (48 : Int32))]) _
      refine XS.iloadN X132.here hx rfl (hb hby at_225) rfl ?_
      exact k
    obtain ⟨cl134, Ar134, qk134, S134, Ng134, Hh134, Gg134⟩ := id V109
    have hin134 : ¬ ((2 : Int32) < 0 ∨ cl134.slots.size ≤ ((2 : Int32)).toNatClampNeg) := inb_of S134 ⟨by decide, by decide⟩
    have hat134 : cl134.slots[((2 : Int32)).toNatClampNeg]? = some (.int (48 : Int32)) := Has.at Hh134 hin134 rfl
    have K135 : ∀ t, own_S p e below T132 (mkF m 234 #[.val (.int p0), .val (.ref b2), .val (.ref b64), .val (.int (2 : Int32)), .val (.ref oPUBLISH), .val (.int (48 : Int32))] [(.int (48 : Int32))]) t → Steps p.tables e below SE t := by
      intro t k
      refine K133 _ ?_
      refine X132.iaload hx (j := (2 : Int32)) (v := (.int (48 : Int32))) (by rw [e132]; exact Ar134.1) (State.isArrayOf_alike hZ.alike Ar134.2.1) Ar134.2.2 hin134 hat134 (g := (mkF m 226 #[.val (.int p0), .val (.ref b2), .val (.ref b64), .val (.int (2 : Int32)), .val (.ref oPUBLISH), .val (.int (48 : Int32))] [(.int (2 : Int32)), (.ref b64), (.int (48 : Int32))])) rfl rfl (hb hby at_226) _ ?_
      show own_S p e below T132 (mkF m 227 #[.val (.int p0), .val (.ref b2), .val (.ref b64), .val (.int (2 : Int32)), .val (.ref oPUBLISH), .val (.int (48 : Int32))] [(.int (48 : Int32)), (.int (48 : Int32))]) _
      refine XS.icmpYes X132.here hx rfl (pc0 := 227) (pc' := 232) rfl (hb hby at_227) rfl (XT.ii_eq_t (by decide : (48 : Int32) = (48 : Int32))) (by decide) (by decide) ?_
      show own_S p e below T132 (mkF m 232 #[.val (.int p0), .val (.ref b2), .val (.ref b64), .val (.int (2 : Int32)), .val (.ref oPUBLISH), .val (.int (48 : Int32))] []) _
      refine XS.iload X132.here hx rfl (hb hby at_232) rfl ?_
      exact k
    obtain ⟨_, _, ⟨T136, L136, k136, n136⟩, -, X136, ⟨Lc136, hQ136, l136, y136, z136⟩, st136⟩ := Jvm.LawKit.callS X132 hx (y := (⟨"com/example/headroom/headroom/io/PacketType", "of", "(I)Lcom/example/headroom/headroom/io/PacketType;"⟩ : MethodName)) hown (mvT hZ (hw _ (List.mem_of_getElem? (i := 45) rfl))) (mvT hZ (hw _ (List.mem_of_getElem? (i := 46) rfl))) (mvT hZ (hw _ (List.mem_of_getElem? (i := 3) rfl))) (mvT hZ (hw _ (List.mem_of_getElem? (i := 47) rfl))) (by decide) (backOf (W := 0) (rm2 l Z a0 hw [] (48 : Int32) oBY kB _ oPUBLISH (3 : Int32) (-1 : Int32) h109 n0 (Nat.le_trans Z0 Kp109.1) (ST_BY_VALUE.ext (own_ext Kp109)) (VB.ext (own_ext Kp109)) (FL_oPUBLISH_flags.ext (own_ext Kp109)) (by decide) ⟨by decide, by decide⟩ rfl (by decide)) hZ (hw _ (List.mem_of_getElem? (i := 47) rfl)) (hw _ (List.mem_of_getElem? (i := 3) rfl)) (by decide) (by decide)) (g := (mkF m 234 #[.val (.int p0), .val (.ref b2), .val (.ref b64), .val (.int (2 : Int32)), .val (.ref oPUBLISH), .val (.int (48 : Int32))] [(.int (48 : Int32))])) rfl (by rw [hml]; rfl) (argsL := [(.int (48 : Int32))]) (rest := []) (lenOf pd_0_1 rfl) rfl (by show 2 * 0 + _ ≤ _; exact Nat.le_of_eq rfl) (hb hby at_234) (fun _ _ => ⟨rfl, e132, (by decide : 2 + 0 ≤ _), (by decide : 30 + 0 ≤ _)⟩)
    dsimp only [Pt.U, Pt.locs, Pt.cells, Pt.slots] at X136 l136 y136 z136 st136 hQ136
    rw [y136, z136] at X136
    obtain ⟨rfl, Nq136, e136⟩ := hQ136
    have N136 : Fr n0 L136 := by rw [l136]; exact Fr.app N132 Nq136
    have K136 : ∀ t, own_S p e below T136 (mkF m 237 #[.val (.int p0), .val (.ref b2), .val (.ref b64), .val (.int (2 : Int32)), .val (.ref oPUBLISH), .val (.int (48 : Int32))] [(.ref oPUBLISH)]) t → Steps p.tables e below SE t := fun t k => K135 _ (st136 _ k)
    have K137 : ∀ t, own_S p e below T136 (mkF m 247 #[.val (.int p0), .val (.ref b2), .val (.ref b64), .val (.int (2 : Int32)), .val (.ref oPUBLISH), .val (.int (48 : Int32))] [(.int (1 : Int32))]) t → Steps p.tables e below SE t := by
      intro t k
      refine K136 _ ?_
      refine XS.aload X136.here hx rfl (hb hby at_237) rfl rfl ?_
      show own_S p e below T136 (mkF m 239 #[.val (.int p0), .val (.ref b2), .val (.ref b64), .val (.int (2 : Int32)), .val (.ref oPUBLISH), .val (.int (48 : Int32))] [(.ref oPUBLISH), (.ref oPUBLISH)]) _
      refine Jvm.RoadKit.acmp (g := (mkF m 239 #[.val (.int p0), .val (.ref b2), .val (.ref b64), .val (.int (2 : Int32)), .val (.ref oPUBLISH), .val (.int (48 : Int32))] [(.ref oPUBLISH), (.ref oPUBLISH)])) X136 hx rfl rfl rfl (pc0 := 239) (pc' := 242) (same := true) rfl (hb hby at_239) rfl (decide_eq_true rfl) (by decide) (by decide) ?_
      show own_S p e below T136 (mkF m 242 #[.val (.int p0), .val (.ref b2), .val (.ref b64), .val (.int (2 : Int32)), .val (.ref oPUBLISH), .val (.int (48 : Int32))] []) _
      refine XS.iconst X136.here hx rfl (hb hby at_242) ?_
      show own_S p e below T136 (mkF m 243 #[.val (.int p0), .val (.ref b2), .val (.ref b64), .val (.int (2 : Int32)), .val (.ref oPUBLISH), .val (.int (48 : Int32))] [(.int (1 : Int32))]) _
      refine XS.goto X136.here hx rfl (pc0 := 243) (pc' := 247) rfl (hb hby at_243) (by decide) (by decide) ?_
      exact k
    obtain ⟨fs, hr, hrun, hended, hW, hsame⟩ := X136.leave (v := some (.int (1 : Int32))) (fun h => by rw [Bd.returns] at h; cases h)
    refine ⟨_, _, K137 _ ?_, hrun, hended, _, _, rfl, ?_, ⟨_, rfl⟩, hW, hsame.mono (by decide) (by decide)⟩
    · exact retN X136 hx (t := .boolean) Bd.returns (by simp) (hb hby at_247) hr
    · show Q0 Z p0 oCONNECT oCONNACK oPUBLISH oPUBACK oPUBREC oPUBREL oPUBCOMP oSUBSCRIBE oSUBACK oUNSUBSCRIBE oUNSUBACK oPINGREQ oPINGRESP oDISCONNECT oAUTH oBY kB h0 n0 _ T136.heap _
      rw [e136]
      exact ⟨rfl, N136⟩
  · skip
    rw [q] at K110
    have K138 : ∀ t, own_S p e below T109 (mkF m 212 #[.val (.int p0), .val (.ref b2), .val (.ref b64), .val (.int (3 : Int32)), .unset, .unset] [(.int (3 : Int32)), (.ref b2)]) t → Steps p.tables e below SE t := by
      intro t k
      refine K110 _ ?_
      refine XS.aloadN X109.here hx rfl (hb hby at_210) rfl rfl ?_
      show own_S p e below T109 (mkF m 211 #[.val (.int p0), .val (.ref b2), .val (.ref b64), .val (.int (3 : Int32)), .unset, .unset] [(.ref b2)]) _
      refine XS.iloadN X109.here hx rfl (hb hby at_211) rfl ?_
      exact k
    obtain ⟨cl139, Ar139, qk139, S139, Ng139, Hh139, Gg139⟩ := id ((((((((((((((((V62.ext E64).other W67 (own_ne_b2_b64)).other W70 (own_ne_b2_b64)).other W73 (own_ne_b2_b64)).other W76 (own_ne_b2_b64)).other W79 (own_ne_b2_b64)).other W82 (own_ne_b2_b64)).other W85 (own_ne_b2_b64)).other W88 (own_ne_b2_b64)).other W91 (own_ne_b2_b64)).other W94 (own_ne_b2_b64)).other W97 (own_ne_b2_b64)).other W100 (own_ne_b2_b64)).other W103 (own_ne_b2_b64)).other W106 (own_ne_b2_b64)).other W109 (own_ne_b2_b64))
    have hin139 : ¬ ((3 : Int32) < 0 ∨ cl139.slots.size ≤ ((3 : Int32)).toNatClampNeg) := inb_of S139 ⟨by decide, by decide⟩
    have hat139 : cl139.slots[((3 : Int32)).toNatClampNeg]? = some (.ref oPUBACK) := Has.at Hh139 hin139 rfl
    have K140 : ∀ t, own_S p e below T109 (mkF m 217 #[.val (.int p0), .val (.ref b2), .val (.ref b64), .val (.int (3 : Int32)), .val (.ref oPUBACK), .unset] [(.ref oPUBACK)]) t → Steps p.tables e below SE t := by
      intro t k
      refine K138 _ ?_
      refine X109.aaload hx (j := (3 : Int32)) (v := (.ref oPUBACK)) (by rw [e109]; exact Ar139.1) (State.isArrayOf_alike hZ.alike Ar139.2.1) rfl Ar139.2.2 hin139 hat139 (g := (mkF m 212 #[.val (.int p0), .val (.ref b2), .val (.ref b64), .val (.int (3 : Int32)), .unset, .unset] [(.int (3 : Int32)), (.ref b2)])) rfl rfl (hb hby at_212) _ ?_
      show own_S p e below T109 (mkF m 213 #[.val (.int p0), .val (.ref b2), .val (.ref b64), .val (.int (3 : Int32)), .unset, .unset] [(.ref oPUBACK)]) _
      refine XS.astore X109.here hx rfl (hb hby at_213) rfl rfl (l' := #[.val (.int p0), .val (.ref b2), .val (.ref b64), .val (.int (3 : Int32)), .val (.ref oPUBACK), .unset]) rfl ?_
      show own_S p e below T109 (mkF m 215 #[.val (.int p0), .val (.ref b2), .val (.ref b64), .val (.int (3 : Int32)), .val (.ref oPUBACK), .unset] []) _
      refine XS.aload X109.here hx rfl (hb hby at_215) rfl rfl ?_
      exact k
    obtain ⟨cq141, kq141, q141a, q141b, q141c⟩ := isOf hZ e109 (EX_oPUBACK.ext (own_ext Kp109))
    obtain ⟨_, _, ⟨T141, L141, k141, n141⟩, -, X141, ⟨Lc141, hQ141, l141, y141, z141⟩, st141⟩ := X109.virtualBack hx (y := (⟨"com/example/headroom/headroom/io/PacketType", "firstByte", "()I"⟩ : MethodName)) (z := (⟨"com/example/headroom/headroom/io/PacketType", "firstByte", "()I"⟩ : MethodName)) hown (mvT hZ (hw _ (List.mem_of_getElem? (i := 36) rfl))) (mvT hZ (hw _ (List.mem_of_getElem? (i := 37) rfl))) (notFace_of_selects (args := #[]) (mvT hZ (hw _ (List.mem_of_getElem? (i := 39) rfl)))) (mvT hZ (hw _ (List.mem_of_getElem? (i := 39) rfl))) (mvT hZ (hw _ (List.mem_of_getElem? (i := 38) rfl))) (by decide) (backOf (W := 0) (rm1 l Z a0 hw [] oPUBACK (4 : Int32) (0 : Int32) h109 n0 (Nat.le_trans Z0 Kp109.1) (FL_oPUBACK_value.ext (own_ext Kp109)) (FL_oPUBACK_flags.ext (own_ext Kp109))) hZ (hw _ (List.mem_of_getElem? (i := 40) rfl)) (hw _ (List.mem_of_getElem? (i := 3) rfl)) (by decide) (by decide)) q141a q141c (g := (mkF m 217 #[.val (.int p0), .val (.ref b2), .val (.ref b64), .val (.int (3 : Int32)), .val (.ref oPUBACK), .unset] [(.ref oPUBACK)])) rfl (by rw [hml]; rfl) (Steps.refl _) (argsL := []) (rest := []) (lenOf pd_0_0 rfl) rfl (by show 2 * 0 + _ ≤ _; exact Nat.le_of_eq rfl) (hb hby at_217) (fun _ _ => ⟨rfl, e109, (by decide : 2 + 0 ≤ _), (by decide : 30 + 0 ≤ _)⟩)
    dsimp only [Pt.U, Pt.locs, Pt.cells, Pt.slots] at X141 l141 y141 z141 st141 hQ141
    rw [y141, z141] at X141
    obtain ⟨rfl, Nq141, e141⟩ := hQ141
    have N141 : Fr n0 L141 := by rw [l141]; exact Fr.app N109 Nq141
    have K141 : ∀ t, own_S p e below T141 (mkF m 220 #[.val (.int p0), .val (.ref b2), .val (.ref b64), .val (.int (3 : Int32)), .val (.ref oPUBACK), .unset] [(.int (if (0 : Int32) = (-1 : Int32) then (((4 : Int32) <<< ((4 : Int32) &&& 31)) ||| (0 : Int32)) else (((4 : Int32) <<< ((4 : Int32) &&& 31)) ||| (0 : Int32))))]) t → Steps p.tables e below SE t := fun t k => K140 _ (st141.trans k)
    rw [(by decide : (if (0 : Int32) = (-1 : Int32) then (((4 : Int32) <<< ((4 : Int32) &&& 31)) ||| (0 : Int32)) else (((4 : Int32) <<< ((4 : Int32) &&& 31)) ||| (0 : Int32))) = (64 : Int32))] at K141
    have K142 : ∀ t, own_S p e below T141 (mkF m 226 #[.val (.int p0), .val (.ref b2), .val (.ref b64), .val (.int (3 : Int32)), .val (.ref oPUBACK), .val (.int (64 : Int32))] [(.int (3 : Int32)), (.ref b64), (.int (64 : Int32))]) t → Steps p.tables e below SE t := by
      intro t k
      refine K141 _ ?_
      refine XS.istore X141.here hx rfl (hb hby at_220) rfl (l' := #[.val (.int p0), .val (.ref b2), .val (.ref b64), .val (.int (3 : Int32)), .val (.ref oPUBACK), .val (.int (64 : Int32))]) rfl ?_
      show own_S p e below T141 (mkF m 222 #[.val (.int p0), .val (.ref b2), .val (.ref b64), .val (.int (3 : Int32)), .val (.ref oPUBACK), .val (.int (64 : Int32))] []) _
      refine XS.iload X141.here hx rfl (hb hby at_222) rfl ?_
      show own_S p e below T141 (mkF m 224 #[.val (.int p0), .val (.ref b2), .val (.ref b64), .val (.int (3 : Int32)), .val (.ref oPUBACK), .val (.int (64 : Int32))] [(.int (64 : Int32))]) _
      refine XS.aloadN X141.here hx rfl (hb hby at_224) rfl rfl ?_
      show own_S p e below T141 (mkF m 225 #[.val (.int p0), .val (.ref b2), .val (.ref b64), .val (.int (3 : Int32)), .val (.ref oPUBACK), .val (.int (64 : Int32))] [(.ref b64), (.int (64 : Int32))]) _
      refine XS.iloadN X141.here hx rfl (hb hby at_225) rfl ?_
      exact k
    obtain ⟨cl143, Ar143, qk143, S143, Ng143, Hh143, Gg143⟩ := id V109
    have hin143 : ¬ ((3 : Int32) < 0 ∨ cl143.slots.size ≤ ((3 : Int32)).toNatClampNeg) := inb_of S143 ⟨by decide, by decide⟩
    have hat143 : cl143.slots[((3 : Int32)).toNatClampNeg]? = some (.int (64 : Int32)) := Has.at Hh143 hin143 rfl
    have K144 : ∀ t, own_S p e below T141 (mkF m 234 #[.val (.int p0), .val (.ref b2), .val (.ref b64), .val (.int (3 : Int32)), .val (.ref oPUBACK), .val (.int (64 : Int32))] [(.int (64 : Int32))]) t → Steps p.tables e below SE t := by
      intro t k
      refine K142 _ ?_
      refine X141.iaload hx (j := (3 : Int32)) (v := (.int (64 : Int32))) (by rw [e141]; exact Ar143.1) (State.isArrayOf_alike hZ.alike Ar143.2.1) Ar143.2.2 hin143 hat143 (g := (mkF m 226 #[.val (.int p0), .val (.ref b2), .val (.ref b64), .val (.int (3 : Int32)), .val (.ref oPUBACK), .val (.int (64 : Int32))] [(.int (3 : Int32)), (.ref b64), (.int (64 : Int32))])) rfl rfl (hb hby at_226) _ ?_
      show own_S p e below T141 (mkF m 227 #[.val (.int p0), .val (.ref b2), .val (.ref b64), .val (.int (3 : Int32)), .val (.ref oPUBACK), .val (.int (64 : Int32))] [(.int (64 : Int32)), (.int (64 : Int32))]) _
      refine XS.icmpYes X141.here hx rfl (pc0 := 227) (pc' := 232) rfl (hb hby at_227) rfl (XT.ii_eq_t (by decide : (64 : Int32) = (64 : Int32))) (by decide) (by decide) ?_
      show own_S p e below T141 (mkF m 232 #[.val (.int p0), .val (.ref b2), .val (.ref b64), .val (.int (3 : Int32)), .val (.ref oPUBACK), .val (.int (64 : Int32))] []) _
      refine XS.iload X141.here hx rfl (hb hby at_232) rfl ?_
      exact k
    obtain ⟨_, _, ⟨T145, L145, k145, n145⟩, -, X145, ⟨Lc145, hQ145, l145, y145, z145⟩, st145⟩ := Jvm.LawKit.callS X141 hx (y := (⟨"com/example/headroom/headroom/io/PacketType", "of", "(I)Lcom/example/headroom/headroom/io/PacketType;"⟩ : MethodName)) hown (mvT hZ (hw _ (List.mem_of_getElem? (i := 45) rfl))) (mvT hZ (hw _ (List.mem_of_getElem? (i := 46) rfl))) (mvT hZ (hw _ (List.mem_of_getElem? (i := 3) rfl))) (mvT hZ (hw _ (List.mem_of_getElem? (i := 47) rfl))) (by decide) (backOf (W := 0) (rm2 l Z a0 hw [] (64 : Int32) oBY kB _ oPUBACK (4 : Int32) (0 : Int32) h109 n0 (Nat.le_trans Z0 Kp109.1) (ST_BY_VALUE.ext (own_ext Kp109)) (VB.ext (own_ext Kp109)) (FL_oPUBACK_flags.ext (own_ext Kp109)) (by decide) ⟨by decide, by decide⟩ rfl (by decide)) hZ (hw _ (List.mem_of_getElem? (i := 47) rfl)) (hw _ (List.mem_of_getElem? (i := 3) rfl)) (by decide) (by decide)) (g := (mkF m 234 #[.val (.int p0), .val (.ref b2), .val (.ref b64), .val (.int (3 : Int32)), .val (.ref oPUBACK), .val (.int (64 : Int32))] [(.int (64 : Int32))])) rfl (by rw [hml]; rfl) (argsL := [(.int (64 : Int32))]) (rest := []) (lenOf pd_0_1 rfl) rfl (by show 2 * 0 + _ ≤ _; exact Nat.le_of_eq rfl) (hb hby at_234) (fun _ _ => ⟨rfl, e141, (by decide : 2 + 0 ≤ _), (by decide : 30 + 0 ≤ _)⟩)
    dsimp only [Pt.U, Pt.locs, Pt.cells, Pt.slots] at X145 l145 y145 z145 st145 hQ145
    rw [y145, z145] at X145
    obtain ⟨rfl, Nq145, e145⟩ := hQ145
    have N145 : Fr n0 L145 := by rw [l145]; exact Fr.app N141 Nq145
    have K145 : ∀ t, own_S p e below T145 (mkF m 237 #[.val (.int p0), .val (.ref b2), .val (.ref b64), .val (.int (3 : Int32)), .val (.ref oPUBACK), .val (.int (64 : Int32))] [(.ref oPUBACK)]) t → Steps p.tables e below SE t := fun t k => K144 _ (st145 _ k)
    have K146 : ∀ t, own_S p e below T145 (mkF m 247 #[.val (.int p0), .val (.ref b2), .val (.ref b64), .val (.int (3 : Int32)), .val (.ref oPUBACK), .val (.int (64 : Int32))] [(.int (1 : Int32))]) t → Steps p.tables e below SE t := by
      intro t k
      refine K145 _ ?_
      refine XS.aload X145.here hx rfl (hb hby at_237) rfl rfl ?_
      show own_S p e below T145 (mkF m 239 #[.val (.int p0), .val (.ref b2), .val (.ref b64), .val (.int (3 : Int32)), .val (.ref oPUBACK), .val (.int (64 : Int32))] [(.ref oPUBACK), (.ref oPUBACK)]) _
      refine Jvm.RoadKit.acmp (g := (mkF m 239 #[.val (.int p0), .val (.ref b2), .val (.ref b64), .val (.int (3 : Int32)), .val (.ref oPUBACK), .val (.int (64 : Int32))] [(.ref oPUBACK), (.ref oPUBACK)])) X145 hx rfl rfl rfl (pc0 := 239) (pc' := 242) (same := true) rfl (hb hby at_239) rfl (decide_eq_true rfl) (by decide) (by decide) ?_
      show own_S p e below T145 (mkF m 242 #[.val (.int p0), .val (.ref b2), .val (.ref b64), .val (.int (3 : Int32)), .val (.ref oPUBACK), .val (.int (64 : Int32))] []) _
      refine XS.iconst X145.here hx rfl (hb hby at_242) ?_
      show own_S p e below T145 (mkF m 243 #[.val (.int p0), .val (.ref b2), .val (.ref b64), .val (.int (3 : Int32)), .val (.ref oPUBACK), .val (.int (64 : Int32))] [(.int (1 : Int32))]) _
      refine XS.goto X145.here hx rfl (pc0 := 243) (pc' := 247) rfl (hb hby at_243) (by decide) (by decide) ?_
      exact k
    obtain ⟨fs, hr, hrun, hended, hW, hsame⟩ := X145.leave (v := some (.int (1 : Int32))) (fun h => by rw [Bd.returns] at h; cases h)
    refine ⟨_, _, K146 _ ?_, hrun, hended, _, _, rfl, ?_, ⟨_, rfl⟩, hW, hsame.mono (by decide) (by decide)⟩
    · exact retN X145 hx (t := .boolean) Bd.returns (by simp) (hb hby at_247) hr
    · show Q0 Z p0 oCONNECT oCONNACK oPUBLISH oPUBACK oPUBREC oPUBREL oPUBCOMP oSUBSCRIBE oSUBACK oUNSUBSCRIBE oUNSUBACK oPINGREQ oPINGRESP oDISCONNECT oAUTH oBY kB h0 n0 _ T145.heap _
      rw [e145]
      exact ⟨rfl, N145⟩
  · skip
    rw [q] at K110
    have K147 : ∀ t, own_S p e below T109 (mkF m 212 #[.val (.int p0), .val (.ref b2), .val (.ref b64), .val (.int (4 : Int32)), .unset, .unset] [(.int (4 : Int32)), (.ref b2)]) t → Steps p.tables e below SE t := by
      intro t k
      refine K110 _ ?_
      refine XS.aloadN X109.here hx rfl (hb hby at_210) rfl rfl ?_
      show own_S p e below T109 (mkF m 211 #[.val (.int p0), .val (.ref b2), .val (.ref b64), .val (.int (4 : Int32)), .unset, .unset] [(.ref b2)]) _
      refine XS.iloadN X109.here hx rfl (hb hby at_211) rfl ?_
      exact k
    obtain ⟨cl148, Ar148, qk148, S148, Ng148, Hh148, Gg148⟩ := id ((((((((((((((((V62.ext E64).other W67 (own_ne_b2_b64)).other W70 (own_ne_b2_b64)).other W73 (own_ne_b2_b64)).other W76 (own_ne_b2_b64)).other W79 (own_ne_b2_b64)).other W82 (own_ne_b2_b64)).other W85 (own_ne_b2_b64)).other W88 (own_ne_b2_b64)).other W91 (own_ne_b2_b64)).other W94 (own_ne_b2_b64)).other W97 (own_ne_b2_b64)).other W100 (own_ne_b2_b64)).other W103 (own_ne_b2_b64)).other W106 (own_ne_b2_b64)).other W109 (own_ne_b2_b64))
    have hin148 : ¬ ((4 : Int32) < 0 ∨ cl148.slots.size ≤ ((4 : Int32)).toNatClampNeg) := inb_of S148 ⟨by decide, by decide⟩
    have hat148 : cl148.slots[((4 : Int32)).toNatClampNeg]? = some (.ref oPUBREC) := Has.at Hh148 hin148 rfl
    have K149 : ∀ t, own_S p e below T109 (mkF m 217 #[.val (.int p0), .val (.ref b2), .val (.ref b64), .val (.int (4 : Int32)), .val (.ref oPUBREC), .unset] [(.ref oPUBREC)]) t → Steps p.tables e below SE t := by
      intro t k
      refine K147 _ ?_
      refine X109.aaload hx (j := (4 : Int32)) (v := (.ref oPUBREC)) (by rw [e109]; exact Ar148.1) (State.isArrayOf_alike hZ.alike Ar148.2.1) rfl Ar148.2.2 hin148 hat148 (g := (mkF m 212 #[.val (.int p0), .val (.ref b2), .val (.ref b64), .val (.int (4 : Int32)), .unset, .unset] [(.int (4 : Int32)), (.ref b2)])) rfl rfl (hb hby at_212) _ ?_
      show own_S p e below T109 (mkF m 213 #[.val (.int p0), .val (.ref b2), .val (.ref b64), .val (.int (4 : Int32)), .unset, .unset] [(.ref oPUBREC)]) _
      refine XS.astore X109.here hx rfl (hb hby at_213) rfl rfl (l' := #[.val (.int p0), .val (.ref b2), .val (.ref b64), .val (.int (4 : Int32)), .val (.ref oPUBREC), .unset]) rfl ?_
      show own_S p e below T109 (mkF m 215 #[.val (.int p0), .val (.ref b2), .val (.ref b64), .val (.int (4 : Int32)), .val (.ref oPUBREC), .unset] []) _
      refine XS.aload X109.here hx rfl (hb hby at_215) rfl rfl ?_
      exact k
    obtain ⟨cq150, kq150, q150a, q150b, q150c⟩ := isOf hZ e109 (EX_oPUBREC.ext (own_ext Kp109))
    obtain ⟨_, _, ⟨T150, L150, k150, n150⟩, -, X150, ⟨Lc150, hQ150, l150, y150, z150⟩, st150⟩ := X109.virtualBack hx (y := (⟨"com/example/headroom/headroom/io/PacketType", "firstByte", "()I"⟩ : MethodName)) (z := (⟨"com/example/headroom/headroom/io/PacketType", "firstByte", "()I"⟩ : MethodName)) hown (mvT hZ (hw _ (List.mem_of_getElem? (i := 36) rfl))) (mvT hZ (hw _ (List.mem_of_getElem? (i := 37) rfl))) (notFace_of_selects (args := #[]) (mvT hZ (hw _ (List.mem_of_getElem? (i := 39) rfl)))) (mvT hZ (hw _ (List.mem_of_getElem? (i := 39) rfl))) (mvT hZ (hw _ (List.mem_of_getElem? (i := 38) rfl))) (by decide) (backOf (W := 0) (rm1 l Z a0 hw [] oPUBREC (5 : Int32) (0 : Int32) h109 n0 (Nat.le_trans Z0 Kp109.1) (FL_oPUBREC_value.ext (own_ext Kp109)) (FL_oPUBREC_flags.ext (own_ext Kp109))) hZ (hw _ (List.mem_of_getElem? (i := 40) rfl)) (hw _ (List.mem_of_getElem? (i := 3) rfl)) (by decide) (by decide)) q150a q150c (g := (mkF m 217 #[.val (.int p0), .val (.ref b2), .val (.ref b64), .val (.int (4 : Int32)), .val (.ref oPUBREC), .unset] [(.ref oPUBREC)])) rfl (by rw [hml]; rfl) (Steps.refl _) (argsL := []) (rest := []) (lenOf pd_0_0 rfl) rfl (by show 2 * 0 + _ ≤ _; exact Nat.le_of_eq rfl) (hb hby at_217) (fun _ _ => ⟨rfl, e109, (by decide : 2 + 0 ≤ _), (by decide : 30 + 0 ≤ _)⟩)
    dsimp only [Pt.U, Pt.locs, Pt.cells, Pt.slots] at X150 l150 y150 z150 st150 hQ150
    rw [y150, z150] at X150
    obtain ⟨rfl, Nq150, e150⟩ := hQ150
    have N150 : Fr n0 L150 := by rw [l150]; exact Fr.app N109 Nq150
    have K150 : ∀ t, own_S p e below T150 (mkF m 220 #[.val (.int p0), .val (.ref b2), .val (.ref b64), .val (.int (4 : Int32)), .val (.ref oPUBREC), .unset] [(.int (if (0 : Int32) = (-1 : Int32) then (((5 : Int32) <<< ((4 : Int32) &&& 31)) ||| (0 : Int32)) else (((5 : Int32) <<< ((4 : Int32) &&& 31)) ||| (0 : Int32))))]) t → Steps p.tables e below SE t := fun t k => K149 _ (st150.trans k)
    rw [(by decide : (if (0 : Int32) = (-1 : Int32) then (((5 : Int32) <<< ((4 : Int32) &&& 31)) ||| (0 : Int32)) else (((5 : Int32) <<< ((4 : Int32) &&& 31)) ||| (0 : Int32))) = (80 : Int32))] at K150
    have K151 : ∀ t, own_S p e below T150 (mkF m 226 #[.val (.int p0), .val (.ref b2), .val (.ref b64), .val (.int (4 : Int32)), .val (.ref oPUBREC), .val (.int (80 : Int32))] [(.int (4 : Int32)), (.ref b64), (.int (80 : Int32))]) t → Steps p.tables e below SE t := by
      intro t k
      refine K150 _ ?_
      refine XS.istore X150.here hx rfl (hb hby at_220) rfl (l' := #[.val (.int p0), .val (.ref b2), .val (.ref b64), .val (.int (4 : Int32)), .val (.ref oPUBREC), .val (.int (80 : Int32))]) rfl ?_
      show own_S p e below T150 (mkF m 222 #[.val (.int p0), .val (.ref b2), .val (.ref b64), .val (.int (4 : Int32)), .val (.ref oPUBREC), .val (.int (80 : Int32))] []) _
      refine XS.iload X150.here hx rfl (hb hby at_222) rfl ?_
      show own_S p e below T150 (mkF m 224 #[.val (.int p0), .val (.ref b2), .val (.ref b64), .val (.int (4 : Int32)), .val (.ref oPUBREC), .val (.int (80 : Int32))] [(.int (80 : Int32))]) _
      refine XS.aloadN X150.here hx rfl (hb hby at_224) rfl rfl ?_
      show own_S p e below T150 (mkF m 225 #[.val (.int p0), .val (.ref b2), .val (.ref b64), .val (.int (4 : Int32)), .val (.ref oPUBREC), .val (.int (80 : Int32))] [(.ref b64), (.int (80 : Int32))]) _
      refine XS.iloadN X150.here hx rfl (hb hby at_225) rfl ?_
      exact k
    obtain ⟨cl152, Ar152, qk152, S152, Ng152, Hh152, Gg152⟩ := id V109
    have hin152 : ¬ ((4 : Int32) < 0 ∨ cl152.slots.size ≤ ((4 : Int32)).toNatClampNeg) := inb_of S152 ⟨by decide, by decide⟩
    have hat152 : cl152.slots[((4 : Int32)).toNatClampNeg]? = some (.int (80 : Int32)) := Has.at Hh152 hin152 rfl
    have K153 : ∀ t, own_S p e below T150 (mkF m 234 #[.val (.int p0), .val (.ref b2), .val (.ref b64), .val (.int (4 : Int32)), .val (.ref oPUBREC), .val (.int (80 : Int32))] [(.int (80 : Int32))]) t → Steps p.tables e below SE t := by
      intro t k
      refine K151 _ ?_
      refine X150.iaload hx (j := (4 : Int32)) (v := (.int (80 : Int32))) (by rw [e150]; exact Ar152.1) (State.isArrayOf_alike hZ.alike Ar152.2.1) Ar152.2.2 hin152 hat152 (g := (mkF m 226 #[.val (.int p0), .val (.ref b2), .val (.ref b64), .val (.int (4 : Int32)), .val (.ref oPUBREC), .val (.int (80 : Int32))] [(.int (4 : Int32)), (.ref b64), (.int (80 : Int32))])) rfl rfl (hb hby at_226) _ ?_
      show own_S p e below T150 (mkF m 227 #[.val (.int p0), .val (.ref b2), .val (.ref b64), .val (.int (4 : Int32)), .val (.ref oPUBREC), .val (.int (80 : Int32))] [(.int (80 : Int32)), (.int (80 : Int32))]) _
      refine XS.icmpYes X150.here hx rfl (pc0 := 227) (pc' := 232) rfl (hb hby at_227) rfl (XT.ii_eq_t (by decide : (80 : Int32) = (80 : Int32))) (by decide) (by decide) ?_
      show own_S p e below T150 (mkF m 232 #[.val (.int p0), .val (.ref b2), .val (.ref b64), .val (.int (4 : Int32)), .val (.ref oPUBREC), .val (.int (80 : Int32))] []) _
      refine XS.iload X150.here hx rfl (hb hby at_232) rfl ?_
      exact k
    obtain ⟨_, _, ⟨T154, L154, k154, n154⟩, -, X154, ⟨Lc154, hQ154, l154, y154, z154⟩, st154⟩ := Jvm.LawKit.callS X150 hx (y := (⟨"com/example/headroom/headroom/io/PacketType", "of", "(I)Lcom/example/headroom/headroom/io/PacketType;"⟩ : MethodName)) hown (mvT hZ (hw _ (List.mem_of_getElem? (i := 45) rfl))) (mvT hZ (hw _ (List.mem_of_getElem? (i := 46) rfl))) (mvT hZ (hw _ (List.mem_of_getElem? (i := 3) rfl))) (mvT hZ (hw _ (List.mem_of_getElem? (i := 47) rfl))) (by decide) (backOf (W := 0) (rm2 l Z a0 hw [] (80 : Int32) oBY kB _ oPUBREC (5 : Int32) (0 : Int32) h109 n0 (Nat.le_trans Z0 Kp109.1) (ST_BY_VALUE.ext (own_ext Kp109)) (VB.ext (own_ext Kp109)) (FL_oPUBREC_flags.ext (own_ext Kp109)) (by decide) ⟨by decide, by decide⟩ rfl (by decide)) hZ (hw _ (List.mem_of_getElem? (i := 47) rfl)) (hw _ (List.mem_of_getElem? (i := 3) rfl)) (by decide) (by decide)) (g := (mkF m 234 #[.val (.int p0), .val (.ref b2), .val (.ref b64), .val (.int (4 : Int32)), .val (.ref oPUBREC), .val (.int (80 : Int32))] [(.int (80 : Int32))])) rfl (by rw [hml]; rfl) (argsL := [(.int (80 : Int32))]) (rest := []) (lenOf pd_0_1 rfl) rfl (by show 2 * 0 + _ ≤ _; exact Nat.le_of_eq rfl) (hb hby at_234) (fun _ _ => ⟨rfl, e150, (by decide : 2 + 0 ≤ _), (by decide : 30 + 0 ≤ _)⟩)
    dsimp only [Pt.U, Pt.locs, Pt.cells, Pt.slots] at X154 l154 y154 z154 st154 hQ154
    rw [y154, z154] at X154
    obtain ⟨rfl, Nq154, e154⟩ := hQ154
    have N154 : Fr n0 L154 := by rw [l154]; exact Fr.app N150 Nq154
    have K154 : ∀ t, own_S p e below T154 (mkF m 237 #[.val (.int p0), .val (.ref b2), .val (.ref b64), .val (.int (4 : Int32)), .val (.ref oPUBREC), .val (.int (80 : Int32))] [(.ref oPUBREC)]) t → Steps p.tables e below SE t := fun t k => K153 _ (st154 _ k)
    have K155 : ∀ t, own_S p e below T154 (mkF m 247 #[.val (.int p0), .val (.ref b2), .val (.ref b64), .val (.int (4 : Int32)), .val (.ref oPUBREC), .val (.int (80 : Int32))] [(.int (1 : Int32))]) t → Steps p.tables e below SE t := by
      intro t k
      refine K154 _ ?_
      refine XS.aload X154.here hx rfl (hb hby at_237) rfl rfl ?_
      show own_S p e below T154 (mkF m 239 #[.val (.int p0), .val (.ref b2), .val (.ref b64), .val (.int (4 : Int32)), .val (.ref oPUBREC), .val (.int (80 : Int32))] [(.ref oPUBREC), (.ref oPUBREC)]) _
      refine Jvm.RoadKit.acmp (g := (mkF m 239 #[.val (.int p0), .val (.ref b2), .val (.ref b64), .val (.int (4 : Int32)), .val (.ref oPUBREC), .val (.int (80 : Int32))] [(.ref oPUBREC), (.ref oPUBREC)])) X154 hx rfl rfl rfl (pc0 := 239) (pc' := 242) (same := true) rfl (hb hby at_239) rfl (decide_eq_true rfl) (by decide) (by decide) ?_
      show own_S p e below T154 (mkF m 242 #[.val (.int p0), .val (.ref b2), .val (.ref b64), .val (.int (4 : Int32)), .val (.ref oPUBREC), .val (.int (80 : Int32))] []) _
      refine XS.iconst X154.here hx rfl (hb hby at_242) ?_
      show own_S p e below T154 (mkF m 243 #[.val (.int p0), .val (.ref b2), .val (.ref b64), .val (.int (4 : Int32)), .val (.ref oPUBREC), .val (.int (80 : Int32))] [(.int (1 : Int32))]) _
      refine XS.goto X154.here hx rfl (pc0 := 243) (pc' := 247) rfl (hb hby at_243) (by decide) (by decide) ?_
      exact k
    obtain ⟨fs, hr, hrun, hended, hW, hsame⟩ := X154.leave (v := some (.int (1 : Int32))) (fun h => by rw [Bd.returns] at h; cases h)
    refine ⟨_, _, K155 _ ?_, hrun, hended, _, _, rfl, ?_, ⟨_, rfl⟩, hW, hsame.mono (by decide) (by decide)⟩
    · exact retN X154 hx (t := .boolean) Bd.returns (by simp) (hb hby at_247) hr
    · show Q0 Z p0 oCONNECT oCONNACK oPUBLISH oPUBACK oPUBREC oPUBREL oPUBCOMP oSUBSCRIBE oSUBACK oUNSUBSCRIBE oUNSUBACK oPINGREQ oPINGRESP oDISCONNECT oAUTH oBY kB h0 n0 _ T154.heap _
      rw [e154]
      exact ⟨rfl, N154⟩
  · skip
    rw [q] at K110
    have K156 : ∀ t, own_S p e below T109 (mkF m 212 #[.val (.int p0), .val (.ref b2), .val (.ref b64), .val (.int (5 : Int32)), .unset, .unset] [(.int (5 : Int32)), (.ref b2)]) t → Steps p.tables e below SE t := by
      intro t k
      refine K110 _ ?_
      refine XS.aloadN X109.here hx rfl (hb hby at_210) rfl rfl ?_
      show own_S p e below T109 (mkF m 211 #[.val (.int p0), .val (.ref b2), .val (.ref b64), .val (.int (5 : Int32)), .unset, .unset] [(.ref b2)]) _
      refine XS.iloadN X109.here hx rfl (hb hby at_211) rfl ?_
      exact k
    obtain ⟨cl157, Ar157, qk157, S157, Ng157, Hh157, Gg157⟩ := id ((((((((((((((((V62.ext E64).other W67 (own_ne_b2_b64)).other W70 (own_ne_b2_b64)).other W73 (own_ne_b2_b64)).other W76 (own_ne_b2_b64)).other W79 (own_ne_b2_b64)).other W82 (own_ne_b2_b64)).other W85 (own_ne_b2_b64)).other W88 (own_ne_b2_b64)).other W91 (own_ne_b2_b64)).other W94 (own_ne_b2_b64)).other W97 (own_ne_b2_b64)).other W100 (own_ne_b2_b64)).other W103 (own_ne_b2_b64)).other W106 (own_ne_b2_b64)).other W109 (own_ne_b2_b64))
    have hin157 : ¬ ((5 : Int32) < 0 ∨ cl157.slots.size ≤ ((5 : Int32)).toNatClampNeg) := inb_of S157 ⟨by decide, by decide⟩
    have hat157 : cl157.slots[((5 : Int32)).toNatClampNeg]? = some (.ref oPUBREL) := Has.at Hh157 hin157 rfl
    have K158 : ∀ t, own_S p e below T109 (mkF m 217 #[.val (.int p0), .val (.ref b2), .val (.ref b64), .val (.int (5 : Int32)), .val (.ref oPUBREL), .unset] [(.ref oPUBREL)]) t → Steps p.tables e below SE t := by
      intro t k
      refine K156 _ ?_
      refine X109.aaload hx (j := (5 : Int32)) (v := (.ref oPUBREL)) (by rw [e109]; exact Ar157.1) (State.isArrayOf_alike hZ.alike Ar157.2.1) rfl Ar157.2.2 hin157 hat157 (g := (mkF m 212 #[.val (.int p0), .val (.ref b2), .val (.ref b64), .val (.int (5 : Int32)), .unset, .unset] [(.int (5 : Int32)), (.ref b2)])) rfl rfl (hb hby at_212) _ ?_
      show own_S p e below T109 (mkF m 213 #[.val (.int p0), .val (.ref b2), .val (.ref b64), .val (.int (5 : Int32)), .unset, .unset] [(.ref oPUBREL)]) _
      refine XS.astore X109.here hx rfl (hb hby at_213) rfl rfl (l' := #[.val (.int p0), .val (.ref b2), .val (.ref b64), .val (.int (5 : Int32)), .val (.ref oPUBREL), .unset]) rfl ?_
      show own_S p e below T109 (mkF m 215 #[.val (.int p0), .val (.ref b2), .val (.ref b64), .val (.int (5 : Int32)), .val (.ref oPUBREL), .unset] []) _
      refine XS.aload X109.here hx rfl (hb hby at_215) rfl rfl ?_
      exact k
    obtain ⟨cq159, kq159, q159a, q159b, q159c⟩ := isOf hZ e109 (EX_oPUBREL.ext (own_ext Kp109))
    obtain ⟨_, _, ⟨T159, L159, k159, n159⟩, -, X159, ⟨Lc159, hQ159, l159, y159, z159⟩, st159⟩ := X109.virtualBack hx (y := (⟨"com/example/headroom/headroom/io/PacketType", "firstByte", "()I"⟩ : MethodName)) (z := (⟨"com/example/headroom/headroom/io/PacketType", "firstByte", "()I"⟩ : MethodName)) hown (mvT hZ (hw _ (List.mem_of_getElem? (i := 36) rfl))) (mvT hZ (hw _ (List.mem_of_getElem? (i := 37) rfl))) (notFace_of_selects (args := #[]) (mvT hZ (hw _ (List.mem_of_getElem? (i := 39) rfl)))) (mvT hZ (hw _ (List.mem_of_getElem? (i := 39) rfl))) (mvT hZ (hw _ (List.mem_of_getElem? (i := 38) rfl))) (by decide) (backOf (W := 0) (rm1 l Z a0 hw [] oPUBREL (6 : Int32) (2 : Int32) h109 n0 (Nat.le_trans Z0 Kp109.1) (FL_oPUBREL_value.ext (own_ext Kp109)) (FL_oPUBREL_flags.ext (own_ext Kp109))) hZ (hw _ (List.mem_of_getElem? (i := 40) rfl)) (hw _ (List.mem_of_getElem? (i := 3) rfl)) (by decide) (by decide)) q159a q159c (g := (mkF m 217 #[.val (.int p0), .val (.ref b2), .val (.ref b64), .val (.int (5 : Int32)), .val (.ref oPUBREL), .unset] [(.ref oPUBREL)])) rfl (by rw [hml]; rfl) (Steps.refl _) (argsL := []) (rest := []) (lenOf pd_0_0 rfl) rfl (by show 2 * 0 + _ ≤ _; exact Nat.le_of_eq rfl) (hb hby at_217) (fun _ _ => ⟨rfl, e109, (by decide : 2 + 0 ≤ _), (by decide : 30 + 0 ≤ _)⟩)
    dsimp only [Pt.U, Pt.locs, Pt.cells, Pt.slots] at X159 l159 y159 z159 st159 hQ159
    rw [y159, z159] at X159
    obtain ⟨rfl, Nq159, e159⟩ := hQ159
    have N159 : Fr n0 L159 := by rw [l159]; exact Fr.app N109 Nq159
    have K159 : ∀ t, own_S p e below T159 (mkF m 220 #[.val (.int p0), .val (.ref b2), .val (.ref b64), .val (.int (5 : Int32)), .val (.ref oPUBREL), .unset] [(.int (if (2 : Int32) = (-1 : Int32) then (((6 : Int32) <<< ((4 : Int32) &&& 31)) ||| (0 : Int32)) else (((6 : Int32) <<< ((4 : Int32) &&& 31)) ||| (2 : Int32))))]) t → Steps p.tables e below SE t := fun t k => K158 _ (st159.trans k)
    rw [(by decide : (if (2 : Int32) = (-1 : Int32) then (((6 : Int32) <<< ((4 : Int32) &&& 31)) ||| (0 : Int32)) else (((6 : Int32) <<< ((4 : Int32) &&& 31)) ||| (2 : Int32))) = (98 : Int32))] at K159
    have K160 : ∀ t, own_S p e below T159 (mkF m 226 #[.val (.int p0), .val (.ref b2), .val (.ref b64), .val (.int (5 : Int32)), .val (.ref oPUBREL), .val (.int (98 : Int32))] [(.int (5 : Int32)), (.ref b64), (.int (98 : Int32))]) t → Steps p.tables e below SE t := by
      intro t k
      refine K159 _ ?_
      refine XS.istore X159.here hx rfl (hb hby at_220) rfl (l' := #[.val (.int p0), .val (.ref b2), .val (.ref b64), .val (.int (5 : Int32)), .val (.ref oPUBREL), .val (.int (98 : Int32))]) rfl ?_
      show own_S p e below T159 (mkF m 222 #[.val (.int p0), .val (.ref b2), .val (.ref b64), .val (.int (5 : Int32)), .val (.ref oPUBREL), .val (.int (98 : Int32))] []) _
      refine XS.iload X159.here hx rfl (hb hby at_222) rfl ?_
      show own_S p e below T159 (mkF m 224 #[.val (.int p0), .val (.ref b2), .val (.ref b64), .val (.int (5 : Int32)), .val (.ref oPUBREL), .val (.int (98 : Int32))] [(.int (98 : Int32))]) _
      refine XS.aloadN X159.here hx rfl (hb hby at_224) rfl rfl ?_
      show own_S p e below T159 (mkF m 225 #[.val (.int p0), .val (.ref b2), .val (.ref b64), .val (.int (5 : Int32)), .val (.ref oPUBREL), .val (.int (98 : Int32))] [(.ref b64), (.int (98 : Int32))]) _
      refine XS.iloadN X159.here hx rfl (hb hby at_225) rfl ?_
      exact k
    obtain ⟨cl161, Ar161, qk161, S161, Ng161, Hh161, Gg161⟩ := id V109
    have hin161 : ¬ ((5 : Int32) < 0 ∨ cl161.slots.size ≤ ((5 : Int32)).toNatClampNeg) := inb_of S161 ⟨by decide, by decide⟩
    have hat161 : cl161.slots[((5 : Int32)).toNatClampNeg]? = some (.int (98 : Int32)) := Has.at Hh161 hin161 rfl
    have K162 : ∀ t, own_S p e below T159 (mkF m 234 #[.val (.int p0), .val (.ref b2), .val (.ref b64), .val (.int (5 : Int32)), .val (.ref oPUBREL), .val (.int (98 : Int32))] [(.int (98 : Int32))]) t → Steps p.tables e below SE t := by
      intro t k
      refine K160 _ ?_
      refine X159.iaload hx (j := (5 : Int32)) (v := (.int (98 : Int32))) (by rw [e159]; exact Ar161.1) (State.isArrayOf_alike hZ.alike Ar161.2.1) Ar161.2.2 hin161 hat161 (g := (mkF m 226 #[.val (.int p0), .val (.ref b2), .val (.ref b64), .val (.int (5 : Int32)), .val (.ref oPUBREL), .val (.int (98 : Int32))] [(.int (5 : Int32)), (.ref b64), (.int (98 : Int32))])) rfl rfl (hb hby at_226) _ ?_
      show own_S p e below T159 (mkF m 227 #[.val (.int p0), .val (.ref b2), .val (.ref b64), .val (.int (5 : Int32)), .val (.ref oPUBREL), .val (.int (98 : Int32))] [(.int (98 : Int32)), (.int (98 : Int32))]) _
      refine XS.icmpYes X159.here hx rfl (pc0 := 227) (pc' := 232) rfl (hb hby at_227) rfl (XT.ii_eq_t (by decide : (98 : Int32) = (98 : Int32))) (by decide) (by decide) ?_
      show own_S p e below T159 (mkF m 232 #[.val (.int p0), .val (.ref b2), .val (.ref b64), .val (.int (5 : Int32)), .val (.ref oPUBREL), .val (.int (98 : Int32))] []) _
      refine XS.iload X159.here hx rfl (hb hby at_232) rfl ?_
      exact k
    obtain ⟨_, _, ⟨T163, L163, k163, n163⟩, -, X163, ⟨Lc163, hQ163, l163, y163, z163⟩, st163⟩ := Jvm.LawKit.callS X159 hx (y := (⟨"com/example/headroom/headroom/io/PacketType", "of", "(I)Lcom/example/headroom/headroom/io/PacketType;"⟩ : MethodName)) hown (mvT hZ (hw _ (List.mem_of_getElem? (i := 45) rfl))) (mvT hZ (hw _ (List.mem_of_getElem? (i := 46) rfl))) (mvT hZ (hw _ (List.mem_of_getElem? (i := 3) rfl))) (mvT hZ (hw _ (List.mem_of_getElem? (i := 47) rfl))) (by decide) (backOf (W := 0) (rm2 l Z a0 hw [] (98 : Int32) oBY kB _ oPUBREL (6 : Int32) (2 : Int32) h109 n0 (Nat.le_trans Z0 Kp109.1) (ST_BY_VALUE.ext (own_ext Kp109)) (VB.ext (own_ext Kp109)) (FL_oPUBREL_flags.ext (own_ext Kp109)) (by decide) ⟨by decide, by decide⟩ rfl (by decide)) hZ (hw _ (List.mem_of_getElem? (i := 47) rfl)) (hw _ (List.mem_of_getElem? (i := 3) rfl)) (by decide) (by decide)) (g := (mkF m 234 #[.val (.int p0), .val (.ref b2), .val (.ref b64), .val (.int (5 : Int32)), .val (.ref oPUBREL), .val (.int (98 : Int32))] [(.int (98 : Int32))])) rfl (by rw [hml]; rfl) (argsL := [(.int (98 : Int32))]) (rest := []) (lenOf pd_0_1 rfl) rfl (by show 2 * 0 + _ ≤ _; exact Nat.le_of_eq rfl) (hb hby at_234) (fun _ _ => ⟨rfl, e159, (by decide : 2 + 0 ≤ _), (by decide : 30 + 0 ≤ _)⟩)
    dsimp only [Pt.U, Pt.locs, Pt.cells, Pt.slots] at X163 l163 y163 z163 st163 hQ163
    rw [y163, z163] at X163
    obtain ⟨rfl, Nq163, e163⟩ := hQ163
    have N163 : Fr n0 L163 := by rw [l163]; exact Fr.app N159 Nq163
    have K163 : ∀ t, own_S p e below T163 (mkF m 237 #[.val (.int p0), .val (.ref b2), .val (.ref b64), .val (.int (5 : Int32)), .val (.ref oPUBREL), .val (.int (98 : Int32))] [(.ref oPUBREL)]) t → Steps p.tables e below SE t := fun t k => K162 _ (st163 _ k)
    have K164 : ∀ t, own_S p e below T163 (mkF m 247 #[.val (.int p0), .val (.ref b2), .val (.ref b64), .val (.int (5 : Int32)), .val (.ref oPUBREL), .val (.int (98 : Int32))] [(.int (1 : Int32))]) t → Steps p.tables e below SE t := by
      intro t k
      refine K163 _ ?_
      refine XS.aload X163.here hx rfl (hb hby at_237) rfl rfl ?_
      show own_S p e below T163 (mkF m 239 #[.val (.int p0), .val (.ref b2), .val (.ref b64), .val (.int (5 : Int32)), .val (.ref oPUBREL), .val (.int (98 : Int32))] [(.ref oPUBREL), (.ref oPUBREL)]) _
      refine Jvm.RoadKit.acmp (g := (mkF m 239 #[.val (.int p0), .val (.ref b2), .val (.ref b64), .val (.int (5 : Int32)), .val (.ref oPUBREL), .val (.int (98 : Int32))] [(.ref oPUBREL), (.ref oPUBREL)])) X163 hx rfl rfl rfl (pc0 := 239) (pc' := 242) (same := true) rfl (hb hby at_239) rfl (decide_eq_true rfl) (by decide) (by decide) ?_
      show own_S p e below T163 (mkF m 242 #[.val (.int p0), .val (.ref b2), .val (.ref b64), .val (.int (5 : Int32)), .val (.ref oPUBREL), .val (.int (98 : Int32))] []) _
      refine XS.iconst X163.here hx rfl (hb hby at_242) ?_
      show own_S p e below T163 (mkF m 243 #[.val (.int p0), .val (.ref b2), .val (.ref b64), .val (.int (5 : Int32)), .val (.ref oPUBREL), .val (.int (98 : Int32))] [(.int (1 : Int32))]) _
      refine XS.goto X163.here hx rfl (pc0 := 243) (pc' := 247) rfl (hb hby at_243) (by decide) (by decide) ?_
      exact k
    obtain ⟨fs, hr, hrun, hended, hW, hsame⟩ := X163.leave (v := some (.int (1 : Int32))) (fun h => by rw [Bd.returns] at h; cases h)
    refine ⟨_, _, K164 _ ?_, hrun, hended, _, _, rfl, ?_, ⟨_, rfl⟩, hW, hsame.mono (by decide) (by decide)⟩
    · exact retN X163 hx (t := .boolean) Bd.returns (by simp) (hb hby at_247) hr
    · show Q0 Z p0 oCONNECT oCONNACK oPUBLISH oPUBACK oPUBREC oPUBREL oPUBCOMP oSUBSCRIBE oSUBACK oUNSUBSCRIBE oUNSUBACK oPINGREQ oPINGRESP oDISCONNECT oAUTH oBY kB h0 n0 _ T163.heap _
      rw [e163]
      exact ⟨rfl, N163⟩
  · skip
    rw [q] at K110
    have K165 : ∀ t, own_S p e below T109 (mkF m 212 #[.val (.int p0), .val (.ref b2), .val (.ref b64), .val (.int (6 : Int32)), .unset, .unset] [(.int (6 : Int32)), (.ref b2)]) t → Steps p.tables e below SE t := by
      intro t k
      refine K110 _ ?_
      refine XS.aloadN X109.here hx rfl (hb hby at_210) rfl rfl ?_
      show own_S p e below T109 (mkF m 211 #[.val (.int p0), .val (.ref b2), .val (.ref b64), .val (.int (6 : Int32)), .unset, .unset] [(.ref b2)]) _
      refine XS.iloadN X109.here hx rfl (hb hby at_211) rfl ?_
      exact k
    obtain ⟨cl166, Ar166, qk166, S166, Ng166, Hh166, Gg166⟩ := id ((((((((((((((((V62.ext E64).other W67 (own_ne_b2_b64)).other W70 (own_ne_b2_b64)).other W73 (own_ne_b2_b64)).other W76 (own_ne_b2_b64)).other W79 (own_ne_b2_b64)).other W82 (own_ne_b2_b64)).other W85 (own_ne_b2_b64)).other W88 (own_ne_b2_b64)).other W91 (own_ne_b2_b64)).other W94 (own_ne_b2_b64)).other W97 (own_ne_b2_b64)).other W100 (own_ne_b2_b64)).other W103 (own_ne_b2_b64)).other W106 (own_ne_b2_b64)).other W109 (own_ne_b2_b64))
    have hin166 : ¬ ((6 : Int32) < 0 ∨ cl166.slots.size ≤ ((6 : Int32)).toNatClampNeg) := inb_of S166 ⟨by decide, by decide⟩
    have hat166 : cl166.slots[((6 : Int32)).toNatClampNeg]? = some (.ref oPUBCOMP) := Has.at Hh166 hin166 rfl
    have K167 : ∀ t, own_S p e below T109 (mkF m 217 #[.val (.int p0), .val (.ref b2), .val (.ref b64), .val (.int (6 : Int32)), .val (.ref oPUBCOMP), .unset] [(.ref oPUBCOMP)]) t → Steps p.tables e below SE t := by
      intro t k
      refine K165 _ ?_
      refine X109.aaload hx (j := (6 : Int32)) (v := (.ref oPUBCOMP)) (by rw [e109]; exact Ar166.1) (State.isArrayOf_alike hZ.alike Ar166.2.1) rfl Ar166.2.2 hin166 hat166 (g := (mkF m 212 #[.val (.int p0), .val (.ref b2), .val (.ref b64), .val (.int (6 : Int32)), .unset, .unset] [(.int (6 : Int32)), (.ref b2)])) rfl rfl (hb hby at_212) _ ?_
      show own_S p e below T109 (mkF m 213 #[.val (.int p0), .val (.ref b2), .val (.ref b64), .val (.int (6 : Int32)), .unset, .unset] [(.ref oPUBCOMP)]) _
      refine XS.astore X109.here hx rfl (hb hby at_213) rfl rfl (l' := #[.val (.int p0), .val (.ref b2), .val (.ref b64), .val (.int (6 : Int32)), .val (.ref oPUBCOMP), .unset]) rfl ?_
      show own_S p e below T109 (mkF m 215 #[.val (.int p0), .val (.ref b2), .val (.ref b64), .val (.int (6 : Int32)), .val (.ref oPUBCOMP), .unset] []) _
      refine XS.aload X109.here hx rfl (hb hby at_215) rfl rfl ?_
      exact k
    obtain ⟨cq168, kq168, q168a, q168b, q168c⟩ := isOf hZ e109 (EX_oPUBCOMP.ext (own_ext Kp109))
    obtain ⟨_, _, ⟨T168, L168, k168, n168⟩, -, X168, ⟨Lc168, hQ168, l168, y168, z168⟩, st168⟩ := X109.virtualBack hx (y := (⟨"com/example/headroom/headroom/io/PacketType", "firstByte", "()I"⟩ : MethodName)) (z := (⟨"com/example/headroom/headroom/io/PacketType", "firstByte", "()I"⟩ : MethodName)) hown (mvT hZ (hw _ (List.mem_of_getElem? (i := 36) rfl))) (mvT hZ (hw _ (List.mem_of_getElem? (i := 37) rfl))) (notFace_of_selects (args := #[]) (mvT hZ (hw _ (List.mem_of_getElem? (i := 39) rfl)))) (mvT hZ (hw _ (List.mem_of_getElem? (i := 39) rfl))) (mvT hZ (hw _ (List.mem_of_getElem? (i := 38) rfl))) (by decide) (backOf (W := 0) (rm1 l Z a0 hw [] oPUBCOMP (7 : Int32) (0 : Int32) h109 n0 (Nat.le_trans Z0 Kp109.1) (FL_oPUBCOMP_value.ext (own_ext Kp109)) (FL_oPUBCOMP_flags.ext (own_ext Kp109))) hZ (hw _ (List.mem_of_getElem? (i := 40) rfl)) (hw _ (List.mem_of_getElem? (i := 3) rfl)) (by decide) (by decide)) q168a q168c (g := (mkF m 217 #[.val (.int p0), .val (.ref b2), .val (.ref b64), .val (.int (6 : Int32)), .val (.ref oPUBCOMP), .unset] [(.ref oPUBCOMP)])) rfl (by rw [hml]; rfl) (Steps.refl _) (argsL := []) (rest := []) (lenOf pd_0_0 rfl) rfl (by show 2 * 0 + _ ≤ _; exact Nat.le_of_eq rfl) (hb hby at_217) (fun _ _ => ⟨rfl, e109, (by decide : 2 + 0 ≤ _), (by decide : 30 + 0 ≤ _)⟩)
    dsimp only [Pt.U, Pt.locs, Pt.cells, Pt.slots] at X168 l168 y168 z168 st168 hQ168
    rw [y168, z168] at X168
    obtain ⟨rfl, Nq168, e168⟩ := hQ168
    have N168 : Fr n0 L168 := by rw [l168]; exact Fr.app N109 Nq168
    have K168 : ∀ t, own_S p e below T168 (mkF m 220 #[.val (.int p0), .val (.ref b2), .val (.ref b64), .val (.int (6 : Int32)), .val (.ref oPUBCOMP), .unset] [(.int (if (0 : Int32) = (-1 : Int32) then (((7 : Int32) <<< ((4 : Int32) &&& 31)) ||| (0 : Int32)) else (((7 : Int32) <<< ((4 : Int32) &&& 31)) ||| (0 : Int32))))]) t → Steps p.tables e below SE t := fun t k => K167 _ (st168.trans k)
    rw [(by decide : (if (0 : Int32) = (-1 : Int32) then (((7 : Int32) <<< ((4 : Int32) &&& 31)) ||| (0 : Int32)) else (((7 : Int32) <<< ((4 : Int32) &&& 31)) ||| (0 : Int32))) = (112 : Int32))] at K168
    have K169 : ∀ t, own_S p e below T168 (mkF m 226 #[.val (.int p0), .val (.ref b2), .val (.ref b64), .val (.int (6 : Int32)), .val (.ref oPUBCOMP), .val (.int (112 : Int32))] [(.int (6 : Int32)), (.ref b64), (.int (112 : Int32))]) t → Steps p.tables e below SE t := by
      intro t k
      refine K168 _ ?_
      refine XS.istore X168.here hx rfl (hb hby at_220) rfl (l' := #[.val (.int p0), .val (.ref b2), .val (.ref b64), .val (.int (6 : Int32)), .val (.ref oPUBCOMP), .val (.int (112 : Int32))]) rfl ?_
      show own_S p e below T168 (mkF m 222 #[.val (.int p0), .val (.ref b2), .val (.ref b64), .val (.int (6 : Int32)), .val (.ref oPUBCOMP), .val (.int (112 : Int32))] []) _
      refine XS.iload X168.here hx rfl (hb hby at_222) rfl ?_
      show own_S p e below T168 (mkF m 224 #[.val (.int p0), .val (.ref b2), .val (.ref b64), .val (.int (6 : Int32)), .val (.ref oPUBCOMP), .val (.int (112 : Int32))] [(.int (112 : Int32))]) _
      refine XS.aloadN X168.here hx rfl (hb hby at_224) rfl rfl ?_
      show own_S p e below T168 (mkF m 225 #[.val (.int p0), .val (.ref b2), .val (.ref b64), .val (.int (6 : Int32)), .val (.ref oPUBCOMP), .val (.int (112 : Int32))] [(.ref b64), (.int (112 : Int32))]) _
      refine XS.iloadN X168.here hx rfl (hb hby at_225) rfl ?_
      exact k
    obtain ⟨cl170, Ar170, qk170, S170, Ng170, Hh170, Gg170⟩ := id V109
    have hin170 : ¬ ((6 : Int32) < 0 ∨ cl170.slots.size ≤ ((6 : Int32)).toNatClampNeg) := inb_of S170 ⟨by decide, by decide⟩
    have hat170 : cl170.slots[((6 : Int32)).toNatClampNeg]? = some (.int (112 : Int32)) := Has.at Hh170 hin170 rfl
    have K171 : ∀ t, own_S p e below T168 (mkF m 234 #[.val (.int p0), .val (.ref b2), .val (.ref b64), .val (.int (6 : Int32)), .val (.ref oPUBCOMP), .val (.int (112 : Int32))] [(.int (112 : Int32))]) t → Steps p.tables e below SE t := by
      intro t k
      refine K169 _ ?_
      refine X168.iaload hx (j := (6 : Int32)) (v := (.int (112 : Int32))) (by rw [e168]; exact Ar170.1) (State.isArrayOf_alike hZ.alike Ar170.2.1) Ar170.2.2 hin170 hat170 (g := (mkF m 226 #[.val (.int p0), .val (.ref b2), .val (.ref b64), .val (.int (6 : Int32)), .val (.ref oPUBCOMP), .val (.int (112 : Int32))] [(.int (6 : Int32)), (.ref b64), (.int (112 : Int32))])) rfl rfl (hb hby at_226) _ ?_
      show own_S p e below T168 (mkF m 227 #[.val (.int p0), .val (.ref b2), .val (.ref b64), .val (.int (6 : Int32)), .val (.ref oPUBCOMP), .val (.int (112 : Int32))] [(.int (112 : Int32)), (.int (112 : Int32))]) _
      refine XS.icmpYes X168.here hx rfl (pc0 := 227) (pc' := 232) rfl (hb hby at_227) rfl (XT.ii_eq_t (by decide : (112 : Int32) = (112 : Int32))) (by decide) (by decide) ?_
      show own_S p e below T168 (mkF m 232 #[.val (.int p0), .val (.ref b2), .val (.ref b64), .val (.int (6 : Int32)), .val (.ref oPUBCOMP), .val (.int (112 : Int32))] []) _
      refine XS.iload X168.here hx rfl (hb hby at_232) rfl ?_
      exact k
    obtain ⟨_, _, ⟨T172, L172, k172, n172⟩, -, X172, ⟨Lc172, hQ172, l172, y172, z172⟩, st172⟩ := Jvm.LawKit.callS X168 hx (y := (⟨"com/example/headroom/headroom/io/PacketType", "of", "(I)Lcom/example/headroom/headroom/io/PacketType;"⟩ : MethodName)) hown (mvT hZ (hw _ (List.mem_of_getElem? (i := 45) rfl))) (mvT hZ (hw _ (List.mem_of_getElem? (i := 46) rfl))) (mvT hZ (hw _ (List.mem_of_getElem? (i := 3) rfl))) (mvT hZ (hw _ (List.mem_of_getElem? (i := 47) rfl))) (by decide) (backOf (W := 0) (rm2 l Z a0 hw [] (112 : Int32) oBY kB _ oPUBCOMP (7 : Int32) (0 : Int32) h109 n0 (Nat.le_trans Z0 Kp109.1) (ST_BY_VALUE.ext (own_ext Kp109)) (VB.ext (own_ext Kp109)) (FL_oPUBCOMP_flags.ext (own_ext Kp109)) (by decide) ⟨by decide, by decide⟩ rfl (by decide)) hZ (hw _ (List.mem_of_getElem? (i := 47) rfl)) (hw _ (List.mem_of_getElem? (i := 3) rfl)) (by decide) (by decide)) (g := (mkF m 234 #[.val (.int p0), .val (.ref b2), .val (.ref b64), .val (.int (6 : Int32)), .val (.ref oPUBCOMP), .val (.int (112 : Int32))] [(.int (112 : Int32))])) rfl (by rw [hml]; rfl) (argsL := [(.int (112 : Int32))]) (rest := []) (lenOf pd_0_1 rfl) rfl (by show 2 * 0 + _ ≤ _; exact Nat.le_of_eq rfl) (hb hby at_234) (fun _ _ => ⟨rfl, e168, (by decide : 2 + 0 ≤ _), (by decide : 30 + 0 ≤ _)⟩)
    dsimp only [Pt.U, Pt.locs, Pt.cells, Pt.slots] at X172 l172 y172 z172 st172 hQ172
    rw [y172, z172] at X172
    obtain ⟨rfl, Nq172, e172⟩ := hQ172
    have N172 : Fr n0 L172 := by rw [l172]; exact Fr.app N168 Nq172
    have K172 : ∀ t, own_S p e below T172 (mkF m 237 #[.val (.int p0), .val (.ref b2), .val (.ref b64), .val (.int (6 : Int32)), .val (.ref oPUBCOMP), .val (.int (112 : Int32))] [(.ref oPUBCOMP)]) t → Steps p.tables e below SE t := fun t k => K171 _ (st172 _ k)
    have K173 : ∀ t, own_S p e below T172 (mkF m 247 #[.val (.int p0), .val (.ref b2), .val (.ref b64), .val (.int (6 : Int32)), .val (.ref oPUBCOMP), .val (.int (112 : Int32))] [(.int (1 : Int32))]) t → Steps p.tables e below SE t := by
      intro t k
      refine K172 _ ?_
      refine XS.aload X172.here hx rfl (hb hby at_237) rfl rfl ?_
      show own_S p e below T172 (mkF m 239 #[.val (.int p0), .val (.ref b2), .val (.ref b64), .val (.int (6 : Int32)), .val (.ref oPUBCOMP), .val (.int (112 : Int32))] [(.ref oPUBCOMP), (.ref oPUBCOMP)]) _
      refine Jvm.RoadKit.acmp (g := (mkF m 239 #[.val (.int p0), .val (.ref b2), .val (.ref b64), .val (.int (6 : Int32)), .val (.ref oPUBCOMP), .val (.int (112 : Int32))] [(.ref oPUBCOMP), (.ref oPUBCOMP)])) X172 hx rfl rfl rfl (pc0 := 239) (pc' := 242) (same := true) rfl (hb hby at_239) rfl (decide_eq_true rfl) (by decide) (by decide) ?_
      show own_S p e below T172 (mkF m 242 #[.val (.int p0), .val (.ref b2), .val (.ref b64), .val (.int (6 : Int32)), .val (.ref oPUBCOMP), .val (.int (112 : Int32))] []) _
      refine XS.iconst X172.here hx rfl (hb hby at_242) ?_
      show own_S p e below T172 (mkF m 243 #[.val (.int p0), .val (.ref b2), .val (.ref b64), .val (.int (6 : Int32)), .val (.ref oPUBCOMP), .val (.int (112 : Int32))] [(.int (1 : Int32))]) _
      refine XS.goto X172.here hx rfl (pc0 := 243) (pc' := 247) rfl (hb hby at_243) (by decide) (by decide) ?_
      exact k
    obtain ⟨fs, hr, hrun, hended, hW, hsame⟩ := X172.leave (v := some (.int (1 : Int32))) (fun h => by rw [Bd.returns] at h; cases h)
    refine ⟨_, _, K173 _ ?_, hrun, hended, _, _, rfl, ?_, ⟨_, rfl⟩, hW, hsame.mono (by decide) (by decide)⟩
    · exact retN X172 hx (t := .boolean) Bd.returns (by simp) (hb hby at_247) hr
    · show Q0 Z p0 oCONNECT oCONNACK oPUBLISH oPUBACK oPUBREC oPUBREL oPUBCOMP oSUBSCRIBE oSUBACK oUNSUBSCRIBE oUNSUBACK oPINGREQ oPINGRESP oDISCONNECT oAUTH oBY kB h0 n0 _ T172.heap _
      rw [e172]
      exact ⟨rfl, N172⟩
  · skip
    rw [q] at K110
    have K174 : ∀ t, own_S p e below T109 (mkF m 212 #[.val (.int p0), .val (.ref b2), .val (.ref b64), .val (.int (7 : Int32)), .unset, .unset] [(.int (7 : Int32)), (.ref b2)]) t → Steps p.tables e below SE t := by
      intro t k
      refine K110 _ ?_
      refine XS.aloadN X109.here hx rfl (hb hby at_210) rfl rfl ?_
      show own_S p e below T109 (mkF m 211 #[.val (.int p0), .val (.ref b2), .val (.ref b64), .val (.int (7 : Int32)), .unset, .unset] [(.ref b2)]) _
      refine XS.iloadN X109.here hx rfl (hb hby at_211) rfl ?_
      exact k
    obtain ⟨cl175, Ar175, qk175, S175, Ng175, Hh175, Gg175⟩ := id ((((((((((((((((V62.ext E64).other W67 (own_ne_b2_b64)).other W70 (own_ne_b2_b64)).other W73 (own_ne_b2_b64)).other W76 (own_ne_b2_b64)).other W79 (own_ne_b2_b64)).other W82 (own_ne_b2_b64)).other W85 (own_ne_b2_b64)).other W88 (own_ne_b2_b64)).other W91 (own_ne_b2_b64)).other W94 (own_ne_b2_b64)).other W97 (own_ne_b2_b64)).other W100 (own_ne_b2_b64)).other W103 (own_ne_b2_b64)).other W106 (own_ne_b2_b64)).other W109 (own_ne_b2_b64))
    have hin175 : ¬ ((7 : Int32) < 0 ∨ cl175.slots.size ≤ ((7 : Int32)).toNatClampNeg) := inb_of S175 ⟨by decide, by decide⟩
    have hat175 : cl175.slots[((7 : Int32)).toNatClampNeg]? = some (.ref oSUBSCRIBE) := Has.at Hh175 hin175 rfl
    have K176 : ∀ t, own_S p e below T109 (mkF m 217 #[.val (.int p0), .val (.ref b2), .val (.ref b64), .val (.int (7 : Int32)), .val (.ref oSUBSCRIBE), .unset] [(.ref oSUBSCRIBE)]) t → Steps p.tables e below SE t := by
      intro t k
      refine K174 _ ?_
      refine X109.aaload hx (j := (7 : Int32)) (v := (.ref oSUBSCRIBE)) (by rw [e109]; exact Ar175.1) (State.isArrayOf_alike hZ.alike Ar175.2.1) rfl Ar175.2.2 hin175 hat175 (g := (mkF m 212 #[.val (.int p0), .val (.ref b2), .val (.ref b64), .val (.int (7 : Int32)), .unset, .unset] [(.int (7 : Int32)), (.ref b2)])) rfl rfl (hb hby at_212) _ ?_
      show own_S p e below T109 (mkF m 213 #[.val (.int p0), .val (.ref b2), .val (.ref b64), .val (.int (7 : Int32)), .unset, .unset] [(.ref oSUBSCRIBE)]) _
      refine XS.astore X109.here hx rfl (hb hby at_213) rfl rfl (l' := #[.val (.int p0), .val (.ref b2), .val (.ref b64), .val (.int (7 : Int32)), .val (.ref oSUBSCRIBE), .unset]) rfl ?_
      show own_S p e below T109 (mkF m 215 #[.val (.int p0), .val (.ref b2), .val (.ref b64), .val (.int (7 : Int32)), .val (.ref oSUBSCRIBE), .unset] []) _
      refine XS.aload X109.here hx rfl (hb hby at_215) rfl rfl ?_
      exact k
    obtain ⟨cq177, kq177, q177a, q177b, q177c⟩ := isOf hZ e109 (EX_oSUBSCRIBE.ext (own_ext Kp109))
    obtain ⟨_, _, ⟨T177, L177, k177, n177⟩, -, X177, ⟨Lc177, hQ177, l177, y177, z177⟩, st177⟩ := X109.virtualBack hx (y := (⟨"com/example/headroom/headroom/io/PacketType", "firstByte", "()I"⟩ : MethodName)) (z := (⟨"com/example/headroom/headroom/io/PacketType", "firstByte", "()I"⟩ : MethodName)) hown (mvT hZ (hw _ (List.mem_of_getElem? (i := 36) rfl))) (mvT hZ (hw _ (List.mem_of_getElem? (i := 37) rfl))) (notFace_of_selects (args := #[]) (mvT hZ (hw _ (List.mem_of_getElem? (i := 39) rfl)))) (mvT hZ (hw _ (List.mem_of_getElem? (i := 39) rfl))) (mvT hZ (hw _ (List.mem_of_getElem? (i := 38) rfl))) (by decide) (backOf (W := 0) (rm1 l Z a0 hw [] oSUBSCRIBE (8 : Int32) (2 : Int32) h109 n0 (Nat.le_trans Z0 Kp109.1) (FL_oSUBSCRIBE_value.ext (own_ext Kp109)) (FL_oSUBSCRIBE_flags.ext (own_ext Kp109))) hZ (hw _ (List.mem_of_getElem? (i := 40) rfl)) (hw _ (List.mem_of_getElem? (i := 3) rfl)) (by decide) (by decide)) q177a q177c (g := (mkF m 217 #[.val (.int p0), .val (.ref b2), .val (.ref b64), .val (.int (7 : Int32)), .val (.ref oSUBSCRIBE), .unset] [(.ref oSUBSCRIBE)])) rfl (by rw [hml]; rfl) (Steps.refl _) (argsL := []) (rest := []) (lenOf pd_0_0 rfl) rfl (by show 2 * 0 + _ ≤ _; exact Nat.le_of_eq rfl) (hb hby at_217) (fun _ _ => ⟨rfl, e109, (by decide : 2 + 0 ≤ _), (by decide : 30 + 0 ≤ _)⟩)
    dsimp only [Pt.U, Pt.locs, Pt.cells, Pt.slots] at X177 l177 y177 z177 st177 hQ177
    rw [y177, z177] at X177
    obtain ⟨rfl, Nq177, e177⟩ := hQ177
    have N177 : Fr n0 L177 := by rw [l177]; exact Fr.app N109 Nq177
    have K177 : ∀ t, own_S p e below T177 (mkF m 220 #[.val (.int p0), .val (.ref b2), .val (.ref b64), .val (.int (7 : Int32)), .val (.ref oSUBSCRIBE), .unset] [(.int (if (2 : Int32) = (-1 : Int32) then (((8 : Int32) <<< ((4 : Int32) &&& 31)) ||| (0 : Int32)) else (((8 : Int32) <<< ((4 : Int32) &&& 31)) ||| (2 : Int32))))]) t → Steps p.tables e below SE t := fun t k => K176 _ (st177.trans k)
    rw [(by decide : (if (2 : Int32) = (-1 : Int32) then (((8 : Int32) <<< ((4 : Int32) &&& 31)) ||| (0 : Int32)) else (((8 : Int32) <<< ((4 : Int32) &&& 31)) ||| (2 : Int32))) = (130 : Int32))] at K177
    have K178 : ∀ t, own_S p e below T177 (mkF m 226 #[.val (.int p0), .val (.ref b2), .val (.ref b64), .val (.int (7 : Int32)), .val (.ref oSUBSCRIBE), .val (.int (130 : Int32))] [(.int (7 : Int32)), (.ref b64), (.int (130 : Int32))]) t → Steps p.tables e below SE t := by
      intro t k
      refine K177 _ ?_
      refine XS.istore X177.here hx rfl (hb hby at_220) rfl (l' := #[.val (.int p0), .val (.ref b2), .val (.ref b64), .val (.int (7 : Int32)), .val (.ref oSUBSCRIBE), .val (.int (130 : Int32))]) rfl ?_
      show own_S p e below T177 (mkF m 222 #[.val (.int p0), .val (.ref b2), .val (.ref b64), .val (.int (7 : Int32)), .val (.ref oSUBSCRIBE), .val (.int (130 : Int32))] []) _
      refine XS.iload X177.here hx rfl (hb hby at_222) rfl ?_
      show own_S p e below T177 (mkF m 224 #[.val (.int p0), .val (.ref b2), .val (.ref b64), .val (.int (7 : Int32)), .val (.ref oSUBSCRIBE), .val (.int (130 : Int32))] [(.int (130 : Int32))]) _
      refine XS.aloadN X177.here hx rfl (hb hby at_224) rfl rfl ?_
      show own_S p e below T177 (mkF m 225 #[.val (.int p0), .val (.ref b2), .val (.ref b64), .val (.int (7 : Int32)), .val (.ref oSUBSCRIBE), .val (.int (130 : Int32))] [(.ref b64), (.int (130 : Int32))]) _
      refine XS.iloadN X177.here hx rfl (hb hby at_225) rfl ?_
      exact k
    obtain ⟨cl179, Ar179, qk179, S179, Ng179, Hh179, Gg179⟩ := id V109
    have hin179 : ¬ ((7 : Int32) < 0 ∨ cl179.slots.size ≤ ((7 : Int32)).toNatClampNeg) := inb_of S179 ⟨by decide, by decide⟩
    have hat179 : cl179.slots[((7 : Int32)).toNatClampNeg]? = some (.int (130 : Int32)) := Has.at Hh179 hin179 rfl
    have K180 : ∀ t, own_S p e below T177 (mkF m 234 #[.val (.int p0), .val (.ref b2), .val (.ref b64), .val (.int (7 : Int32)), .val (.ref oSUBSCRIBE), .val (.int (130 : Int32))] [(.int (130 : Int32))]) t → Steps p.tables e below SE t := by
      intro t k
      refine K178 _ ?_
      refine X177.iaload hx (j := (7 : Int32)) (v := (.int (130 : Int32))) (by rw [e177]; exact Ar179.1) (State.isArrayOf_alike hZ.alike Ar179.2.1) Ar179.2.2 hin179 hat179 (g := (mkF m 226 #[.val (.int p0), .val (.ref b2), .val (.ref b64), .val (.int (7 : Int32)), .val (.ref oSUBSCRIBE), .val (.int (130 : Int32))] [(.int (7 : Int32)), (.ref b64), (.int (130 : Int32))])) rfl rfl (hb hby at_226) _ ?_
      show own_S p e below T177 (mkF m 227 #[.val (.int p0), .val (.ref b2), .val (.ref b64), .val (.int (7 : Int32)), .val (.ref oSUBSCRIBE), .val (.int (130 : Int32))] [(.int (130 : Int32)), (.int (130 : Int32))]) _
      refine XS.icmpYes X177.here hx rfl (pc0 := 227) (pc' := 232) rfl (hb hby at_227) rfl (XT.ii_eq_t (by decide : (130 : Int32) = (130 : Int32))) (by decide) (by decide) ?_
      show own_S p e below T177 (mkF m 232 #[.val (.int p0), .val (.ref b2), .val (.ref b64), .val (.int (7 : Int32)), .val (.ref oSUBSCRIBE), .val (.int (130 : Int32))] []) _
      refine XS.iload X177.here hx rfl (hb hby at_232) rfl ?_
      exact k
    obtain ⟨_, _, ⟨T181, L181, k181, n181⟩, -, X181, ⟨Lc181, hQ181, l181, y181, z181⟩, st181⟩ := Jvm.LawKit.callS X177 hx (y := (⟨"com/example/headroom/headroom/io/PacketType", "of", "(I)Lcom/example/headroom/headroom/io/PacketType;"⟩ : MethodName)) hown (mvT hZ (hw _ (List.mem_of_getElem? (i := 45) rfl))) (mvT hZ (hw _ (List.mem_of_getElem? (i := 46) rfl))) (mvT hZ (hw _ (List.mem_of_getElem? (i := 3) rfl))) (mvT hZ (hw _ (List.mem_of_getElem? (i := 47) rfl))) (by decide) (backOf (W := 0) (rm2 l Z a0 hw [] (130 : Int32) oBY kB _ oSUBSCRIBE (8 : Int32) (2 : Int32) h109 n0 (Nat.le_trans Z0 Kp109.1) (ST_BY_VALUE.ext (own_ext Kp109)) (VB.ext (own_ext Kp109)) (FL_oSUBSCRIBE_flags.ext (own_ext Kp109)) (by decide) ⟨by decide, by decide⟩ rfl (by decide)) hZ (hw _ (List.mem_of_getElem? (i := 47) rfl)) (hw _ (List.mem_of_getElem? (i := 3) rfl)) (by decide) (by decide)) (g := (mkF m 234 #[.val (.int p0), .val (.ref b2), .val (.ref b64), .val (.int (7 : Int32)), .val (.ref oSUBSCRIBE), .val (.int (130 : Int32))] [(.int (130 : Int32))])) rfl (by rw [hml]; rfl) (argsL := [(.int (130 : Int32))]) (rest := []) (lenOf pd_0_1 rfl) rfl (by show 2 * 0 + _ ≤ _; exact Nat.le_of_eq rfl) (hb hby at_234) (fun _ _ => ⟨rfl, e177, (by decide : 2 + 0 ≤ _), (by decide : 30 + 0 ≤ _)⟩)
    dsimp only [Pt.U, Pt.locs, Pt.cells, Pt.slots] at X181 l181 y181 z181 st181 hQ181
    rw [y181, z181] at X181
    obtain ⟨rfl, Nq181, e181⟩ := hQ181
    have N181 : Fr n0 L181 := by rw [l181]; exact Fr.app N177 Nq181
    have K181 : ∀ t, own_S p e below T181 (mkF m 237 #[.val (.int p0), .val (.ref b2), .val (.ref b64), .val (.int (7 : Int32)), .val (.ref oSUBSCRIBE), .val (.int (130 : Int32))] [(.ref oSUBSCRIBE)]) t → Steps p.tables e below SE t := fun t k => K180 _ (st181 _ k)
    have K182 : ∀ t, own_S p e below T181 (mkF m 247 #[.val (.int p0), .val (.ref b2), .val (.ref b64), .val (.int (7 : Int32)), .val (.ref oSUBSCRIBE), .val (.int (130 : Int32))] [(.int (1 : Int32))]) t → Steps p.tables e below SE t := by
      intro t k
      refine K181 _ ?_
      refine XS.aload X181.here hx rfl (hb hby at_237) rfl rfl ?_
      show own_S p e below T181 (mkF m 239 #[.val (.int p0), .val (.ref b2), .val (.ref b64), .val (.int (7 : Int32)), .val (.ref oSUBSCRIBE), .val (.int (130 : Int32))] [(.ref oSUBSCRIBE), (.ref oSUBSCRIBE)]) _
      refine Jvm.RoadKit.acmp (g := (mkF m 239 #[.val (.int p0), .val (.ref b2), .val (.ref b64), .val (.int (7 : Int32)), .val (.ref oSUBSCRIBE), .val (.int (130 : Int32))] [(.ref oSUBSCRIBE), (.ref oSUBSCRIBE)])) X181 hx rfl rfl rfl (pc0 := 239) (pc' := 242) (same := true) rfl (hb hby at_239) rfl (decide_eq_true rfl) (by decide) (by decide) ?_
      show own_S p e below T181 (mkF m 242 #[.val (.int p0), .val (.ref b2), .val (.ref b64), .val (.int (7 : Int32)), .val (.ref oSUBSCRIBE), .val (.int (130 : Int32))] []) _
      refine XS.iconst X181.here hx rfl (hb hby at_242) ?_
      show own_S p e below T181 (mkF m 243 #[.val (.int p0), .val (.ref b2), .val (.ref b64), .val (.int (7 : Int32)), .val (.ref oSUBSCRIBE), .val (.int (130 : Int32))] [(.int (1 : Int32))]) _
      refine XS.goto X181.here hx rfl (pc0 := 243) (pc' := 247) rfl (hb hby at_243) (by decide) (by decide) ?_
      exact k
    obtain ⟨fs, hr, hrun, hended, hW, hsame⟩ := X181.leave (v := some (.int (1 : Int32))) (fun h => by rw [Bd.returns] at h; cases h)
    refine ⟨_, _, K182 _ ?_, hrun, hended, _, _, rfl, ?_, ⟨_, rfl⟩, hW, hsame.mono (by decide) (by decide)⟩
    · exact retN X181 hx (t := .boolean) Bd.returns (by simp) (hb hby at_247) hr
    · show Q0 Z p0 oCONNECT oCONNACK oPUBLISH oPUBACK oPUBREC oPUBREL oPUBCOMP oSUBSCRIBE oSUBACK oUNSUBSCRIBE oUNSUBACK oPINGREQ oPINGRESP oDISCONNECT oAUTH oBY kB h0 n0 _ T181.heap _
      rw [e181]
      exact ⟨rfl, N181⟩
  · skip
    rw [q] at K110
    have K183 : ∀ t, own_S p e below T109 (mkF m 212 #[.val (.int p0), .val (.ref b2), .val (.ref b64), .val (.int (8 : Int32)), .unset, .unset] [(.int (8 : Int32)), (.ref b2)]) t → Steps p.tables e below SE t := by
      intro t k
      refine K110 _ ?_
      refine XS.aloadN X109.here hx rfl (hb hby at_210) rfl rfl ?_
      show own_S p e below T109 (mkF m 211 #[.val (.int p0), .val (.ref b2), .val (.ref b64), .val (.int (8 : Int32)), .unset, .unset] [(.ref b2)]) _
      refine XS.iloadN X109.here hx rfl (hb hby at_211) rfl ?_
      exact k
    obtain ⟨cl184, Ar184, qk184, S184, Ng184, Hh184, Gg184⟩ := id ((((((((((((((((V62.ext E64).other W67 (own_ne_b2_b64)).other W70 (own_ne_b2_b64)).other W73 (own_ne_b2_b64)).other W76 (own_ne_b2_b64)).other W79 (own_ne_b2_b64)).other W82 (own_ne_b2_b64)).other W85 (own_ne_b2_b64)).other W88 (own_ne_b2_b64)).other W91 (own_ne_b2_b64)).other W94 (own_ne_b2_b64)).other W97 (own_ne_b2_b64)).other W100 (own_ne_b2_b64)).other W103 (own_ne_b2_b64)).other W106 (own_ne_b2_b64)).other W109 (own_ne_b2_b64))
    have hin184 : ¬ ((8 : Int32) < 0 ∨ cl184.slots.size ≤ ((8 : Int32)).toNatClampNeg) := inb_of S184 ⟨by decide, by decide⟩
    have hat184 : cl184.slots[((8 : Int32)).toNatClampNeg]? = some (.ref oSUBACK) := Has.at Hh184 hin184 rfl
    have K185 : ∀ t, own_S p e below T109 (mkF m 217 #[.val (.int p0), .val (.ref b2), .val (.ref b64), .val (.int (8 : Int32)), .val (.ref oSUBACK), .unset] [(.ref oSUBACK)]) t → Steps p.tables e below SE t := by
      intro t k
      refine K183 _ ?_
      refine X109.aaload hx (j := (8 : Int32)) (v := (.ref oSUBACK)) (by rw [e109]; exact Ar184.1) (State.isArrayOf_alike hZ.alike Ar184.2.1) rfl Ar184.2.2 hin184 hat184 (g := (mkF m 212 #[.val (.int p0), .val (.ref b2), .val (.ref b64), .val (.int (8 : Int32)), .unset, .unset] [(.int (8 : Int32)), (.ref b2)])) rfl rfl (hb hby at_212) _ ?_
      show own_S p e below T109 (mkF m 213 #[.val (.int p0), .val (.ref b2), .val (.ref b64), .val (.int (8 : Int32)), .unset, .unset] [(.ref oSUBACK)]) _
      refine XS.astore X109.here hx rfl (hb hby at_213) rfl rfl (l' := #[.val (.int p0), .val (.ref b2), .val (.ref b64), .val (.int (8 : Int32)), .val (.ref oSUBACK), .unset]) rfl ?_
      show own_S p e below T109 (mkF m 215 #[.val (.int p0), .val (.ref b2), .val (.ref b64), .val (.int (8 : Int32)), .val (.ref oSUBACK), .unset] []) _
      refine XS.aload X109.here hx rfl (hb hby at_215) rfl rfl ?_
      exact k
    obtain ⟨cq186, kq186, q186a, q186b, q186c⟩ := isOf hZ e109 (EX_oSUBACK.ext (own_ext Kp109))
    obtain ⟨_, _, ⟨T186, L186, k186, n186⟩, -, X186, ⟨Lc186, hQ186, l186, y186, z186⟩, st186⟩ := X109.virtualBack hx (y := (⟨"com/example/headroom/headroom/io/PacketType", "firstByte", "()I"⟩ : MethodName)) (z := (⟨"com/example/headroom/headroom/io/PacketType", "firstByte", "()I"⟩ : MethodName)) hown (mvT hZ (hw _ (List.mem_of_getElem? (i := 36) rfl))) (mvT hZ (hw _ (List.mem_of_getElem? (i := 37) rfl))) (notFace_of_selects (args := #[]) (mvT hZ (hw _ (List.mem_of_getElem? (i := 39) rfl)))) (mvT hZ (hw _ (List.mem_of_getElem? (i := 39) rfl))) (mvT hZ (hw _ (List.mem_of_getElem? (i := 38) rfl))) (by decide) (backOf (W := 0) (rm1 l Z a0 hw [] oSUBACK (9 : Int32) (0 : Int32) h109 n0 (Nat.le_trans Z0 Kp109.1) (FL_oSUBACK_value.ext (own_ext Kp109)) (FL_oSUBACK_flags.ext (own_ext Kp109))) hZ (hw _ (List.mem_of_getElem? (i := 40) rfl)) (hw _ (List.mem_of_getElem? (i := 3) rfl)) (by decide) (by decide)) q186a q186c (g := (mkF m 217 #[.val (.int p0), .val (.ref b2), .val (.ref b64), .val (.int (8 : Int32)), .val (.ref oSUBACK), .unset] [(.ref oSUBACK)])) rfl (by rw [hml]; rfl) (Steps.refl _) (argsL := []) (rest := []) (lenOf pd_0_0 rfl) rfl (by show 2 * 0 + _ ≤ _; exact Nat.le_of_eq rfl) (hb hby at_217) (fun _ _ => ⟨rfl, e109, (by decide : 2 + 0 ≤ _), (by decide : 30 + 0 ≤ _)⟩)
    dsimp only [Pt.U, Pt.locs, Pt.cells, Pt.slots] at X186 l186 y186 z186 st186 hQ186
    rw [y186, z186] at X186
    obtain ⟨rfl, Nq186, e186⟩ := hQ186
    have N186 : Fr n0 L186 := by rw [l186]; exact Fr.app N109 Nq186
    have K186 : ∀ t, own_S p e below T186 (mkF m 220 #[.val (.int p0), .val (.ref b2), .val (.ref b64), .val (.int (8 : Int32)), .val (.ref oSUBACK), .unset] [(.int (if (0 : Int32) = (-1 : Int32) then (((9 : Int32) <<< ((4 : Int32) &&& 31)) ||| (0 : Int32)) else (((9 : Int32) <<< ((4 : Int32) &&& 31)) ||| (0 : Int32))))]) t → Steps p.tables e below SE t := fun t k => K185 _ (st186.trans k)
    rw [(by decide : (if (0 : Int32) = (-1 : Int32) then (((9 : Int32) <<< ((4 : Int32) &&& 31)) ||| (0 : Int32)) else (((9 : Int32) <<< ((4 : Int32) &&& 31)) ||| (0 : Int32))) = (144 : Int32))] at K186
    have K187 : ∀ t, own_S p e below T186 (mkF m 226 #[.val (.int p0), .val (.ref b2), .val (.ref b64), .val (.int (8 : Int32)), .val (.ref oSUBACK), .val (.int (144 : Int32))] [(.int (8 : Int32)), (.ref b64), (.int (144 : Int32))]) t → Steps p.tables e below SE t := by
      intro t k
      refine K186 _ ?_
      refine XS.istore X186.here hx rfl (hb hby at_220) rfl (l' := #[.val (.int p0), .val (.ref b2), .val (.ref b64), .val (.int (8 : Int32)), .val (.ref oSUBACK), .val (.int (144 : Int32))]) rfl ?_
      show own_S p e below T186 (mkF m 222 #[.val (.int p0), .val (.ref b2), .val (.ref b64), .val (.int (8 : Int32)), .val (.ref oSUBACK), .val (.int (144 : Int32))] []) _
      refine XS.iload X186.here hx rfl (hb hby at_222) rfl ?_
      show own_S p e below T186 (mkF m 224 #[.val (.int p0), .val (.ref b2), .val (.ref b64), .val (.int (8 : Int32)), .val (.ref oSUBACK), .val (.int (144 : Int32))] [(.int (144 : Int32))]) _
      refine XS.aloadN X186.here hx rfl (hb hby at_224) rfl rfl ?_
      show own_S p e below T186 (mkF m 225 #[.val (.int p0), .val (.ref b2), .val (.ref b64), .val (.int (8 : Int32)), .val (.ref oSUBACK), .val (.int (144 : Int32))] [(.ref b64), (.int (144 : Int32))]) _
      refine XS.iloadN X186.here hx rfl (hb hby at_225) rfl ?_
      exact k
    obtain ⟨cl188, Ar188, qk188, S188, Ng188, Hh188, Gg188⟩ := id V109
    have hin188 : ¬ ((8 : Int32) < 0 ∨ cl188.slots.size ≤ ((8 : Int32)).toNatClampNeg) := inb_of S188 ⟨by decide, by decide⟩
    have hat188 : cl188.slots[((8 : Int32)).toNatClampNeg]? = some (.int (144 : Int32)) := Has.at Hh188 hin188 rfl
    have K189 : ∀ t, own_S p e below T186 (mkF m 234 #[.val (.int p0), .val (.ref b2), .val (.ref b64), .val (.int (8 : Int32)), .val (.ref oSUBACK), .val (.int (144 : Int32))] [(.int (144 : Int32))]) t → Steps p.tables e below SE t := by
      intro t k
      refine K187 _ ?_
      refine X186.iaload hx (j := (8 : Int32)) (v := (.int (144 : Int32))) (by rw [e186]; exact Ar188.1) (State.isArrayOf_alike hZ.alike Ar188.2.1) Ar188.2.2 hin188 hat188 (g := (mkF m 226 #[.val (.int p0), .val (.ref b2), .val (.ref b64), .val (.int (8 : Int32)), .val (.ref oSUBACK), .val (.int (144 : Int32))] [(.int (8 : Int32)), (.ref b64), (.int (144 : Int32))])) rfl rfl (hb hby at_226) _ ?_
      show own_S p e below T186 (mkF m 227 #[.val (.int p0), .val (.ref b2), .val (.ref b64), .val (.int (8 : Int32)), .val (.ref oSUBACK), .val (.int (144 : Int32))] [(.int (144 : Int32)), (.int (144 : Int32))]) _
      refine XS.icmpYes X186.here hx rfl (pc0 := 227) (pc' := 232) rfl (hb hby at_227) rfl (XT.ii_eq_t (by decide : (144 : Int32) = (144 : Int32))) (by decide) (by decide) ?_
      show own_S p e below T186 (mkF m 232 #[.val (.int p0), .val (.ref b2), .val (.ref b64), .val (.int (8 : Int32)), .val (.ref oSUBACK), .val (.int (144 : Int32))] []) _
      refine XS.iload X186.here hx rfl (hb hby at_232) rfl ?_
      exact k
    obtain ⟨_, _, ⟨T190, L190, k190, n190⟩, -, X190, ⟨Lc190, hQ190, l190, y190, z190⟩, st190⟩ := Jvm.LawKit.callS X186 hx (y := (⟨"com/example/headroom/headroom/io/PacketType", "of", "(I)Lcom/example/headroom/headroom/io/PacketType;"⟩ : MethodName)) hown (mvT hZ (hw _ (List.mem_of_getElem? (i := 45) rfl))) (mvT hZ (hw _ (List.mem_of_getElem? (i := 46) rfl))) (mvT hZ (hw _ (List.mem_of_getElem? (i := 3) rfl))) (mvT hZ (hw _ (List.mem_of_getElem? (i := 47) rfl))) (by decide) (backOf (W := 0) (rm2 l Z a0 hw [] (144 : Int32) oBY kB _ oSUBACK (9 : Int32) (0 : Int32) h109 n0 (Nat.le_trans Z0 Kp109.1) (ST_BY_VALUE.ext (own_ext Kp109)) (VB.ext (own_ext Kp109)) (FL_oSUBACK_flags.ext (own_ext Kp109)) (by decide) ⟨by decide, by decide⟩ rfl (by decide)) hZ (hw _ (List.mem_of_getElem? (i := 47) rfl)) (hw _ (List.mem_of_getElem? (i := 3) rfl)) (by decide) (by decide)) (g := (mkF m 234 #[.val (.int p0), .val (.ref b2), .val (.ref b64), .val (.int (8 : Int32)), .val (.ref oSUBACK), .val (.int (144 : Int32))] [(.int (144 : Int32))])) rfl (by rw [hml]; rfl) (argsL := [(.int (144 : Int32))]) (rest := []) (lenOf pd_0_1 rfl) rfl (by show 2 * 0 + _ ≤ _; exact Nat.le_of_eq rfl) (hb hby at_234) (fun _ _ => ⟨rfl, e186, (by decide : 2 + 0 ≤ _), (by decide : 30 + 0 ≤ _)⟩)
    dsimp only [Pt.U, Pt.locs, Pt.cells, Pt.slots] at X190 l190 y190 z190 st190 hQ190
    rw [y190, z190] at X190
    obtain ⟨rfl, Nq190, e190⟩ := hQ190
    have N190 : Fr n0 L190 := by rw [l190]; exact Fr.app N186 Nq190
    have K190 : ∀ t, own_S p e below T190 (mkF m 237 #[.val (.int p0), .val (.ref b2), .val (.ref b64), .val (.int (8 : Int32)), .val (.ref oSUBACK), .val (.int (144 : Int32))] [(.ref oSUBACK)]) t → Steps p.tables e below SE t := fun t k => K189 _ (st190 _ k)
    have K191 : ∀ t, own_S p e below T190 (mkF m 247 #[.val (.int p0), .val (.ref b2), .val (.ref b64), .val (.int (8 : Int32)), .val (.ref oSUBACK), .val (.int (144 : Int32))] [(.int (1 : Int32))]) t → Steps p.tables e below SE t := by
      intro t k
      refine K190 _ ?_
      refine XS.aload X190.here hx rfl (hb hby at_237) rfl rfl ?_
      show own_S p e below T190 (mkF m 239 #[.val (.int p0), .val (.ref b2), .val (.ref b64), .val (.int (8 : Int32)), .val (.ref oSUBACK), .val (.int (144 : Int32))] [(.ref oSUBACK), (.ref oSUBACK)]) _
      refine Jvm.RoadKit.acmp (g := (mkF m 239 #[.val (.int p0), .val (.ref b2), .val (.ref b64), .val (.int (8 : Int32)), .val (.ref oSUBACK), .val (.int (144 : Int32))] [(.ref oSUBACK), (.ref oSUBACK)])) X190 hx rfl rfl rfl (pc0 := 239) (pc' := 242) (same := true) rfl (hb hby at_239) rfl (decide_eq_true rfl) (by decide) (by decide) ?_
      show own_S p e below T190 (mkF m 242 #[.val (.int p0), .val (.ref b2), .val (.ref b64), .val (.int (8 : Int32)), .val (.ref oSUBACK), .val (.int (144 : Int32))] []) _
      refine XS.iconst X190.here hx rfl (hb hby at_242) ?_
      show own_S p e below T190 (mkF m 243 #[.val (.int p0), .val (.ref b2), .val (.ref b64), .val (.int (8 : Int32)), .val (.ref oSUBACK), .val (.int (144 : Int32))] [(.int (1 : Int32))]) _
      refine XS.goto X190.here hx rfl (pc0 := 243) (pc' := 247) rfl (hb hby at_243) (by decide) (by decide) ?_
      exact k
    obtain ⟨fs, hr, hrun, hended, hW, hsame⟩ := X190.leave (v := some (.int (1 : Int32))) (fun h => by rw [Bd.returns] at h; cases h)
    refine ⟨_, _, K191 _ ?_, hrun, hended, _, _, rfl, ?_, ⟨_, rfl⟩, hW, hsame.mono (by decide) (by decide)⟩
    · exact retN X190 hx (t := .boolean) Bd.returns (by simp) (hb hby at_247) hr
    · show Q0 Z p0 oCONNECT oCONNACK oPUBLISH oPUBACK oPUBREC oPUBREL oPUBCOMP oSUBSCRIBE oSUBACK oUNSUBSCRIBE oUNSUBACK oPINGREQ oPINGRESP oDISCONNECT oAUTH oBY kB h0 n0 _ T190.heap _
      rw [e190]
      exact ⟨rfl, N190⟩
  · skip
    rw [q] at K110
    have K192 : ∀ t, own_S p e below T109 (mkF m 212 #[.val (.int p0), .val (.ref b2), .val (.ref b64), .val (.int (9 : Int32)), .unset, .unset] [(.int (9 : Int32)), (.ref b2)]) t → Steps p.tables e below SE t := by
      intro t k
      refine K110 _ ?_
      refine XS.aloadN X109.here hx rfl (hb hby at_210) rfl rfl ?_
      show own_S p e below T109 (mkF m 211 #[.val (.int p0), .val (.ref b2), .val (.ref b64), .val (.int (9 : Int32)), .unset, .unset] [(.ref b2)]) _
      refine XS.iloadN X109.here hx rfl (hb hby at_211) rfl ?_
      exact k
    obtain ⟨cl193, Ar193, qk193, S193, Ng193, Hh193, Gg193⟩ := id ((((((((((((((((V62.ext E64).other W67 (own_ne_b2_b64)).other W70 (own_ne_b2_b64)).other W73 (own_ne_b2_b64)).other W76 (own_ne_b2_b64)).other W79 (own_ne_b2_b64)).other W82 (own_ne_b2_b64)).other W85 (own_ne_b2_b64)).other W88 (own_ne_b2_b64)).other W91 (own_ne_b2_b64)).other W94 (own_ne_b2_b64)).other W97 (own_ne_b2_b64)).other W100 (own_ne_b2_b64)).other W103 (own_ne_b2_b64)).other W106 (own_ne_b2_b64)).other W109 (own_ne_b2_b64))
    have hin193 : ¬ ((9 : Int32) < 0 ∨ cl193.slots.size ≤ ((9 : Int32)).toNatClampNeg) := inb_of S193 ⟨by decide, by decide⟩
    have hat193 : cl193.slots[((9 : Int32)).toNatClampNeg]? = some (.ref oUNSUBSCRIBE) := Has.at Hh193 hin193 rfl
    have K194 : ∀ t, own_S p e below T109 (mkF m 217 #[.val (.int p0), .val (.ref b2), .val (.ref b64), .val (.int (9 : Int32)), .val (.ref oUNSUBSCRIBE), .unset] [(.ref oUNSUBSCRIBE)]) t → Steps p.tables e below SE t := by
      intro t k
      refine K192 _ ?_
      refine X109.aaload hx (j := (9 : Int32)) (v := (.ref oUNSUBSCRIBE)) (by rw [e109]; exact Ar193.1) (State.isArrayOf_alike hZ.alike Ar193.2.1) rfl Ar193.2.2 hin193 hat193 (g := (mkF m 212 #[.val (.int p0), .val (.ref b2), .val (.ref b64), .val (.int (9 : Int32)), .unset, .unset] [(.int (9 : Int32)), (.ref b2)])) rfl rfl (hb hby at_212) _ ?_
      show own_S p e below T109 (mkF m 213 #[.val (.int p0), .val (.ref b2), .val (.ref b64), .val (.int (9 : Int32)), .unset, .unset] [(.ref oUNSUBSCRIBE)]) _
      refine XS.astore X109.here hx rfl (hb hby at_213) rfl rfl (l' := #[.val (.int p0), .val (.ref b2), .val (.ref b64), .val (.int (9 : Int32)), .val (.ref oUNSUBSCRIBE), .unset]) rfl ?_
      show own_S p e below T109 (mkF m 215 #[.val (.int p0), .val (.ref b2), .val (.ref b64), .val (.int (9 : Int32)), .val (.ref oUNSUBSCRIBE), .unset] []) _
      refine XS.aload X109.here hx rfl (hb hby at_215) rfl rfl ?_
      exact k
    obtain ⟨cq195, kq195, q195a, q195b, q195c⟩ := isOf hZ e109 (EX_oUNSUBSCRIBE.ext (own_ext Kp109))
    obtain ⟨_, _, ⟨T195, L195, k195, n195⟩, -, X195, ⟨Lc195, hQ195, l195, y195, z195⟩, st195⟩ := X109.virtualBack hx (y := (⟨"com/example/headroom/headroom/io/PacketType", "firstByte", "()I"⟩ : MethodName)) (z := (⟨"com/example/headroom/headroom/io/PacketType", "firstByte", "()I"⟩ : MethodName)) hown (mvT hZ (hw _ (List.mem_of_getElem? (i := 36) rfl))) (mvT hZ (hw _ (List.mem_of_getElem? (i := 37) rfl))) (notFace_of_selects (args := #[]) (mvT hZ (hw _ (List.mem_of_getElem? (i := 39) rfl)))) (mvT hZ (hw _ (List.mem_of_getElem? (i := 39) rfl))) (mvT hZ (hw _ (List.mem_of_getElem? (i := 38) rfl))) (by decide) (backOf (W := 0) (rm1 l Z a0 hw [] oUNSUBSCRIBE (10 : Int32) (2 : Int32) h109 n0 (Nat.le_trans Z0 Kp109.1) (FL_oUNSUBSCRIBE_value.ext (own_ext Kp109)) (FL_oUNSUBSCRIBE_flags.ext (own_ext Kp109))) hZ (hw _ (List.mem_of_getElem? (i := 40) rfl)) (hw _ (List.mem_of_getElem? (i := 3) rfl)) (by decide) (by decide)) q195a q195c (g := (mkF m 217 #[.val (.int p0), .val (.ref b2), .val (.ref b64), .val (.int (9 : Int32)), .val (.ref oUNSUBSCRIBE), .unset] [(.ref oUNSUBSCRIBE)])) rfl (by rw [hml]; rfl) (Steps.refl _) (argsL := []) (rest := []) (lenOf pd_0_0 rfl) rfl (by show 2 * 0 + _ ≤ _; exact Nat.le_of_eq rfl) (hb hby at_217) (fun _ _ => ⟨rfl, e109, (by decide : 2 + 0 ≤ _), (by decide : 30 + 0 ≤ _)⟩)
    dsimp only [Pt.U, Pt.locs, Pt.cells, Pt.slots] at X195 l195 y195 z195 st195 hQ195
    rw [y195, z195] at X195
    obtain ⟨rfl, Nq195, e195⟩ := hQ195
    have N195 : Fr n0 L195 := by rw [l195]; exact Fr.app N109 Nq195
    have K195 : ∀ t, own_S p e below T195 (mkF m 220 #[.val (.int p0), .val (.ref b2), .val (.ref b64), .val (.int (9 : Int32)), .val (.ref oUNSUBSCRIBE), .unset] [(.int (if (2 : Int32) = (-1 : Int32) then (((10 : Int32) <<< ((4 : Int32) &&& 31)) ||| (0 : Int32)) else (((10 : Int32) <<< ((4 : Int32) &&& 31)) ||| (2 : Int32))))]) t → Steps p.tables e below SE t := fun t k => K194 _ (st195.trans k)
    rw [(by decide : (if (2 : Int32) = (-1 : Int32) then (((10 : Int32) <<< ((4 : Int32) &&& 31)) ||| (0 : Int32)) else (((10 : Int32) <<< ((4 : Int32) &&& 31)) ||| (2 : Int32))) = (162 : Int32))] at K195
    have K196 : ∀ t, own_S p e below T195 (mkF m 226 #[.val (.int p0), .val (.ref b2), .val (.ref b64), .val (.int (9 : Int32)), .val (.ref oUNSUBSCRIBE), .val (.int (162 : Int32))] [(.int (9 : Int32)), (.ref b64), (.int (162 : Int32))]) t → Steps p.tables e below SE t := by
      intro t k
      refine K195 _ ?_
      refine XS.istore X195.here hx rfl (hb hby at_220) rfl (l' := #[.val (.int p0), .val (.ref b2), .val (.ref b64), .val (.int (9 : Int32)), .val (.ref oUNSUBSCRIBE), .val (.int (162 : Int32))]) rfl ?_
      show own_S p e below T195 (mkF m 222 #[.val (.int p0), .val (.ref b2), .val (.ref b64), .val (.int (9 : Int32)), .val (.ref oUNSUBSCRIBE), .val (.int (162 : Int32))] []) _
      refine XS.iload X195.here hx rfl (hb hby at_222) rfl ?_
      show own_S p e below T195 (mkF m 224 #[.val (.int p0), .val (.ref b2), .val (.ref b64), .val (.int (9 : Int32)), .val (.ref oUNSUBSCRIBE), .val (.int (162 : Int32))] [(.int (162 : Int32))]) _
      refine XS.aloadN X195.here hx rfl (hb hby at_224) rfl rfl ?_
      show own_S p e below T195 (mkF m 225 #[.val (.int p0), .val (.ref b2), .val (.ref b64), .val (.int (9 : Int32)), .val (.ref oUNSUBSCRIBE), .val (.int (162 : Int32))] [(.ref b64), (.int (162 : Int32))]) _
      refine XS.iloadN X195.here hx rfl (hb hby at_225) rfl ?_
      exact k
    obtain ⟨cl197, Ar197, qk197, S197, Ng197, Hh197, Gg197⟩ := id V109
    have hin197 : ¬ ((9 : Int32) < 0 ∨ cl197.slots.size ≤ ((9 : Int32)).toNatClampNeg) := inb_of S197 ⟨by decide, by decide⟩
    have hat197 : cl197.slots[((9 : Int32)).toNatClampNeg]? = some (.int (162 : Int32)) := Has.at Hh197 hin197 rfl
    have K198 : ∀ t, own_S p e below T195 (mkF m 234 #[.val (.int p0), .val (.ref b2), .val (.ref b64), .val (.int (9 : Int32)), .val (.ref oUNSUBSCRIBE), .val (.int (162 : Int32))] [(.int (162 : Int32))]) t → Steps p.tables e below SE t := by
      intro t k
      refine K196 _ ?_
      refine X195.iaload hx (j := (9 : Int32)) (v := (.int (162 : Int32))) (by rw [e195]; exact Ar197.1) (State.isArrayOf_alike hZ.alike Ar197.2.1) Ar197.2.2 hin197 hat197 (g := (mkF m 226 #[.val (.int p0), .val (.ref b2), .val (.ref b64), .val (.int (9 : Int32)), .val (.ref oUNSUBSCRIBE), .val (.int (162 : Int32))] [(.int (9 : Int32)), (.ref b64), (.int (162 : Int32))])) rfl rfl (hb hby at_226) _ ?_
      show own_S p e below T195 (mkF m 227 #[.val (.int p0), .val (.ref b2), .val (.ref b64), .val (.int (9 : Int32)), .val (.ref oUNSUBSCRIBE), .val (.int (162 : Int32))] [(.int (162 : Int32)), (.int (162 : Int32))]) _
      refine XS.icmpYes X195.here hx rfl (pc0 := 227) (pc' := 232) rfl (hb hby at_227) rfl (XT.ii_eq_t (by decide : (162 : Int32) = (162 : Int32))) (by decide) (by decide) ?_
      show own_S p e below T195 (mkF m 232 #[.val (.int p0), .val (.ref b2), .val (.ref b64), .val (.int (9 : Int32)), .val (.ref oUNSUBSCRIBE), .val (.int (162 : Int32))] []) _
      refine XS.iload X195.here hx rfl (hb hby at_232) rfl ?_
      exact k
    obtain ⟨_, _, ⟨T199, L199, k199, n199⟩, -, X199, ⟨Lc199, hQ199, l199, y199, z199⟩, st199⟩ := Jvm.LawKit.callS X195 hx (y := (⟨"com/example/headroom/headroom/io/PacketType", "of", "(I)Lcom/example/headroom/headroom/io/PacketType;"⟩ : MethodName)) hown (mvT hZ (hw _ (List.mem_of_getElem? (i := 45) rfl))) (mvT hZ (hw _ (List.mem_of_getElem? (i := 46) rfl))) (mvT hZ (hw _ (List.mem_of_getElem? (i := 3) rfl))) (mvT hZ (hw _ (List.mem_of_getElem? (i := 47) rfl))) (by decide) (backOf (W := 0) (rm2 l Z a0 hw [] (162 : Int32) oBY kB _ oUNSUBSCRIBE (10 : Int32) (2 : Int32) h109 n0 (Nat.le_trans Z0 Kp109.1) (ST_BY_VALUE.ext (own_ext Kp109)) (VB.ext (own_ext Kp109)) (FL_oUNSUBSCRIBE_flags.ext (own_ext Kp109)) (by decide) ⟨by decide, by decide⟩ rfl (by decide)) hZ (hw _ (List.mem_of_getElem? (i := 47) rfl)) (hw _ (List.mem_of_getElem? (i := 3) rfl)) (by decide) (by decide)) (g := (mkF m 234 #[.val (.int p0), .val (.ref b2), .val (.ref b64), .val (.int (9 : Int32)), .val (.ref oUNSUBSCRIBE), .val (.int (162 : Int32))] [(.int (162 : Int32))])) rfl (by rw [hml]; rfl) (argsL := [(.int (162 : Int32))]) (rest := []) (lenOf pd_0_1 rfl) rfl (by show 2 * 0 + _ ≤ _; exact Nat.le_of_eq rfl) (hb hby at_234) (fun _ _ => ⟨rfl, e195, (by decide : 2 + 0 ≤ _), (by decide : 30 + 0 ≤ _)⟩)
    dsimp only [Pt.U, Pt.locs, Pt.cells, Pt.slots] at X199 l199 y199 z199 st199 hQ199
    rw [y199, z199] at X199
    obtain ⟨rfl, Nq199, e199⟩ := hQ199
    have N199 : Fr n0 L199 := by rw [l199]; exact Fr.app N195 Nq199
    have K199 : ∀ t, own_S p e below T199 (mkF m 237 #[.val (.int p0), .val (.ref b2), .val (.ref b64), .val (.int (9 : Int32)), .val (.ref oUNSUBSCRIBE), .val (.int (162 : Int32))] [(.ref oUNSUBSCRIBE)]) t → Steps p.tables e below SE t := fun t k => K198 _ (st199 _ k)
    have K200 : ∀ t, own_S p e below T199 (mkF m 247 #[.val (.int p0), .val (.ref b2), .val (.ref b64), .val (.int (9 : Int32)), .val (.ref oUNSUBSCRIBE), .val (.int (162 : Int32))] [(.int (1 : Int32))]) t → Steps p.tables e below SE t := by
      intro t k
      refine K199 _ ?_
      refine XS.aload X199.here hx rfl (hb hby at_237) rfl rfl ?_
      show own_S p e below T199 (mkF m 239 #[.val (.int p0), .val (.ref b2), .val (.ref b64), .val (.int (9 : Int32)), .val (.ref oUNSUBSCRIBE), .val (.int (162 : Int32))] [(.ref oUNSUBSCRIBE), (.ref oUNSUBSCRIBE)]) _
      refine Jvm.RoadKit.acmp (g := (mkF m 239 #[.val (.int p0), .val (.ref b2), .val (.ref b64), .val (.int (9 : Int32)), .val (.ref oUNSUBSCRIBE), .val (.int (162 : Int32))] [(.ref oUNSUBSCRIBE), (.ref oUNSUBSCRIBE)])) X199 hx rfl rfl rfl (pc0 := 239) (pc' := 242) (same := true) rfl (hb hby at_239) rfl (decide_eq_true rfl) (by decide) (by decide) ?_
      show own_S p e below T199 (mkF m 242 #[.val (.int p0), .val (.ref b2), .val (.ref b64), .val (.int (9 : Int32)), .val (.ref oUNSUBSCRIBE), .val (.int (162 : Int32))] []) _
      refine XS.iconst X199.here hx rfl (hb hby at_242) ?_
      show own_S p e below T199 (mkF m 243 #[.val (.int p0), .val (.ref b2), .val (.ref b64), .val (.int (9 : Int32)), .val (.ref oUNSUBSCRIBE), .val (.int (162 : Int32))] [(.int (1 : Int32))]) _
      refine XS.goto X199.here hx rfl (pc0 := 243) (pc' := 247) rfl (hb hby at_243) (by decide) (by decide) ?_
      exact k
    obtain ⟨fs, hr, hrun, hended, hW, hsame⟩ := X199.leave (v := some (.int (1 : Int32))) (fun h => by rw [Bd.returns] at h; cases h)
    refine ⟨_, _, K200 _ ?_, hrun, hended, _, _, rfl, ?_, ⟨_, rfl⟩, hW, hsame.mono (by decide) (by decide)⟩
    · exact retN X199 hx (t := .boolean) Bd.returns (by simp) (hb hby at_247) hr
    · show Q0 Z p0 oCONNECT oCONNACK oPUBLISH oPUBACK oPUBREC oPUBREL oPUBCOMP oSUBSCRIBE oSUBACK oUNSUBSCRIBE oUNSUBACK oPINGREQ oPINGRESP oDISCONNECT oAUTH oBY kB h0 n0 _ T199.heap _
      rw [e199]
      exact ⟨rfl, N199⟩
  · skip
    rw [q] at K110
    have K201 : ∀ t, own_S p e below T109 (mkF m 212 #[.val (.int p0), .val (.ref b2), .val (.ref b64), .val (.int (10 : Int32)), .unset, .unset] [(.int (10 : Int32)), (.ref b2)]) t → Steps p.tables e below SE t := by
      intro t k
      refine K110 _ ?_
      refine XS.aloadN X109.here hx rfl (hb hby at_210) rfl rfl ?_
      show own_S p e below T109 (mkF m 211 #[.val (.int p0), .val (.ref b2), .val (.ref b64), .val (.int (10 : Int32)), .unset, .unset] [(.ref b2)]) _
      refine XS.iloadN X109.here hx rfl (hb hby at_211) rfl ?_
      exact k
    obtain ⟨cl202, Ar202, qk202, S202, Ng202, Hh202, Gg202⟩ := id ((((((((((((((((V62.ext E64).other W67 (own_ne_b2_b64)).other W70 (own_ne_b2_b64)).other W73 (own_ne_b2_b64)).other W76 (own_ne_b2_b64)).other W79 (own_ne_b2_b64)).other W82 (own_ne_b2_b64)).other W85 (own_ne_b2_b64)).other W88 (own_ne_b2_b64)).other W91 (own_ne_b2_b64)).other W94 (own_ne_b2_b64)).other W97 (own_ne_b2_b64)).other W100 (own_ne_b2_b64)).other W103 (own_ne_b2_b64)).other W106 (own_ne_b2_b64)).other W109 (own_ne_b2_b64))
    have hin202 : ¬ ((10 : Int32) < 0 ∨ cl202.slots.size ≤ ((10 : Int32)).toNatClampNeg) := inb_of S202 ⟨by decide, by decide⟩
    have hat202 : cl202.slots[((10 : Int32)).toNatClampNeg]? = some (.ref oUNSUBACK) := Has.at Hh202 hin202 rfl
    have K203 : ∀ t, own_S p e below T109 (mkF m 217 #[.val (.int p0), .val (.ref b2), .val (.ref b64), .val (.int (10 : Int32)), .val (.ref oUNSUBACK), .unset] [(.ref oUNSUBACK)]) t → Steps p.tables e below SE t := by
      intro t k
      refine K201 _ ?_
      refine X109.aaload hx (j := (10 : Int32)) (v := (.ref oUNSUBACK)) (by rw [e109]; exact Ar202.1) (State.isArrayOf_alike hZ.alike Ar202.2.1) rfl Ar202.2.2 hin202 hat202 (g := (mkF m 212 #[.val (.int p0), .val (.ref b2), .val (.ref b64), .val (.int (10 : Int32)), .unset, .unset] [(.int (10 : Int32)), (.ref b2)])) rfl rfl (hb hby at_212) _ ?_
      show own_S p e below T109 (mkF m 213 #[.val (.int p0), .val (.ref b2), .val (.ref b64), .val (.int (10 : Int32)), .unset, .unset] [(.ref oUNSUBACK)]) _
      refine XS.astore X109.here hx rfl (hb hby at_213) rfl rfl (l' := #[.val (.int p0), .val (.ref b2), .val (.ref b64), .val (.int (10 : Int32)), .val (.ref oUNSUBACK), .unset]) rfl ?_
      show own_S p e below T109 (mkF m 215 #[.val (.int p0), .val (.ref b2), .val (.ref b64), .val (.int (10 : Int32)), .val (.ref oUNSUBACK), .unset] []) _
      refine XS.aload X109.here hx rfl (hb hby at_215) rfl rfl ?_
      exact k
    obtain ⟨cq204, kq204, q204a, q204b, q204c⟩ := isOf hZ e109 (EX_oUNSUBACK.ext (own_ext Kp109))
    obtain ⟨_, _, ⟨T204, L204, k204, n204⟩, -, X204, ⟨Lc204, hQ204, l204, y204, z204⟩, st204⟩ := X109.virtualBack hx (y := (⟨"com/example/headroom/headroom/io/PacketType", "firstByte", "()I"⟩ : MethodName)) (z := (⟨"com/example/headroom/headroom/io/PacketType", "firstByte", "()I"⟩ : MethodName)) hown (mvT hZ (hw _ (List.mem_of_getElem? (i := 36) rfl))) (mvT hZ (hw _ (List.mem_of_getElem? (i := 37) rfl))) (notFace_of_selects (args := #[]) (mvT hZ (hw _ (List.mem_of_getElem? (i := 39) rfl)))) (mvT hZ (hw _ (List.mem_of_getElem? (i := 39) rfl))) (mvT hZ (hw _ (List.mem_of_getElem? (i := 38) rfl))) (by decide) (backOf (W := 0) (rm1 l Z a0 hw [] oUNSUBACK (11 : Int32) (0 : Int32) h109 n0 (Nat.le_trans Z0 Kp109.1) (FL_oUNSUBACK_value.ext (own_ext Kp109)) (FL_oUNSUBACK_flags.ext (own_ext Kp109))) hZ (hw _ (List.mem_of_getElem? (i := 40) rfl)) (hw _ (List.mem_of_getElem? (i := 3) rfl)) (by decide) (by decide)) q204a q204c (g := (mkF m 217 #[.val (.int p0), .val (.ref b2), .val (.ref b64), .val (.int (10 : Int32)), .val (.ref oUNSUBACK), .unset] [(.ref oUNSUBACK)])) rfl (by rw [hml]; rfl) (Steps.refl _) (argsL := []) (rest := []) (lenOf pd_0_0 rfl) rfl (by show 2 * 0 + _ ≤ _; exact Nat.le_of_eq rfl) (hb hby at_217) (fun _ _ => ⟨rfl, e109, (by decide : 2 + 0 ≤ _), (by decide : 30 + 0 ≤ _)⟩)
    dsimp only [Pt.U, Pt.locs, Pt.cells, Pt.slots] at X204 l204 y204 z204 st204 hQ204
    rw [y204, z204] at X204
    obtain ⟨rfl, Nq204, e204⟩ := hQ204
    have N204 : Fr n0 L204 := by rw [l204]; exact Fr.app N109 Nq204
    have K204 : ∀ t, own_S p e below T204 (mkF m 220 #[.val (.int p0), .val (.ref b2), .val (.ref b64), .val (.int (10 : Int32)), .val (.ref oUNSUBACK), .unset] [(.int (if (0 : Int32) = (-1 : Int32) then (((11 : Int32) <<< ((4 : Int32) &&& 31)) ||| (0 : Int32)) else (((11 : Int32) <<< ((4 : Int32) &&& 31)) ||| (0 : Int32))))]) t → Steps p.tables e below SE t := fun t k => K203 _ (st204.trans k)
    rw [(by decide : (if (0 : Int32) = (-1 : Int32) then (((11 : Int32) <<< ((4 : Int32) &&& 31)) ||| (0 : Int32)) else (((11 : Int32) <<< ((4 : Int32) &&& 31)) ||| (0 : Int32))) = (176 : Int32))] at K204
    have K205 : ∀ t, own_S p e below T204 (mkF m 226 #[.val (.int p0), .val (.ref b2), .val (.ref b64), .val (.int (10 : Int32)), .val (.ref oUNSUBACK), .val (.int (176 : Int32))] [(.int (10 : Int32)), (.ref b64), (.int (176 : Int32))]) t → Steps p.tables e below SE t := by
      intro t k
      refine K204 _ ?_
      refine XS.istore X204.here hx rfl (hb hby at_220) rfl (l' := #[.val (.int p0), .val (.ref b2), .val (.ref b64), .val (.int (10 : Int32)), .val (.ref oUNSUBACK), .val (.int (176 : Int32))]) rfl ?_
      show own_S p e below T204 (mkF m 222 #[.val (.int p0), .val (.ref b2), .val (.ref b64), .val (.int (10 : Int32)), .val (.ref oUNSUBACK), .val (.int (176 : Int32))] []) _
      refine XS.iload X204.here hx rfl (hb hby at_222) rfl ?_
      show own_S p e below T204 (mkF m 224 #[.val (.int p0), .val (.ref b2), .val (.ref b64), .val (.int (10 : Int32)), .val (.ref oUNSUBACK), .val (.int (176 : Int32))] [(.int (176 : Int32))]) _
      refine XS.aloadN X204.here hx rfl (hb hby at_224) rfl rfl ?_
      show own_S p e below T204 (mkF m 225 #[.val (.int p0), .val (.ref b2), .val (.ref b64), .val (.int (10 : Int32)), .val (.ref oUNSUBACK), .val (.int (176 : Int32))] [(.ref b64), (.int (176 : Int32))]) _
      refine XS.iloadN X204.here hx rfl (hb hby at_225) rfl ?_
      exact k
    obtain ⟨cl206, Ar206, qk206, S206, Ng206, Hh206, Gg206⟩ := id V109
    have hin206 : ¬ ((10 : Int32) < 0 ∨ cl206.slots.size ≤ ((10 : Int32)).toNatClampNeg) := inb_of S206 ⟨by decide, by decide⟩
    have hat206 : cl206.slots[((10 : Int32)).toNatClampNeg]? = some (.int (176 : Int32)) := Has.at Hh206 hin206 rfl
    have K207 : ∀ t, own_S p e below T204 (mkF m 234 #[.val (.int p0), .val (.ref b2), .val (.ref b64), .val (.int (10 : Int32)), .val (.ref oUNSUBACK), .val (.int (176 : Int32))] [(.int (176 : Int32))]) t → Steps p.tables e below SE t := by
      intro t k
      refine K205 _ ?_
      refine X204.iaload hx (j := (10 : Int32)) (v := (.int (176 : Int32))) (by rw [e204]; exact Ar206.1) (State.isArrayOf_alike hZ.alike Ar206.2.1) Ar206.2.2 hin206 hat206 (g := (mkF m 226 #[.val (.int p0), .val (.ref b2), .val (.ref b64), .val (.int (10 : Int32)), .val (.ref oUNSUBACK), .val (.int (176 : Int32))] [(.int (10 : Int32)), (.ref b64), (.int (176 : Int32))])) rfl rfl (hb hby at_226) _ ?_
      show own_S p e below T204 (mkF m 227 #[.val (.int p0), .val (.ref b2), .val (.ref b64), .val (.int (10 : Int32)), .val (.ref oUNSUBACK), .val (.int (176 : Int32))] [(.int (176 : Int32)), (.int (176 : Int32))]) _
      refine XS.icmpYes X204.here hx rfl (pc0 := 227) (pc' := 232) rfl (hb hby at_227) rfl (XT.ii_eq_t (by decide : (176 : Int32) = (176 : Int32))) (by decide) (by decide) ?_
      show own_S p e below T204 (mkF m 232 #[.val (.int p0), .val (.ref b2), .val (.ref b64), .val (.int (10 : Int32)), .val (.ref oUNSUBACK), .val (.int (176 : Int32))] []) _
      refine XS.iload X204.here hx rfl (hb hby at_232) rfl ?_
      exact k
    obtain ⟨_, _, ⟨T208, L208, k208, n208⟩, -, X208, ⟨Lc208, hQ208, l208, y208, z208⟩, st208⟩ := Jvm.LawKit.callS X204 hx (y := (⟨"com/example/headroom/headroom/io/PacketType", "of", "(I)Lcom/example/headroom/headroom/io/PacketType;"⟩ : MethodName)) hown (mvT hZ (hw _ (List.mem_of_getElem? (i := 45) rfl))) (mvT hZ (hw _ (List.mem_of_getElem? (i := 46) rfl))) (mvT hZ (hw _ (List.mem_of_getElem? (i := 3) rfl))) (mvT hZ (hw _ (List.mem_of_getElem? (i := 47) rfl))) (by decide) (backOf (W := 0) (rm2 l Z a0 hw [] (176 : Int32) oBY kB _ oUNSUBACK (11 : Int32) (0 : Int32) h109 n0 (Nat.le_trans Z0 Kp109.1) (ST_BY_VALUE.ext (own_ext Kp109)) (VB.ext (own_ext Kp109)) (FL_oUNSUBACK_flags.ext (own_ext Kp109)) (by decide) ⟨by decide, by decide⟩ rfl (by decide)) hZ (hw _ (List.mem_of_getElem? (i := 47) rfl)) (hw _ (List.mem_of_getElem? (i := 3) rfl)) (by decide) (by decide)) (g := (mkF m 234 #[.val (.int p0), .val (.ref b2), .val (.ref b64), .val (.int (10 : Int32)), .val (.ref oUNSUBACK), .val (.int (176 : Int32))] [(.int (176 : Int32))])) rfl (by rw [hml]; rfl) (argsL := [(.int (176 : Int32))]) (rest := []) (lenOf pd_0_1 rfl) rfl (by show 2 * 0 + _ ≤ _; exact Nat.le_of_eq rfl) (hb hby at_234) (fun _ _ => ⟨rfl, e204, (by decide : 2 + 0 ≤ _), (by decide : 30 + 0 ≤ _)⟩)
    dsimp only [Pt.U, Pt.locs, Pt.cells, Pt.slots] at X208 l208 y208 z208 st208 hQ208
    rw [y208, z208] at X208
    obtain ⟨rfl, Nq208, e208⟩ := hQ208
    have N208 : Fr n0 L208 := by rw [l208]; exact Fr.app N204 Nq208
    have K208 : ∀ t, own_S p e below T208 (mkF m 237 #[.val (.int p0), .val (.ref b2), .val (.ref b64), .val (.int (10 : Int32)), .val (.ref oUNSUBACK), .val (.int (176 : Int32))] [(.ref oUNSUBACK)]) t → Steps p.tables e below SE t := fun t k => K207 _ (st208 _ k)
    have K209 : ∀ t, own_S p e below T208 (mkF m 247 #[.val (.int p0), .val (.ref b2), .val (.ref b64), .val (.int (10 : Int32)), .val (.ref oUNSUBACK), .val (.int (176 : Int32))] [(.int (1 : Int32))]) t → Steps p.tables e below SE t := by
      intro t k
      refine K208 _ ?_
      refine XS.aload X208.here hx rfl (hb hby at_237) rfl rfl ?_
      show own_S p e below T208 (mkF m 239 #[.val (.int p0), .val (.ref b2), .val (.ref b64), .val (.int (10 : Int32)), .val (.ref oUNSUBACK), .val (.int (176 : Int32))] [(.ref oUNSUBACK), (.ref oUNSUBACK)]) _
      refine Jvm.RoadKit.acmp (g := (mkF m 239 #[.val (.int p0), .val (.ref b2), .val (.ref b64), .val (.int (10 : Int32)), .val (.ref oUNSUBACK), .val (.int (176 : Int32))] [(.ref oUNSUBACK), (.ref oUNSUBACK)])) X208 hx rfl rfl rfl (pc0 := 239) (pc' := 242) (same := true) rfl (hb hby at_239) rfl (decide_eq_true rfl) (by decide) (by decide) ?_
      show own_S p e below T208 (mkF m 242 #[.val (.int p0), .val (.ref b2), .val (.ref b64), .val (.int (10 : Int32)), .val (.ref oUNSUBACK), .val (.int (176 : Int32))] []) _
      refine XS.iconst X208.here hx rfl (hb hby at_242) ?_
      show own_S p e below T208 (mkF m 243 #[.val (.int p0), .val (.ref b2), .val (.ref b64), .val (.int (10 : Int32)), .val (.ref oUNSUBACK), .val (.int (176 : Int32))] [(.int (1 : Int32))]) _
      refine XS.goto X208.here hx rfl (pc0 := 243) (pc' := 247) rfl (hb hby at_243) (by decide) (by decide) ?_
      exact k
    obtain ⟨fs, hr, hrun, hended, hW, hsame⟩ := X208.leave (v := some (.int (1 : Int32))) (fun h => by rw [Bd.returns] at h; cases h)
    refine ⟨_, _, K209 _ ?_, hrun, hended, _, _, rfl, ?_, ⟨_, rfl⟩, hW, hsame.mono (by decide) (by decide)⟩
    · exact retN X208 hx (t := .boolean) Bd.returns (by simp) (hb hby at_247) hr
    · show Q0 Z p0 oCONNECT oCONNACK oPUBLISH oPUBACK oPUBREC oPUBREL oPUBCOMP oSUBSCRIBE oSUBACK oUNSUBSCRIBE oUNSUBACK oPINGREQ oPINGRESP oDISCONNECT oAUTH oBY kB h0 n0 _ T208.heap _
      rw [e208]
      exact ⟨rfl, N208⟩
  · skip
    rw [q] at K110
    have K210 : ∀ t, own_S p e below T109 (mkF m 212 #[.val (.int p0), .val (.ref b2), .val (.ref b64), .val (.int (11 : Int32)), .unset, .unset] [(.int (11 : Int32)), (.ref b2)]) t → Steps p.tables e below SE t := by
      intro t k
      refine K110 _ ?_
      refine XS.aloadN X109.here hx rfl (hb hby at_210) rfl rfl ?_
      show own_S p e below T109 (mkF m 211 #[.val (.int p0), .val (.ref b2), .val (.ref b64), .val (.int (11 : Int32)), .unset, .unset] [(.ref b2)]) _
      refine XS.iloadN X109.here hx rfl (hb hby at_211) rfl ?_
      exact k
    obtain ⟨cl211, Ar211, qk211, S211, Ng211, Hh211, Gg211⟩ := id ((((((((((((((((V62.ext E64).other W67 (own_ne_b2_b64)).other W70 (own_ne_b2_b64)).other W73 (own_ne_b2_b64)).other W76 (own_ne_b2_b64)).other W79 (own_ne_b2_b64)).other W82 (own_ne_b2_b64)).other W85 (own_ne_b2_b64)).other W88 (own_ne_b2_b64)).other W91 (own_ne_b2_b64)).other W94 (own_ne_b2_b64)).other W97 (own_ne_b2_b64)).other W100 (own_ne_b2_b64)).other W103 (own_ne_b2_b64)).other W106 (own_ne_b2_b64)).other W109 (own_ne_b2_b64))
    have hin211 : ¬ ((11 : Int32) < 0 ∨ cl211.slots.size ≤ ((11 : Int32)).toNatClampNeg) := inb_of S211 ⟨by decide, by decide⟩
    have hat211 : cl211.slots[((11 : Int32)).toNatClampNeg]? = some (.ref oPINGREQ) := Has.at Hh211 hin211 rfl
    have K212 : ∀ t, own_S p e below T109 (mkF m 217 #[.val (.int p0), .val (.ref b2), .val (.ref b64), .val (.int (11 : Int32)), .val (.ref oPINGREQ), .unset] [(.ref oPINGREQ)]) t → Steps p.tables e below SE t := by
      intro t k
      refine K210 _ ?_
      refine X109.aaload hx (j := (11 : Int32)) (v := (.ref oPINGREQ)) (by rw [e109]; exact Ar211.1) (State.isArrayOf_alike hZ.alike Ar211.2.1) rfl Ar211.2.2 hin211 hat211 (g := (mkF m 212 #[.val (.int p0), .val (.ref b2), .val (.ref b64), .val (.int (11 : Int32)), .unset, .unset] [(.int (11 : Int32)), (.ref b2)])) rfl rfl (hb hby at_212) _ ?_
      show own_S p e below T109 (mkF m 213 #[.val (.int p0), .val (.ref b2), .val (.ref b64), .val (.int (11 : Int32)), .unset, .unset] [(.ref oPINGREQ)]) _
      refine XS.astore X109.here hx rfl (hb hby at_213) rfl rfl (l' := #[.val (.int p0), .val (.ref b2), .val (.ref b64), .val (.int (11 : Int32)), .val (.ref oPINGREQ), .unset]) rfl ?_
      show own_S p e below T109 (mkF m 215 #[.val (.int p0), .val (.ref b2), .val (.ref b64), .val (.int (11 : Int32)), .val (.ref oPINGREQ), .unset] []) _
      refine XS.aload X109.here hx rfl (hb hby at_215) rfl rfl ?_
      exact k
    obtain ⟨cq213, kq213, q213a, q213b, q213c⟩ := isOf hZ e109 (EX_oPINGREQ.ext (own_ext Kp109))
    obtain ⟨_, _, ⟨T213, L213, k213, n213⟩, -, X213, ⟨Lc213, hQ213, l213, y213, z213⟩, st213⟩ := X109.virtualBack hx (y := (⟨"com/example/headroom/headroom/io/PacketType", "firstByte", "()I"⟩ : MethodName)) (z := (⟨"com/example/headroom/headroom/io/PacketType", "firstByte", "()I"⟩ : MethodName)) hown (mvT hZ (hw _ (List.mem_of_getElem? (i := 36) rfl))) (mvT hZ (hw _ (List.mem_of_getElem? (i := 37) rfl))) (notFace_of_selects (args := #[]) (mvT hZ (hw _ (List.mem_of_getElem? (i := 39) rfl)))) (mvT hZ (hw _ (List.mem_of_getElem? (i := 39) rfl))) (mvT hZ (hw _ (List.mem_of_getElem? (i := 38) rfl))) (by decide) (backOf (W := 0) (rm1 l Z a0 hw [] oPINGREQ (12 : Int32) (0 : Int32) h109 n0 (Nat.le_trans Z0 Kp109.1) (FL_oPINGREQ_value.ext (own_ext Kp109)) (FL_oPINGREQ_flags.ext (own_ext Kp109))) hZ (hw _ (List.mem_of_getElem? (i := 40) rfl)) (hw _ (List.mem_of_getElem? (i := 3) rfl)) (by decide) (by decide)) q213a q213c (g := (mkF m 217 #[.val (.int p0), .val (.ref b2), .val (.ref b64), .val (.int (11 : Int32)), .val (.ref oPINGREQ), .unset] [(.ref oPINGREQ)])) rfl (by rw [hml]; rfl) (Steps.refl _) (argsL := []) (rest := []) (lenOf pd_0_0 rfl) rfl (by show 2 * 0 + _ ≤ _; exact Nat.le_of_eq rfl) (hb hby at_217) (fun _ _ => ⟨rfl, e109, (by decide : 2 + 0 ≤ _), (by decide : 30 + 0 ≤ _)⟩)
    dsimp only [Pt.U, Pt.locs, Pt.cells, Pt.slots] at X213 l213 y213 z213 st213 hQ213
    rw [y213, z213] at X213
    obtain ⟨rfl, Nq213, e213⟩ := hQ213
    have N213 : Fr n0 L213 := by rw [l213]; exact Fr.app N109 Nq213
    have K213 : ∀ t, own_S p e below T213 (mkF m 220 #[.val (.int p0), .val (.ref b2), .val (.ref b64), .val (.int (11 : Int32)), .val (.ref oPINGREQ), .unset] [(.int (if (0 : Int32) = (-1 : Int32) then (((12 : Int32) <<< ((4 : Int32) &&& 31)) ||| (0 : Int32)) else (((12 : Int32) <<< ((4 : Int32) &&& 31)) ||| (0 : Int32))))]) t → Steps p.tables e below SE t := fun t k => K212 _ (st213.trans k)
    rw [(by decide : (if (0 : Int32) = (-1 : Int32) then (((12 : Int32) <<< ((4 : Int32) &&& 31)) ||| (0 : Int32)) else (((12 : Int32) <<< ((4 : Int32) &&& 31)) ||| (0 : Int32))) = (192 : Int32))] at K213
    have K214 : ∀ t, own_S p e below T213 (mkF m 226 #[.val (.int p0), .val (.ref b2), .val (.ref b64), .val (.int (11 : Int32)), .val (.ref oPINGREQ), .val (.int (192 : Int32))] [(.int (11 : Int32)), (.ref b64), (.int (192 : Int32))]) t → Steps p.tables e below SE t := by
      intro t k
      refine K213 _ ?_
      refine XS.istore X213.here hx rfl (hb hby at_220) rfl (l' := #[.val (.int p0), .val (.ref b2), .val (.ref b64), .val (.int (11 : Int32)), .val (.ref oPINGREQ), .val (.int (192 : Int32))]) rfl ?_
      show own_S p e below T213 (mkF m 222 #[.val (.int p0), .val (.ref b2), .val (.ref b64), .val (.int (11 : Int32)), .val (.ref oPINGREQ), .val (.int (192 : Int32))] []) _
      refine XS.iload X213.here hx rfl (hb hby at_222) rfl ?_
      show own_S p e below T213 (mkF m 224 #[.val (.int p0), .val (.ref b2), .val (.ref b64), .val (.int (11 : Int32)), .val (.ref oPINGREQ), .val (.int (192 : Int32))] [(.int (192 : Int32))]) _
      refine XS.aloadN X213.here hx rfl (hb hby at_224) rfl rfl ?_
      show own_S p e below T213 (mkF m 225 #[.val (.int p0), .val (.ref b2), .val (.ref b64), .val (.int (11 : Int32)), .val (.ref oPINGREQ), .val (.int (192 : Int32))] [(.ref b64), (.int (192 : Int32))]) _
      refine XS.iloadN X213.here hx rfl (hb hby at_225) rfl ?_
      exact k
    obtain ⟨cl215, Ar215, qk215, S215, Ng215, Hh215, Gg215⟩ := id V109
    have hin215 : ¬ ((11 : Int32) < 0 ∨ cl215.slots.size ≤ ((11 : Int32)).toNatClampNeg) := inb_of S215 ⟨by decide, by decide⟩
    have hat215 : cl215.slots[((11 : Int32)).toNatClampNeg]? = some (.int (192 : Int32)) := Has.at Hh215 hin215 rfl
    have K216 : ∀ t, own_S p e below T213 (mkF m 234 #[.val (.int p0), .val (.ref b2), .val (.ref b64), .val (.int (11 : Int32)), .val (.ref oPINGREQ), .val (.int (192 : Int32))] [(.int (192 : Int32))]) t → Steps p.tables e below SE t := by
      intro t k
      refine K214 _ ?_
      refine X213.iaload hx (j := (11 : Int32)) (v := (.int (192 : Int32))) (by rw [e213]; exact Ar215.1) (State.isArrayOf_alike hZ.alike Ar215.2.1) Ar215.2.2 hin215 hat215 (g := (mkF m 226 #[.val (.int p0), .val (.ref b2), .val (.ref b64), .val (.int (11 : Int32)), .val (.ref oPINGREQ), .val (.int (192 : Int32))] [(.int (11 : Int32)), (.ref b64), (.int (192 : Int32))])) rfl rfl (hb hby at_226) _ ?_
      show own_S p e below T213 (mkF m 227 #[.val (.int p0), .val (.ref b2), .val (.ref b64), .val (.int (11 : Int32)), .val (.ref oPINGREQ), .val (.int (192 : Int32))] [(.int (192 : Int32)), (.int (192 : Int32))]) _
      refine XS.icmpYes X213.here hx rfl (pc0 := 227) (pc' := 232) rfl (hb hby at_227) rfl (XT.ii_eq_t (by decide : (192 : Int32) = (192 : Int32))) (by decide) (by decide) ?_
      show own_S p e below T213 (mkF m 232 #[.val (.int p0), .val (.ref b2), .val (.ref b64), .val (.int (11 : Int32)), .val (.ref oPINGREQ), .val (.int (192 : Int32))] []) _
      refine XS.iload X213.here hx rfl (hb hby at_232) rfl ?_
      exact k
    obtain ⟨_, _, ⟨T217, L217, k217, n217⟩, -, X217, ⟨Lc217, hQ217, l217, y217, z217⟩, st217⟩ := Jvm.LawKit.callS X213 hx (y := (⟨"com/example/headroom/headroom/io/PacketType", "of", "(I)Lcom/example/headroom/headroom/io/PacketType;"⟩ : MethodName)) hown (mvT hZ (hw _ (List.mem_of_getElem? (i := 45) rfl))) (mvT hZ (hw _ (List.mem_of_getElem? (i := 46) rfl))) (mvT hZ (hw _ (List.mem_of_getElem? (i := 3) rfl))) (mvT hZ (hw _ (List.mem_of_getElem? (i := 47) rfl))) (by decide) (backOf (W := 0) (rm2 l Z a0 hw [] (192 : Int32) oBY kB _ oPINGREQ (12 : Int32) (0 : Int32) h109 n0 (Nat.le_trans Z0 Kp109.1) (ST_BY_VALUE.ext (own_ext Kp109)) (VB.ext (own_ext Kp109)) (FL_oPINGREQ_flags.ext (own_ext Kp109)) (by decide) ⟨by decide, by decide⟩ rfl (by decide)) hZ (hw _ (List.mem_of_getElem? (i := 47) rfl)) (hw _ (List.mem_of_getElem? (i := 3) rfl)) (by decide) (by decide)) (g := (mkF m 234 #[.val (.int p0), .val (.ref b2), .val (.ref b64), .val (.int (11 : Int32)), .val (.ref oPINGREQ), .val (.int (192 : Int32))] [(.int (192 : Int32))])) rfl (by rw [hml]; rfl) (argsL := [(.int (192 : Int32))]) (rest := []) (lenOf pd_0_1 rfl) rfl (by show 2 * 0 + _ ≤ _; exact Nat.le_of_eq rfl) (hb hby at_234) (fun _ _ => ⟨rfl, e213, (by decide : 2 + 0 ≤ _), (by decide : 30 + 0 ≤ _)⟩)
    dsimp only [Pt.U, Pt.locs, Pt.cells, Pt.slots] at X217 l217 y217 z217 st217 hQ217
    rw [y217, z217] at X217
    obtain ⟨rfl, Nq217, e217⟩ := hQ217
    have N217 : Fr n0 L217 := by rw [l217]; exact Fr.app N213 Nq217
    have K217 : ∀ t, own_S p e below T217 (mkF m 237 #[.val (.int p0), .val (.ref b2), .val (.ref b64), .val (.int (11 : Int32)), .val (.ref oPINGREQ), .val (.int (192 : Int32))] [(.ref oPINGREQ)]) t → Steps p.tables e below SE t := fun t k => K216 _ (st217 _ k)
    have K218 : ∀ t, own_S p e below T217 (mkF m 247 #[.val (.int p0), .val (.ref b2), .val (.ref b64), .val (.int (11 : Int32)), .val (.ref oPINGREQ), .val (.int (192 : Int32))] [(.int (1 : Int32))]) t → Steps p.tables e below SE t := by
      intro t k
      refine K217 _ ?_
      refine XS.aload X217.here hx rfl (hb hby at_237) rfl rfl ?_
      show own_S p e below T217 (mkF m 239 #[.val (.int p0), .val (.ref b2), .val (.ref b64), .val (.int (11 : Int32)), .val (.ref oPINGREQ), .val (.int (192 : Int32))] [(.ref oPINGREQ), (.ref oPINGREQ)]) _
      refine Jvm.RoadKit.acmp (g := (mkF m 239 #[.val (.int p0), .val (.ref b2), .val (.ref b64), .val (.int (11 : Int32)), .val (.ref oPINGREQ), .val (.int (192 : Int32))] [(.ref oPINGREQ), (.ref oPINGREQ)])) X217 hx rfl rfl rfl (pc0 := 239) (pc' := 242) (same := true) rfl (hb hby at_239) rfl (decide_eq_true rfl) (by decide) (by decide) ?_
      show own_S p e below T217 (mkF m 242 #[.val (.int p0), .val (.ref b2), .val (.ref b64), .val (.int (11 : Int32)), .val (.ref oPINGREQ), .val (.int (192 : Int32))] []) _
      refine XS.iconst X217.here hx rfl (hb hby at_242) ?_
      show own_S p e below T217 (mkF m 243 #[.val (.int p0), .val (.ref b2), .val (.ref b64), .val (.int (11 : Int32)), .val (.ref oPINGREQ), .val (.int (192 : Int32))] [(.int (1 : Int32))]) _
      refine XS.goto X217.here hx rfl (pc0 := 243) (pc' := 247) rfl (hb hby at_243) (by decide) (by decide) ?_
      exact k
    obtain ⟨fs, hr, hrun, hended, hW, hsame⟩ := X217.leave (v := some (.int (1 : Int32))) (fun h => by rw [Bd.returns] at h; cases h)
    refine ⟨_, _, K218 _ ?_, hrun, hended, _, _, rfl, ?_, ⟨_, rfl⟩, hW, hsame.mono (by decide) (by decide)⟩
    · exact retN X217 hx (t := .boolean) Bd.returns (by simp) (hb hby at_247) hr
    · show Q0 Z p0 oCONNECT oCONNACK oPUBLISH oPUBACK oPUBREC oPUBREL oPUBCOMP oSUBSCRIBE oSUBACK oUNSUBSCRIBE oUNSUBACK oPINGREQ oPINGRESP oDISCONNECT oAUTH oBY kB h0 n0 _ T217.heap _
      rw [e217]
      exact ⟨rfl, N217⟩
  · skip
    rw [q] at K110
    have K219 : ∀ t, own_S p e below T109 (mkF m 212 #[.val (.int p0), .val (.ref b2), .val (.ref b64), .val (.int (12 : Int32)), .unset, .unset] [(.int (12 : Int32)), (.ref b2)]) t → Steps p.tables e below SE t := by
      intro t k
      refine K110 _ ?_
      refine XS.aloadN X109.here hx rfl (hb hby at_210) rfl rfl ?_
      show own_S p e below T109 (mkF m 211 #[.val (.int p0), .val (.ref b2), .val (.ref b64), .val (.int (12 : Int32)), .unset, .unset] [(.ref b2)]) _
      refine XS.iloadN X109.here hx rfl (hb hby at_211) rfl ?_
      exact k
    obtain ⟨cl220, Ar220, qk220, S220, Ng220, Hh220, Gg220⟩ := id ((((((((((((((((V62.ext E64).other W67 (own_ne_b2_b64)).other W70 (own_ne_b2_b64)).other W73 (own_ne_b2_b64)).other W76 (own_ne_b2_b64)).other W79 (own_ne_b2_b64)).other W82 (own_ne_b2_b64)).other W85 (own_ne_b2_b64)).other W88 (own_ne_b2_b64)).other W91 (own_ne_b2_b64)).other W94 (own_ne_b2_b64)).other W97 (own_ne_b2_b64)).other W100 (own_ne_b2_b64)).other W103 (own_ne_b2_b64)).other W106 (own_ne_b2_b64)).other W109 (own_ne_b2_b64))
    have hin220 : ¬ ((12 : Int32) < 0 ∨ cl220.slots.size ≤ ((12 : Int32)).toNatClampNeg) := inb_of S220 ⟨by decide, by decide⟩
    have hat220 : cl220.slots[((12 : Int32)).toNatClampNeg]? = some (.ref oPINGRESP) := Has.at Hh220 hin220 rfl
    have K221 : ∀ t, own_S p e below T109 (mkF m 217 #[.val (.int p0), .val (.ref b2), .val (.ref b64), .val (.int (12 : Int32)), .val (.ref oPINGRESP), .unset] [(.ref oPINGRESP)]) t → Steps p.tables e below SE t := by
      intro t k
      refine K219 _ ?_
      refine X109.aaload hx (j := (12 : Int32)) (v := (.ref oPINGRESP)) (by rw [e109]; exact Ar220.1) (State.isArrayOf_alike hZ.alike Ar220.2.1) rfl Ar220.2.2 hin220 hat220 (g := (mkF m 212 #[.val (.int p0), .val (.ref b2), .val (.ref b64), .val (.int (12 : Int32)), .unset, .unset] [(.int (12 : Int32)), (.ref b2)])) rfl rfl (hb hby at_212) _ ?_
      show own_S p e below T109 (mkF m 213 #[.val (.int p0), .val (.ref b2), .val (.ref b64), .val (.int (12 : Int32)), .unset, .unset] [(.ref oPINGRESP)]) _
      refine XS.astore X109.here hx rfl (hb hby at_213) rfl rfl (l' := #[.val (.int p0), .val (.ref b2), .val (.ref b64), .val (.int (12 : Int32)), .val (.ref oPINGRESP), .unset]) rfl ?_
      show own_S p e below T109 (mkF m 215 #[.val (.int p0), .val (.ref b2), .val (.ref b64), .val (.int (12 : Int32)), .val (.ref oPINGRESP), .unset] []) _
      refine XS.aload X109.here hx rfl (hb hby at_215) rfl rfl ?_
      exact k
    obtain ⟨cq222, kq222, q222a, q222b, q222c⟩ := isOf hZ e109 (EX_oPINGRESP.ext (own_ext Kp109))
    obtain ⟨_, _, ⟨T222, L222, k222, n222⟩, -, X222, ⟨Lc222, hQ222, l222, y222, z222⟩, st222⟩ := X109.virtualBack hx (y := (⟨"com/example/headroom/headroom/io/PacketType", "firstByte", "()I"⟩ : MethodName)) (z := (⟨"com/example/headroom/headroom/io/PacketType", "firstByte", "()I"⟩ : MethodName)) hown (mvT hZ (hw _ (List.mem_of_getElem? (i := 36) rfl))) (mvT hZ (hw _ (List.mem_of_getElem? (i := 37) rfl))) (notFace_of_selects (args := #[]) (mvT hZ (hw _ (List.mem_of_getElem? (i := 39) rfl)))) (mvT hZ (hw _ (List.mem_of_getElem? (i := 39) rfl))) (mvT hZ (hw _ (List.mem_of_getElem? (i := 38) rfl))) (by decide) (backOf (W := 0) (rm1 l Z a0 hw [] oPINGRESP (13 : Int32) (0 : Int32) h109 n0 (Nat.le_trans Z0 Kp109.1) (FL_oPINGRESP_value.ext (own_ext Kp109)) (FL_oPINGRESP_flags.ext (own_ext Kp109))) hZ (hw _ (List.mem_of_getElem? (i := 40) rfl)) (hw _ (List.mem_of_getElem? (i := 3) rfl)) (by decide) (by decide)) q222a q222c (g := (mkF m 217 #[.val (.int p0), .val (.ref b2), .val (.ref b64), .val (.int (12 : Int32)), .val (.ref oPINGRESP), .unset] [(.ref oPINGRESP)])) rfl (by rw [hml]; rfl) (Steps.refl _) (argsL := []) (rest := []) (lenOf pd_0_0 rfl) rfl (by show 2 * 0 + _ ≤ _; exact Nat.le_of_eq rfl) (hb hby at_217) (fun _ _ => ⟨rfl, e109, (by decide : 2 + 0 ≤ _), (by decide : 30 + 0 ≤ _)⟩)
    dsimp only [Pt.U, Pt.locs, Pt.cells, Pt.slots] at X222 l222 y222 z222 st222 hQ222
    rw [y222, z222] at X222
    obtain ⟨rfl, Nq222, e222⟩ := hQ222
    have N222 : Fr n0 L222 := by rw [l222]; exact Fr.app N109 Nq222
    have K222 : ∀ t, own_S p e below T222 (mkF m 220 #[.val (.int p0), .val (.ref b2), .val (.ref b64), .val (.int (12 : Int32)), .val (.ref oPINGRESP), .unset] [(.int (if (0 : Int32) = (-1 : Int32) then (((13 : Int32) <<< ((4 : Int32) &&& 31)) ||| (0 : Int32)) else (((13 : Int32) <<< ((4 : Int32) &&& 31)) ||| (0 : Int32))))]) t → Steps p.tables e below SE t := fun t k => K221 _ (st222.trans k)
    rw [(by decide : (if (0 : Int32) = (-1 : Int32) then (((13 : Int32) <<< ((4 : Int32) &&& 31)) ||| (0 : Int32)) else (((13 : Int32) <<< ((4 : Int32) &&& 31)) ||| (0 : Int32))) = (208 : Int32))] at K222
    have K223 : ∀ t, own_S p e below T222 (mkF m 226 #[.val (.int p0), .val (.ref b2), .val (.ref b64), .val (.int (12 : Int32)), .val (.ref oPINGRESP), .val (.int (208 : Int32))] [(.int (12 : Int32)), (.ref b64), (.int (208 : Int32))]) t → Steps p.tables e below SE t := by
      intro t k
      refine K222 _ ?_
      refine XS.istore X222.here hx rfl (hb hby at_220) rfl (l' := #[.val (.int p0), .val (.ref b2), .val (.ref b64), .val (.int (12 : Int32)), .val (.ref oPINGRESP), .val (.int (208 : Int32))]) rfl ?_
      show own_S p e below T222 (mkF m 222 #[.val (.int p0), .val (.ref b2), .val (.ref b64), .val (.int (12 : Int32)), .val (.ref oPINGRESP), .val (.int (208 : Int32))] []) _
      refine XS.iload X222.here hx rfl (hb hby at_222) rfl ?_
      show own_S p e below T222 (mkF m 224 #[.val (.int p0), .val (.ref b2), .val (.ref b64), .val (.int (12 : Int32)), .val (.ref oPINGRESP), .val (.int (208 : Int32))] [(.int (208 : Int32))]) _
      refine XS.aloadN X222.here hx rfl (hb hby at_224) rfl rfl ?_
      show own_S p e below T222 (mkF m 225 #[.val (.int p0), .val (.ref b2), .val (.ref b64), .val (.int (12 : Int32)), .val (.ref oPINGRESP), .val (.int (208 : Int32))] [(.ref b64), (.int (208 : Int32))]) _
      refine XS.iloadN X222.here hx rfl (hb hby at_225) rfl ?_
      exact k
    obtain ⟨cl224, Ar224, qk224, S224, Ng224, Hh224, Gg224⟩ := id V109
    have hin224 : ¬ ((12 : Int32) < 0 ∨ cl224.slots.size ≤ ((12 : Int32)).toNatClampNeg) := inb_of S224 ⟨by decide, by decide⟩
    have hat224 : cl224.slots[((12 : Int32)).toNatClampNeg]? = some (.int (208 : Int32)) := Has.at Hh224 hin224 rfl
    have K225 : ∀ t, own_S p e below T222 (mkF m 234 #[.val (.int p0), .val (.ref b2), .val (.ref b64), .val (.int (12 : Int32)), .val (.ref oPINGRESP), .val (.int (208 : Int32))] [(.int (208 : Int32))]) t → Steps p.tables e below SE t := by
      intro t k
      refine K223 _ ?_
      refine X222.iaload hx (j := (12 : Int32)) (v := (.int (208 : Int32))) (by rw [e222]; exact Ar224.1) (State.isArrayOf_alike hZ.alike Ar224.2.1) Ar224.2.2 hin224 hat224 (g := (mkF m 226 #[.val (.int p0), .val (.ref b2), .val (.ref b64), .val (.int (12 : Int32)), .val (.ref oPINGRESP), .val (.int (208 : Int32))] [(.int (12 : Int32)), (.ref b64), (.int (208 : Int32))])) rfl rfl (hb hby at_226) _ ?_
      show own_S p e below T222 (mkF m 227 #[.val (.int p0), .val (.ref b2), .val (.ref b64), .val (.int (12 : Int32)), .val (.ref oPINGRESP), .val (.int (208 : Int32))] [(.int (208 : Int32)), (.int (208 : Int32))]) _
      refine XS.icmpYes X222.here hx rfl (pc0 := 227) (pc' := 232) rfl (hb hby at_227) rfl (XT.ii_eq_t (by decide : (208 : Int32) = (208 : Int32))) (by decide) (by decide) ?_
      show own_S p e below T222 (mkF m 232 #[.val (.int p0), .val (.ref b2), .val (.ref b64), .val (.int (12 : Int32)), .val (.ref oPINGRESP), .val (.int (208 : Int32))] []) _
      refine XS.iload X222.here hx rfl (hb hby at_232) rfl ?_
      exact k
    obtain ⟨_, _, ⟨T226, L226, k226, n226⟩, -, X226, ⟨Lc226, hQ226, l226, y226, z226⟩, st226⟩ := Jvm.LawKit.callS X222 hx (y := (⟨"com/example/headroom/headroom/io/PacketType", "of", "(I)Lcom/example/headroom/headroom/io/PacketType;"⟩ : MethodName)) hown (mvT hZ (hw _ (List.mem_of_getElem? (i := 45) rfl))) (mvT hZ (hw _ (List.mem_of_getElem? (i := 46) rfl))) (mvT hZ (hw _ (List.mem_of_getElem? (i := 3) rfl))) (mvT hZ (hw _ (List.mem_of_getElem? (i := 47) rfl))) (by decide) (backOf (W := 0) (rm2 l Z a0 hw [] (208 : Int32) oBY kB _ oPINGRESP (13 : Int32) (0 : Int32) h109 n0 (Nat.le_trans Z0 Kp109.1) (ST_BY_VALUE.ext (own_ext Kp109)) (VB.ext (own_ext Kp109)) (FL_oPINGRESP_flags.ext (own_ext Kp109)) (by decide) ⟨by decide, by decide⟩ rfl (by decide)) hZ (hw _ (List.mem_of_getElem? (i := 47) rfl)) (hw _ (List.mem_of_getElem? (i := 3) rfl)) (by decide) (by decide)) (g := (mkF m 234 #[.val (.int p0), .val (.ref b2), .val (.ref b64), .val (.int (12 : Int32)), .val (.ref oPINGRESP), .val (.int (208 : Int32))] [(.int (208 : Int32))])) rfl (by rw [hml]; rfl) (argsL := [(.int (208 : Int32))]) (rest := []) (lenOf pd_0_1 rfl) rfl (by show 2 * 0 + _ ≤ _; exact Nat.le_of_eq rfl) (hb hby at_234) (fun _ _ => ⟨rfl, e222, (by decide : 2 + 0 ≤ _), (by decide : 30 + 0 ≤ _)⟩)
    dsimp only [Pt.U, Pt.locs, Pt.cells, Pt.slots] at X226 l226 y226 z226 st226 hQ226
    rw [y226, z226] at X226
    obtain ⟨rfl, Nq226, e226⟩ := hQ226
    have N226 : Fr n0 L226 := by rw [l226]; exact Fr.app N222 Nq226
    have K226 : ∀ t, own_S p e below T226 (mkF m 237 #[.val (.int p0), .val (.ref b2), .val (.ref b64), .val (.int (12 : Int32)), .val (.ref oPINGRESP), .val (.int (208 : Int32))] [(.ref oPINGRESP)]) t → Steps p.tables e below SE t := fun t k => K225 _ (st226 _ k)
    have K227 : ∀ t, own_S p e below T226 (mkF m 247 #[.val (.int p0), .val (.ref b2), .val (.ref b64), .val (.int (12 : Int32)), .val (.ref oPINGRESP), .val (.int (208 : Int32))] [(.int (1 : Int32))]) t → Steps p.tables e below SE t := by
      intro t k
      refine K226 _ ?_
      refine XS.aload X226.here hx rfl (hb hby at_237) rfl rfl ?_
      show own_S p e below T226 (mkF m 239 #[.val (.int p0), .val (.ref b2), .val (.ref b64), .val (.int (12 : Int32)), .val (.ref oPINGRESP), .val (.int (208 : Int32))] [(.ref oPINGRESP), (.ref oPINGRESP)]) _
      refine Jvm.RoadKit.acmp (g := (mkF m 239 #[.val (.int p0), .val (.ref b2), .val (.ref b64), .val (.int (12 : Int32)), .val (.ref oPINGRESP), .val (.int (208 : Int32))] [(.ref oPINGRESP), (.ref oPINGRESP)])) X226 hx rfl rfl rfl (pc0 := 239) (pc' := 242) (same := true) rfl (hb hby at_239) rfl (decide_eq_true rfl) (by decide) (by decide) ?_
      show own_S p e below T226 (mkF m 242 #[.val (.int p0), .val (.ref b2), .val (.ref b64), .val (.int (12 : Int32)), .val (.ref oPINGRESP), .val (.int (208 : Int32))] []) _
      refine XS.iconst X226.here hx rfl (hb hby at_242) ?_
      show own_S p e below T226 (mkF m 243 #[.val (.int p0), .val (.ref b2), .val (.ref b64), .val (.int (12 : Int32)), .val (.ref oPINGRESP), .val (.int (208 : Int32))] [(.int (1 : Int32))]) _
      refine XS.goto X226.here hx rfl (pc0 := 243) (pc' := 247) rfl (hb hby at_243) (by decide) (by decide) ?_
      exact k
    obtain ⟨fs, hr, hrun, hended, hW, hsame⟩ := X226.leave (v := some (.int (1 : Int32))) (fun h => by rw [Bd.returns] at h; cases h)
    refine ⟨_, _, K227 _ ?_, hrun, hended, _, _, rfl, ?_, ⟨_, rfl⟩, hW, hsame.mono (by decide) (by decide)⟩
    · exact retN X226 hx (t := .boolean) Bd.returns (by simp) (hb hby at_247) hr
    · show Q0 Z p0 oCONNECT oCONNACK oPUBLISH oPUBACK oPUBREC oPUBREL oPUBCOMP oSUBSCRIBE oSUBACK oUNSUBSCRIBE oUNSUBACK oPINGREQ oPINGRESP oDISCONNECT oAUTH oBY kB h0 n0 _ T226.heap _
      rw [e226]
      exact ⟨rfl, N226⟩
  · skip
    rw [q] at K110
    have K228 : ∀ t, own_S p e below T109 (mkF m 212 #[.val (.int p0), .val (.ref b2), .val (.ref b64), .val (.int (13 : Int32)), .unset, .unset] [(.int (13 : Int32)), (.ref b2)]) t → Steps p.tables e below SE t := by
      intro t k
      refine K110 _ ?_
      refine XS.aloadN X109.here hx rfl (hb hby at_210) rfl rfl ?_
      show own_S p e below T109 (mkF m 211 #[.val (.int p0), .val (.ref b2), .val (.ref b64), .val (.int (13 : Int32)), .unset, .unset] [(.ref b2)]) _
      refine XS.iloadN X109.here hx rfl (hb hby at_211) rfl ?_
      exact k
    obtain ⟨cl229, Ar229, qk229, S229, Ng229, Hh229, Gg229⟩ := id ((((((((((((((((V62.ext E64).other W67 (own_ne_b2_b64)).other W70 (own_ne_b2_b64)).other W73 (own_ne_b2_b64)).other W76 (own_ne_b2_b64)).other W79 (own_ne_b2_b64)).other W82 (own_ne_b2_b64)).other W85 (own_ne_b2_b64)).other W88 (own_ne_b2_b64)).other W91 (own_ne_b2_b64)).other W94 (own_ne_b2_b64)).other W97 (own_ne_b2_b64)).other W100 (own_ne_b2_b64)).other W103 (own_ne_b2_b64)).other W106 (own_ne_b2_b64)).other W109 (own_ne_b2_b64))
    have hin229 : ¬ ((13 : Int32) < 0 ∨ cl229.slots.size ≤ ((13 : Int32)).toNatClampNeg) := inb_of S229 ⟨by decide, by decide⟩
    have hat229 : cl229.slots[((13 : Int32)).toNatClampNeg]? = some (.ref oDISCONNECT) := Has.at Hh229 hin229 rfl
    have K230 : ∀ t, own_S p e below T109 (mkF m 217 #[.val (.int p0), .val (.ref b2), .val (.ref b64), .val (.int (13 : Int32)), .val (.ref oDISCONNECT), .unset] [(.ref oDISCONNECT)]) t → Steps p.tables e below SE t := by
      intro t k
      refine K228 _ ?_
      refine X109.aaload hx (j := (13 : Int32)) (v := (.ref oDISCONNECT)) (by rw [e109]; exact Ar229.1) (State.isArrayOf_alike hZ.alike Ar229.2.1) rfl Ar229.2.2 hin229 hat229 (g := (mkF m 212 #[.val (.int p0), .val (.ref b2), .val (.ref b64), .val (.int (13 : Int32)), .unset, .unset] [(.int (13 : Int32)), (.ref b2)])) rfl rfl (hb hby at_212) _ ?_
      show own_S p e below T109 (mkF m 213 #[.val (.int p0), .val (.ref b2), .val (.ref b64), .val (.int (13 : Int32)), .unset, .unset] [(.ref oDISCONNECT)]) _
      refine XS.astore X109.here hx rfl (hb hby at_213) rfl rfl (l' := #[.val (.int p0), .val (.ref b2), .val (.ref b64), .val (.int (13 : Int32)), .val (.ref oDISCONNECT), .unset]) rfl ?_
      show own_S p e below T109 (mkF m 215 #[.val (.int p0), .val (.ref b2), .val (.ref b64), .val (.int (13 : Int32)), .val (.ref oDISCONNECT), .unset] []) _
      refine XS.aload X109.here hx rfl (hb hby at_215) rfl rfl ?_
      exact k
    obtain ⟨cq231, kq231, q231a, q231b, q231c⟩ := isOf hZ e109 (EX_oDISCONNECT.ext (own_ext Kp109))
    obtain ⟨_, _, ⟨T231, L231, k231, n231⟩, -, X231, ⟨Lc231, hQ231, l231, y231, z231⟩, st231⟩ := X109.virtualBack hx (y := (⟨"com/example/headroom/headroom/io/PacketType", "firstByte", "()I"⟩ : MethodName)) (z := (⟨"com/example/headroom/headroom/io/PacketType", "firstByte", "()I"⟩ : MethodName)) hown (mvT hZ (hw _ (List.mem_of_getElem? (i := 36) rfl))) (mvT hZ (hw _ (List.mem_of_getElem? (i := 37) rfl))) (notFace_of_selects (args := #[]) (mvT hZ (hw _ (List.mem_of_getElem? (i := 39) rfl)))) (mvT hZ (hw _ (List.mem_of_getElem? (i := 39) rfl))) (mvT hZ (hw _ (List.mem_of_getElem? (i := 38) rfl))) (by decide) (backOf (W := 0) (rm1 l Z a0 hw [] oDISCONNECT (14 : Int32) (0 : Int32) h109 n0 (Nat.le_trans Z0 Kp109.1) (FL_oDISCONNECT_value.ext (own_ext Kp109)) (FL_oDISCONNECT_flags.ext (own_ext Kp109))) hZ (hw _ (List.mem_of_getElem? (i := 40) rfl)) (hw _ (List.mem_of_getElem? (i := 3) rfl)) (by decide) (by decide)) q231a q231c (g := (mkF m 217 #[.val (.int p0), .val (.ref b2), .val (.ref b64), .val (.int (13 : Int32)), .val (.ref oDISCONNECT), .unset] [(.ref oDISCONNECT)])) rfl (by rw [hml]; rfl) (Steps.refl _) (argsL := []) (rest := []) (lenOf pd_0_0 rfl) rfl (by show 2 * 0 + _ ≤ _; exact Nat.le_of_eq rfl) (hb hby at_217) (fun _ _ => ⟨rfl, e109, (by decide : 2 + 0 ≤ _), (by decide : 30 + 0 ≤ _)⟩)
    dsimp only [Pt.U, Pt.locs, Pt.cells, Pt.slots] at X231 l231 y231 z231 st231 hQ231
    rw [y231, z231] at X231
    obtain ⟨rfl, Nq231, e231⟩ := hQ231
    have N231 : Fr n0 L231 := by rw [l231]; exact Fr.app N109 Nq231
    have K231 : ∀ t, own_S p e below T231 (mkF m 220 #[.val (.int p0), .val (.ref b2), .val (.ref b64), .val (.int (13 : Int32)), .val (.ref oDISCONNECT), .unset] [(.int (if (0 : Int32) = (-1 : Int32) then (((14 : Int32) <<< ((4 : Int32) &&& 31)) ||| (0 : Int32)) else (((14 : Int32) <<< ((4 : Int32) &&& 31)) ||| (0 : Int32))))]) t → Steps p.tables e below SE t := fun t k => K230 _ (st231.trans k)
    rw [(by decide : (if (0 : Int32) = (-1 : Int32) then (((14 : Int32) <<< ((4 : Int32) &&& 31)) ||| (0 : Int32)) else (((14 : Int32) <<< ((4 : Int32) &&& 31)) ||| (0 : Int32))) = (224 : Int32))] at K231
    have K232 : ∀ t, own_S p e below T231 (mkF m 226 #[.val (.int p0), .val (.ref b2), .val (.ref b64), .val (.int (13 : Int32)), .val (.ref oDISCONNECT), .val (.int (224 : Int32))] [(.int (13 : Int32)), (.ref b64), (.int (224 : Int32))]) t → Steps p.tables e below SE t := by
      intro t k
      refine K231 _ ?_
      refine XS.istore X231.here hx rfl (hb hby at_220) rfl (l' := #[.val (.int p0), .val (.ref b2), .val (.ref b64), .val (.int (13 : Int32)), .val (.ref oDISCONNECT), .val (.int (224 : Int32))]) rfl ?_
      show own_S p e below T231 (mkF m 222 #[.val (.int p0), .val (.ref b2), .val (.ref b64), .val (.int (13 : Int32)), .val (.ref oDISCONNECT), .val (.int (224 : Int32))] []) _
      refine XS.iload X231.here hx rfl (hb hby at_222) rfl ?_
      show own_S p e below T231 (mkF m 224 #[.val (.int p0), .val (.ref b2), .val (.ref b64), .val (.int (13 : Int32)), .val (.ref oDISCONNECT), .val (.int (224 : Int32))] [(.int (224 : Int32))]) _
      refine XS.aloadN X231.here hx rfl (hb hby at_224) rfl rfl ?_
      show own_S p e below T231 (mkF m 225 #[.val (.int p0), .val (.ref b2), .val (.ref b64), .val (.int (13 : Int32)), .val (.ref oDISCONNECT), .val (.int (224 : Int32))] [(.ref b64), (.int (224 : Int32))]) _
      refine XS.iloadN X231.here hx rfl (hb hby at_225) rfl ?_
      exact k
    obtain ⟨cl233, Ar233, qk233, S233, Ng233, Hh233, Gg233⟩ := id V109
    have hin233 : ¬ ((13 : Int32) < 0 ∨ cl233.slots.size ≤ ((13 : Int32)).toNatClampNeg) := inb_of S233 ⟨by decide, by decide⟩
    have hat233 : cl233.slots[((13 : Int32)).toNatClampNeg]? = some (.int (224 : Int32)) := Has.at Hh233 hin233 rfl
    have K234 : ∀ t, own_S p e below T231 (mkF m 234 #[.val (.int p0), .val (.ref b2), .val (.ref b64), .val (.int (13 : Int32)), .val (.ref oDISCONNECT), .val (.int (224 : Int32))] [(.int (224 : Int32))]) t → Steps p.tables e below SE t := by
      intro t k
      refine K232 _ ?_
      refine X231.iaload hx (j := (13 : Int32)) (v := (.int (224 : Int32))) (by rw [e231]; exact Ar233.1) (State.isArrayOf_alike hZ.alike Ar233.2.1) Ar233.2.2 hin233 hat233 (g := (mkF m 226 #[.val (.int p0), .val (.ref b2), .val (.ref b64), .val (.int (13 : Int32)), .val (.ref oDISCONNECT), .val (.int (224 : Int32))] [(.int (13 : Int32)), (.ref b64), (.int (224 : Int32))])) rfl rfl (hb hby at_226) _ ?_
      show own_S p e below T231 (mkF m 227 #[.val (.int p0), .val (.ref b2), .val (.ref b64), .val (.int (13 : Int32)), .val (.ref oDISCONNECT), .val (.int (224 : Int32))] [(.int (224 : Int32)), (.int (224 : Int32))]) _
      refine XS.icmpYes X231.here hx rfl (pc0 := 227) (pc' := 232) rfl (hb hby at_227) rfl (XT.ii_eq_t (by decide : (224 : Int32) = (224 : Int32))) (by decide) (by decide) ?_
      show own_S p e below T231 (mkF m 232 #[.val (.int p0), .val (.ref b2), .val (.ref b64), .val (.int (13 : Int32)), .val (.ref oDISCONNECT), .val (.int (224 : Int32))] []) _
      refine XS.iload X231.here hx rfl (hb hby at_232) rfl ?_
      exact k
    obtain ⟨_, _, ⟨T235, L235, k235, n235⟩, -, X235, ⟨Lc235, hQ235, l235, y235, z235⟩, st235⟩ := Jvm.LawKit.callS X231 hx (y := (⟨"com/example/headroom/headroom/io/PacketType", "of", "(I)Lcom/example/headroom/headroom/io/PacketType;"⟩ : MethodName)) hown (mvT hZ (hw _ (List.mem_of_getElem? (i := 45) rfl))) (mvT hZ (hw _ (List.mem_of_getElem? (i := 46) rfl))) (mvT hZ (hw _ (List.mem_of_getElem? (i := 3) rfl))) (mvT hZ (hw _ (List.mem_of_getElem? (i := 47) rfl))) (by decide) (backOf (W := 0) (rm2 l Z a0 hw [] (224 : Int32) oBY kB _ oDISCONNECT (14 : Int32) (0 : Int32) h109 n0 (Nat.le_trans Z0 Kp109.1) (ST_BY_VALUE.ext (own_ext Kp109)) (VB.ext (own_ext Kp109)) (FL_oDISCONNECT_flags.ext (own_ext Kp109)) (by decide) ⟨by decide, by decide⟩ rfl (by decide)) hZ (hw _ (List.mem_of_getElem? (i := 47) rfl)) (hw _ (List.mem_of_getElem? (i := 3) rfl)) (by decide) (by decide)) (g := (mkF m 234 #[.val (.int p0), .val (.ref b2), .val (.ref b64), .val (.int (13 : Int32)), .val (.ref oDISCONNECT), .val (.int (224 : Int32))] [(.int (224 : Int32))])) rfl (by rw [hml]; rfl) (argsL := [(.int (224 : Int32))]) (rest := []) (lenOf pd_0_1 rfl) rfl (by show 2 * 0 + _ ≤ _; exact Nat.le_of_eq rfl) (hb hby at_234) (fun _ _ => ⟨rfl, e231, (by decide : 2 + 0 ≤ _), (by decide : 30 + 0 ≤ _)⟩)
    dsimp only [Pt.U, Pt.locs, Pt.cells, Pt.slots] at X235 l235 y235 z235 st235 hQ235
    rw [y235, z235] at X235
    obtain ⟨rfl, Nq235, e235⟩ := hQ235
    have N235 : Fr n0 L235 := by rw [l235]; exact Fr.app N231 Nq235
    have K235 : ∀ t, own_S p e below T235 (mkF m 237 #[.val (.int p0), .val (.ref b2), .val (.ref b64), .val (.int (13 : Int32)), .val (.ref oDISCONNECT), .val (.int (224 : Int32))] [(.ref oDISCONNECT)]) t → Steps p.tables e below SE t := fun t k => K234 _ (st235 _ k)
    have K236 : ∀ t, own_S p e below T235 (mkF m 247 #[.val (.int p0), .val (.ref b2), .val (.ref b64), .val (.int (13 : Int32)), .val (.ref oDISCONNECT), .val (.int (224 : Int32))] [(.int (1 : Int32))]) t → Steps p.tables e below SE t := by
      intro t k
      refine K235 _ ?_
      refine XS.aload X235.here hx rfl (hb hby at_237) rfl rfl ?_
      show own_S p e below T235 (mkF m 239 #[.val (.int p0), .val (.ref b2), .val (.ref b64), .val (.int (13 : Int32)), .val (.ref oDISCONNECT), .val (.int (224 : Int32))] [(.ref oDISCONNECT), (.ref oDISCONNECT)]) _
      refine Jvm.RoadKit.acmp (g := (mkF m 239 #[.val (.int p0), .val (.ref b2), .val (.ref b64), .val (.int (13 : Int32)), .val (.ref oDISCONNECT), .val (.int (224 : Int32))] [(.ref oDISCONNECT), (.ref oDISCONNECT)])) X235 hx rfl rfl rfl (pc0 := 239) (pc' := 242) (same := true) rfl (hb hby at_239) rfl (decide_eq_true rfl) (by decide) (by decide) ?_
      show own_S p e below T235 (mkF m 242 #[.val (.int p0), .val (.ref b2), .val (.ref b64), .val (.int (13 : Int32)), .val (.ref oDISCONNECT), .val (.int (224 : Int32))] []) _
      refine XS.iconst X235.here hx rfl (hb hby at_242) ?_
      show own_S p e below T235 (mkF m 243 #[.val (.int p0), .val (.ref b2), .val (.ref b64), .val (.int (13 : Int32)), .val (.ref oDISCONNECT), .val (.int (224 : Int32))] [(.int (1 : Int32))]) _
      refine XS.goto X235.here hx rfl (pc0 := 243) (pc' := 247) rfl (hb hby at_243) (by decide) (by decide) ?_
      exact k
    obtain ⟨fs, hr, hrun, hended, hW, hsame⟩ := X235.leave (v := some (.int (1 : Int32))) (fun h => by rw [Bd.returns] at h; cases h)
    refine ⟨_, _, K236 _ ?_, hrun, hended, _, _, rfl, ?_, ⟨_, rfl⟩, hW, hsame.mono (by decide) (by decide)⟩
    · exact retN X235 hx (t := .boolean) Bd.returns (by simp) (hb hby at_247) hr
    · show Q0 Z p0 oCONNECT oCONNACK oPUBLISH oPUBACK oPUBREC oPUBREL oPUBCOMP oSUBSCRIBE oSUBACK oUNSUBSCRIBE oUNSUBACK oPINGREQ oPINGRESP oDISCONNECT oAUTH oBY kB h0 n0 _ T235.heap _
      rw [e235]
      exact ⟨rfl, N235⟩
  · skip
    rw [q] at K110
    have K237 : ∀ t, own_S p e below T109 (mkF m 212 #[.val (.int p0), .val (.ref b2), .val (.ref b64), .val (.int (14 : Int32)), .unset, .unset] [(.int (14 : Int32)), (.ref b2)]) t → Steps p.tables e below SE t := by
      intro t k
      refine K110 _ ?_
      refine XS.aloadN X109.here hx rfl (hb hby at_210) rfl rfl ?_
      show own_S p e below T109 (mkF m 211 #[.val (.int p0), .val (.ref b2), .val (.ref b64), .val (.int (14 : Int32)), .unset, .unset] [(.ref b2)]) _
      refine XS.iloadN X109.here hx rfl (hb hby at_211) rfl ?_
      exact k
    obtain ⟨cl238, Ar238, qk238, S238, Ng238, Hh238, Gg238⟩ := id ((((((((((((((((V62.ext E64).other W67 (own_ne_b2_b64)).other W70 (own_ne_b2_b64)).other W73 (own_ne_b2_b64)).other W76 (own_ne_b2_b64)).other W79 (own_ne_b2_b64)).other W82 (own_ne_b2_b64)).other W85 (own_ne_b2_b64)).other W88 (own_ne_b2_b64)).other W91 (own_ne_b2_b64)).other W94 (own_ne_b2_b64)).other W97 (own_ne_b2_b64)).other W100 (own_ne_b2_b64)).other W103 (own_ne_b2_b64)).other W106 (own_ne_b2_b64)).other W109 (own_ne_b2_b64))
    have hin238 : ¬ ((14 : Int32) < 0 ∨ cl238.slots.size ≤ ((14 : Int32)).toNatClampNeg) := inb_of S238 ⟨by decide, by decide⟩
    have hat238 : cl238.slots[((14 : Int32)).toNatClampNeg]? = some (.ref oAUTH) := Has.at Hh238 hin238 rfl
    have K239 : ∀ t, own_S p e below T109 (mkF m 217 #[.val (.int p0), .val (.ref b2), .val (.ref b64), .val (.int (14 : Int32)), .val (.ref oAUTH), .unset] [(.ref oAUTH)]) t → Steps p.tables e below SE t := by
      intro t k
      refine K237 _ ?_
      refine X109.aaload hx (j := (14 : Int32)) (v := (.ref oAUTH)) (by rw [e109]; exact Ar238.1) (State.isArrayOf_alike hZ.alike Ar238.2.1) rfl Ar238.2.2 hin238 hat238 (g := (mkF m 212 #[.val (.int p0), .val (.ref b2), .val (.ref b64), .val (.int (14 : Int32)), .unset, .unset] [(.int (14 : Int32)), (.ref b2)])) rfl rfl (hb hby at_212) _ ?_
      show own_S p e below T109 (mkF m 213 #[.val (.int p0), .val (.ref b2), .val (.ref b64), .val (.int (14 : Int32)), .unset, .unset] [(.ref oAUTH)]) _
      refine XS.astore X109.here hx rfl (hb hby at_213) rfl rfl (l' := #[.val (.int p0), .val (.ref b2), .val (.ref b64), .val (.int (14 : Int32)), .val (.ref oAUTH), .unset]) rfl ?_
      show own_S p e below T109 (mkF m 215 #[.val (.int p0), .val (.ref b2), .val (.ref b64), .val (.int (14 : Int32)), .val (.ref oAUTH), .unset] []) _
      refine XS.aload X109.here hx rfl (hb hby at_215) rfl rfl ?_
      exact k
    obtain ⟨cq240, kq240, q240a, q240b, q240c⟩ := isOf hZ e109 (EX_oAUTH.ext (own_ext Kp109))
    obtain ⟨_, _, ⟨T240, L240, k240, n240⟩, -, X240, ⟨Lc240, hQ240, l240, y240, z240⟩, st240⟩ := X109.virtualBack hx (y := (⟨"com/example/headroom/headroom/io/PacketType", "firstByte", "()I"⟩ : MethodName)) (z := (⟨"com/example/headroom/headroom/io/PacketType", "firstByte", "()I"⟩ : MethodName)) hown (mvT hZ (hw _ (List.mem_of_getElem? (i := 36) rfl))) (mvT hZ (hw _ (List.mem_of_getElem? (i := 37) rfl))) (notFace_of_selects (args := #[]) (mvT hZ (hw _ (List.mem_of_getElem? (i := 39) rfl)))) (mvT hZ (hw _ (List.mem_of_getElem? (i := 39) rfl))) (mvT hZ (hw _ (List.mem_of_getElem? (i := 38) rfl))) (by decide) (backOf (W := 0) (rm1 l Z a0 hw [] oAUTH (15 : Int32) (0 : Int32) h109 n0 (Nat.le_trans Z0 Kp109.1) (FL_oAUTH_value.ext (own_ext Kp109)) (FL_oAUTH_flags.ext (own_ext Kp109))) hZ (hw _ (List.mem_of_getElem? (i := 40) rfl)) (hw _ (List.mem_of_getElem? (i := 3) rfl)) (by decide) (by decide)) q240a q240c (g := (mkF m 217 #[.val (.int p0), .val (.ref b2), .val (.ref b64), .val (.int (14 : Int32)), .val (.ref oAUTH), .unset] [(.ref oAUTH)])) rfl (by rw [hml]; rfl) (Steps.refl _) (argsL := []) (rest := []) (lenOf pd_0_0 rfl) rfl (by show 2 * 0 + _ ≤ _; exact Nat.le_of_eq rfl) (hb hby at_217) (fun _ _ => ⟨rfl, e109, (by decide : 2 + 0 ≤ _), (by decide : 30 + 0 ≤ _)⟩)
    dsimp only [Pt.U, Pt.locs, Pt.cells, Pt.slots] at X240 l240 y240 z240 st240 hQ240
    rw [y240, z240] at X240
    obtain ⟨rfl, Nq240, e240⟩ := hQ240
    have N240 : Fr n0 L240 := by rw [l240]; exact Fr.app N109 Nq240
    have K240 : ∀ t, own_S p e below T240 (mkF m 220 #[.val (.int p0), .val (.ref b2), .val (.ref b64), .val (.int (14 : Int32)), .val (.ref oAUTH), .unset] [(.int (if (0 : Int32) = (-1 : Int32) then (((15 : Int32) <<< ((4 : Int32) &&& 31)) ||| (0 : Int32)) else (((15 : Int32) <<< ((4 : Int32) &&& 31)) ||| (0 : Int32))))]) t → Steps p.tables e below SE t := fun t k => K239 _ (st240.trans k)
    rw [(by decide : (if (0 : Int32) = (-1 : Int32) then (((15 : Int32) <<< ((4 : Int32) &&& 31)) ||| (0 : Int32)) else (((15 : Int32) <<< ((4 : Int32) &&& 31)) ||| (0 : Int32))) = (240 : Int32))] at K240
    have K241 : ∀ t, own_S p e below T240 (mkF m 226 #[.val (.int p0), .val (.ref b2), .val (.ref b64), .val (.int (14 : Int32)), .val (.ref oAUTH), .val (.int (240 : Int32))] [(.int (14 : Int32)), (.ref b64), (.int (240 : Int32))]) t → Steps p.tables e below SE t := by
      intro t k
      refine K240 _ ?_
      refine XS.istore X240.here hx rfl (hb hby at_220) rfl (l' := #[.val (.int p0), .val (.ref b2), .val (.ref b64), .val (.int (14 : Int32)), .val (.ref oAUTH), .val (.int (240 : Int32))]) rfl ?_
      show own_S p e below T240 (mkF m 222 #[.val (.int p0), .val (.ref b2), .val (.ref b64), .val (.int (14 : Int32)), .val (.ref oAUTH), .val (.int (240 : Int32))] []) _
      refine XS.iload X240.here hx rfl (hb hby at_222) rfl ?_
      show own_S p e below T240 (mkF m 224 #[.val (.int p0), .val (.ref b2), .val (.ref b64), .val (.int (14 : Int32)), .val (.ref oAUTH), .val (.int (240 : Int32))] [(.int (240 : Int32))]) _
      refine XS.aloadN X240.here hx rfl (hb hby at_224) rfl rfl ?_
      show own_S p e below T240 (mkF m 225 #[.val (.int p0), .val (.ref b2), .val (.ref b64), .val (.int (14 : Int32)), .val (.ref oAUTH), .val (.int (240 : Int32))] [(.ref b64), (.int (240 : Int32))]) _
      refine XS.iloadN X240.here hx rfl (hb hby at_225) rfl ?_
      exact k
    obtain ⟨cl242, Ar242, qk242, S242, Ng242, Hh242, Gg242⟩ := id V109
    have hin242 : ¬ ((14 : Int32) < 0 ∨ cl242.slots.size ≤ ((14 : Int32)).toNatClampNeg) := inb_of S242 ⟨by decide, by decide⟩
    have hat242 : cl242.slots[((14 : Int32)).toNatClampNeg]? = some (.int (240 : Int32)) := Has.at Hh242 hin242 rfl
    have K243 : ∀ t, own_S p e below T240 (mkF m 234 #[.val (.int p0), .val (.ref b2), .val (.ref b64), .val (.int (14 : Int32)), .val (.ref oAUTH), .val (.int (240 : Int32))] [(.int (240 : Int32))]) t → Steps p.tables e below SE t := by
      intro t k
      refine K241 _ ?_
      refine X240.iaload hx (j := (14 : Int32)) (v := (.int (240 : Int32))) (by rw [e240]; exact Ar242.1) (State.isArrayOf_alike hZ.alike Ar242.2.1) Ar242.2.2 hin242 hat242 (g := (mkF m 226 #[.val (.int p0), .val (.ref b2), .val (.ref b64), .val (.int (14 : Int32)), .val (.ref oAUTH), .val (.int (240 : Int32))] [(.int (14 : Int32)), (.ref b64), (.int (240 : Int32))])) rfl rfl (hb hby at_226) _ ?_
      show own_S p e below T240 (mkF m 227 #[.val (.int p0), .val (.ref b2), .val (.ref b64), .val (.int (14 : Int32)), .val (.ref oAUTH), .val (.int (240 : Int32))] [(.int (240 : Int32)), (.int (240 : Int32))]) _
      refine XS.icmpYes X240.here hx rfl (pc0 := 227) (pc' := 232) rfl (hb hby at_227) rfl (XT.ii_eq_t (by decide : (240 : Int32) = (240 : Int32))) (by decide) (by decide) ?_
      show own_S p e below T240 (mkF m 232 #[.val (.int p0), .val (.ref b2), .val (.ref b64), .val (.int (14 : Int32)), .val (.ref oAUTH), .val (.int (240 : Int32))] []) _
      refine XS.iload X240.here hx rfl (hb hby at_232) rfl ?_
      exact k
    obtain ⟨_, _, ⟨T244, L244, k244, n244⟩, -, X244, ⟨Lc244, hQ244, l244, y244, z244⟩, st244⟩ := Jvm.LawKit.callS X240 hx (y := (⟨"com/example/headroom/headroom/io/PacketType", "of", "(I)Lcom/example/headroom/headroom/io/PacketType;"⟩ : MethodName)) hown (mvT hZ (hw _ (List.mem_of_getElem? (i := 45) rfl))) (mvT hZ (hw _ (List.mem_of_getElem? (i := 46) rfl))) (mvT hZ (hw _ (List.mem_of_getElem? (i := 3) rfl))) (mvT hZ (hw _ (List.mem_of_getElem? (i := 47) rfl))) (by decide) (backOf (W := 0) (rm2 l Z a0 hw [] (240 : Int32) oBY kB _ oAUTH (15 : Int32) (0 : Int32) h109 n0 (Nat.le_trans Z0 Kp109.1) (ST_BY_VALUE.ext (own_ext Kp109)) (VB.ext (own_ext Kp109)) (FL_oAUTH_flags.ext (own_ext Kp109)) (by decide) ⟨by decide, by decide⟩ rfl (by decide)) hZ (hw _ (List.mem_of_getElem? (i := 47) rfl)) (hw _ (List.mem_of_getElem? (i := 3) rfl)) (by decide) (by decide)) (g := (mkF m 234 #[.val (.int p0), .val (.ref b2), .val (.ref b64), .val (.int (14 : Int32)), .val (.ref oAUTH), .val (.int (240 : Int32))] [(.int (240 : Int32))])) rfl (by rw [hml]; rfl) (argsL := [(.int (240 : Int32))]) (rest := []) (lenOf pd_0_1 rfl) rfl (by show 2 * 0 + _ ≤ _; exact Nat.le_of_eq rfl) (hb hby at_234) (fun _ _ => ⟨rfl, e240, (by decide : 2 + 0 ≤ _), (by decide : 30 + 0 ≤ _)⟩)
    dsimp only [Pt.U, Pt.locs, Pt.cells, Pt.slots] at X244 l244 y244 z244 st244 hQ244
    rw [y244, z244] at X244
    obtain ⟨rfl, Nq244, e244⟩ := hQ244
    have N244 : Fr n0 L244 := by rw [l244]; exact Fr.app N240 Nq244
    have K244 : ∀ t, own_S p e below T244 (mkF m 237 #[.val (.int p0), .val (.ref b2), .val (.ref b64), .val (.int (14 : Int32)), .val (.ref oAUTH), .val (.int (240 : Int32))] [(.ref oAUTH)]) t → Steps p.tables e below SE t := fun t k => K243 _ (st244 _ k)
    have K245 : ∀ t, own_S p e below T244 (mkF m 247 #[.val (.int p0), .val (.ref b2), .val (.ref b64), .val (.int (14 : Int32)), .val (.ref oAUTH), .val (.int (240 : Int32))] [(.int (1 : Int32))]) t → Steps p.tables e below SE t := by
      intro t k
      refine K244 _ ?_
      refine XS.aload X244.here hx rfl (hb hby at_237) rfl rfl ?_
      show own_S p e below T244 (mkF m 239 #[.val (.int p0), .val (.ref b2), .val (.ref b64), .val (.int (14 : Int32)), .val (.ref oAUTH), .val (.int (240 : Int32))] [(.ref oAUTH), (.ref oAUTH)]) _
      refine Jvm.RoadKit.acmp (g := (mkF m 239 #[.val (.int p0), .val (.ref b2), .val (.ref b64), .val (.int (14 : Int32)), .val (.ref oAUTH), .val (.int (240 : Int32))] [(.ref oAUTH), (.ref oAUTH)])) X244 hx rfl rfl rfl (pc0 := 239) (pc' := 242) (same := true) rfl (hb hby at_239) rfl (decide_eq_true rfl) (by decide) (by decide) ?_
      show own_S p e below T244 (mkF m 242 #[.val (.int p0), .val (.ref b2), .val (.ref b64), .val (.int (14 : Int32)), .val (.ref oAUTH), .val (.int (240 : Int32))] []) _
      refine XS.iconst X244.here hx rfl (hb hby at_242) ?_
      show own_S p e below T244 (mkF m 243 #[.val (.int p0), .val (.ref b2), .val (.ref b64), .val (.int (14 : Int32)), .val (.ref oAUTH), .val (.int (240 : Int32))] [(.int (1 : Int32))]) _
      refine XS.goto X244.here hx rfl (pc0 := 243) (pc' := 247) rfl (hb hby at_243) (by decide) (by decide) ?_
      exact k
    obtain ⟨fs, hr, hrun, hended, hW, hsame⟩ := X244.leave (v := some (.int (1 : Int32))) (fun h => by rw [Bd.returns] at h; cases h)
    refine ⟨_, _, K245 _ ?_, hrun, hended, _, _, rfl, ?_, ⟨_, rfl⟩, hW, hsame.mono (by decide) (by decide)⟩
    · exact retN X244 hx (t := .boolean) Bd.returns (by simp) (hb hby at_247) hr
    · show Q0 Z p0 oCONNECT oCONNACK oPUBLISH oPUBACK oPUBREC oPUBREL oPUBCOMP oSUBSCRIBE oSUBACK oUNSUBSCRIBE oUNSUBACK oPINGREQ oPINGRESP oDISCONNECT oAUTH oBY kB h0 n0 _ T244.heap _
      rw [e244]
      exact ⟨rfl, N244⟩
set_option maxRecDepth 65536 in
set_option maxHeartbeats 40000000 in
theorem comes_1 {Post : Tables → Env → Array Value → State → Outcome → State → Prop} (hpost : ∀ tb e args s v u, (limb_1_1.after args s (.returned v) u = true ∧ limb_1_2.after args s (.returned v) u = true ∧ True) → FrameEnd s (.returned v) u (Jvm.fieldLocs frame_1_writes args s ++ Jvm.arrayLocs frame_1_arrays args s ++ Jvm.staticLocs frame_1_statics s) 16 128 → Post tb e args s (.returned v) u) :
    ArmFor flags0 classFile x code maxLocals ret World_1 tables_1 room_1 Calls_1 rest_1 Pre_1 Post := by
  intro l hfl _ _ p e ha hc hk s m args below hf hA hF happ hP
  obtain ⟨hcalls, hrest, hpre⟩ := hP
  obtain ⟨-, -, -, hnamed, -, -, -, hat⟩ := (Spec.applies_iff hf).mp happ
  obtain ⟨hg, hn⟩ := and_e (Cond.before_iff.mp (show (Jvm.Cond.and given_1 narrow_1).before args s = true from hpre))
  obtain ⟨hcount, hg0⟩ := and_e hg
  obtain ⟨w0, rfl⟩ : ∃ w0 : Value, args = #[w0] := by
    have hs : args.size = 1 := by simpa [Cond.value, given_1] using hcount
    obtain ⟨L⟩ := args
    match L, hs with
    | [w0], _ => exact ⟨w0, rfl⟩
  have hw := fun d (hd : d ∈ tables_1) => atoms_spec (ws := Jvm.Cond.code x code maxLocals ret :: tables_1) hat d (List.mem_cons_of_mem _ hd)
  have hfit : Fit s := fun {y c} hc i hi => by
    obtain ⟨ha, rfl⟩ := Array.getElem?_eq_some_iff.mp hc
    have q := List.all_eq_true.mp ((Array.all_eq_true_iff_forall_mem.mp hF) _ (Array.getElem_mem ha)) i (List.mem_range.mpr hi)
    simpa [Array.getElem?_eq_getElem hi] using q
  obtain ⟨i0, ei0⟩ := is_v hg0
  obtain rfl : w0 = (.int i0) := Option.some.inj ei0
  obtain ⟨hc0, hcr0⟩ := and_e hn
  obtain ⟨hc1, hcr1⟩ := and_e hcr0
  obtain ⟨hc2, hcr2⟩ := and_e hcr1
  obtain ⟨hc3, hcr3⟩ := and_e hcr2
  obtain ⟨hc4, hcr4⟩ := and_e hcr3
  obtain ⟨hc5, hcr5⟩ := and_e hcr4
  obtain ⟨hc6, hcr6⟩ := and_e hcr5
  obtain ⟨hc7, hcr7⟩ := and_e hcr6
  obtain ⟨hc8, hcr8⟩ := and_e hcr7
  obtain ⟨hc9, hcr9⟩ := and_e hcr8
  obtain ⟨hc10, hcr10⟩ := and_e hcr9
  obtain ⟨hc11, hcr11⟩ := and_e hcr10
  obtain ⟨hc12, hcr12⟩ := and_e hcr11
  obtain ⟨hc13, hcr13⟩ := and_e hcr12
  obtain ⟨hc14, hcr14⟩ := and_e hcr13
  obtain ⟨hc15, hcr15⟩ := and_e hcr14
  obtain ⟨hc16, hcr16⟩ := and_e hcr15
  obtain ⟨hc17, hcr17⟩ := and_e hcr16
  obtain ⟨hc18, hcr18⟩ := and_e hcr17
  obtain ⟨hc19, hcr19⟩ := and_e hcr18
  obtain ⟨hc20, hcr20⟩ := and_e hcr19
  obtain ⟨hc21, hcr21⟩ := and_e hcr20
  obtain ⟨hc22, hcr22⟩ := and_e hcr21
  obtain ⟨hc23, hcr23⟩ := and_e hcr22
  obtain ⟨hc24, hcr24⟩ := and_e hcr23
  obtain ⟨hc25, hcr25⟩ := and_e hcr24
  obtain ⟨hc26, hcr26⟩ := and_e hcr25
  obtain ⟨hc27, hcr27⟩ := and_e hcr26
  obtain ⟨hc28, hcr28⟩ := and_e hcr27
  obtain ⟨hc29, hcr29⟩ := and_e hcr28
  obtain ⟨hc30, hcr30⟩ := and_e hcr29
  obtain ⟨hc31, hcr31⟩ := and_e hcr30
  obtain ⟨hc32, hcr32⟩ := and_e hcr31
  obtain ⟨hc33, hcr33⟩ := and_e hcr32
  obtain ⟨hc34, hcr34⟩ := and_e hcr33
  obtain ⟨hc35, hcr35⟩ := and_e hcr34
  obtain ⟨hc36, hcr36⟩ := and_e hcr35
  obtain ⟨hc37, hcr37⟩ := and_e hcr36
  obtain ⟨hc38, hcr38⟩ := and_e hcr37
  obtain ⟨hc39, hcr39⟩ := and_e hcr38
  obtain ⟨hc40, hcr40⟩ := and_e hcr39
  obtain ⟨hc41, hcr41⟩ := and_e hcr40
  obtain ⟨hc42, hcr42⟩ := and_e hcr41
  obtain ⟨hc43, hcr43⟩ := and_e hcr42
  obtain ⟨hc44, hcr44⟩ := and_e hcr43
  obtain ⟨hc45, hcr45⟩ := and_e hcr44
  obtain ⟨hc46, hcr46⟩ := and_e hcr45
  obtain ⟨hc47, hcr47⟩ := and_e hcr46
  obtain ⟨hc48, hcr48⟩ := and_e hcr47
  obtain ⟨hc49, hcr49⟩ := and_e hcr48
  obtain ⟨hc50, hcr50⟩ := and_e hcr49
  obtain ⟨hc51, hcr51⟩ := and_e hcr50
  obtain ⟨hc52, hcr52⟩ := and_e hcr51
  obtain ⟨hc53, hcr53⟩ := and_e hcr52
  obtain ⟨hc54, hcr54⟩ := and_e hcr53
  obtain ⟨hc55, hcr55⟩ := and_e hcr54
  obtain ⟨hc56, hcr56⟩ := and_e hcr55
  obtain ⟨hc57, hcr57⟩ := and_e hcr56
  obtain ⟨hc58, hcr58⟩ := and_e hcr57
  obtain ⟨hc59, hcr59⟩ := and_e hcr58
  obtain ⟨hc60, hcr60⟩ := and_e hcr59
  obtain ⟨hc61, hcr61⟩ := and_e hcr60
  obtain ⟨oCONNECT, ev_oCONNECT⟩ := exa_v hc0
  have ST_CONNECT : Sta s s.heap "com/example/headroom/headroom/io/PacketType" "CONNECT" "Lcom/example/headroom/headroom/io/PacketType;" (.ref oCONNECT) := Sta.start ev_oCONNECT (Or.inr ⟨(hw _ (List.mem_of_getElem? (i := 3) rfl)), (hw _ (List.mem_of_getElem? (i := 4) rfl))⟩)
  have EX_oCONNECT : Exa s s.heap oCONNECT "com/example/headroom/headroom/io/PacketType" := Exa.start ev_oCONNECT hc0
  obtain ⟨oCONNACK, ev_oCONNACK⟩ := exa_v hc1
  have ST_CONNACK : Sta s s.heap "com/example/headroom/headroom/io/PacketType" "CONNACK" "Lcom/example/headroom/headroom/io/PacketType;" (.ref oCONNACK) := Sta.start ev_oCONNACK (Or.inr ⟨(hw _ (List.mem_of_getElem? (i := 3) rfl)), (hw _ (List.mem_of_getElem? (i := 7) rfl))⟩)
  have EX_oCONNACK : Exa s s.heap oCONNACK "com/example/headroom/headroom/io/PacketType" := Exa.start ev_oCONNACK hc1
  obtain ⟨oPUBLISH, ev_oPUBLISH⟩ := exa_v hc2
  have ST_PUBLISH : Sta s s.heap "com/example/headroom/headroom/io/PacketType" "PUBLISH" "Lcom/example/headroom/headroom/io/PacketType;" (.ref oPUBLISH) := Sta.start ev_oPUBLISH (Or.inr ⟨(hw _ (List.mem_of_getElem? (i := 3) rfl)), (hw _ (List.mem_of_getElem? (i := 9) rfl))⟩)
  have EX_oPUBLISH : Exa s s.heap oPUBLISH "com/example/headroom/headroom/io/PacketType" := Exa.start ev_oPUBLISH hc2
  obtain ⟨oPUBACK, ev_oPUBACK⟩ := exa_v hc3
  have ST_PUBACK : Sta s s.heap "com/example/headroom/headroom/io/PacketType" "PUBACK" "Lcom/example/headroom/headroom/io/PacketType;" (.ref oPUBACK) := Sta.start ev_oPUBACK (Or.inr ⟨(hw _ (List.mem_of_getElem? (i := 3) rfl)), (hw _ (List.mem_of_getElem? (i := 11) rfl))⟩)
  have EX_oPUBACK : Exa s s.heap oPUBACK "com/example/headroom/headroom/io/PacketType" := Exa.start ev_oPUBACK hc3
  obtain ⟨oPUBREC, ev_oPUBREC⟩ := exa_v hc4
  have ST_PUBREC : Sta s s.heap "com/example/headroom/headroom/io/PacketType" "PUBREC" "Lcom/example/headroom/headroom/io/PacketType;" (.ref oPUBREC) := Sta.start ev_oPUBREC (Or.inr ⟨(hw _ (List.mem_of_getElem? (i := 3) rfl)), (hw _ (List.mem_of_getElem? (i := 13) rfl))⟩)
  have EX_oPUBREC : Exa s s.heap oPUBREC "com/example/headroom/headroom/io/PacketType" := Exa.start ev_oPUBREC hc4
  obtain ⟨oPUBREL, ev_oPUBREL⟩ := exa_v hc5
  have ST_PUBREL : Sta s s.heap "com/example/headroom/headroom/io/PacketType" "PUBREL" "Lcom/example/headroom/headroom/io/PacketType;" (.ref oPUBREL) := Sta.start ev_oPUBREL (Or.inr ⟨(hw _ (List.mem_of_getElem? (i := 3) rfl)), (hw _ (List.mem_of_getElem? (i := 15) rfl))⟩)
  have EX_oPUBREL : Exa s s.heap oPUBREL "com/example/headroom/headroom/io/PacketType" := Exa.start ev_oPUBREL hc5
  obtain ⟨oPUBCOMP, ev_oPUBCOMP⟩ := exa_v hc6
  have ST_PUBCOMP : Sta s s.heap "com/example/headroom/headroom/io/PacketType" "PUBCOMP" "Lcom/example/headroom/headroom/io/PacketType;" (.ref oPUBCOMP) := Sta.start ev_oPUBCOMP (Or.inr ⟨(hw _ (List.mem_of_getElem? (i := 3) rfl)), (hw _ (List.mem_of_getElem? (i := 17) rfl))⟩)
  have EX_oPUBCOMP : Exa s s.heap oPUBCOMP "com/example/headroom/headroom/io/PacketType" := Exa.start ev_oPUBCOMP hc6
  obtain ⟨oSUBSCRIBE, ev_oSUBSCRIBE⟩ := exa_v hc7
  have ST_SUBSCRIBE : Sta s s.heap "com/example/headroom/headroom/io/PacketType" "SUBSCRIBE" "Lcom/example/headroom/headroom/io/PacketType;" (.ref oSUBSCRIBE) := Sta.start ev_oSUBSCRIBE (Or.inr ⟨(hw _ (List.mem_of_getElem? (i := 3) rfl)), (hw _ (List.mem_of_getElem? (i := 19) rfl))⟩)
  have EX_oSUBSCRIBE : Exa s s.heap oSUBSCRIBE "com/example/headroom/headroom/io/PacketType" := Exa.start ev_oSUBSCRIBE hc7
  obtain ⟨oSUBACK, ev_oSUBACK⟩ := exa_v hc8
  have ST_SUBACK : Sta s s.heap "com/example/headroom/headroom/io/PacketType" "SUBACK" "Lcom/example/headroom/headroom/io/PacketType;" (.ref oSUBACK) := Sta.start ev_oSUBACK (Or.inr ⟨(hw _ (List.mem_of_getElem? (i := 3) rfl)), (hw _ (List.mem_of_getElem? (i := 21) rfl))⟩)
  have EX_oSUBACK : Exa s s.heap oSUBACK "com/example/headroom/headroom/io/PacketType" := Exa.start ev_oSUBACK hc8
  obtain ⟨oUNSUBSCRIBE, ev_oUNSUBSCRIBE⟩ := exa_v hc9
  have ST_UNSUBSCRIBE : Sta s s.heap "com/example/headroom/headroom/io/PacketType" "UNSUBSCRIBE" "Lcom/example/headroom/headroom/io/PacketType;" (.ref oUNSUBSCRIBE) := Sta.start ev_oUNSUBSCRIBE (Or.inr ⟨(hw _ (List.mem_of_getElem? (i := 3) rfl)), (hw _ (List.mem_of_getElem? (i := 23) rfl))⟩)
  have EX_oUNSUBSCRIBE : Exa s s.heap oUNSUBSCRIBE "com/example/headroom/headroom/io/PacketType" := Exa.start ev_oUNSUBSCRIBE hc9
  obtain ⟨oUNSUBACK, ev_oUNSUBACK⟩ := exa_v hc10
  have ST_UNSUBACK : Sta s s.heap "com/example/headroom/headroom/io/PacketType" "UNSUBACK" "Lcom/example/headroom/headroom/io/PacketType;" (.ref oUNSUBACK) := Sta.start ev_oUNSUBACK (Or.inr ⟨(hw _ (List.mem_of_getElem? (i := 3) rfl)), (hw _ (List.mem_of_getElem? (i := 25) rfl))⟩)
  have EX_oUNSUBACK : Exa s s.heap oUNSUBACK "com/example/headroom/headroom/io/PacketType" := Exa.start ev_oUNSUBACK hc10
  obtain ⟨oPINGREQ, ev_oPINGREQ⟩ := exa_v hc11
  have ST_PINGREQ : Sta s s.heap "com/example/headroom/headroom/io/PacketType" "PINGREQ" "Lcom/example/headroom/headroom/io/PacketType;" (.ref oPINGREQ) := Sta.start ev_oPINGREQ (Or.inr ⟨(hw _ (List.mem_of_getElem? (i := 3) rfl)), (hw _ (List.mem_of_getElem? (i := 27) rfl))⟩)
  have EX_oPINGREQ : Exa s s.heap oPINGREQ "com/example/headroom/headroom/io/PacketType" := Exa.start ev_oPINGREQ hc11
  obtain ⟨oPINGRESP, ev_oPINGRESP⟩ := exa_v hc12
  have ST_PINGRESP : Sta s s.heap "com/example/headroom/headroom/io/PacketType" "PINGRESP" "Lcom/example/headroom/headroom/io/PacketType;" (.ref oPINGRESP) := Sta.start ev_oPINGRESP (Or.inr ⟨(hw _ (List.mem_of_getElem? (i := 3) rfl)), (hw _ (List.mem_of_getElem? (i := 29) rfl))⟩)
  have EX_oPINGRESP : Exa s s.heap oPINGRESP "com/example/headroom/headroom/io/PacketType" := Exa.start ev_oPINGRESP hc12
  obtain ⟨oDISCONNECT, ev_oDISCONNECT⟩ := exa_v hc13
  have ST_DISCONNECT : Sta s s.heap "com/example/headroom/headroom/io/PacketType" "DISCONNECT" "Lcom/example/headroom/headroom/io/PacketType;" (.ref oDISCONNECT) := Sta.start ev_oDISCONNECT (Or.inr ⟨(hw _ (List.mem_of_getElem? (i := 3) rfl)), (hw _ (List.mem_of_getElem? (i := 31) rfl))⟩)
  have EX_oDISCONNECT : Exa s s.heap oDISCONNECT "com/example/headroom/headroom/io/PacketType" := Exa.start ev_oDISCONNECT hc13
  obtain ⟨oAUTH, ev_oAUTH⟩ := exa_v hc14
  have ST_AUTH : Sta s s.heap "com/example/headroom/headroom/io/PacketType" "AUTH" "Lcom/example/headroom/headroom/io/PacketType;" (.ref oAUTH) := Sta.start ev_oAUTH (Or.inr ⟨(hw _ (List.mem_of_getElem? (i := 3) rfl)), (hw _ (List.mem_of_getElem? (i := 33) rfl))⟩)
  have EX_oAUTH : Exa s s.heap oAUTH "com/example/headroom/headroom/io/PacketType" := Exa.start ev_oAUTH hc14
  have evn1 := own_eqI hc15
  have FL_oCONNECT_value : Fld s s.heap oCONNECT "com/example/headroom/headroom/io/PacketType" "value" "I" (.int (1 : Int32)) := Fld.start ((fld_at ev_oCONNECT).symm.trans evn1)
  have evn2 := own_eqI hc16
  have FL_oCONNECT_flags : Fld s s.heap oCONNECT "com/example/headroom/headroom/io/PacketType" "flags" "I" (.int (0 : Int32)) := Fld.start ((fld_at ev_oCONNECT).symm.trans evn2)
  obtain ⟨oBY, ev_oBY⟩ := arr_v hc17
  obtain ⟨clB, AB⟩ := Arr.start ev_oBY hc17
  have ST_BY_VALUE : Sta s s.heap "com/example/headroom/headroom/io/PacketType" "BY_VALUE" "[Lcom/example/headroom/headroom/io/PacketType;" (.ref oBY) := Sta.start ev_oBY (Or.inr ⟨(hw _ (List.mem_of_getElem? (i := 3) rfl)), (hw _ (List.mem_of_getElem? (i := 49) rfl))⟩)
  have evn3 := own_eqI hc18
  have evLen := evn3
  have hel1 : clB.slots[1]? = some (.ref oCONNECT) := (elem_in (own_eqR ev_oCONNECT hc19) ev_oBY (Term.int_eval _) AB.1).2
  have evn4 := own_eqI hc20
  have FL_oPUBACK_value : Fld s s.heap oPUBACK "com/example/headroom/headroom/io/PacketType" "value" "I" (.int (4 : Int32)) := Fld.start ((fld_at ev_oPUBACK).symm.trans evn4)
  have evn5 := own_eqI hc21
  have FL_oPUBACK_flags : Fld s s.heap oPUBACK "com/example/headroom/headroom/io/PacketType" "flags" "I" (.int (0 : Int32)) := Fld.start ((fld_at ev_oPUBACK).symm.trans evn5)
  have hel4 : clB.slots[4]? = some (.ref oPUBACK) := (elem_in (own_eqR ev_oPUBACK hc22) ev_oBY (Term.int_eval _) AB.1).2
  have evn6 := own_eqI hc23
  have FL_oPUBREL_value : Fld s s.heap oPUBREL "com/example/headroom/headroom/io/PacketType" "value" "I" (.int (6 : Int32)) := Fld.start ((fld_at ev_oPUBREL).symm.trans evn6)
  have evn7 := own_eqI hc24
  have FL_oPUBREL_flags : Fld s s.heap oPUBREL "com/example/headroom/headroom/io/PacketType" "flags" "I" (.int (2 : Int32)) := Fld.start ((fld_at ev_oPUBREL).symm.trans evn7)
  have hel6 : clB.slots[6]? = some (.ref oPUBREL) := (elem_in (own_eqR ev_oPUBREL hc25) ev_oBY (Term.int_eval _) AB.1).2
  have evn8 := own_eqI hc26
  have FL_oDISCONNECT_value : Fld s s.heap oDISCONNECT "com/example/headroom/headroom/io/PacketType" "value" "I" (.int (14 : Int32)) := Fld.start ((fld_at ev_oDISCONNECT).symm.trans evn8)
  have evn9 := own_eqI hc27
  have FL_oDISCONNECT_flags : Fld s s.heap oDISCONNECT "com/example/headroom/headroom/io/PacketType" "flags" "I" (.int (0 : Int32)) := Fld.start ((fld_at ev_oDISCONNECT).symm.trans evn9)
  have hel14 : clB.slots[14]? = some (.ref oDISCONNECT) := (elem_in (own_eqR ev_oDISCONNECT hc28) ev_oBY (Term.int_eval _) AB.1).2
  have evn10 := own_eqI hc29
  have FL_oPUBCOMP_value : Fld s s.heap oPUBCOMP "com/example/headroom/headroom/io/PacketType" "value" "I" (.int (7 : Int32)) := Fld.start ((fld_at ev_oPUBCOMP).symm.trans evn10)
  have evn11 := own_eqI hc30
  have FL_oPUBCOMP_flags : Fld s s.heap oPUBCOMP "com/example/headroom/headroom/io/PacketType" "flags" "I" (.int (0 : Int32)) := Fld.start ((fld_at ev_oPUBCOMP).symm.trans evn11)
  have hel7 : clB.slots[7]? = some (.ref oPUBCOMP) := (elem_in (own_eqR ev_oPUBCOMP hc31) ev_oBY (Term.int_eval _) AB.1).2
  have evn12 := own_eqI hc32
  have FL_oAUTH_value : Fld s s.heap oAUTH "com/example/headroom/headroom/io/PacketType" "value" "I" (.int (15 : Int32)) := Fld.start ((fld_at ev_oAUTH).symm.trans evn12)
  have evn13 := own_eqI hc33
  have FL_oAUTH_flags : Fld s s.heap oAUTH "com/example/headroom/headroom/io/PacketType" "flags" "I" (.int (0 : Int32)) := Fld.start ((fld_at ev_oAUTH).symm.trans evn13)
  have hel15 : clB.slots[15]? = some (.ref oAUTH) := (elem_in (own_eqR ev_oAUTH hc34) ev_oBY (Term.int_eval _) AB.1).2
  have evn14 := own_eqI hc35
  have FL_oSUBSCRIBE_value : Fld s s.heap oSUBSCRIBE "com/example/headroom/headroom/io/PacketType" "value" "I" (.int (8 : Int32)) := Fld.start ((fld_at ev_oSUBSCRIBE).symm.trans evn14)
  have evn15 := own_eqI hc36
  have FL_oSUBSCRIBE_flags : Fld s s.heap oSUBSCRIBE "com/example/headroom/headroom/io/PacketType" "flags" "I" (.int (2 : Int32)) := Fld.start ((fld_at ev_oSUBSCRIBE).symm.trans evn15)
  have hel8 : clB.slots[8]? = some (.ref oSUBSCRIBE) := (elem_in (own_eqR ev_oSUBSCRIBE hc37) ev_oBY (Term.int_eval _) AB.1).2
  have evn16 := own_eqI hc38
  have FL_oPUBLISH_value : Fld s s.heap oPUBLISH "com/example/headroom/headroom/io/PacketType" "value" "I" (.int (3 : Int32)) := Fld.start ((fld_at ev_oPUBLISH).symm.trans evn16)
  have evn17 := own_eqI hc39
  have FL_oPUBLISH_flags : Fld s s.heap oPUBLISH "com/example/headroom/headroom/io/PacketType" "flags" "I" (.int (-1 : Int32)) := Fld.start ((fld_at ev_oPUBLISH).symm.trans evn17)
  have hel3 : clB.slots[3]? = some (.ref oPUBLISH) := (elem_in (own_eqR ev_oPUBLISH hc40) ev_oBY (Term.int_eval _) AB.1).2
  have evn18 := own_eqI hc41
  have FL_oPINGREQ_value : Fld s s.heap oPINGREQ "com/example/headroom/headroom/io/PacketType" "value" "I" (.int (12 : Int32)) := Fld.start ((fld_at ev_oPINGREQ).symm.trans evn18)
  have evn19 := own_eqI hc42
  have FL_oPINGREQ_flags : Fld s s.heap oPINGREQ "com/example/headroom/headroom/io/PacketType" "flags" "I" (.int (0 : Int32)) := Fld.start ((fld_at ev_oPINGREQ).symm.trans evn19)
  have hel12 : clB.slots[12]? = some (.ref oPINGREQ) := (elem_in (own_eqR ev_oPINGREQ hc43) ev_oBY (Term.int_eval _) AB.1).2
  have evn20 := own_eqI hc44
  have FL_oUNSUBACK_value : Fld s s.heap oUNSUBACK "com/example/headroom/headroom/io/PacketType" "value" "I" (.int (11 : Int32)) := Fld.start ((fld_at ev_oUNSUBACK).symm.trans evn20)
  have evn21 := own_eqI hc45
  have FL_oUNSUBACK_flags : Fld s s.heap oUNSUBACK "com/example/headroom/headroom/io/PacketType" "flags" "I" (.int (0 : Int32)) := Fld.start ((fld_at ev_oUNSUBACK).symm.trans evn21)
  have hel11 : clB.slots[11]? = some (.ref oUNSUBACK) := (elem_in (own_eqR ev_oUNSUBACK hc46) ev_oBY (Term.int_eval _) AB.1).2
  have evn22 := own_eqI hc47
  have FL_oSUBACK_value : Fld s s.heap oSUBACK "com/example/headroom/headroom/io/PacketType" "value" "I" (.int (9 : Int32)) := Fld.start ((fld_at ev_oSUBACK).symm.trans evn22)
  have evn23 := own_eqI hc48
  have FL_oSUBACK_flags : Fld s s.heap oSUBACK "com/example/headroom/headroom/io/PacketType" "flags" "I" (.int (0 : Int32)) := Fld.start ((fld_at ev_oSUBACK).symm.trans evn23)
  have hel9 : clB.slots[9]? = some (.ref oSUBACK) := (elem_in (own_eqR ev_oSUBACK hc49) ev_oBY (Term.int_eval _) AB.1).2
  have evn24 := own_eqI hc50
  have FL_oCONNACK_value : Fld s s.heap oCONNACK "com/example/headroom/headroom/io/PacketType" "value" "I" (.int (2 : Int32)) := Fld.start ((fld_at ev_oCONNACK).symm.trans evn24)
  have evn25 := own_eqI hc51
  have FL_oCONNACK_flags : Fld s s.heap oCONNACK "com/example/headroom/headroom/io/PacketType" "flags" "I" (.int (0 : Int32)) := Fld.start ((fld_at ev_oCONNACK).symm.trans evn25)
  have hel2 : clB.slots[2]? = some (.ref oCONNACK) := (elem_in (own_eqR ev_oCONNACK hc52) ev_oBY (Term.int_eval _) AB.1).2
  have evn26 := own_eqI hc53
  have FL_oPINGRESP_value : Fld s s.heap oPINGRESP "com/example/headroom/headroom/io/PacketType" "value" "I" (.int (13 : Int32)) := Fld.start ((fld_at ev_oPINGRESP).symm.trans evn26)
  have evn27 := own_eqI hc54
  have FL_oPINGRESP_flags : Fld s s.heap oPINGRESP "com/example/headroom/headroom/io/PacketType" "flags" "I" (.int (0 : Int32)) := Fld.start ((fld_at ev_oPINGRESP).symm.trans evn27)
  have hel13 : clB.slots[13]? = some (.ref oPINGRESP) := (elem_in (own_eqR ev_oPINGRESP hc55) ev_oBY (Term.int_eval _) AB.1).2
  have evn28 := own_eqI hc56
  have FL_oPUBREC_value : Fld s s.heap oPUBREC "com/example/headroom/headroom/io/PacketType" "value" "I" (.int (5 : Int32)) := Fld.start ((fld_at ev_oPUBREC).symm.trans evn28)
  have evn29 := own_eqI hc57
  have FL_oPUBREC_flags : Fld s s.heap oPUBREC "com/example/headroom/headroom/io/PacketType" "flags" "I" (.int (0 : Int32)) := Fld.start ((fld_at ev_oPUBREC).symm.trans evn29)
  have hel5 : clB.slots[5]? = some (.ref oPUBREC) := (elem_in (own_eqR ev_oPUBREC hc58) ev_oBY (Term.int_eval _) AB.1).2
  have evn30 := own_eqI hc59
  have FL_oUNSUBSCRIBE_value : Fld s s.heap oUNSUBSCRIBE "com/example/headroom/headroom/io/PacketType" "value" "I" (.int (10 : Int32)) := Fld.start ((fld_at ev_oUNSUBSCRIBE).symm.trans evn30)
  have evn31 := own_eqI hc60
  have FL_oUNSUBSCRIBE_flags : Fld s s.heap oUNSUBSCRIBE "com/example/headroom/headroom/io/PacketType" "flags" "I" (.int (2 : Int32)) := Fld.start ((fld_at ev_oUNSUBSCRIBE).symm.trans evn31)
  have hel10 : clB.slots[10]? = some (.ref oUNSUBSCRIBE) := (elem_in (own_eqR ev_oUNSUBSCRIBE hc61) ev_oBY (Term.int_eval _) AB.1).2
  have evn32 := null_v hcr61
  have hel0 : clB.slots[0]? = some .null := (elem_in evn32 ev_oBY (Term.int_eval _) AB.1).2
  obtain ⟨hsz, hln⟩ := own_len ev_oBY (IntBox.arrayAt_of AB.1 AB.2.1 AB.2.2) evLen
  have VB : Arv s s.heap oBY clB.cls (.object "com/example/headroom/headroom/io/PacketType") (16 : Int32) [.null, (.ref oCONNECT), (.ref oCONNACK), (.ref oPUBLISH), (.ref oPUBACK), (.ref oPUBREC), (.ref oPUBREL), (.ref oPUBCOMP), (.ref oSUBSCRIBE), (.ref oSUBACK), (.ref oUNSUBSCRIBE), (.ref oUNSUBACK), (.ref oPINGREQ), (.ref oPINGRESP), (.ref oDISCONNECT), (.ref oAUTH)] .null := Arv.start hfit AB hsz hln (by decide) rfl ⟨hel0, hel1, hel2, hel3, hel4, hel5, hel6, hel7, hel8, hel9, hel10, hel11, hel12, hel13, hel14, hel15, trivial⟩
  obtain ⟨n, o, h1, h2, h3, _, L, rfl, ⟨rfl, N⟩, hq⟩ := rm0 l s _ hw tables_1 i0 oCONNECT oCONNACK oPUBLISH oPUBACK oPUBREC oPUBREL oPUBCOMP oSUBSCRIBE oSUBACK oUNSUBSCRIBE oUNSUBACK oPINGREQ oPINGRESP oDISCONNECT oAUTH oBY clB.cls s.heap s.heap.size (Nat.le_refl _) ST_CONNECT EX_oCONNECT ST_CONNACK EX_oCONNACK ST_PUBLISH EX_oPUBLISH ST_PUBACK EX_oPUBACK ST_PUBREC EX_oPUBREC ST_PUBREL EX_oPUBREL ST_PUBCOMP EX_oPUBCOMP ST_SUBSCRIBE EX_oSUBSCRIBE ST_SUBACK EX_oSUBACK ST_UNSUBSCRIBE EX_oUNSUBSCRIBE ST_UNSUBACK EX_oUNSUBACK ST_PINGREQ EX_oPINGREQ ST_PINGRESP EX_oPINGRESP ST_DISCONNECT EX_oDISCONNECT ST_AUTH EX_oAUTH FL_oCONNECT_value FL_oCONNECT_flags ST_BY_VALUE FL_oPUBACK_value FL_oPUBACK_flags FL_oPUBREL_value FL_oPUBREL_flags FL_oDISCONNECT_value FL_oDISCONNECT_flags FL_oPUBCOMP_value FL_oPUBCOMP_flags FL_oAUTH_value FL_oAUTH_flags FL_oSUBSCRIBE_value FL_oSUBSCRIBE_flags FL_oPUBLISH_value FL_oPUBLISH_flags FL_oPINGREQ_value FL_oPINGREQ_flags FL_oUNSUBACK_value FL_oUNSUBACK_flags FL_oSUBACK_value FL_oSUBACK_flags FL_oCONNACK_value FL_oCONNACK_flags FL_oPINGRESP_value FL_oPINGRESP_flags FL_oPUBREC_value FL_oPUBREC_flags FL_oUNSUBSCRIBE_value FL_oUNSUBSCRIBE_flags VB p e ha hc hk s m _ below hf ((Spec.applies_iff_loose hf).mp happ).1 ⟨rfl, State.Warmed39.refl s, rfl⟩ trivial
  refine ⟨n, _, h1, h2, h3, hpost _ _ _ _ _ _ ⟨Cond.after_iff.mpr rfl, Cond.after_iff.mpr (eq_i res_at (Term.int_eval (1)) rfl), trivial⟩ ⟨hq.1, hq.2.1, (hq.2.2.sift fun y hy => Or.inr (N y hy)).mono (by decide) (by decide)⟩⟩
theorem main_1_1 : Claimed_1_1 := comes_1 fun _ _ _ _ _ _ h hF => ⟨h.1, hF⟩
theorem main_1_2 : Claimed_1_2 := comes_1 fun _ _ _ _ _ _ h hF => ⟨h.2.1, hF⟩
end Jvm.Pilot.@@N@@
namespace Jvm.Pilot.@@N@@
open Jvm Jvm.ClassFile Sem Op Lib Jvm.Free Jvm.Stand Jvm.Pilot.@@N@@.Jvm.D
/-! MADE BY PROGRAM (witnessworld.py) out of the Statement's table words and the real class files: 13 classes; the members and pool entries that the words name. The judged class is class 1, her method 1. -/
namespace start1
open Jvm.ClassFile
def u (s : String) : CpInfo := .utf8 (stringToUtf16 s)
/-- a pool by its gaps: so many unusable entries, then the entry; so many at the end -/
def gap : Nat → List CpInfo → List CpInfo
  | 0, r => r
  | n + 1, r => .unusable :: gap n r
def poolList (es : List (Nat × CpInfo)) (last : Nat) : List CpInfo := es.foldr (fun e r => gap e.1 (e.2 :: r)) (gap last [])
def pool (es : List (Nat × CpInfo)) (last : Nat) : Array CpInfo := ⟨poolList es last⟩
def fileOf (pool : Array CpInfo) (this : Nat) (attrs : Array Attribute := #[]) (ms : Array MethodInfo := #[]) (fl : Nat := 33) (sup : Nat := 0) (ifs : Array Nat := #[]) (fds : Array FieldInfo := #[]) : ClassFile where
  minorVersion := 0
  majorVersion := 65
  constantPool := pool
  accessFlags := fl
  thisClass := this
  superClass := sup
  interfaces := ifs
  fields := fds
  methods := ms
  attributes := attrs
def plain (name : String) (sup : Option ClassId) : Class where
  name := name
  kind := .ordinary
  loader := none
  accessFlags := 33
  super := sup
  interfaces := #[]
  cf := none
  fields := #[]
  methods := #[]
  instanceTypes := #[]
  staticTypes := #[]
  resolved := #[]
  callSites := []
  init := .initialized
  statics := none
  mirror := none

def pool0 : Array CpInfo := pool [(5, u "<init>"), (0, u "()V"), (1, .class_ 10), (1, u "java/lang/Object")] 113

def k0m0 : Method := { name := "<init>", desc := "()V", sig := { parameters := [], returnType := none }, accessFlags := 1, code := none }
/-- java/lang/Object -/
def k0 : Class := { plain "java/lang/Object" none with
  accessFlags := 33
  interfaces := #[]
  cf := some (fileOf pool0 8 #[] #[{ accessFlags := 1, nameIndex := 5, descriptorIndex := 6, attributes := #[] }] 33 0 #[] #[])
  fields := #[]
  methods := #[k0m0]
  instanceTypes := #[]
  staticTypes := #[]
  resolved := Array.replicate 124 none
  statics := none }

def pool1 : Array CpInfo := pool [(2, .class_ 4), (1, u "java/lang/Object"), (0, u "<init>"), (0, u "()V"), (0, .class_ 8), (0, u "com/example/headroom/headroom/io/PacketType"), (0, .fieldref 7 10), (0, .nameAndType 11 12), (0, u "CONNECT"), (0, u "Lcom/example/headroom/headroom/io/PacketType;"), (0, .fieldref 7 14), (0, .nameAndType 15 12), (0, u "CONNACK"), (0, .fieldref 7 17), (0, .nameAndType 18 12), (0, u "PUBLISH"), (0, .fieldref 7 20), (0, .nameAndType 21 12), (0, u "PUBACK"), (0, .fieldref 7 23), (0, .nameAndType 24 12), (0, u "PUBREC"), (0, .fieldref 7 26), (0, .nameAndType 27 12), (0, u "PUBREL"), (0, .fieldref 7 29), (0, .nameAndType 30 12), (0, u "PUBCOMP"), (0, .fieldref 7 32), (0, .nameAndType 33 12), (0, u "SUBSCRIBE"), (0, .fieldref 7 35), (0, .nameAndType 36 12), (0, u "SUBACK"), (0, .fieldref 7 38), (0, .nameAndType 39 12), (0, u "UNSUBSCRIBE"), (0, .fieldref 7 41), (0, .nameAndType 42 12), (0, u "UNSUBACK"), (0, .fieldref 7 44), (0, .nameAndType 45 12), (0, u "PINGREQ"), (0, .fieldref 7 47), (0, .nameAndType 48 12), (0, u "PINGRESP"), (0, .fieldref 7 50), (0, .nameAndType 51 12), (0, u "DISCONNECT"), (0, .fieldref 7 53), (0, .nameAndType 54 12), (0, u "AUTH"), (0, .integer 2147483647), (0, .methodref 7 57), (0, .nameAndType 58 59), (0, u "firstByte"), (0, u "()I"), (0, .methodref 7 61), (0, .nameAndType 62 63), (0, u "of"), (0, u "(I)Lcom/example/headroom/headroom/io/PacketType;"), (0, .class_ 65), (0, u "com/example/headroom/headroom/io/PacketTypeFirstBytePinLaw"), (2, u "law"), (0, u "(I)Z")] 10

def k1m0 : Method := { name := "<init>", desc := "()V", sig := { parameters := [], returnType := none }, accessFlags := 1, code := none }
def k1c1 : Code := { maxStack := 4, maxLocals := 6, code := code, exceptionTable := #[], attributes := #[] }
def k1m1 : Method := { name := "law", desc := "(I)Z", sig := { parameters := [.int], returnType := some .boolean }, accessFlags := 9, code := some k1c1 }
/-- com/example/headroom/headroom/io/PacketTypeFirstBytePinLaw -/
def k1 : Class := { plain "com/example/headroom/headroom/io/PacketTypeFirstBytePinLaw" (some 0) with
  accessFlags := 49
  interfaces := #[]
  cf := some (fileOf pool1 64 #[] #[{ accessFlags := 1, nameIndex := 5, descriptorIndex := 6, attributes := #[] }, { accessFlags := 9, nameIndex := 68, descriptorIndex := 69, attributes := #[] }] 49 2 #[] #[])
  fields := #[]
  methods := #[k1m0, k1m1]
  instanceTypes := #[]
  staticTypes := #[]
  resolved := Array.replicate 80 none
  statics := none }

def pool2 : Array CpInfo := pool [(1, .class_ 2), (0, u "java/lang/constant/Constable"), (0, .class_ 4), (0, u "java/lang/Object")] 6

/-- java/lang/constant/Constable -/
def k2 : Class := { plain "java/lang/constant/Constable" (some 0) with
  accessFlags := 1537
  interfaces := #[]
  cf := some (fileOf pool2 1 #[] #[] 1537 3 #[] #[])
  fields := #[]
  methods := #[]
  instanceTypes := #[]
  staticTypes := #[]
  resolved := Array.replicate 11 none
  statics := none }

def pool3 : Array CpInfo := pool [(1, .class_ 2), (0, u "java/lang/Comparable"), (0, .class_ 4), (0, u "java/lang/Object")] 7

/-- java/lang/Comparable -/
def k3 : Class := { plain "java/lang/Comparable" (some 0) with
  accessFlags := 1537
  interfaces := #[]
  cf := some (fileOf pool3 1 #[] #[] 1537 3 #[] #[])
  fields := #[]
  methods := #[]
  instanceTypes := #[]
  staticTypes := #[]
  resolved := Array.replicate 12 none
  statics := none }

def pool4 : Array CpInfo := pool [(1, .class_ 2), (0, u "java/io/Serializable"), (0, .class_ 4), (0, u "java/lang/Object")] 2

/-- java/io/Serializable -/
def k4 : Class := { plain "java/io/Serializable" (some 0) with
  accessFlags := 1537
  interfaces := #[]
  cf := some (fileOf pool4 1 #[] #[] 1537 3 #[] #[])
  fields := #[]
  methods := #[]
  instanceTypes := #[]
  staticTypes := #[]
  resolved := Array.replicate 7 none
  statics := none }

def pool5 : Array CpInfo := pool [(2, .class_ 4), (1, u "java/lang/Enum"), (0, u "name"), (0, u "Ljava/lang/String;"), (2, u "ordinal"), (0, u "I"), (1, .class_ 14), (1, u "java/lang/Object"), (4, u "hash"), (86, .class_ 108), (1, u "java/lang/Enum$EnumDesc"), (2, .class_ 112), (0, u "java/lang/constant/Constable"), (0, .class_ 114), (0, u "java/lang/Comparable"), (0, .class_ 116), (0, u "java/io/Serializable")] 87

/-- java/lang/Enum -/
def k5 : Class := { plain "java/lang/Enum" (some 0) with
  accessFlags := 1057
  interfaces := #[2, 3, 4]
  cf := some (fileOf pool5 2 #[.nestMembers #[106]] #[] 1057 12 #[111, 113, 115] #[{ accessFlags := 18, nameIndex := 5, descriptorIndex := 6, attributes := #[] }, { accessFlags := 18, nameIndex := 9, descriptorIndex := 10, attributes := #[] }, { accessFlags := 2, nameIndex := 19, descriptorIndex := 10, attributes := #[] }])
  fields := #[{ name := "name", type := (.object "java/lang/String"), accessFlags := 18, slot := 0, constantValue := 0 }, { name := "ordinal", type := .int, accessFlags := 18, slot := 1, constantValue := 0 }, { name := "hash", type := .int, accessFlags := 2, slot := 2, constantValue := 0 }]
  methods := #[]
  instanceTypes := #[(.object "java/lang/String"), .int, .int]
  staticTypes := #[]
  resolved := Array.replicate 204 none
  statics := none }

def pool6 : Array CpInfo := pool [(1, .class_ 2), (0, u "com/example/headroom/headroom/io/PacketType"), (2, u "CONNECT"), (0, u "Lcom/example/headroom/headroom/io/PacketType;"), (2, u "CONNACK"), (2, u "PUBLISH"), (2, u "PUBACK"), (2, u "PUBREC"), (2, u "PUBREL"), (2, u "PUBCOMP"), (2, u "SUBSCRIBE"), (2, u "SUBACK"), (2, u "UNSUBSCRIBE"), (2, u "UNSUBACK"), (2, u "PINGREQ"), (2, u "PINGRESP"), (2, u "DISCONNECT"), (2, u "AUTH"), (2, u "$VALUES"), (0, u "[Lcom/example/headroom/headroom/io/PacketType;"), (6, .class_ 61), (1, u "java/lang/Enum"), (9, .fieldref 1 72), (0, .nameAndType 73 74), (0, u "value"), (0, u "I"), (0, .fieldref 1 76), (0, .nameAndType 77 74), (0, u "flags"), (0, .fieldref 1 79), (0, .nameAndType 80 52), (0, u "BY_VALUE"), (42, u "ANY_FLAGS"), (9, u "of"), (0, u "(I)Lcom/example/headroom/headroom/io/PacketType;"), (2, u "firstByte"), (0, u "()I")] 20

def k6c0 : Code := { maxStack := 4, maxLocals := 2, code := prog_30_method_5_code, exceptionTable := #[], attributes := #[] }
def k6m0 : Method := { name := "of", desc := "(I)Lcom/example/headroom/headroom/io/PacketType;", sig := { parameters := [.int], returnType := some (.object "com/example/headroom/headroom/io/PacketType") }, accessFlags := 9, code := some k6c0 }
def k6c1 : Code := { maxStack := 3, maxLocals := 1, code := prog_30_method_6_code, exceptionTable := #[], attributes := #[] }
def k6m1 : Method := { name := "firstByte", desc := "()I", sig := { parameters := [], returnType := some .int }, accessFlags := 1, code := some k6c1 }
/-- com/example/headroom/headroom/io/PacketType -/
def k6 : Class := { plain "com/example/headroom/headroom/io/PacketType" (some 5) with
  accessFlags := 16433
  interfaces := #[]
  cf := some (fileOf pool6 1 #[] #[{ accessFlags := 9, nameIndex := 133, descriptorIndex := 134, attributes := #[] }, { accessFlags := 1, nameIndex := 137, descriptorIndex := 138, attributes := #[] }] 16433 59 #[] #[{ accessFlags := 16409, nameIndex := 5, descriptorIndex := 6, attributes := #[] }, { accessFlags := 16409, nameIndex := 9, descriptorIndex := 6, attributes := #[] }, { accessFlags := 16409, nameIndex := 12, descriptorIndex := 6, attributes := #[] }, { accessFlags := 16409, nameIndex := 15, descriptorIndex := 6, attributes := #[] }, { accessFlags := 16409, nameIndex := 18, descriptorIndex := 6, attributes := #[] }, { accessFlags := 16409, nameIndex := 21, descriptorIndex := 6, attributes := #[] }, { accessFlags := 16409, nameIndex := 24, descriptorIndex := 6, attributes := #[] }, { accessFlags := 16409, nameIndex := 27, descriptorIndex := 6, attributes := #[] }, { accessFlags := 16409, nameIndex := 30, descriptorIndex := 6, attributes := #[] }, { accessFlags := 16409, nameIndex := 33, descriptorIndex := 6, attributes := #[] }, { accessFlags := 16409, nameIndex := 36, descriptorIndex := 6, attributes := #[] }, { accessFlags := 16409, nameIndex := 39, descriptorIndex := 6, attributes := #[] }, { accessFlags := 16409, nameIndex := 42, descriptorIndex := 6, attributes := #[] }, { accessFlags := 16409, nameIndex := 45, descriptorIndex := 6, attributes := #[] }, { accessFlags := 16409, nameIndex := 48, descriptorIndex := 6, attributes := #[] }, { accessFlags := 26, nameIndex := 123, descriptorIndex := 74, attributes := #[] }, { accessFlags := 26, nameIndex := 80, descriptorIndex := 52, attributes := #[] }, { accessFlags := 18, nameIndex := 73, descriptorIndex := 74, attributes := #[] }, { accessFlags := 18, nameIndex := 77, descriptorIndex := 74, attributes := #[] }, { accessFlags := 4122, nameIndex := 51, descriptorIndex := 52, attributes := #[] }])
  fields := #[{ name := "CONNECT", type := (.object "com/example/headroom/headroom/io/PacketType"), accessFlags := 16409, slot := 0, constantValue := 0 }, { name := "CONNACK", type := (.object "com/example/headroom/headroom/io/PacketType"), accessFlags := 16409, slot := 1, constantValue := 0 }, { name := "PUBLISH", type := (.object "com/example/headroom/headroom/io/PacketType"), accessFlags := 16409, slot := 2, constantValue := 0 }, { name := "PUBACK", type := (.object "com/example/headroom/headroom/io/PacketType"), accessFlags := 16409, slot := 3, constantValue := 0 }, { name := "PUBREC", type := (.object "com/example/headroom/headroom/io/PacketType"), accessFlags := 16409, slot := 4, constantValue := 0 }, { name := "PUBREL", type := (.object "com/example/headroom/headroom/io/PacketType"), accessFlags := 16409, slot := 5, constantValue := 0 }, { name := "PUBCOMP", type := (.object "com/example/headroom/headroom/io/PacketType"), accessFlags := 16409, slot := 6, constantValue := 0 }, { name := "SUBSCRIBE", type := (.object "com/example/headroom/headroom/io/PacketType"), accessFlags := 16409, slot := 7, constantValue := 0 }, { name := "SUBACK", type := (.object "com/example/headroom/headroom/io/PacketType"), accessFlags := 16409, slot := 8, constantValue := 0 }, { name := "UNSUBSCRIBE", type := (.object "com/example/headroom/headroom/io/PacketType"), accessFlags := 16409, slot := 9, constantValue := 0 }, { name := "UNSUBACK", type := (.object "com/example/headroom/headroom/io/PacketType"), accessFlags := 16409, slot := 10, constantValue := 0 }, { name := "PINGREQ", type := (.object "com/example/headroom/headroom/io/PacketType"), accessFlags := 16409, slot := 11, constantValue := 0 }, { name := "PINGRESP", type := (.object "com/example/headroom/headroom/io/PacketType"), accessFlags := 16409, slot := 12, constantValue := 0 }, { name := "DISCONNECT", type := (.object "com/example/headroom/headroom/io/PacketType"), accessFlags := 16409, slot := 13, constantValue := 0 }, { name := "AUTH", type := (.object "com/example/headroom/headroom/io/PacketType"), accessFlags := 16409, slot := 14, constantValue := 0 }, { name := "ANY_FLAGS", type := .int, accessFlags := 26, slot := 15, constantValue := 0 }, { name := "BY_VALUE", type := (.array (.object "com/example/headroom/headroom/io/PacketType")), accessFlags := 26, slot := 16, constantValue := 0 }, { name := "value", type := .int, accessFlags := 18, slot := 3, constantValue := 0 }, { name := "flags", type := .int, accessFlags := 18, slot := 4, constantValue := 0 }, { name := "$VALUES", type := (.array (.object "com/example/headroom/headroom/io/PacketType")), accessFlags := 4122, slot := 17, constantValue := 0 }]
  methods := #[k6m0, k6m1]
  instanceTypes := #[(.object "java/lang/String"), .int, .int, .int, .int]
  staticTypes := #[(.object "com/example/headroom/headroom/io/PacketType"), (.object "com/example/headroom/headroom/io/PacketType"), (.object "com/example/headroom/headroom/io/PacketType"), (.object "com/example/headroom/headroom/io/PacketType"), (.object "com/example/headroom/headroom/io/PacketType"), (.object "com/example/headroom/headroom/io/PacketType"), (.object "com/example/headroom/headroom/io/PacketType"), (.object "com/example/headroom/headroom/io/PacketType"), (.object "com/example/headroom/headroom/io/PacketType"), (.object "com/example/headroom/headroom/io/PacketType"), (.object "com/example/headroom/headroom/io/PacketType"), (.object "com/example/headroom/headroom/io/PacketType"), (.object "com/example/headroom/headroom/io/PacketType"), (.object "com/example/headroom/headroom/io/PacketType"), (.object "com/example/headroom/headroom/io/PacketType"), .int, (.array (.object "com/example/headroom/headroom/io/PacketType")), (.array (.object "com/example/headroom/headroom/io/PacketType"))]
  resolved := Array.replicate 159 none
  statics := some 0 }

def pool7 : Array CpInfo := pool [(1, u "java/lang/Cloneable"), (0, .class_ 1), (0, u "java/lang/Object"), (0, .class_ 3)] 3

/-- java/lang/Cloneable -/
def k7 : Class := { plain "java/lang/Cloneable" (some 0) with
  accessFlags := 1537
  interfaces := #[]
  cf := some (fileOf pool7 2 #[] #[] 1537 4 #[] #[])
  fields := #[]
  methods := #[]
  instanceTypes := #[]
  staticTypes := #[]
  resolved := Array.replicate 8 none
  statics := none }

/-- the primitive byte -/
def k8 : Class := { plain "byte" none with kind := .primitive 'B', accessFlags := 0x411 }
/-- [B -/
def k9 : Class := { plain "[B" (some 0) with kind := .array 8 .byte, interfaces := #[7, 4], accessFlags := 1041 }

/-- the primitive int -/
def k10 : Class := { plain "int" none with kind := .primitive 'I', accessFlags := 0x411 }
/-- [I -/
def k11 : Class := { plain "[I" (some 0) with kind := .array 10 .int, interfaces := #[7, 4], accessFlags := 1041 }

/-- [Lcom/example/headroom/headroom/io/PacketType; -/
def k12 : Class := { plain "[Lcom/example/headroom/headroom/io/PacketType;" (some 0) with kind := .array 6 (.object "com/example/headroom/headroom/io/PacketType"), interfaces := #[7, 4], accessFlags := 1041 }

def heap : Heap := #[{ cls := 6, slots := #[.ref 2, .ref 3, .ref 4, .ref 5, .ref 6, .ref 7, .ref 8, .ref 9, .ref 10, .ref 11, .ref 12, .ref 13, .ref 14, .ref 15, .ref 16, .int 0, .ref 1, .null], vm := .statics 6 },
  { cls := 12, slots := #[.null, .ref 2, .ref 3, .ref 4, .ref 5, .ref 6, .ref 7, .ref 8, .ref 9, .ref 10, .ref 11, .ref 12, .ref 13, .ref 14, .ref 15, .ref 16], vm := .none },
  { cls := 6, slots := #[.null, .int 0, .int 0, .int 1, .int (0)], vm := .none },
  { cls := 6, slots := #[.null, .int 1, .int 0, .int 2, .int (0)], vm := .none },
  { cls := 6, slots := #[.null, .int 2, .int 0, .int 3, .int (-1)], vm := .none },
  { cls := 6, slots := #[.null, .int 3, .int 0, .int 4, .int (0)], vm := .none },
  { cls := 6, slots := #[.null, .int 4, .int 0, .int 5, .int (0)], vm := .none },
  { cls := 6, slots := #[.null, .int 5, .int 0, .int 6, .int (2)], vm := .none },
  { cls := 6, slots := #[.null, .int 6, .int 0, .int 7, .int (0)], vm := .none },
  { cls := 6, slots := #[.null, .int 7, .int 0, .int 8, .int (2)], vm := .none },
  { cls := 6, slots := #[.null, .int 8, .int 0, .int 9, .int (0)], vm := .none },
  { cls := 6, slots := #[.null, .int 9, .int 0, .int 10, .int (2)], vm := .none },
  { cls := 6, slots := #[.null, .int 10, .int 0, .int 11, .int (0)], vm := .none },
  { cls := 6, slots := #[.null, .int 11, .int 0, .int 12, .int (0)], vm := .none },
  { cls := 6, slots := #[.null, .int 12, .int 0, .int 13, .int (0)], vm := .none },
  { cls := 6, slots := #[.null, .int 13, .int 0, .int 14, .int (0)], vm := .none },
  { cls := 6, slots := #[.null, .int 14, .int 0, .int 15, .int (0)], vm := .none }]
def classes : Array Class := #[k0, k1, k2, k3, k4, k5, k6, k7, k8, k9, k10, k11, k12]
def interned : List (Array UInt16 × Addr) := []
def slotsUsed : Nat := 109
def theMethod : MethodId := ⟨1, 1⟩
def args0 : Array Value := #[.int 5]
def aboutOver (below : List Frame) : State where
  vm := { classes := classes, interned := interned.toArray }
  heap := heap
  slotsUsed := slotsUsed
  threads := #[{ frames := .invoking theMethod args0 :: below }]
def below0 : List Frame := [.native { method := ⟨0, 0⟩, args := #[] }]
def about1 : State := aboutOver below0
def p0 : Program := .bare "" "" ""
def e0 : Env := launch0.env 0 0 0
theorem w_frames : about1.frames = Frame.invoking theMethod args0 :: below0 := rfl
set_option maxRecDepth 65536 in
theorem w_args : argsFit about1.vm theMethod args0 = true := by decide +kernel
set_option maxRecDepth 65536 in
theorem w_heap : heapFits about1 = true := by decide +kernel
set_option maxRecDepth 65536 in
theorem w_runnable : about1.curStatus? = some .runnable := by decide +kernel
set_option maxRecDepth 65536 in
theorem w_alone : about1.alone = true := by decide +kernel
set_option maxRecDepth 65536 in
theorem w_named : about1.methodNamed? x = some theMethod := by decide +kernel
set_option maxRecDepth 65536 in
theorem w_hears : about1.hears theMethod below0 = true := by decide +kernel
set_option maxRecDepth 65536 in
theorem w_ripe : about1.ripe theMethod args0 below0 = true := by decide +kernel
theorem w_running : about1.status = .running := rfl
set_option maxRecDepth 65536 in
theorem w_room : about1.hasRoom e0.platform room_1 = true :=
  launch0.hasRoom_least _ room_1 (by decide +kernel) (by decide +kernel) (by decide +kernel) (by decide +kernel) (by decide +kernel) (by decide +kernel)
theorem allAtoms_all (ts : List Jvm.Cond) (a : Array Jvm.Value) (st : Jvm.State) : (allAtoms ts).before a st = ts.all (fun c => c.before a st) := by
  induction ts with
  | nil => rfl
  | cons c t ih =>
    show (Jvm.Cond.and c (allAtoms t)).before a st = _
    rw [Jvm.Cond.before_and, ih, List.all_cons]
def words1 : List Jvm.Cond := Jvm.Cond.code x code maxLocals ret :: tables_1
/-- a 'code' word, met by the world's own term for the bytes: nothing is compared byte by byte -/
theorem code_word {y : MethodName} {bytes : ByteArray} {mx : Nat} {rt : Option FieldType} {a : Array Value} {s : State} {m : MethodId} {meth : Method} {c : Code} (h1 : s.methodNamed? y = some m) (h2 : s.vm.method? m = some meth) (h3 : meth.code = some c) (h4 : c.code = bytes)
    (h5 : (c.maxLocals == mx && c.exceptionTable.isEmpty && decide (c.maxStack ≤ mostOperands) && decide (meth.sig.returnType = rt) && !meth.locks && decide (parseMethodDescriptor y.desc = some meth.sig)) = true) : (Jvm.Cond.code y bytes mx rt).before a s = true := by
  simp only [Bool.and_eq_true, beq_iff_eq, Bool.not_eq_true', decide_eq_true_eq] at h5
  obtain ⟨⟨⟨⟨⟨g1, g2⟩, g3⟩, g4⟩, g5⟩, g6⟩ := h5
  simp [Cond.before, Cond.holds, Cond.value, h1, h2, h3, h4, g1, g2, g3, g4, g5, g6]
def isCode : Jvm.Cond → Bool
  | .code _ _ _ _ => true
  | _ => false
theorem all_split {L : List Jvm.Cond} {P : Jvm.Cond → Bool} (h1 : L.all (fun c => isCode c || P c) = true) (h2 : ∀ c ∈ L.filter isCode, P c = true) : L.all P = true := by
  refine List.all_eq_true.mpr fun c hc => ?_
  have h := List.all_eq_true.mp h1 c hc
  rcases Bool.eq_false_or_eq_true (isCode c) with hi | hi
  · exact h2 c (List.mem_filter.mpr ⟨hc, hi⟩)
  · simpa [hi] using h
set_option maxRecDepth 65536 in
theorem w_c0 : (Jvm.Cond.code x code maxLocals ret).before args0 about1 = true := code_word (m := ⟨1, 1⟩) (meth := k1m1) (c := k1c1) (by decide +kernel) rfl rfl rfl (by decide +kernel)
set_option maxRecDepth 65536 in
theorem w_c1 : (Jvm.Cond.code ({ cls := "com/example/headroom/headroom/io/PacketType", name := "firstByte", desc := "()I" } : Jvm.MethodName) prog_30_method_6_code (1 : Nat) (Option.some Jvm.ClassFile.FieldType.int)).before args0 about1 = true := code_word (m := ⟨6, 1⟩) (meth := k6m1) (c := k6c1) (by decide +kernel) rfl rfl rfl (by decide +kernel)
set_option maxRecDepth 65536 in
theorem w_c2 : (Jvm.Cond.code ({ cls := "com/example/headroom/headroom/io/PacketType", name := "of", desc := "(I)Lcom/example/headroom/headroom/io/PacketType;" } : Jvm.MethodName) prog_30_method_5_code (2 : Nat) (Option.some (Jvm.ClassFile.FieldType.object "com/example/headroom/headroom/io/PacketType"))).before args0 about1 = true := code_word (m := ⟨6, 0⟩) (meth := k6m0) (c := k6c0) (by decide +kernel) rfl rfl rfl (by decide +kernel)
def codes1 : List Jvm.Cond := [Jvm.Cond.code x code maxLocals ret, Jvm.Cond.code ({ cls := "com/example/headroom/headroom/io/PacketType", name := "firstByte", desc := "()I" } : Jvm.MethodName) prog_30_method_6_code (1 : Nat) (Option.some Jvm.ClassFile.FieldType.int), Jvm.Cond.code ({ cls := "com/example/headroom/headroom/io/PacketType", name := "of", desc := "(I)Lcom/example/headroom/headroom/io/PacketType;" } : Jvm.MethodName) prog_30_method_5_code (2 : Nat) (Option.some (Jvm.ClassFile.FieldType.object "com/example/headroom/headroom/io/PacketType"))]
set_option maxRecDepth 65536 in
theorem codes_eq : words1.filter isCode = codes1 := rfl
theorem w_codes : ∀ c ∈ words1.filter isCode, c.before args0 about1 = true := by
  rw [codes_eq]
  intro c hc
  simp only [codes1, List.mem_cons, List.not_mem_nil, or_false] at hc
  rcases hc with rfl | rfl | rfl
  · exact w_c0
  · exact w_c1
  · exact w_c2
set_option maxRecDepth 65536 in
theorem w_t1 : (words1.take 24).all (fun c => isCode c || c.before args0 about1) = true := by decide +kernel
set_option maxRecDepth 65536 in
theorem w_t2 : ((words1.drop 24).take 24).all (fun c => isCode c || c.before args0 about1) = true := by decide +kernel
set_option maxRecDepth 65536 in
theorem w_t3 : ((words1.drop 24).drop 24).all (fun c => isCode c || c.before args0 about1) = true := by decide +kernel
theorem w_tables : (allAtoms (Jvm.Cond.code x code maxLocals ret :: tables_1)).before args0 about1 = true := by
  rw [allAtoms_all]
  show words1.all (fun c => c.before args0 about1) = true
  refine all_split ?_ w_codes
  rw [← List.take_append_drop 24 words1, List.all_append, w_t1, ← List.take_append_drop 24 (words1.drop 24), List.all_append, w_t2, w_t3]
  rfl
set_option maxRecDepth 65536 in
theorem w_case : (Jvm.Cond.and given_1 narrow_1).before args0 about1 = true := by decide +kernel
theorem w_applies : (headSpec (Jvm.Cond.code x code maxLocals ret :: tables_1) room_1).applies x e0.platform about1 = true :=
  (Spec.applies_iff w_frames).mpr ⟨w_running, w_runnable, w_alone, w_named, w_hears, w_ripe, w_room, w_tables⟩
theorem atStart : AtStart classFile x code maxLocals ret World_1 tables_1 room_1 Calls_1 rest_1 Pre_1 launch0 p0 e0 about1 theMethod args0 below0 :=
  ⟨lists_1, trivial, launch0.admits_env _ _ _, launch0.least_env, fairChoices_fair.cas, fairChoices_fair.clock, w_frames, w_args, w_heap, w_applies, trivial, trivial, w_case⟩
end start1
theorem witness_1 : WitnessClaimed_1 := ⟨start1.p0, start1.e0, start1.about1, start1.theMethod, start1.args0, start1.below0, start1.atStart⟩
end Jvm.Pilot.@@N@@
