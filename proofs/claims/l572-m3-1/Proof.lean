import JvmDerived
import JvmDerived.Pilot.@@N@@Statement
import JvmDerived.Pilot.@@N@@Code
set_option linter.unusedVariables false
set_option linter.unusedSimpArgs false
namespace Jvm.RoadKit
open Sem ClassFile Op Lib Jvm.Stand Jvm.Free Jvm.LawKit
section New
variable {p : Program} {l : Launch} {e : Env} {R : Room} {s : State} {m : MethodId} {args : Array Value} {below : List Frame} {meth : Method} {c : Code} {T : State} {locs : List Loc} {cells slots : Nat}
theorem retI (X : Stand p l e R s m args below meth c T locs cells slots) (hx : p.tables.exec = Jvm.exec) {pc : Nat} {Ls : Array Slot} {z : Int32} {rest : List Value} (hret : meth.sig.returnType = some .int) (hd : decode c.code pc = .ok (.ireturn, 1)) {fs : List Frame}
    (hl : ∀ (f : JFrame) (acts : List Action), f.method = m → f.locked = none → f.entered = [] → (doReturn e (T.setTop f) acts (some (.int z))).1 = T.setFrames fs) : Steps p.tables e below (T.setTop (mkF m pc Ls (.int z :: rest))) (T.setFrames fs) := by
  have hm' : T.vm.method? m = some meth := X.method'
  have hn : narrow .int (.int z) = .int z := rfl
  show Steps p.tables e below (T.setTop { method := m, pc := pc, locals := Ls, stack := _ :: rest, locked := none }) _
  jvm_step X.here [X.here.top, hx, hd, hm', hret, hn]
  first | (intro acts; rw [hl _ acts rfl rfl rfl]) | rw [hl _ _ rfl rfl rfl]
  exact Steps.refl _
end New
end Jvm.RoadKit
@@BLOCK:NumsL.lean.txt@@
namespace Jvm.Pilot.@@N@@
open Jvm Jvm.ClassFile Sem Op Lib Jvm.Free Jvm.Stand Jvm.LawKit Jvm.RoadKit Bundle Jvm.Pilot.@@N@@.Jvm.D
abbrev own_S (p : Program) (e : Env) (below : List Frame) (T : State) (g : JFrame) (t : State) : Prop := Steps p.tables e below (T.setTop g) t
theorem own_ext {h h' : Heap} (K : Keep h h' []) : Ext h h' := ⟨K.1, fun a c q => K.2.1 a c q nin0⟩
theorem own_eqI {args : Array Value} {s : State} {t : Term} {n : Int32} (h : (Jvm.Cond.eq t (.int n)).value args s none s [] = some true) : t.eval args s none [] s = some (.int n) := by
  obtain ⟨x, y, h1, h2, h3, h4⟩ := cmp_v (Or.inl h)
  cases (Term.int_eval n (args := args) (s := s) (first := s) (o := none) (idx := [])).symm.trans h2
  obtain ⟨z, rfl⟩ : ∃ z, x = .int z := h4
  rw [h1]
  simp [Cond.value, h1, Term.eval] at h
  rw [h]
theorem own_eqJ {args : Array Value} {s : State} {t : Term} {n : Int64} (h : (Jvm.Cond.eq t (.long n)).value args s none s [] = some true) : t.eval args s none [] s = some (.long n) := by
  obtain ⟨x, y, h1, h2, h3, h4⟩ := cmp_v (Or.inl h)
  cases (long_at n (args := args) (s := s) (first := s) (o := none) (idx := [])).symm.trans h2
  obtain ⟨z, rfl⟩ : ∃ z, x = .long z := h4
  rw [h1]
  simp [Cond.value, h1, Term.eval] at h
  rw [h]
theorem own_eqR {args : Array Value} {s : State} {t u : Term} {x : Addr} (hu : u.eval args s none [] s = some (.ref x)) (h : (Jvm.Cond.eq t u).value args s none s [] = some true) : t.eval args s none [] s = some (.ref x) := by
  obtain ⟨z, y, h1, h2, h3, h4⟩ := cmp_v (Or.inl h)
  cases hu.symm.trans h2
  have hz : z.isRef = true := h4.2
  have e := gotT (eq_R h1 hu hz rfl) h
  rw [h1, e]
theorem own_wS {a0 : Array Value} {Z : State} (hw : ∀ d ∈ tables_1, d.before a0 Z = true) : ∀ a ∈ Bundle.stringAtoms, a.before a0 Z = true := by
  intro d hd
  simp only [Bundle.stringAtoms, Bundle.sN, List.mem_cons, List.not_mem_nil, or_false] at hd
  rcases hd with rfl | rfl | rfl | rfl | rfl | rfl | rfl
  · exact (hw _ (List.mem_of_getElem? (i := 5) rfl))
  · exact (hw _ (List.mem_of_getElem? (i := 6) rfl))
  · exact (hw _ (List.mem_of_getElem? (i := 7) rfl))
  · exact (hw _ (List.mem_of_getElem? (i := 8) rfl))
  · exact (hw _ (List.mem_of_getElem? (i := 9) rfl))
  · exact (hw _ (List.mem_of_getElem? (i := 10) rfl))
  · exact (hw _ (List.mem_of_getElem? (i := 11) rfl))

theorem d8_0 : decode jdk_52_method_21_code 0 = .ok (.iconst 0, 1) := by decide +kernel
theorem d8_1 : decode jdk_52_method_21_code 1 = .ok (.istore 5, 2) := by decide +kernel
theorem d8_3 : decode jdk_52_method_21_code 3 = .ok (.iload 5, 2) := by decide +kernel
theorem d8_5 : decode jdk_52_method_21_code 5 = .ok (.iload 4, 2) := by decide +kernel
theorem d8_7 : decode jdk_52_method_21_code 7 = .ok (.if_icmp .ge 37, 3) := by decide +kernel
theorem d8_10 : decode jdk_52_method_21_code 10 = .ok (.aload_n 0, 1) := by decide +kernel
theorem d8_11 : decode jdk_52_method_21_code 11 = .ok (.iload_n 1, 1) := by decide +kernel
theorem d8_12 : decode jdk_52_method_21_code 12 = .ok (.caload, 1) := by decide +kernel
theorem d8_13 : decode jdk_52_method_21_code 13 = .ok (.istore 6, 2) := by decide +kernel
theorem d8_15 : decode jdk_52_method_21_code 15 = .ok (.iload 6, 2) := by decide +kernel
theorem d8_17 : decode jdk_52_method_21_code 17 = .ok (.sipush 255, 3) := by decide +kernel
theorem d8_20 : decode jdk_52_method_21_code 20 = .ok (.if_icmp .le 6, 3) := by decide +kernel
theorem d8_26 : decode jdk_52_method_21_code 26 = .ok (.aload_n 2, 1) := by decide +kernel
theorem d8_27 : decode jdk_52_method_21_code 27 = .ok (.iload_n 3, 1) := by decide +kernel
theorem d8_28 : decode jdk_52_method_21_code 28 = .ok (.iload 6, 2) := by decide +kernel
theorem d8_30 : decode jdk_52_method_21_code 30 = .ok (.i2b, 1) := by decide +kernel
theorem d8_31 : decode jdk_52_method_21_code 31 = .ok (.bastore, 1) := by decide +kernel
theorem d8_32 : decode jdk_52_method_21_code 32 = .ok (.iinc 1 1, 3) := by decide +kernel
theorem d8_35 : decode jdk_52_method_21_code 35 = .ok (.iinc 3 1, 3) := by decide +kernel
theorem d8_38 : decode jdk_52_method_21_code 38 = .ok (.iinc 5 1, 3) := by decide +kernel
theorem d8_41 : decode jdk_52_method_21_code 41 = .ok (.goto (-38), 3) := by decide +kernel
theorem d8_44 : decode jdk_52_method_21_code 44 = .ok (.iload 4, 2) := by decide +kernel
theorem d8_46 : decode jdk_52_method_21_code 46 = .ok (.ireturn, 1) := by decide +kernel
theorem pn_8 : plainName "java/lang/StringUTF16" = true := by first | (simp [plainName, overriddenIn]; done) | decide +kernel
theorem ef_8_2 (m : MethodId) (r0 : Addr) (r2 : Addr) : entryFrame m #[(.ref r0), (.int (0 : Int32)), (.ref r2), (.int (0 : Int32)), (.int (2 : Int32))] 7 = mkF m 0 #[.val (.ref r0), .val (.int (0 : Int32)), .val (.ref r2), .val (.int (0 : Int32)), .val (.int (2 : Int32)), .unset, .unset] [] := by first | (simp [entryFrame, mkF, argsToLocals, Value.category]; done) | rfl
def Q8_2 (Z : State) (r0 : Addr) (r2 : Addr) (kC : ClassId) (kB : ClassId) (c0 : Int32) (c1 : Int32) (h0 : Heap) (n0 : Nat) (v : Option Value) (h : Heap) (L : List Loc) : Prop := v = some (.int (2 : Int32)) ∧ Fr n0 L ∧ Keep h0 h [r2] ∧ Arv Z h r2 kB .byte (2 : Int32) [(.int ((c0).toInt8.toInt32).toInt8.toInt32), (.int ((c1).toInt8.toInt32).toInt8.toInt32)] (.int (0 : Int32))
set_option maxRecDepth 65536 in
set_option maxHeartbeats 40000000 in
theorem rm8_2 (l : Launch) (Z : State) (a0 : Array Value) (hw : ∀ d ∈ tables_1, d.before a0 Z = true) (ws : List Jvm.Cond) (r0 : Addr) (r2 : Addr) (kC : ClassId) (kB : ClassId) (c0 : Int32) (c1 : Int32) (h0 : Heap) (n0 : Nat) (Z0 : n0 ≤ h0.size) (V_r0 : Arv Z h0 r0 kC .char (2 : Int32) [(.int c0), (.int c1)] (.int (0 : Int32))) (V_r2 : Arv Z h0 r2 kB .byte (2 : Int32) [(.int (0 : Int32)), (.int (0 : Int32))] (.int (0 : Int32))) (hne : r0 ≠ r2) (g_r2 : n0 ≤ r2) (hl0 : ¬ (255 : Int32) < c0) (hl1 : ¬ (255 : Int32) < c1) :
    MetFree l (⟨"java/lang/StringUTF16", "compress", "([CI[BII)I"⟩ : MethodName) (head1 (Jvm.Cond.code (⟨"java/lang/StringUTF16", "compress", "([CI[BII)I"⟩ : MethodName) jdk_52_method_21_code 7 (some .int) :: ws) ({ frames := 0, cells := 0, slots := 0, locals := 0 } : Room)) (fun a U => a = #[(.ref r0), (.int (0 : Int32)), (.ref r2), (.int (0 : Int32)), (.int (2 : Int32))] ∧ Z.Warmed39 U.vm ∧ U.heap = h0) (fun _ _ _ _ _ => True) (fun _ U o U' => ∃ v L, o = .returned v ∧ Q8_2 Z r0 r2 kC kB c0 c1 h0 n0 v U'.heap L ∧ FrameEnd U o U' L ({ frames := 0, cells := 0, slots := 0, locals := 0 } : Room).cells ({ frames := 0, cells := 0, slots := 0, locals := 0 } : Room).slots) := by
  refine MetFree.of_bodySF (plainFor_of_name pn_8) hisR ?_
  intro p e s m args below meth c s₁ Bd hml0 hP hK
  obtain ⟨rfl, hZ, hh⟩ := hP
  have hx := Bd.exec
  have hby := Bd.bytes
  have hml : c.maxLocals = 7 := hml0
  have hown : s.vm.findClass "java/lang/StringUTF16" = some m.cls := findClass_of_methodNamed Bd.named
  have hnm := (name_of_methodNamed Bd.named Bd.method).1
  have X0 : Stand p l e ({ frames := 0, cells := 0, slots := 0, locals := 0 } : Room) s m #[(.ref r0), (.int (0 : Int32)), (.ref r2), (.int (0 : Int32)), (.int (2 : Int32))] below meth c s₁ [] 0 0 := Stand.of_body Bd
  have e0 : s₁.heap = h0 := by rw [← hh, Bd.state]; rfl
  have N0 := Fr.nil n0
  have K0 : ∀ t, Steps p.tables e below (s₁.setTop (mkF m 0 #[.val (.ref r0), .val (.int (0 : Int32)), .val (.ref r2), .val (.int (0 : Int32)), .val (.int (2 : Int32)), .unset, .unset] [])) t → Steps p.tables e below (s₁.setTop (entryFrame m #[(.ref r0), (.int (0 : Int32)), (.ref r2), (.int (0 : Int32)), (.int (2 : Int32))] 7)) t := fun t k => castTop (ef_8_2 m r0 r2) k
  generalize s₁.setTop (entryFrame m #[(.ref r0), (.int (0 : Int32)), (.ref r2), (.int (0 : Int32)), (.int (2 : Int32))] 7) = SE at K0 ⊢
  have K1 : ∀ t, own_S p e below s₁ (mkF m 12 #[.val (.ref r0), .val (.int (0 : Int32)), .val (.ref r2), .val (.int (0 : Int32)), .val (.int (2 : Int32)), .val (.int (0 : Int32)), .unset] [(.int (0 : Int32)), (.ref r0)]) t → Steps p.tables e below SE t := by
    intro t k
    refine K0 _ ?_
    refine XS.iconst X0.here hx rfl (hb hby d8_0) ?_
    show own_S p e below s₁ (mkF m 1 #[.val (.ref r0), .val (.int (0 : Int32)), .val (.ref r2), .val (.int (0 : Int32)), .val (.int (2 : Int32)), .unset, .unset] [(.int (0 : Int32))]) _
    refine XS.istore X0.here hx rfl (hb hby d8_1) rfl (l' := #[.val (.ref r0), .val (.int (0 : Int32)), .val (.ref r2), .val (.int (0 : Int32)), .val (.int (2 : Int32)), .val (.int (0 : Int32)), .unset]) rfl ?_
    show own_S p e below s₁ (mkF m 3 #[.val (.ref r0), .val (.int (0 : Int32)), .val (.ref r2), .val (.int (0 : Int32)), .val (.int (2 : Int32)), .val (.int (0 : Int32)), .unset] []) _
    refine XS.iload X0.here hx rfl (hb hby d8_3) rfl ?_
    show own_S p e below s₁ (mkF m 5 #[.val (.ref r0), .val (.int (0 : Int32)), .val (.ref r2), .val (.int (0 : Int32)), .val (.int (2 : Int32)), .val (.int (0 : Int32)), .unset] [(.int (0 : Int32))]) _
    refine XS.iload X0.here hx rfl (hb hby d8_5) rfl ?_
    show own_S p e below s₁ (mkF m 7 #[.val (.ref r0), .val (.int (0 : Int32)), .val (.ref r2), .val (.int (0 : Int32)), .val (.int (2 : Int32)), .val (.int (0 : Int32)), .unset] [(.int (2 : Int32)), (.int (0 : Int32))]) _
    refine XS.icmpNo X0.here hx rfl (hb hby d8_7) rfl (XT.ii_ge_f (by decide : (0 : Int32) < (2 : Int32))) ?_
    show own_S p e below s₁ (mkF m 10 #[.val (.ref r0), .val (.int (0 : Int32)), .val (.ref r2), .val (.int (0 : Int32)), .val (.int (2 : Int32)), .val (.int (0 : Int32)), .unset] []) _
    refine XS.aloadN X0.here hx rfl (hb hby d8_10) rfl rfl ?_
    show own_S p e below s₁ (mkF m 11 #[.val (.ref r0), .val (.int (0 : Int32)), .val (.ref r2), .val (.int (0 : Int32)), .val (.int (2 : Int32)), .val (.int (0 : Int32)), .unset] [(.ref r0)]) _
    refine XS.iloadN X0.here hx rfl (hb hby d8_11) rfl ?_
    exact k
  obtain ⟨cl2, Ar2, qk2, S2, Ng2, Hh2, Gg2⟩ := id V_r0
  have hin2 : ¬ ((0 : Int32) < 0 ∨ cl2.slots.size ≤ ((0 : Int32)).toNatClampNeg) := inb_of S2 ⟨by decide, by decide⟩
  have hat2 : cl2.slots[((0 : Int32)).toNatClampNeg]? = some (.int c0) := Has.at Hh2 hin2 rfl
  have K3 : ∀ t, own_S p e below s₁ (mkF m 31 #[.val (.ref r0), .val (.int (0 : Int32)), .val (.ref r2), .val (.int (0 : Int32)), .val (.int (2 : Int32)), .val (.int (0 : Int32)), .val (.int c0)] [(.int ((c0).toInt8.toInt32)), (.int (0 : Int32)), (.ref r2)]) t → Steps p.tables e below SE t := by
    intro t k
    refine K1 _ ?_
    refine X0.caload hx (j := (0 : Int32)) (v := (.int c0)) (by rw [e0]; exact Ar2.1) (State.isArrayOf_alike hZ.alike Ar2.2.1) Ar2.2.2 hin2 hat2 (g := (mkF m 12 #[.val (.ref r0), .val (.int (0 : Int32)), .val (.ref r2), .val (.int (0 : Int32)), .val (.int (2 : Int32)), .val (.int (0 : Int32)), .unset] [(.int (0 : Int32)), (.ref r0)])) rfl rfl (hb hby d8_12) _ ?_
    show own_S p e below s₁ (mkF m 13 #[.val (.ref r0), .val (.int (0 : Int32)), .val (.ref r2), .val (.int (0 : Int32)), .val (.int (2 : Int32)), .val (.int (0 : Int32)), .unset] [(.int c0)]) _
    refine XS.istore X0.here hx rfl (hb hby d8_13) rfl (l' := #[.val (.ref r0), .val (.int (0 : Int32)), .val (.ref r2), .val (.int (0 : Int32)), .val (.int (2 : Int32)), .val (.int (0 : Int32)), .val (.int c0)]) rfl ?_
    show own_S p e below s₁ (mkF m 15 #[.val (.ref r0), .val (.int (0 : Int32)), .val (.ref r2), .val (.int (0 : Int32)), .val (.int (2 : Int32)), .val (.int (0 : Int32)), .val (.int c0)] []) _
    refine XS.iload X0.here hx rfl (hb hby d8_15) rfl ?_
    show own_S p e below s₁ (mkF m 17 #[.val (.ref r0), .val (.int (0 : Int32)), .val (.ref r2), .val (.int (0 : Int32)), .val (.int (2 : Int32)), .val (.int (0 : Int32)), .val (.int c0)] [(.int c0)]) _
    refine XS.sipush X0.here hx rfl (hb hby d8_17) ?_
    show own_S p e below s₁ (mkF m 20 #[.val (.ref r0), .val (.int (0 : Int32)), .val (.ref r2), .val (.int (0 : Int32)), .val (.int (2 : Int32)), .val (.int (0 : Int32)), .val (.int c0)] [(.int (255 : Int32)), (.int c0)]) _
    refine XS.icmpYes X0.here hx rfl (pc0 := 20) (pc' := 26) rfl (hb hby d8_20) rfl (XT.ii_le_t hl0) (by decide) (by decide) ?_
    show own_S p e below s₁ (mkF m 26 #[.val (.ref r0), .val (.int (0 : Int32)), .val (.ref r2), .val (.int (0 : Int32)), .val (.int (2 : Int32)), .val (.int (0 : Int32)), .val (.int c0)] []) _
    refine XS.aloadN X0.here hx rfl (hb hby d8_26) rfl rfl ?_
    show own_S p e below s₁ (mkF m 27 #[.val (.ref r0), .val (.int (0 : Int32)), .val (.ref r2), .val (.int (0 : Int32)), .val (.int (2 : Int32)), .val (.int (0 : Int32)), .val (.int c0)] [(.ref r2)]) _
    refine XS.iloadN X0.here hx rfl (hb hby d8_27) rfl ?_
    show own_S p e below s₁ (mkF m 28 #[.val (.ref r0), .val (.int (0 : Int32)), .val (.ref r2), .val (.int (0 : Int32)), .val (.int (2 : Int32)), .val (.int (0 : Int32)), .val (.int c0)] [(.int (0 : Int32)), (.ref r2)]) _
    refine XS.iload X0.here hx rfl (hb hby d8_28) rfl ?_
    show own_S p e below s₁ (mkF m 30 #[.val (.ref r0), .val (.int (0 : Int32)), .val (.ref r2), .val (.int (0 : Int32)), .val (.int (2 : Int32)), .val (.int (0 : Int32)), .val (.int c0)] [(.int c0), (.int (0 : Int32)), (.ref r2)]) _
    refine XS.i2b X0.here hx rfl (hb hby d8_30) rfl ?_
    exact k
  obtain ⟨cl4, Ar4, qk4, S4, Ng4, Hh4, Gg4⟩ := id V_r2
  have hin4 : ¬ ((0 : Int32) < 0 ∨ cl4.slots.size ≤ ((0 : Int32)).toNatClampNeg) := inb_of S4 ⟨by decide, by decide⟩
  obtain ⟨T5, h5, X5, e5, W5, st5⟩ := stB X0 hx hZ e0 Ar4 (j := (0 : Int32)) hin4 (g := (mkF m 31 #[.val (.ref r0), .val (.int (0 : Int32)), .val (.ref r2), .val (.int (0 : Int32)), .val (.int (2 : Int32)), .val (.int (0 : Int32)), .val (.int c0)] [(.int ((c0).toInt8.toInt32)), (.int (0 : Int32)), (.ref r2)])) rfl rfl (hb hby d8_31)
  have V5 : Arv Z h5 r2 kB .byte (2 : Int32) [(.int (((c0).toInt8.toInt32)).toInt8.toInt32), (.int (0 : Int32))] (.int (0 : Int32)) := Arv.set Ar4 qk4 S4 Ng4 Hh4 Gg4 (fits_nar_byte _) W5 0 rfl (Nat.le_of_ble_eq_true rfl)
  have N5 := Fr.snoc X5 N0 g_r2
  have Kp5 : Keep h0 h5 [r2] := Keep.wr (Keep.refl h0 [r2]) W5 (Or.inl (List.mem_of_getElem? (i := 0) rfl))
  have K5 : ∀ t, own_S p e below T5 (mkF m 32 #[.val (.ref r0), .val (.int (0 : Int32)), .val (.ref r2), .val (.int (0 : Int32)), .val (.int (2 : Int32)), .val (.int (0 : Int32)), .val (.int c0)] []) t → Steps p.tables e below SE t := fun t k => K3 _ (st5 _ k)
  have K6 : ∀ t, own_S p e below T5 (mkF m 12 #[.val (.ref r0), .val (.int (1 : Int32)), .val (.ref r2), .val (.int (1 : Int32)), .val (.int (2 : Int32)), .val (.int (1 : Int32)), .val (.int c0)] [(.int (1 : Int32)), (.ref r0)]) t → Steps p.tables e below SE t := by
    intro t k
    refine K5 _ ?_
    refine XS.iinc X5.here hx rfl (hb hby d8_32) rfl (l' := #[.val (.ref r0), .val (.int (1 : Int32)), .val (.ref r2), .val (.int (0 : Int32)), .val (.int (2 : Int32)), .val (.int (0 : Int32)), .val (.int c0)]) rfl ?_
    show own_S p e below T5 (mkF m 35 #[.val (.ref r0), .val (.int (1 : Int32)), .val (.ref r2), .val (.int (0 : Int32)), .val (.int (2 : Int32)), .val (.int (0 : Int32)), .val (.int c0)] []) _
    refine XS.iinc X5.here hx rfl (hb hby d8_35) rfl (l' := #[.val (.ref r0), .val (.int (1 : Int32)), .val (.ref r2), .val (.int (1 : Int32)), .val (.int (2 : Int32)), .val (.int (0 : Int32)), .val (.int c0)]) rfl ?_
    show own_S p e below T5 (mkF m 38 #[.val (.ref r0), .val (.int (1 : Int32)), .val (.ref r2), .val (.int (1 : Int32)), .val (.int (2 : Int32)), .val (.int (0 : Int32)), .val (.int c0)] []) _
    refine XS.iinc X5.here hx rfl (hb hby d8_38) rfl (l' := #[.val (.ref r0), .val (.int (1 : Int32)), .val (.ref r2), .val (.int (1 : Int32)), .val (.int (2 : Int32)), .val (.int (1 : Int32)), .val (.int c0)]) rfl ?_
    show own_S p e below T5 (mkF m 41 #[.val (.ref r0), .val (.int (1 : Int32)), .val (.ref r2), .val (.int (1 : Int32)), .val (.int (2 : Int32)), .val (.int (1 : Int32)), .val (.int c0)] []) _
    refine XS.goto X5.here hx rfl (pc0 := 41) (pc' := 3) rfl (hb hby d8_41) (by decide) (by decide) ?_
    show own_S p e below T5 (mkF m 3 #[.val (.ref r0), .val (.int (1 : Int32)), .val (.ref r2), .val (.int (1 : Int32)), .val (.int (2 : Int32)), .val (.int (1 : Int32)), .val (.int c0)] []) _
    refine XS.iload X5.here hx rfl (hb hby d8_3) rfl ?_
    show own_S p e below T5 (mkF m 5 #[.val (.ref r0), .val (.int (1 : Int32)), .val (.ref r2), .val (.int (1 : Int32)), .val (.int (2 : Int32)), .val (.int (1 : Int32)), .val (.int c0)] [(.int (1 : Int32))]) _
    refine XS.iload X5.here hx rfl (hb hby d8_5) rfl ?_
    show own_S p e below T5 (mkF m 7 #[.val (.ref r0), .val (.int (1 : Int32)), .val (.ref r2), .val (.int (1 : Int32)), .val (.int (2 : Int32)), .val (.int (1 : Int32)), .val (.int c0)] [(.int (2 : Int32)), (.int (1 : Int32))]) _
    refine XS.icmpNo X5.here hx rfl (hb hby d8_7) rfl (XT.ii_ge_f (by decide : (1 : Int32) < (2 : Int32))) ?_
    show own_S p e below T5 (mkF m 10 #[.val (.ref r0), .val (.int (1 : Int32)), .val (.ref r2), .val (.int (1 : Int32)), .val (.int (2 : Int32)), .val (.int (1 : Int32)), .val (.int c0)] []) _
    refine XS.aloadN X5.here hx rfl (hb hby d8_10) rfl rfl ?_
    show own_S p e below T5 (mkF m 11 #[.val (.ref r0), .val (.int (1 : Int32)), .val (.ref r2), .val (.int (1 : Int32)), .val (.int (2 : Int32)), .val (.int (1 : Int32)), .val (.int c0)] [(.ref r0)]) _
    refine XS.iloadN X5.here hx rfl (hb hby d8_11) rfl ?_
    exact k
  obtain ⟨cl7, Ar7, qk7, S7, Ng7, Hh7, Gg7⟩ := id (V_r0.other W5 hne)
  have hin7 : ¬ ((1 : Int32) < 0 ∨ cl7.slots.size ≤ ((1 : Int32)).toNatClampNeg) := inb_of S7 ⟨by decide, by decide⟩
  have hat7 : cl7.slots[((1 : Int32)).toNatClampNeg]? = some (.int c1) := Has.at Hh7 hin7 rfl
  have K8 : ∀ t, own_S p e below T5 (mkF m 31 #[.val (.ref r0), .val (.int (1 : Int32)), .val (.ref r2), .val (.int (1 : Int32)), .val (.int (2 : Int32)), .val (.int (1 : Int32)), .val (.int c1)] [(.int ((c1).toInt8.toInt32)), (.int (1 : Int32)), (.ref r2)]) t → Steps p.tables e below SE t := by
    intro t k
    refine K6 _ ?_
    refine X5.caload hx (j := (1 : Int32)) (v := (.int c1)) (by rw [e5]; exact Ar7.1) (State.isArrayOf_alike hZ.alike Ar7.2.1) Ar7.2.2 hin7 hat7 (g := (mkF m 12 #[.val (.ref r0), .val (.int (1 : Int32)), .val (.ref r2), .val (.int (1 : Int32)), .val (.int (2 : Int32)), .val (.int (1 : Int32)), .val (.int c0)] [(.int (1 : Int32)), (.ref r0)])) rfl rfl (hb hby d8_12) _ ?_
    show own_S p e below T5 (mkF m 13 #[.val (.ref r0), .val (.int (1 : Int32)), .val (.ref r2), .val (.int (1 : Int32)), .val (.int (2 : Int32)), .val (.int (1 : Int32)), .val (.int c0)] [(.int c1)]) _
    refine XS.istore X5.here hx rfl (hb hby d8_13) rfl (l' := #[.val (.ref r0), .val (.int (1 : Int32)), .val (.ref r2), .val (.int (1 : Int32)), .val (.int (2 : Int32)), .val (.int (1 : Int32)), .val (.int c1)]) rfl ?_
    show own_S p e below T5 (mkF m 15 #[.val (.ref r0), .val (.int (1 : Int32)), .val (.ref r2), .val (.int (1 : Int32)), .val (.int (2 : Int32)), .val (.int (1 : Int32)), .val (.int c1)] []) _
    refine XS.iload X5.here hx rfl (hb hby d8_15) rfl ?_
    show own_S p e below T5 (mkF m 17 #[.val (.ref r0), .val (.int (1 : Int32)), .val (.ref r2), .val (.int (1 : Int32)), .val (.int (2 : Int32)), .val (.int (1 : Int32)), .val (.int c1)] [(.int c1)]) _
    refine XS.sipush X5.here hx rfl (hb hby d8_17) ?_
    show own_S p e below T5 (mkF m 20 #[.val (.ref r0), .val (.int (1 : Int32)), .val (.ref r2), .val (.int (1 : Int32)), .val (.int (2 : Int32)), .val (.int (1 : Int32)), .val (.int c1)] [(.int (255 : Int32)), (.int c1)]) _
    refine XS.icmpYes X5.here hx rfl (pc0 := 20) (pc' := 26) rfl (hb hby d8_20) rfl (XT.ii_le_t hl1) (by decide) (by decide) ?_
    show own_S p e below T5 (mkF m 26 #[.val (.ref r0), .val (.int (1 : Int32)), .val (.ref r2), .val (.int (1 : Int32)), .val (.int (2 : Int32)), .val (.int (1 : Int32)), .val (.int c1)] []) _
    refine XS.aloadN X5.here hx rfl (hb hby d8_26) rfl rfl ?_
    show own_S p e below T5 (mkF m 27 #[.val (.ref r0), .val (.int (1 : Int32)), .val (.ref r2), .val (.int (1 : Int32)), .val (.int (2 : Int32)), .val (.int (1 : Int32)), .val (.int c1)] [(.ref r2)]) _
    refine XS.iloadN X5.here hx rfl (hb hby d8_27) rfl ?_
    show own_S p e below T5 (mkF m 28 #[.val (.ref r0), .val (.int (1 : Int32)), .val (.ref r2), .val (.int (1 : Int32)), .val (.int (2 : Int32)), .val (.int (1 : Int32)), .val (.int c1)] [(.int (1 : Int32)), (.ref r2)]) _
    refine XS.iload X5.here hx rfl (hb hby d8_28) rfl ?_
    show own_S p e below T5 (mkF m 30 #[.val (.ref r0), .val (.int (1 : Int32)), .val (.ref r2), .val (.int (1 : Int32)), .val (.int (2 : Int32)), .val (.int (1 : Int32)), .val (.int c1)] [(.int c1), (.int (1 : Int32)), (.ref r2)]) _
    refine XS.i2b X5.here hx rfl (hb hby d8_30) rfl ?_
    exact k
  obtain ⟨cl9, Ar9, qk9, S9, Ng9, Hh9, Gg9⟩ := id V5
  have hin9 : ¬ ((1 : Int32) < 0 ∨ cl9.slots.size ≤ ((1 : Int32)).toNatClampNeg) := inb_of S9 ⟨by decide, by decide⟩
  obtain ⟨T10, h10, X10, e10, W10, st10⟩ := stB X5 hx hZ e5 Ar9 (j := (1 : Int32)) hin9 (g := (mkF m 31 #[.val (.ref r0), .val (.int (1 : Int32)), .val (.ref r2), .val (.int (1 : Int32)), .val (.int (2 : Int32)), .val (.int (1 : Int32)), .val (.int c1)] [(.int ((c1).toInt8.toInt32)), (.int (1 : Int32)), (.ref r2)])) rfl rfl (hb hby d8_31)
  have V10 : Arv Z h10 r2 kB .byte (2 : Int32) [(.int (((c0).toInt8.toInt32)).toInt8.toInt32), (.int (((c1).toInt8.toInt32)).toInt8.toInt32)] (.int (0 : Int32)) := Arv.set Ar9 qk9 S9 Ng9 Hh9 Gg9 (fits_nar_byte _) W10 1 rfl (Nat.le_of_ble_eq_true rfl)
  have N10 := Fr.snoc X10 N5 g_r2
  have Kp10 : Keep h0 h10 [r2] := Keep.wr Kp5 W10 (Or.inl (List.mem_of_getElem? (i := 0) rfl))
  have K10 : ∀ t, own_S p e below T10 (mkF m 32 #[.val (.ref r0), .val (.int (1 : Int32)), .val (.ref r2), .val (.int (1 : Int32)), .val (.int (2 : Int32)), .val (.int (1 : Int32)), .val (.int c1)] []) t → Steps p.tables e below SE t := fun t k => K8 _ (st10 _ k)
  have K11 : ∀ t, own_S p e below T10 (mkF m 46 #[.val (.ref r0), .val (.int (2 : Int32)), .val (.ref r2), .val (.int (2 : Int32)), .val (.int (2 : Int32)), .val (.int (2 : Int32)), .val (.int c1)] [(.int (2 : Int32))]) t → Steps p.tables e below SE t := by
    intro t k
    refine K10 _ ?_
    refine XS.iinc X10.here hx rfl (hb hby d8_32) rfl (l' := #[.val (.ref r0), .val (.int (2 : Int32)), .val (.ref r2), .val (.int (1 : Int32)), .val (.int (2 : Int32)), .val (.int (1 : Int32)), .val (.int c1)]) rfl ?_
    show own_S p e below T10 (mkF m 35 #[.val (.ref r0), .val (.int (2 : Int32)), .val (.ref r2), .val (.int (1 : Int32)), .val (.int (2 : Int32)), .val (.int (1 : Int32)), .val (.int c1)] []) _
    refine XS.iinc X10.here hx rfl (hb hby d8_35) rfl (l' := #[.val (.ref r0), .val (.int (2 : Int32)), .val (.ref r2), .val (.int (2 : Int32)), .val (.int (2 : Int32)), .val (.int (1 : Int32)), .val (.int c1)]) rfl ?_
    show own_S p e below T10 (mkF m 38 #[.val (.ref r0), .val (.int (2 : Int32)), .val (.ref r2), .val (.int (2 : Int32)), .val (.int (2 : Int32)), .val (.int (1 : Int32)), .val (.int c1)] []) _
    refine XS.iinc X10.here hx rfl (hb hby d8_38) rfl (l' := #[.val (.ref r0), .val (.int (2 : Int32)), .val (.ref r2), .val (.int (2 : Int32)), .val (.int (2 : Int32)), .val (.int (2 : Int32)), .val (.int c1)]) rfl ?_
    show own_S p e below T10 (mkF m 41 #[.val (.ref r0), .val (.int (2 : Int32)), .val (.ref r2), .val (.int (2 : Int32)), .val (.int (2 : Int32)), .val (.int (2 : Int32)), .val (.int c1)] []) _
    refine XS.goto X10.here hx rfl (pc0 := 41) (pc' := 3) rfl (hb hby d8_41) (by decide) (by decide) ?_
    show own_S p e below T10 (mkF m 3 #[.val (.ref r0), .val (.int (2 : Int32)), .val (.ref r2), .val (.int (2 : Int32)), .val (.int (2 : Int32)), .val (.int (2 : Int32)), .val (.int c1)] []) _
    refine XS.iload X10.here hx rfl (hb hby d8_3) rfl ?_
    show own_S p e below T10 (mkF m 5 #[.val (.ref r0), .val (.int (2 : Int32)), .val (.ref r2), .val (.int (2 : Int32)), .val (.int (2 : Int32)), .val (.int (2 : Int32)), .val (.int c1)] [(.int (2 : Int32))]) _
    refine XS.iload X10.here hx rfl (hb hby d8_5) rfl ?_
    show own_S p e below T10 (mkF m 7 #[.val (.ref r0), .val (.int (2 : Int32)), .val (.ref r2), .val (.int (2 : Int32)), .val (.int (2 : Int32)), .val (.int (2 : Int32)), .val (.int c1)] [(.int (2 : Int32)), (.int (2 : Int32))]) _
    refine XS.icmpYes X10.here hx rfl (pc0 := 7) (pc' := 44) rfl (hb hby d8_7) rfl (XT.ii_ge_t (by decide : ¬ ((2 : Int32) < (2 : Int32)))) (by decide) (by decide) ?_
    show own_S p e below T10 (mkF m 44 #[.val (.ref r0), .val (.int (2 : Int32)), .val (.ref r2), .val (.int (2 : Int32)), .val (.int (2 : Int32)), .val (.int (2 : Int32)), .val (.int c1)] []) _
    refine XS.iload X10.here hx rfl (hb hby d8_44) rfl ?_
    exact k
  obtain ⟨fs, hr, hrun, hended, hW, hsame⟩ := X10.leave (v := some (.int (2 : Int32))) (fun h => by rw [Bd.returns] at h; cases h)
  refine ⟨_, _, K11 _ ?_, hrun, hended, _, _, rfl, ?_, ⟨_, rfl⟩, hW, hsame.mono (by decide) (by decide)⟩
  · exact retI X10 hx Bd.returns (hb hby d8_46) hr
  · show Q8_2 Z r0 r2 kC kB c0 c1 h0 n0 _ T10.heap _
    rw [e10]
    exact ⟨rfl, N10, Kp10, V10⟩
theorem d7_0 : decode jdk_52_method_16_code 0 = .ok (.iload_n 2, 1) := by decide +kernel
theorem d7_1 : decode jdk_52_method_16_code 1 = .ok (.newarray .byte, 2) := by decide +kernel
theorem d7_3 : decode jdk_52_method_16_code 3 = .ok (.astore_n 3, 1) := by decide +kernel
theorem d7_4 : decode jdk_52_method_16_code 4 = .ok (.aload_n 0, 1) := by decide +kernel
theorem d7_5 : decode jdk_52_method_16_code 5 = .ok (.iload_n 1, 1) := by decide +kernel
theorem d7_6 : decode jdk_52_method_16_code 6 = .ok (.aload_n 3, 1) := by decide +kernel
theorem d7_7 : decode jdk_52_method_16_code 7 = .ok (.iconst 0, 1) := by decide +kernel
theorem d7_8 : decode jdk_52_method_16_code 8 = .ok (.iload_n 2, 1) := by decide +kernel
theorem d7_9 : decode jdk_52_method_16_code 9 = .ok (.invokestatic 115, 3) := by decide +kernel
theorem d7_12 : decode jdk_52_method_16_code 12 = .ok (.istore 4, 2) := by decide +kernel
theorem d7_14 : decode jdk_52_method_16_code 14 = .ok (.iload 4, 2) := by decide +kernel
theorem d7_16 : decode jdk_52_method_16_code 16 = .ok (.iload_n 2, 1) := by decide +kernel
theorem d7_17 : decode jdk_52_method_16_code 17 = .ok (.if_icmp .eq 40, 3) := by decide +kernel
theorem d7_57 : decode jdk_52_method_16_code 57 = .ok (.aload_n 3, 1) := by decide +kernel
theorem d7_58 : decode jdk_52_method_16_code 58 = .ok (.areturn, 1) := by decide +kernel
theorem pd_7_2_0 : parseMethodDescriptor "([CI[BII)I" = some ⟨[(.array .char), .int, (.array .byte), .int, .int], some .int⟩ := by decide +kernel
theorem ef_7_2 (m : MethodId) (r0 : Addr) : entryFrame m #[(.ref r0), (.int (0 : Int32)), (.int (2 : Int32))] 6 = mkF m 0 #[.val (.ref r0), .val (.int (0 : Int32)), .val (.int (2 : Int32)), .unset, .unset, .unset] [] := by first | (simp [entryFrame, mkF, argsToLocals, Value.category]; done) | rfl
def Q7_2 (Z : State) (r0 : Addr) (kC : ClassId) (c0 : Int32) (c1 : Int32) (h0 : Heap) (n0 : Nat) (v : Option Value) (h : Heap) (L : List Loc) : Prop := v = some (.ref h0.size) ∧ Fr n0 L ∧ Keep h0 h [] ∧ ∃ kB, Arv Z h h0.size kB .byte (2 : Int32) [(.int ((c0).toInt8.toInt32).toInt8.toInt32), (.int ((c1).toInt8.toInt32).toInt8.toInt32)] (.int (0 : Int32))
set_option maxRecDepth 65536 in
set_option maxHeartbeats 40000000 in
theorem rm7_2 (l : Launch) (Z : State) (a0 : Array Value) (hw : ∀ d ∈ tables_1, d.before a0 Z = true) (ws : List Jvm.Cond) (r0 : Addr) (kC : ClassId) (c0 : Int32) (c1 : Int32) (h0 : Heap) (n0 : Nat) (Z0 : n0 ≤ h0.size) (V_r0 : Arv Z h0 r0 kC .char (2 : Int32) [(.int c0), (.int c1)] (.int (0 : Int32))) (hl0 : ¬ (255 : Int32) < c0) (hl1 : ¬ (255 : Int32) < c1) :
    MetFree l (⟨"java/lang/StringUTF16", "compress", "([CII)[B"⟩ : MethodName) (head1 (Jvm.Cond.code (⟨"java/lang/StringUTF16", "compress", "([CII)[B"⟩ : MethodName) jdk_52_method_16_code 6 (some (.array .byte)) :: ws) ({ frames := 1, cells := 1, slots := 2, locals := 18 } : Room)) (fun a U => a = #[(.ref r0), (.int (0 : Int32)), (.int (2 : Int32))] ∧ Z.Warmed39 U.vm ∧ U.heap = h0) (fun _ _ _ _ _ => True) (fun _ U o U' => ∃ v L, o = .returned v ∧ Q7_2 Z r0 kC c0 c1 h0 n0 v U'.heap L ∧ FrameEnd U o U' L ({ frames := 1, cells := 1, slots := 2, locals := 18 } : Room).cells ({ frames := 1, cells := 1, slots := 2, locals := 18 } : Room).slots) := by
  refine MetFree.of_bodySF (plainFor_of_name pn_8) hisR ?_
  intro p e s m args below meth c s₁ Bd hml0 hP hK
  obtain ⟨rfl, hZ, hh⟩ := hP
  have hx := Bd.exec
  have hby := Bd.bytes
  have hml : c.maxLocals = 6 := hml0
  have hown : s.vm.findClass "java/lang/StringUTF16" = some m.cls := findClass_of_methodNamed Bd.named
  have hnm := (name_of_methodNamed Bd.named Bd.method).1
  have X0 : Stand p l e ({ frames := 1, cells := 1, slots := 2, locals := 18 } : Room) s m #[(.ref r0), (.int (0 : Int32)), (.int (2 : Int32))] below meth c s₁ [] 0 0 := Stand.of_body Bd
  have e0 : s₁.heap = h0 := by rw [← hh, Bd.state]; rfl
  have N0 := Fr.nil n0
  have K0 : ∀ t, Steps p.tables e below (s₁.setTop (mkF m 0 #[.val (.ref r0), .val (.int (0 : Int32)), .val (.int (2 : Int32)), .unset, .unset, .unset] [])) t → Steps p.tables e below (s₁.setTop (entryFrame m #[(.ref r0), (.int (0 : Int32)), (.int (2 : Int32))] 6)) t := fun t k => castTop (ef_7_2 m r0) k
  generalize s₁.setTop (entryFrame m #[(.ref r0), (.int (0 : Int32)), (.int (2 : Int32))] 6) = SE at K0 ⊢
  have K1 : ∀ t, own_S p e below s₁ (mkF m 1 #[.val (.ref r0), .val (.int (0 : Int32)), .val (.int (2 : Int32)), .unset, .unset, .unset] [(.int (2 : Int32))]) t → Steps p.tables e below SE t := by
    intro t k
    refine K0 _ ?_
    refine XS.iloadN X0.here hx rfl (hb hby d7_0) rfl ?_
    exact k
  obtain ⟨T2, h2, k2, X2, e2, E2, A2, st2⟩ := newP X0 hx hZ (hw _ (List.mem_of_getElem? (i := 7) rfl)) e0 (g := (mkF m 1 #[.val (.ref r0), .val (.int (0 : Int32)), .val (.int (2 : Int32)), .unset, .unset, .unset] [(.int (2 : Int32))])) rfl (hb hby d7_1) rfl (by decide) (cap := 2) (by decide) (by decide) (by decide) (by decide)
  obtain ⟨b2, g2⟩ : ∃ z, z = h0.size := ⟨_, rfl⟩
  rw [← g2] at A2 st2
  have g_b2 : n0 ≤ b2 := Nat.le_trans Z0 (Nat.le_of_eq g2.symm)
  have sz_b2 : h0.size ≤ b2 := Nat.le_trans (Nat.le_refl _) (Nat.le_of_eq g2.symm)
  have own_ne_r0_b2 : r0 ≠ b2 := Nat.ne_of_lt (Nat.lt_of_lt_of_le V_r0.lt (Nat.le_of_eq g2.symm))
  have Kp2 : Keep h0 h2 [] := Keep.ext (Keep.refl h0 []) E2
  have V2 : Arv Z h2 b2 k2 .byte (2 : Int32) [(.int (0 : Int32)), (.int (0 : Int32))] (.int (0 : Int32)) := (Arv.new A2 (by decide)).pad (pad_rep [] (.int (0 : Int32)) 2)
  have K2 : ∀ t, own_S p e below T2 (mkF m 3 #[.val (.ref r0), .val (.int (0 : Int32)), .val (.int (2 : Int32)), .unset, .unset, .unset] [(.ref b2)]) t → Steps p.tables e below SE t := fun t k => K1 _ (st2 _ k)
  have K3 : ∀ t, own_S p e below T2 (mkF m 9 #[.val (.ref r0), .val (.int (0 : Int32)), .val (.int (2 : Int32)), .val (.ref b2), .unset, .unset] [(.int (2 : Int32)), (.int (0 : Int32)), (.ref b2), (.int (0 : Int32)), (.ref r0)]) t → Steps p.tables e below SE t := by
    intro t k
    refine K2 _ ?_
    refine XS.astoreN X2.here hx rfl (hb hby d7_3) rfl rfl (l' := #[.val (.ref r0), .val (.int (0 : Int32)), .val (.int (2 : Int32)), .val (.ref b2), .unset, .unset]) rfl ?_
    show own_S p e below T2 (mkF m 4 #[.val (.ref r0), .val (.int (0 : Int32)), .val (.int (2 : Int32)), .val (.ref b2), .unset, .unset] []) _
    refine XS.aloadN X2.here hx rfl (hb hby d7_4) rfl rfl ?_
    show own_S p e below T2 (mkF m 5 #[.val (.ref r0), .val (.int (0 : Int32)), .val (.int (2 : Int32)), .val (.ref b2), .unset, .unset] [(.ref r0)]) _
    refine XS.iloadN X2.here hx rfl (hb hby d7_5) rfl ?_
    show own_S p e below T2 (mkF m 6 #[.val (.ref r0), .val (.int (0 : Int32)), .val (.int (2 : Int32)), .val (.ref b2), .unset, .unset] [(.int (0 : Int32)), (.ref r0)]) _
    refine XS.aloadN X2.here hx rfl (hb hby d7_6) rfl rfl ?_
    show own_S p e below T2 (mkF m 7 #[.val (.ref r0), .val (.int (0 : Int32)), .val (.int (2 : Int32)), .val (.ref b2), .unset, .unset] [(.ref b2), (.int (0 : Int32)), (.ref r0)]) _
    refine XS.iconst X2.here hx rfl (hb hby d7_7) ?_
    show own_S p e below T2 (mkF m 8 #[.val (.ref r0), .val (.int (0 : Int32)), .val (.int (2 : Int32)), .val (.ref b2), .unset, .unset] [(.int (0 : Int32)), (.ref b2), (.int (0 : Int32)), (.ref r0)]) _
    refine XS.iloadN X2.here hx rfl (hb hby d7_8) rfl ?_
    exact k
  obtain ⟨_, _, ⟨T4, L4, k4, n4⟩, -, X4, ⟨Lc4, hQ4, l4, y4, z4⟩, st4⟩ := Jvm.LawKit.callS X2 hx (y := (⟨"java/lang/StringUTF16", "compress", "([CI[BII)I"⟩ : MethodName)) hown (mvT hZ (hw _ (List.mem_of_getElem? (i := 52) rfl))) (mvT hZ (hw _ (List.mem_of_getElem? (i := 53) rfl))) (mvT hZ (hw _ (List.mem_of_getElem? (i := 50) rfl))) (mvT hZ (hw _ (List.mem_of_getElem? (i := 54) rfl))) (by decide) (backOf (W := 0) (rm8_2 l Z a0 hw [] r0 b2 kC k2 c0 c1 h2 n0 (Nat.le_trans Z0 Kp2.1) (V_r0.ext (own_ext Kp2)) V2 own_ne_r0_b2 g_b2 hl0 hl1) hZ (hw _ (List.mem_of_getElem? (i := 54) rfl)) (hw _ (List.mem_of_getElem? (i := 50) rfl)) (by decide) (by decide)) (g := (mkF m 9 #[.val (.ref r0), .val (.int (0 : Int32)), .val (.int (2 : Int32)), .val (.ref b2), .unset, .unset] [(.int (2 : Int32)), (.int (0 : Int32)), (.ref b2), (.int (0 : Int32)), (.ref r0)])) rfl (by rw [hml]; rfl) (argsL := [(.ref r0), (.int (0 : Int32)), (.ref b2), (.int (0 : Int32)), (.int (2 : Int32))]) (rest := []) (lenOf pd_7_2_0 rfl) rfl (by show 2 * 0 + _ ≤ _; exact Nat.le_of_eq rfl) (hb hby d7_9) (fun _ _ => ⟨rfl, e2, (by decide : 1 + 0 ≤ _), (by decide : 2 + 0 ≤ _)⟩)
  dsimp only [Pt.U, Pt.locs, Pt.cells, Pt.slots] at X4 l4 y4 z4 st4 hQ4
  subst l4 y4 z4
  obtain ⟨rfl, Nq4, Kq4, Vq4⟩ := hQ4
  have N4 := Fr.app N0 Nq4
  have Kp4 : Keep h0 T4.heap [] := Keep.trans Kp2 Kq4 (allS (Or.inr sz_b2) all0)
  have K4 : ∀ t, own_S p e below T4 (mkF m 12 #[.val (.ref r0), .val (.int (0 : Int32)), .val (.int (2 : Int32)), .val (.ref b2), .unset, .unset] [(.int (2 : Int32))]) t → Steps p.tables e below SE t := fun t k => K3 _ (st4 _ k)
  have K5 : ∀ t, own_S p e below T4 (mkF m 58 #[.val (.ref r0), .val (.int (0 : Int32)), .val (.int (2 : Int32)), .val (.ref b2), .val (.int (2 : Int32)), .unset] [(.ref b2)]) t → Steps p.tables e below SE t := by
    intro t k
    refine K4 _ ?_
    refine XS.istore X4.here hx rfl (hb hby d7_12) rfl (l' := #[.val (.ref r0), .val (.int (0 : Int32)), .val (.int (2 : Int32)), .val (.ref b2), .val (.int (2 : Int32)), .unset]) rfl ?_
    show own_S p e below T4 (mkF m 14 #[.val (.ref r0), .val (.int (0 : Int32)), .val (.int (2 : Int32)), .val (.ref b2), .val (.int (2 : Int32)), .unset] []) _
    refine XS.iload X4.here hx rfl (hb hby d7_14) rfl ?_
    show own_S p e below T4 (mkF m 16 #[.val (.ref r0), .val (.int (0 : Int32)), .val (.int (2 : Int32)), .val (.ref b2), .val (.int (2 : Int32)), .unset] [(.int (2 : Int32))]) _
    refine XS.iloadN X4.here hx rfl (hb hby d7_16) rfl ?_
    show own_S p e below T4 (mkF m 17 #[.val (.ref r0), .val (.int (0 : Int32)), .val (.int (2 : Int32)), .val (.ref b2), .val (.int (2 : Int32)), .unset] [(.int (2 : Int32)), (.int (2 : Int32))]) _
    refine XS.icmpYes X4.here hx rfl (pc0 := 17) (pc' := 57) rfl (hb hby d7_17) rfl (XT.ii_eq_t (by decide : (2 : Int32) = (2 : Int32))) (by decide) (by decide) ?_
    show own_S p e below T4 (mkF m 57 #[.val (.ref r0), .val (.int (0 : Int32)), .val (.int (2 : Int32)), .val (.ref b2), .val (.int (2 : Int32)), .unset] []) _
    refine XS.aloadN X4.here hx rfl (hb hby d7_57) rfl rfl ?_
    exact k
  obtain ⟨fs, hr, hrun, hended, hW, hsame⟩ := X4.leave (v := some (.ref b2)) (fun h => by rw [Bd.returns] at h; cases h)
  refine ⟨_, _, K5 _ ?_, hrun, hended, _, _, rfl, ?_, ⟨_, rfl⟩, hW, hsame.mono (by decide) (by decide)⟩
  · show Steps p.tables e below (T4.setTop (mkF m 58 #[.val (.ref r0), .val (.int (0 : Int32)), .val (.int (2 : Int32)), .val (.ref b2), .val (.int (2 : Int32)), .unset] [(.ref b2)])) _
    jvm_step X4.here [X4.here.top, hx, (hb hby d7_58), X4.method', Bd.returns, Value.isRef, FieldType.isReference]
    first | (intro acts; rw [hr _ acts rfl rfl rfl]) | rw [hr _ _ rfl rfl rfl]
    exact Steps.refl _
  · show Q7_2 Z r0 kC c0 c1 h0 n0 _ T4.heap _
    exact ⟨congrArg (fun z => some (Value.ref z)) g2, N4, Kp4, _, (g2 ▸ Vq4)⟩
theorem d9_0 : decode jdk_52_method_15_code 0 = .ok (.iload_n 1, 1) := by decide +kernel
theorem d9_1 : decode jdk_52_method_15_code 1 = .ok (.aload_n 0, 1) := by decide +kernel
theorem d9_2 : decode jdk_52_method_15_code 2 = .ok (.arraylength, 1) := by decide +kernel
theorem d9_3 : decode jdk_52_method_15_code 3 = .ok (.isub, 1) := by decide +kernel
theorem d9_4 : decode jdk_52_method_15_code 4 = .ok (.bipush 31, 2) := by decide +kernel
theorem d9_6 : decode jdk_52_method_15_code 6 = .ok (.iushr, 1) := by decide +kernel
theorem d9_7 : decode jdk_52_method_15_code 7 = .ok (.i2b, 1) := by decide +kernel
theorem d9_8 : decode jdk_52_method_15_code 8 = .ok (.ireturn, 1) := by decide +kernel
theorem ef_9_2 (m : MethodId) (r0 : Addr) : entryFrame m #[(.ref r0), (.int (2 : Int32))] 2 = mkF m 0 #[.val (.ref r0), .val (.int (2 : Int32))] [] := by first | (simp [entryFrame, mkF, argsToLocals, Value.category]; done) | rfl
def Q9_2 (Z : State) (r0 : Addr) (kB : ClassId) (vs : List Value) (h0 : Heap) (n0 : Nat) (v : Option Value) (h : Heap) (L : List Loc) : Prop := v = some (.int (0 : Int32)) ∧ Fr n0 L ∧ h = h0
set_option maxRecDepth 65536 in
set_option maxHeartbeats 40000000 in
theorem rm9_2 (l : Launch) (Z : State) (a0 : Array Value) (hw : ∀ d ∈ tables_1, d.before a0 Z = true) (ws : List Jvm.Cond) (r0 : Addr) (kB : ClassId) (vs : List Value) (h0 : Heap) (n0 : Nat) (Z0 : n0 ≤ h0.size) (V_r0 : Arv Z h0 r0 kB .byte (2 : Int32) vs (.int (0 : Int32))) :
    MetFree l (⟨"java/lang/StringUTF16", "coderFromArrayLen", "([BI)B"⟩ : MethodName) (head1 (Jvm.Cond.code (⟨"java/lang/StringUTF16", "coderFromArrayLen", "([BI)B"⟩ : MethodName) jdk_52_method_15_code 2 (some .byte) :: ws) ({ frames := 0, cells := 0, slots := 0, locals := 0 } : Room)) (fun a U => a = #[(.ref r0), (.int (2 : Int32))] ∧ Z.Warmed39 U.vm ∧ U.heap = h0) (fun _ _ _ _ _ => True) (fun _ U o U' => ∃ v L, o = .returned v ∧ Q9_2 Z r0 kB vs h0 n0 v U'.heap L ∧ FrameEnd U o U' L ({ frames := 0, cells := 0, slots := 0, locals := 0 } : Room).cells ({ frames := 0, cells := 0, slots := 0, locals := 0 } : Room).slots) := by
  refine MetFree.of_bodySF (plainFor_of_name pn_8) hisR ?_
  intro p e s m args below meth c s₁ Bd hml0 hP hK
  obtain ⟨rfl, hZ, hh⟩ := hP
  have hx := Bd.exec
  have hby := Bd.bytes
  have hml : c.maxLocals = 2 := hml0
  have hown : s.vm.findClass "java/lang/StringUTF16" = some m.cls := findClass_of_methodNamed Bd.named
  have hnm := (name_of_methodNamed Bd.named Bd.method).1
  have X0 : Stand p l e ({ frames := 0, cells := 0, slots := 0, locals := 0 } : Room) s m #[(.ref r0), (.int (2 : Int32))] below meth c s₁ [] 0 0 := Stand.of_body Bd
  have e0 : s₁.heap = h0 := by rw [← hh, Bd.state]; rfl
  have N0 := Fr.nil n0
  have K0 : ∀ t, Steps p.tables e below (s₁.setTop (mkF m 0 #[.val (.ref r0), .val (.int (2 : Int32))] [])) t → Steps p.tables e below (s₁.setTop (entryFrame m #[(.ref r0), (.int (2 : Int32))] 2)) t := fun t k => castTop (ef_9_2 m r0) k
  generalize s₁.setTop (entryFrame m #[(.ref r0), (.int (2 : Int32))] 2) = SE at K0 ⊢
  have K1 : ∀ t, own_S p e below s₁ (mkF m 2 #[.val (.ref r0), .val (.int (2 : Int32))] [(.ref r0), (.int (2 : Int32))]) t → Steps p.tables e below SE t := by
    intro t k
    refine K0 _ ?_
    refine XS.iloadN X0.here hx rfl (hb hby d9_0) rfl ?_
    show own_S p e below s₁ (mkF m 1 #[.val (.ref r0), .val (.int (2 : Int32))] [(.int (2 : Int32))]) _
    refine XS.aloadN X0.here hx rfl (hb hby d9_1) rfl rfl ?_
    exact k
  obtain ⟨cl2, Ar2, -, S2, Ng2, -, -⟩ := id V_r0
  have K3 : ∀ t, own_S p e below s₁ (mkF m 7 #[.val (.ref r0), .val (.int (2 : Int32))] [(.int (((0 : Int32).toUInt32 >>> ((31 : Int32) &&& 31).toUInt32).toInt32))]) t → Steps p.tables e below SE t := by
    intro t k
    refine K1 _ ?_
    refine X0.arraylength hx (by rw [e0]; exact Ar2.1) (State.isArrayOf_alike hZ.alike Ar2.2.1) (g := (mkF m 2 #[.val (.ref r0), .val (.int (2 : Int32))] [(.ref r0), (.int (2 : Int32))])) rfl rfl (hb hby d9_2) _ ?_
    rw [len_of S2 Ng2]
    show own_S p e below s₁ (mkF m 3 #[.val (.ref r0), .val (.int (2 : Int32))] [(.int (2 : Int32)), (.int (2 : Int32))]) _
    refine XS.isub X0.here hx rfl (hb hby d9_3) rfl ?_
    show own_S p e below s₁ (mkF m 4 #[.val (.ref r0), .val (.int (2 : Int32))] [(.int (0 : Int32))]) _
    refine XS.bipush X0.here hx rfl (hb hby d9_4) ?_
    show own_S p e below s₁ (mkF m 6 #[.val (.ref r0), .val (.int (2 : Int32))] [(.int (31 : Int32)), (.int (0 : Int32))]) _
    refine XS.iushr X0.here hx rfl (hb hby d9_6) rfl ?_
    exact k
  rw [(by decide : (((0 : Int32).toUInt32 >>> ((31 : Int32) &&& 31).toUInt32).toInt32) = (0 : Int32))] at K3
  have K4 : ∀ t, own_S p e below s₁ (mkF m 8 #[.val (.ref r0), .val (.int (2 : Int32))] [(.int (((0 : Int32)).toInt8.toInt32))]) t → Steps p.tables e below SE t := by
    intro t k
    refine K3 _ ?_
    refine XS.i2b X0.here hx rfl (hb hby d9_7) rfl ?_
    exact k
  rw [(by decide : (((0 : Int32)).toInt8.toInt32) = (0 : Int32))] at K4
  obtain ⟨fs, hr, hrun, hended, hW, hsame⟩ := X0.leave (v := some (.int (0 : Int32))) (fun h => by rw [Bd.returns] at h; cases h)
  refine ⟨_, _, K4 _ ?_, hrun, hended, _, _, rfl, ?_, ⟨_, rfl⟩, hW, hsame.mono (by decide) (by decide)⟩
  · exact retN X0 hx (t := .byte) Bd.returns (by simp) (hb hby d9_8) hr
  · show Q9_2 Z r0 kB vs h0 n0 _ s₁.heap _
    rw [e0]
    exact ⟨rfl, N0, rfl⟩
theorem d6_0 : decode jdk_42_method_149_code 0 = .ok (.aload_n 0, 1) := by decide +kernel
theorem d6_1 : decode jdk_42_method_149_code 1 = .ok (.invokespecial 1, 3) := by decide +kernel
theorem d6_4 : decode jdk_42_method_149_code 4 = .ok (.iload_n 3, 1) := by decide +kernel
theorem d6_5 : decode jdk_42_method_149_code 5 = .ok (.ifCond .ne 22, 3) := by decide +kernel
theorem d6_27 : decode jdk_42_method_149_code 27 = .ok (.getstatic 38, 3) := by decide +kernel
theorem d6_30 : decode jdk_42_method_149_code 30 = .ok (.ifCond .eq 28, 3) := by decide +kernel
theorem d6_33 : decode jdk_42_method_149_code 33 = .ok (.aload_n 1, 1) := by decide +kernel
theorem d6_34 : decode jdk_42_method_149_code 34 = .ok (.iload_n 2, 1) := by decide +kernel
theorem d6_35 : decode jdk_42_method_149_code 35 = .ok (.iload_n 3, 1) := by decide +kernel
theorem d6_36 : decode jdk_42_method_149_code 36 = .ok (.invokestatic 177, 3) := by decide +kernel
theorem d6_39 : decode jdk_42_method_149_code 39 = .ok (.astore 5, 2) := by decide +kernel
theorem d6_41 : decode jdk_42_method_149_code 41 = .ok (.aload_n 0, 1) := by decide +kernel
theorem d6_42 : decode jdk_42_method_149_code 42 = .ok (.aload 5, 2) := by decide +kernel
theorem d6_44 : decode jdk_42_method_149_code 44 = .ok (.iload_n 3, 1) := by decide +kernel
theorem d6_45 : decode jdk_42_method_149_code 45 = .ok (.invokestatic 47, 3) := by decide +kernel
theorem d6_48 : decode jdk_42_method_149_code 48 = .ok (.putfield 15, 3) := by decide +kernel
theorem d6_51 : decode jdk_42_method_149_code 51 = .ok (.aload_n 0, 1) := by decide +kernel
theorem d6_52 : decode jdk_42_method_149_code 52 = .ok (.aload 5, 2) := by decide +kernel
theorem d6_54 : decode jdk_42_method_149_code 54 = .ok (.putfield 9, 3) := by decide +kernel
theorem d6_57 : decode jdk_42_method_149_code 57 = .ok (.return_, 1) := by decide +kernel
theorem pn_6 : plainName "java/lang/String" = true := by first | (simp [plainName, overriddenIn]; done) | decide +kernel
theorem pd_6_2_0 : parseMethodDescriptor "([CII)[B" = some ⟨[(.array .char), .int, .int], some (.array .byte)⟩ := by decide +kernel
theorem pd_6_2_1 : parseMethodDescriptor "([BI)B" = some ⟨[(.array .byte), .int], some .byte⟩ := by decide +kernel
theorem ef_6_2 (m : MethodId) (r0 : Addr) (r1 : Addr) : entryFrame m #[(.ref r0), (.ref r1), (.int (0 : Int32)), (.int (2 : Int32)), .null] 6 = mkF m 0 #[.val (.ref r0), .val (.ref r1), .val (.int (0 : Int32)), .val (.int (2 : Int32)), .val .null, .unset] [] := by first | (simp [entryFrame, mkF, argsToLocals, Value.category]; done) | rfl
def Q6_2 (Z : State) (r0 : Addr) (r1 : Addr) (kC : ClassId) (G : Int32) (c0 : Int32) (c1 : Int32) (h0 : Heap) (n0 : Nat) (v : Option Value) (h : Heap) (L : List Loc) : Prop := v = none ∧ Fr n0 L ∧ Keep h0 h [r0] ∧ Exa Z h r0 "java/lang/String" ∧ Fld Z h r0 "java/lang/String" "coder" "B" (.int (0 : Int32)) ∧ ∃ (b : Addr) (kB : ClassId), h0.size ≤ b ∧ Fld Z h r0 "java/lang/String" "value" "[B" (.ref b) ∧ Arv Z h b kB .byte (2 : Int32) [(.int ((c0).toInt8.toInt32).toInt8.toInt32), (.int ((c1).toInt8.toInt32).toInt8.toInt32)] (.int (0 : Int32))
set_option maxRecDepth 65536 in
set_option maxHeartbeats 40000000 in
theorem rm6_2 (l : Launch) (Z : State) (a0 : Array Value) (hw : ∀ d ∈ tables_1, d.before a0 Z = true) (ws : List Jvm.Cond) (r0 : Addr) (r1 : Addr) (kC : ClassId) (G : Int32) (c0 : Int32) (c1 : Int32) (h0 : Heap) (n0 : Nat) (Z0 : n0 ≤ h0.size) (E_r0 : Exa Z h0 r0 "java/lang/String") (F_c : Fld Z h0 r0 "java/lang/String" "coder" "B" (.int (0 : Int32))) (F_v : Fld Z h0 r0 "java/lang/String" "value" "[B" .null) (g_r0 : n0 ≤ r0) (V_r1 : Arv Z h0 r1 kC .char (2 : Int32) [(.int c0), (.int c1)] (.int (0 : Int32))) (S_cs : Sta Z h0 "java/lang/String" "COMPACT_STRINGS" "Z" (.int G)) (hG : ¬ G = 0) (hl0 : ¬ (255 : Int32) < c0) (hl1 : ¬ (255 : Int32) < c1) :
    MetFree l (⟨"java/lang/String", "<init>", "([CIILjava/lang/Void;)V"⟩ : MethodName) (head1 (Jvm.Cond.code (⟨"java/lang/String", "<init>", "([CIILjava/lang/Void;)V"⟩ : MethodName) jdk_42_method_149_code 6 none :: ws) ({ frames := 2, cells := 1, slots := 2, locals := 35 } : Room)) (fun a U => a = #[(.ref r0), (.ref r1), (.int (0 : Int32)), (.int (2 : Int32)), .null] ∧ Z.Warmed39 U.vm ∧ U.heap = h0) (fun _ _ _ _ _ => True) (fun _ U o U' => ∃ v L, o = .returned v ∧ Q6_2 Z r0 r1 kC G c0 c1 h0 n0 v U'.heap L ∧ FrameEnd U o U' L ({ frames := 2, cells := 1, slots := 2, locals := 35 } : Room).cells ({ frames := 2, cells := 1, slots := 2, locals := 35 } : Room).slots) := by
  refine MetFree.of_bodySF (plainFor_of_name pn_6) hisR ?_
  intro p e s m args below meth c s₁ Bd hml0 hP hK
  obtain ⟨rfl, hZ, hh⟩ := hP
  have hx := Bd.exec
  have hby := Bd.bytes
  have hml : c.maxLocals = 6 := hml0
  have hown : s.vm.findClass "java/lang/String" = some m.cls := findClass_of_methodNamed Bd.named
  have hnm := (name_of_methodNamed Bd.named Bd.method).1
  have X0 : Stand p l e ({ frames := 2, cells := 1, slots := 2, locals := 35 } : Room) s m #[(.ref r0), (.ref r1), (.int (0 : Int32)), (.int (2 : Int32)), .null] below meth c s₁ [] 0 0 := Stand.of_body Bd
  have e0 : s₁.heap = h0 := by rw [← hh, Bd.state]; rfl
  have N0 := Fr.nil n0
  have K0 : ∀ t, Steps p.tables e below (s₁.setTop (mkF m 0 #[.val (.ref r0), .val (.ref r1), .val (.int (0 : Int32)), .val (.int (2 : Int32)), .val .null, .unset] [])) t → Steps p.tables e below (s₁.setTop (entryFrame m #[(.ref r0), (.ref r1), (.int (0 : Int32)), (.int (2 : Int32)), .null] 6)) t := fun t k => castTop (ef_6_2 m r0 r1) k
  generalize s₁.setTop (entryFrame m #[(.ref r0), (.ref r1), (.int (0 : Int32)), (.int (2 : Int32)), .null] 6) = SE at K0 ⊢
  have K1 : ∀ t, own_S p e below s₁ (mkF m 1 #[.val (.ref r0), .val (.ref r1), .val (.int (0 : Int32)), .val (.int (2 : Int32)), .val .null, .unset] [(.ref r0)]) t → Steps p.tables e below SE t := by
    intro t k
    refine K0 _ ?_
    refine XS.aloadN X0.here hx rfl (hb hby d6_0) rfl rfl ?_
    exact k
  obtain ⟨T2, X2, e2, st2⟩ := initO X0 hx hZ hown (hw _ (List.mem_of_getElem? (i := 46) rfl)) (hw _ (List.mem_of_getElem? (i := 25) rfl)) (hw _ (List.mem_of_getElem? (i := 26) rfl)) e0 (g := (mkF m 1 #[.val (.ref r0), .val (.ref r1), .val (.int (0 : Int32)), .val (.int (2 : Int32)), .val .null, .unset] [(.ref r0)])) rfl (by rw [hml]; rfl) rfl (hb hby d6_1) (by decide) (W := 0) (by show 2 * 0 + _ ≤ _; exact Nat.le_of_eq rfl) (by decide)
  have K2 : ∀ t, own_S p e below T2 (mkF m 4 #[.val (.ref r0), .val (.ref r1), .val (.int (0 : Int32)), .val (.int (2 : Int32)), .val .null, .unset] []) t → Steps p.tables e below SE t := fun t k => K1 _ (st2 _ k)
  have K3 : ∀ t, own_S p e below T2 (mkF m 27 #[.val (.ref r0), .val (.ref r1), .val (.int (0 : Int32)), .val (.int (2 : Int32)), .val .null, .unset] []) t → Steps p.tables e below SE t := by
    intro t k
    refine K2 _ ?_
    refine XS.iloadN X2.here hx rfl (hb hby d6_4) rfl ?_
    show own_S p e below T2 (mkF m 5 #[.val (.ref r0), .val (.ref r1), .val (.int (0 : Int32)), .val (.int (2 : Int32)), .val .null, .unset] [(.int (2 : Int32))]) _
    refine XS.ifYes X2.here hx rfl (pc0 := 5) (pc' := 27) rfl (hb hby d6_5) rfl (XT.i0_ne_t (by decide : ¬ ((2 : Int32) = 0))) (by decide) (by decide) ?_
    exact k
  obtain ⟨T4, X4, e4, st4⟩ := getS2 X2 hx hZ hown (host := "") (Or.inl (hw _ (List.mem_of_getElem? (i := 47) rfl))) Via.refl e2 S_cs (g := (mkF m 27 #[.val (.ref r0), .val (.ref r1), .val (.int (0 : Int32)), .val (.int (2 : Int32)), .val .null, .unset] [])) rfl (hb hby d6_27)
  have K4 : ∀ t, own_S p e below T4 (mkF m 30 #[.val (.ref r0), .val (.ref r1), .val (.int (0 : Int32)), .val (.int (2 : Int32)), .val .null, .unset] [(.int G)]) t → Steps p.tables e below SE t := fun t k => K3 _ (st4 _ k)
  have K5 : ∀ t, own_S p e below T4 (mkF m 36 #[.val (.ref r0), .val (.ref r1), .val (.int (0 : Int32)), .val (.int (2 : Int32)), .val .null, .unset] [(.int (2 : Int32)), (.int (0 : Int32)), (.ref r1)]) t → Steps p.tables e below SE t := by
    intro t k
    refine K4 _ ?_
    refine XS.ifNo X4.here hx rfl (hb hby d6_30) rfl (XT.i0_eq_f hG) ?_
    show own_S p e below T4 (mkF m 33 #[.val (.ref r0), .val (.ref r1), .val (.int (0 : Int32)), .val (.int (2 : Int32)), .val .null, .unset] []) _
    refine XS.aloadN X4.here hx rfl (hb hby d6_33) rfl rfl ?_
    show own_S p e below T4 (mkF m 34 #[.val (.ref r0), .val (.ref r1), .val (.int (0 : Int32)), .val (.int (2 : Int32)), .val .null, .unset] [(.ref r1)]) _
    refine XS.iloadN X4.here hx rfl (hb hby d6_34) rfl ?_
    show own_S p e below T4 (mkF m 35 #[.val (.ref r0), .val (.ref r1), .val (.int (0 : Int32)), .val (.int (2 : Int32)), .val .null, .unset] [(.int (0 : Int32)), (.ref r1)]) _
    refine XS.iloadN X4.here hx rfl (hb hby d6_35) rfl ?_
    exact k
  obtain ⟨_, _, ⟨T6, L6, k6, n6⟩, -, X6, ⟨Lc6, hQ6, l6, y6, z6⟩, st6⟩ := Jvm.LawKit.callS X4 hx (y := (⟨"java/lang/StringUTF16", "compress", "([CII)[B"⟩ : MethodName)) hown (mvT hZ (hw _ (List.mem_of_getElem? (i := 48) rfl))) (mvT hZ (hw _ (List.mem_of_getElem? (i := 49) rfl))) (mvT hZ (hw _ (List.mem_of_getElem? (i := 50) rfl))) (mvT hZ (hw _ (List.mem_of_getElem? (i := 51) rfl))) (by decide) (backOf (W := 0) (rm7_2 l Z a0 hw [] r1 kC c0 c1 h0 n0 Z0 V_r1 hl0 hl1) hZ (hw _ (List.mem_of_getElem? (i := 51) rfl)) (hw _ (List.mem_of_getElem? (i := 50) rfl)) (by decide) (by decide)) (g := (mkF m 36 #[.val (.ref r0), .val (.ref r1), .val (.int (0 : Int32)), .val (.int (2 : Int32)), .val .null, .unset] [(.int (2 : Int32)), (.int (0 : Int32)), (.ref r1)])) rfl (by rw [hml]; rfl) (argsL := [(.ref r1), (.int (0 : Int32)), (.int (2 : Int32))]) (rest := []) (lenOf pd_6_2_0 rfl) rfl (by show 2 * 0 + _ ≤ _; exact Nat.le_of_eq rfl) (hb hby d6_36) (fun _ _ => ⟨rfl, e4, (by decide : 0 + 1 ≤ _), (by decide : 0 + 2 ≤ _)⟩)
  dsimp only [Pt.U, Pt.locs, Pt.cells, Pt.slots] at X6 l6 y6 z6 st6 hQ6
  subst l6 y6 z6
  obtain ⟨rfl, Nq6, Kq6, Vb6⟩ := hQ6
  have N6 := Fr.app N0 Nq6
  have Kp6 : Keep h0 T6.heap [r0] := Keep.trans (Keep.refl h0 [r0]) Kq6 all0
  have K6 : ∀ t, own_S p e below T6 (mkF m 39 #[.val (.ref r0), .val (.ref r1), .val (.int (0 : Int32)), .val (.int (2 : Int32)), .val .null, .unset] [(.ref h0.size)]) t → Steps p.tables e below SE t := fun t k => K5 _ (st6 _ k)
  obtain ⟨kB, Vb⟩ := Vb6
  obtain ⟨bb, gbb⟩ : ∃ z, z = h0.size := ⟨_, rfl⟩
  rw [← gbb] at K6 Vb
  have own_ne_r0_bb : r0 ≠ bb := Nat.ne_of_lt (Nat.lt_of_lt_of_le E_r0.lt (Nat.le_of_eq gbb.symm))
  have K7 : ∀ t, own_S p e below T6 (mkF m 45 #[.val (.ref r0), .val (.ref r1), .val (.int (0 : Int32)), .val (.int (2 : Int32)), .val .null, .val (.ref bb)] [(.int (2 : Int32)), (.ref bb), (.ref r0)]) t → Steps p.tables e below SE t := by
    intro t k
    refine K6 _ ?_
    refine XS.astore X6.here hx rfl (hb hby d6_39) rfl rfl (l' := #[.val (.ref r0), .val (.ref r1), .val (.int (0 : Int32)), .val (.int (2 : Int32)), .val .null, .val (.ref bb)]) rfl ?_
    show own_S p e below T6 (mkF m 41 #[.val (.ref r0), .val (.ref r1), .val (.int (0 : Int32)), .val (.int (2 : Int32)), .val .null, .val (.ref bb)] []) _
    refine XS.aloadN X6.here hx rfl (hb hby d6_41) rfl rfl ?_
    show own_S p e below T6 (mkF m 42 #[.val (.ref r0), .val (.ref r1), .val (.int (0 : Int32)), .val (.int (2 : Int32)), .val .null, .val (.ref bb)] [(.ref r0)]) _
    refine XS.aload X6.here hx rfl (hb hby d6_42) rfl rfl ?_
    show own_S p e below T6 (mkF m 44 #[.val (.ref r0), .val (.ref r1), .val (.int (0 : Int32)), .val (.int (2 : Int32)), .val .null, .val (.ref bb)] [(.ref bb), (.ref r0)]) _
    refine XS.iloadN X6.here hx rfl (hb hby d6_44) rfl ?_
    exact k
  obtain ⟨_, _, ⟨T8, L8, k8, n8⟩, -, X8, ⟨Lc8, hQ8, l8, y8, z8⟩, st8⟩ := Jvm.LawKit.callS X6 hx (y := (⟨"java/lang/StringUTF16", "coderFromArrayLen", "([BI)B"⟩ : MethodName)) hown (mvT hZ (hw _ (List.mem_of_getElem? (i := 55) rfl))) (mvT hZ (hw _ (List.mem_of_getElem? (i := 56) rfl))) (mvT hZ (hw _ (List.mem_of_getElem? (i := 50) rfl))) (mvT hZ (hw _ (List.mem_of_getElem? (i := 57) rfl))) (by decide) (backOf (W := 1) (rm9_2 l Z a0 hw [] bb kB _ T6.heap n0 (Nat.le_trans Z0 Kp6.1) Vb) hZ (hw _ (List.mem_of_getElem? (i := 57) rfl)) (hw _ (List.mem_of_getElem? (i := 50) rfl)) (by decide) (by decide)) (g := (mkF m 45 #[.val (.ref r0), .val (.ref r1), .val (.int (0 : Int32)), .val (.int (2 : Int32)), .val .null, .val (.ref bb)] [(.int (2 : Int32)), (.ref bb), (.ref r0)])) rfl (by rw [hml]; rfl) (argsL := [(.ref bb), (.int (2 : Int32))]) (rest := [(.ref r0)]) (lenOf pd_6_2_1 rfl) rfl (by show 2 * 0 + _ ≤ _; exact Nat.le_of_eq rfl) (hb hby d6_45) (fun _ _ => ⟨rfl, rfl, (by decide : 1 + 0 ≤ _), (by decide : 2 + 0 ≤ _)⟩)
  dsimp only [Pt.U, Pt.locs, Pt.cells, Pt.slots] at X8 l8 y8 z8 st8 hQ8
  subst l8 y8 z8
  obtain ⟨rfl, Nq8, e8⟩ := hQ8
  have N8 := Fr.app N6 Nq8
  have K8 : ∀ t, own_S p e below T8 (mkF m 48 #[.val (.ref r0), .val (.ref r1), .val (.int (0 : Int32)), .val (.int (2 : Int32)), .val .null, .val (.ref bb)] [(.int (0 : Int32)), (.ref r0)]) t → Steps p.tables e below SE t := fun t k => K7 _ (st8 _ k)
  obtain ⟨T9, h9, X9, e9, W9, st9⟩ := putFN X8 hx hZ hown (hw _ (List.mem_of_getElem? (i := 58) rfl)) Via.refl e8 (F_c.keep Kq6 nin0) (E_r0.keep Kq6) (Or.inr ⟨(hw _ (List.mem_of_getElem? (i := 9) rfl)), rfl, hnm⟩) (hw _ (List.mem_of_getElem? (i := 6) rfl)) (ty := .byte) (v' := (.int ((0 : Int32)).toInt8.toInt32)) (by decide) rfl (fits_nar_byte _) (g := (mkF m 48 #[.val (.ref r0), .val (.ref r1), .val (.int (0 : Int32)), .val (.int (2 : Int32)), .val .null, .val (.ref bb)] [(.int (0 : Int32)), (.ref r0)])) rfl rfl (hb hby d6_48)
  have Fw9 := Fld.same W9 (F_c.keep Kq6 nin0)
  have N9 := Fr.snoc X9 N8 g_r0
  have Kp9 : Keep h0 h9 [r0] := Keep.wr Kp6 W9 (Or.inl (List.mem_of_getElem? (i := 0) rfl))
  have K9 : ∀ t, own_S p e below T9 (mkF m 51 #[.val (.ref r0), .val (.ref r1), .val (.int (0 : Int32)), .val (.int (2 : Int32)), .val .null, .val (.ref bb)] []) t → Steps p.tables e below SE t := fun t k => K8 _ (st9 _ k)
  have K10 : ∀ t, own_S p e below T9 (mkF m 54 #[.val (.ref r0), .val (.ref r1), .val (.int (0 : Int32)), .val (.int (2 : Int32)), .val .null, .val (.ref bb)] [(.ref bb), (.ref r0)]) t → Steps p.tables e below SE t := by
    intro t k
    refine K9 _ ?_
    refine XS.aloadN X9.here hx rfl (hb hby d6_51) rfl rfl ?_
    show own_S p e below T9 (mkF m 52 #[.val (.ref r0), .val (.ref r1), .val (.int (0 : Int32)), .val (.int (2 : Int32)), .val .null, .val (.ref bb)] [(.ref r0)]) _
    refine XS.aload X9.here hx rfl (hb hby d6_52) rfl rfl ?_
    exact k
  obtain ⟨T11, h11, X11, e11, W11, st11⟩ := putF X9 hx hZ hown (host := "") (Or.inl (hw _ (List.mem_of_getElem? (i := 59) rfl))) Via.refl e9 ((F_v.keep Kq6 nin0).other W9 (Or.inr (slot_ne (Or.inr (hw _ (List.mem_of_getElem? (i := 8) rfl))) (Or.inr (hw _ (List.mem_of_getElem? (i := 9) rfl))) (by decide) (t := (.array .byte)) (t' := .byte) (by decide) (by decide)))) ((E_r0.keep Kq6).wr W9) (Or.inr ⟨(hw _ (List.mem_of_getElem? (i := 8) rfl)), rfl, hnm⟩) (hw _ (List.mem_of_getElem? (i := 6) rfl)) (ty := (.array .byte)) (by decide) rfl rfl (g := (mkF m 54 #[.val (.ref r0), .val (.ref r1), .val (.int (0 : Int32)), .val (.int (2 : Int32)), .val .null, .val (.ref bb)] [(.ref bb), (.ref r0)])) rfl rfl (hb hby d6_54)
  have Fw11 := Fld.same W11 ((F_v.keep Kq6 nin0).other W9 (Or.inr (slot_ne (Or.inr (hw _ (List.mem_of_getElem? (i := 8) rfl))) (Or.inr (hw _ (List.mem_of_getElem? (i := 9) rfl))) (by decide) (t := (.array .byte)) (t' := .byte) (by decide) (by decide))))
  have N11 := Fr.snoc X11 N9 g_r0
  have Kp11 : Keep h0 h11 [r0] := Keep.wr Kp9 W11 (Or.inl (List.mem_of_getElem? (i := 0) rfl))
  have K11 : ∀ t, own_S p e below T11 (mkF m 57 #[.val (.ref r0), .val (.ref r1), .val (.int (0 : Int32)), .val (.int (2 : Int32)), .val .null, .val (.ref bb)] []) t → Steps p.tables e below SE t := fun t k => K10 _ (st11 _ k)
  obtain ⟨fs, hr, hrun, hended, hW, hsame⟩ := X11.leave (v := none) (fun _ => rfl)
  refine ⟨_, _, K11 _ ?_, hrun, hended, _, _, rfl, ?_, ⟨_, rfl⟩, hW, hsame.mono (by decide) (by decide)⟩
  · exact X11.returnOut hx Bd.returns (hb hby d6_57) hr
  · show Q6_2 Z r0 r1 kC G c0 c1 h0 n0 _ T11.heap _
    rw [e11]
    exact ⟨rfl, N11, Kp11, (((E_r0.keep Kq6).wr W9).wr W11), (Fw9.other W11 (Or.inr (slot_ne (Or.inr (hw _ (List.mem_of_getElem? (i := 9) rfl))) (Or.inr (hw _ (List.mem_of_getElem? (i := 8) rfl))) (by decide) (t := .byte) (t' := (.array .byte)) (by decide) (by decide)))), bb, kB, Nat.le_of_eq gbb.symm, Fw11, ((Vb.other W9 (Ne.symm (own_ne_r0_bb))).other W11 (Ne.symm (own_ne_r0_bb)))⟩
theorem d5_0 : decode jdk_42_method_3_code 0 = .ok (.aload_n 0, 1) := by decide +kernel
theorem d5_1 : decode jdk_42_method_3_code 1 = .ok (.aload_n 1, 1) := by decide +kernel
theorem d5_2 : decode jdk_42_method_3_code 2 = .ok (.iconst 0, 1) := by decide +kernel
theorem d5_3 : decode jdk_42_method_3_code 3 = .ok (.aload_n 1, 1) := by decide +kernel
theorem d5_4 : decode jdk_42_method_3_code 4 = .ok (.arraylength, 1) := by decide +kernel
theorem d5_5 : decode jdk_42_method_3_code 5 = .ok (.aconst_null, 1) := by decide +kernel
theorem d5_6 : decode jdk_42_method_3_code 6 = .ok (.invokespecial 27, 3) := by decide +kernel
theorem d5_9 : decode jdk_42_method_3_code 9 = .ok (.return_, 1) := by decide +kernel
theorem pd_5_2_0 : parseMethodDescriptor "([CIILjava/lang/Void;)V" = some ⟨[(.array .char), .int, .int, (.object "java/lang/Void")], none⟩ := by decide +kernel
theorem ef_5_2 (m : MethodId) (r0 : Addr) (r1 : Addr) : entryFrame m #[(.ref r0), (.ref r1)] 2 = mkF m 0 #[.val (.ref r0), .val (.ref r1)] [] := by first | (simp [entryFrame, mkF, argsToLocals, Value.category]; done) | rfl
def Q5_2 (Z : State) (r0 : Addr) (r1 : Addr) (kC : ClassId) (G : Int32) (c0 : Int32) (c1 : Int32) (h0 : Heap) (n0 : Nat) (v : Option Value) (h : Heap) (L : List Loc) : Prop := v = none ∧ Fr n0 L ∧ Keep h0 h [r0] ∧ Exa Z h r0 "java/lang/String" ∧ Fld Z h r0 "java/lang/String" "coder" "B" (.int (0 : Int32)) ∧ ∃ (b : Addr) (kB : ClassId), h0.size ≤ b ∧ Fld Z h r0 "java/lang/String" "value" "[B" (.ref b) ∧ Arv Z h b kB .byte (2 : Int32) [(.int ((c0).toInt8.toInt32).toInt8.toInt32), (.int ((c1).toInt8.toInt32).toInt8.toInt32)] (.int (0 : Int32))
set_option maxRecDepth 65536 in
set_option maxHeartbeats 40000000 in
theorem rm5_2 (l : Launch) (Z : State) (a0 : Array Value) (hw : ∀ d ∈ tables_1, d.before a0 Z = true) (ws : List Jvm.Cond) (r0 : Addr) (r1 : Addr) (kC : ClassId) (G : Int32) (c0 : Int32) (c1 : Int32) (h0 : Heap) (n0 : Nat) (Z0 : n0 ≤ h0.size) (E_r0 : Exa Z h0 r0 "java/lang/String") (F_c : Fld Z h0 r0 "java/lang/String" "coder" "B" (.int (0 : Int32))) (F_v : Fld Z h0 r0 "java/lang/String" "value" "[B" .null) (g_r0 : n0 ≤ r0) (V_r1 : Arv Z h0 r1 kC .char (2 : Int32) [(.int c0), (.int c1)] (.int (0 : Int32))) (S_cs : Sta Z h0 "java/lang/String" "COMPACT_STRINGS" "Z" (.int G)) (hG : ¬ G = 0) (hl0 : ¬ (255 : Int32) < c0) (hl1 : ¬ (255 : Int32) < c1) :
    MetFree l (⟨"java/lang/String", "<init>", "([C)V"⟩ : MethodName) (head1 (Jvm.Cond.code (⟨"java/lang/String", "<init>", "([C)V"⟩ : MethodName) jdk_42_method_3_code 2 none :: ws) ({ frames := 3, cells := 1, slots := 2, locals := 52 } : Room)) (fun a U => a = #[(.ref r0), (.ref r1)] ∧ Z.Warmed39 U.vm ∧ U.heap = h0) (fun _ _ _ _ _ => True) (fun _ U o U' => ∃ v L, o = .returned v ∧ Q5_2 Z r0 r1 kC G c0 c1 h0 n0 v U'.heap L ∧ FrameEnd U o U' L ({ frames := 3, cells := 1, slots := 2, locals := 52 } : Room).cells ({ frames := 3, cells := 1, slots := 2, locals := 52 } : Room).slots) := by
  refine MetFree.of_bodySF (plainFor_of_name pn_6) hisR ?_
  intro p e s m args below meth c s₁ Bd hml0 hP hK
  obtain ⟨rfl, hZ, hh⟩ := hP
  have hx := Bd.exec
  have hby := Bd.bytes
  have hml : c.maxLocals = 2 := hml0
  have hown : s.vm.findClass "java/lang/String" = some m.cls := findClass_of_methodNamed Bd.named
  have hnm := (name_of_methodNamed Bd.named Bd.method).1
  have X0 : Stand p l e ({ frames := 3, cells := 1, slots := 2, locals := 52 } : Room) s m #[(.ref r0), (.ref r1)] below meth c s₁ [] 0 0 := Stand.of_body Bd
  have e0 : s₁.heap = h0 := by rw [← hh, Bd.state]; rfl
  have N0 := Fr.nil n0
  have K0 : ∀ t, Steps p.tables e below (s₁.setTop (mkF m 0 #[.val (.ref r0), .val (.ref r1)] [])) t → Steps p.tables e below (s₁.setTop (entryFrame m #[(.ref r0), (.ref r1)] 2)) t := fun t k => castTop (ef_5_2 m r0 r1) k
  generalize s₁.setTop (entryFrame m #[(.ref r0), (.ref r1)] 2) = SE at K0 ⊢
  have K1 : ∀ t, own_S p e below s₁ (mkF m 4 #[.val (.ref r0), .val (.ref r1)] [(.ref r1), (.int (0 : Int32)), (.ref r1), (.ref r0)]) t → Steps p.tables e below SE t := by
    intro t k
    refine K0 _ ?_
    refine XS.aloadN X0.here hx rfl (hb hby d5_0) rfl rfl ?_
    show own_S p e below s₁ (mkF m 1 #[.val (.ref r0), .val (.ref r1)] [(.ref r0)]) _
    refine XS.aloadN X0.here hx rfl (hb hby d5_1) rfl rfl ?_
    show own_S p e below s₁ (mkF m 2 #[.val (.ref r0), .val (.ref r1)] [(.ref r1), (.ref r0)]) _
    refine XS.iconst X0.here hx rfl (hb hby d5_2) ?_
    show own_S p e below s₁ (mkF m 3 #[.val (.ref r0), .val (.ref r1)] [(.int (0 : Int32)), (.ref r1), (.ref r0)]) _
    refine XS.aloadN X0.here hx rfl (hb hby d5_3) rfl rfl ?_
    exact k
  obtain ⟨cl2, Ar2, -, S2, Ng2, -, -⟩ := id V_r1
  have K3 : ∀ t, own_S p e below s₁ (mkF m 6 #[.val (.ref r0), .val (.ref r1)] [.null, (.int (2 : Int32)), (.int (0 : Int32)), (.ref r1), (.ref r0)]) t → Steps p.tables e below SE t := by
    intro t k
    refine K1 _ ?_
    refine X0.arraylength hx (by rw [e0]; exact Ar2.1) (State.isArrayOf_alike hZ.alike Ar2.2.1) (g := (mkF m 4 #[.val (.ref r0), .val (.ref r1)] [(.ref r1), (.int (0 : Int32)), (.ref r1), (.ref r0)])) rfl rfl (hb hby d5_4) _ ?_
    rw [len_of S2 Ng2]
    show own_S p e below s₁ (mkF m 5 #[.val (.ref r0), .val (.ref r1)] [(.int (2 : Int32)), (.int (0 : Int32)), (.ref r1), (.ref r0)]) _
    refine XS.aconstNull X0.here hx rfl (hb hby d5_5) ?_
    exact k
  obtain ⟨_, _, ⟨T4, L4, k4, n4⟩, -, X4, ⟨Lc4, hQ4, l4, y4, z4⟩, st4⟩ := X0.specialBack hx (y := (⟨"java/lang/String", "<init>", "([CIILjava/lang/Void;)V"⟩ : MethodName)) rfl hown (mvT hZ (hw _ (List.mem_of_getElem? (i := 42) rfl))) (mvT hZ (hw _ (List.mem_of_getElem? (i := 43) rfl))) (mvT hZ (hw _ (List.mem_of_getElem? (i := 45) rfl))) (by decide) (backOf (W := 0) (rm6_2 l Z a0 hw [] r0 r1 kC G c0 c1 h0 n0 Z0 E_r0 F_c F_v g_r0 V_r1 S_cs hG hl0 hl1) hZ (hw _ (List.mem_of_getElem? (i := 45) rfl)) (hw _ (List.mem_of_getElem? (i := 5) rfl)) (by decide) (by decide)) (g := (mkF m 6 #[.val (.ref r0), .val (.ref r1)] [.null, (.int (2 : Int32)), (.int (0 : Int32)), (.ref r1), (.ref r0)])) rfl (by rw [hml]; rfl) (Steps.refl _) (a := r0) (argsL := [(.ref r1), (.int (0 : Int32)), (.int (2 : Int32)), .null]) (rest := []) (lenOf pd_5_2_0 rfl) rfl (by show 2 * 0 + _ ≤ _; exact Nat.le_of_eq rfl) (hb hby d5_6) (fun _ _ => ⟨rfl, e0, (by decide : 0 + 1 ≤ _), (by decide : 0 + 2 ≤ _)⟩)
  dsimp only [Pt.U, Pt.locs, Pt.cells, Pt.slots] at X4 l4 y4 z4 st4 hQ4
  subst l4 y4 z4
  obtain ⟨rfl, Nq4, Kq4, rest4⟩ := hQ4
  have N4 := Fr.app N0 Nq4
  have Kp4 : Keep h0 T4.heap [r0] := Keep.trans (Keep.refl h0 [r0]) Kq4 (allS (Or.inl (List.mem_of_getElem? (i := 0) rfl)) all0)
  have K4 : ∀ t, own_S p e below T4 (mkF m 9 #[.val (.ref r0), .val (.ref r1)] []) t → Steps p.tables e below SE t := fun t k => K3 _ (st4.trans k)
  obtain ⟨fs, hr, hrun, hended, hW, hsame⟩ := X4.leave (v := none) (fun _ => rfl)
  refine ⟨_, _, K4 _ ?_, hrun, hended, _, _, rfl, ?_, ⟨_, rfl⟩, hW, hsame.mono (by decide) (by decide)⟩
  · exact X4.returnOut hx Bd.returns (hb hby d5_9) hr
  · show Q5_2 Z r0 r1 kC G c0 c1 h0 n0 _ T4.heap _
    exact ⟨rfl, N4, Kp4, rest4⟩
theorem d1_0 : decode jdk_29_method_66_code 0 = .ok (.lload_n 0, 1) := by decide +kernel
theorem d1_1 : decode jdk_29_method_66_code 1 = .ok (.lload_n 2, 1) := by decide +kernel
theorem d1_2 : decode jdk_29_method_66_code 2 = .ok (.lcmp, 1) := by decide +kernel
theorem d1_3 : decode jdk_29_method_66_code 3 = .ok (.ifCond .lt 7, 3) := by decide +kernel
theorem d1_6 : decode jdk_29_method_66_code 6 = .ok (.lload_n 0, 1) := by decide +kernel
theorem d1_7 : decode jdk_29_method_66_code 7 = .ok (.goto 4, 3) := by decide +kernel
theorem d1_10 : decode jdk_29_method_66_code 10 = .ok (.lload_n 2, 1) := by decide +kernel
theorem d1_11 : decode jdk_29_method_66_code 11 = .ok (.lreturn, 1) := by decide +kernel
theorem ef_1 (m : MethodId) (q0 : Int64) (q1 : Int64) : entryFrame m #[(.long q0), (.long q1)] 4 = mkF m 0 #[.val (.long q0), .second, .val (.long q1), .second] [] := by first | (simp [entryFrame, mkF, argsToLocals, Value.category]; done) | rfl
def Q1 (Z : State) (q0 : Int64) (q1 : Int64) (h0 : Heap) (n0 : Nat) (v : Option Value) (h : Heap) (L : List Loc) : Prop := v = some (.long (if q0 < q1 then q1 else q0)) ∧ Fr n0 L ∧ h = h0
set_option maxRecDepth 65536 in
set_option maxHeartbeats 40000000 in
theorem rm1 (l : Launch) (Z : State) (a0 : Array Value) (hw : ∀ d ∈ tables_1, d.before a0 Z = true) (ws : List Jvm.Cond) (q0 : Int64) (q1 : Int64) (h0 : Heap) (n0 : Nat) (Z0 : n0 ≤ h0.size) :
    MetFree l (⟨"java/lang/Math", "max", "(JJ)J"⟩ : MethodName) (head1 (Jvm.Cond.code (⟨"java/lang/Math", "max", "(JJ)J"⟩ : MethodName) jdk_29_method_66_code 4 (some .long) :: ws) ({ frames := 0, cells := 0, slots := 0, locals := 0 } : Room)) (fun a U => a = #[(.long q0), (.long q1)] ∧ Z.Warmed39 U.vm ∧ U.heap = h0) (fun _ _ _ _ _ => True) (fun _ U o U' => ∃ v L, o = .returned v ∧ Q1 Z q0 q1 h0 n0 v U'.heap L ∧ FrameEnd U o U' L ({ frames := 0, cells := 0, slots := 0, locals := 0 } : Room).cells ({ frames := 0, cells := 0, slots := 0, locals := 0 } : Room).slots) := by
  refine MetFree.of_bodySF (Jvm.Free.JP.mathPlain rfl (by decide +kernel)) hisR ?_
  intro p e s m args below meth c s₁ Bd hml0 hP hK
  obtain ⟨rfl, hZ, hh⟩ := hP
  have hx := Bd.exec
  have hby := Bd.bytes
  have hml : c.maxLocals = 4 := hml0
  have hown : s.vm.findClass "java/lang/Math" = some m.cls := findClass_of_methodNamed Bd.named
  have hnm := (name_of_methodNamed Bd.named Bd.method).1
  have X0 : Stand p l e ({ frames := 0, cells := 0, slots := 0, locals := 0 } : Room) s m #[(.long q0), (.long q1)] below meth c s₁ [] 0 0 := Stand.of_body Bd
  have e0 : s₁.heap = h0 := by rw [← hh, Bd.state]; rfl
  have N0 := Fr.nil n0
  have K0 : ∀ t, Steps p.tables e below (s₁.setTop (mkF m 0 #[.val (.long q0), .second, .val (.long q1), .second] [])) t → Steps p.tables e below (s₁.setTop (entryFrame m #[(.long q0), (.long q1)] 4)) t := fun t k => castTop (ef_1 m q0 q1) k
  generalize s₁.setTop (entryFrame m #[(.long q0), (.long q1)] 4) = SE at K0 ⊢
  have K2 : ∀ t, own_S p e below s₁ (mkF m 3 #[.val (.long q0), .second, .val (.long q1), .second] [(.int (XT.cmpL q0 q1))]) t → Steps p.tables e below SE t := by
    intro t k
    refine K0 _ ?_
    refine XS.lloadN X0.here hx rfl (hb hby d1_0) rfl ?_
    show own_S p e below s₁ (mkF m 1 #[.val (.long q0), .second, .val (.long q1), .second] [(.long q0)]) _
    refine XS.lloadN X0.here hx rfl (hb hby d1_1) rfl ?_
    show own_S p e below s₁ (mkF m 2 #[.val (.long q0), .second, .val (.long q1), .second] [(.long q1), (.long q0)]) _
    refine XT.lcmp X0.here hx rfl (hb hby d1_2) rfl ?_
    exact k
  by_cases c3_1 : q0 < q1
  · skip
    have K3 : ∀ t, own_S p e below s₁ (mkF m 11 #[.val (.long q0), .second, .val (.long q1), .second] [(.long q1)]) t → Steps p.tables e below SE t := by
      intro t k
      refine K2 _ ?_
      refine XS.ifYes X0.here hx rfl (pc0 := 3) (pc' := 10) rfl (hb hby d1_3) rfl (XT.ll_lt_t c3_1) (by decide) (by decide) ?_
      show own_S p e below s₁ (mkF m 10 #[.val (.long q0), .second, .val (.long q1), .second] []) _
      refine XS.lloadN X0.here hx rfl (hb hby d1_10) rfl ?_
      exact k
    obtain ⟨fs, hr, hrun, hended, hW, hsame⟩ := X0.leave (v := some (.long q1)) (fun h => by rw [Bd.returns] at h; cases h)
    refine ⟨_, _, K3 _ ?_, hrun, hended, _, _, rfl, ?_, ⟨_, rfl⟩, hW, hsame.mono (by decide) (by decide)⟩
    · exact X0.lreturnOut hx Bd.returns (hb hby d1_11) hr
    · show Q1 Z q0 q1 h0 n0 _ s₁.heap _
      rw [e0]
      exact ⟨(by simp only [if_pos c3_1]), N0, rfl⟩
  · skip
    have K4 : ∀ t, own_S p e below s₁ (mkF m 11 #[.val (.long q0), .second, .val (.long q1), .second] [(.long q0)]) t → Steps p.tables e below SE t := by
      intro t k
      refine K2 _ ?_
      refine XS.ifNo X0.here hx rfl (hb hby d1_3) rfl (XT.ll_lt_f c3_1) ?_
      show own_S p e below s₁ (mkF m 6 #[.val (.long q0), .second, .val (.long q1), .second] []) _
      refine XS.lloadN X0.here hx rfl (hb hby d1_6) rfl ?_
      show own_S p e below s₁ (mkF m 7 #[.val (.long q0), .second, .val (.long q1), .second] [(.long q0)]) _
      refine XS.goto X0.here hx rfl (pc0 := 7) (pc' := 11) rfl (hb hby d1_7) (by decide) (by decide) ?_
      exact k
    obtain ⟨fs, hr, hrun, hended, hW, hsame⟩ := X0.leave (v := some (.long q0)) (fun h => by rw [Bd.returns] at h; cases h)
    refine ⟨_, _, K4 _ ?_, hrun, hended, _, _, rfl, ?_, ⟨_, rfl⟩, hW, hsame.mono (by decide) (by decide)⟩
    · exact X0.lreturnOut hx Bd.returns (hb hby d1_11) hr
    · show Q1 Z q0 q1 h0 n0 _ s₁.heap _
      rw [e0]
      exact ⟨(by simp only [if_neg c3_1]), N0, rfl⟩
theorem d10_0 : decode prog_25_method_1_code 0 = .ok (.aload_n 0, 1) := by decide +kernel
theorem d10_1 : decode prog_25_method_1_code 1 = .ok (.invokespecial 1, 3) := by decide +kernel
theorem d10_4 : decode prog_25_method_1_code 4 = .ok (.aload_n 0, 1) := by decide +kernel
theorem d10_5 : decode prog_25_method_1_code 5 = .ok (.lload_n 1, 1) := by decide +kernel
theorem d10_6 : decode prog_25_method_1_code 6 = .ok (.putfield 7, 3) := by decide +kernel
theorem d10_9 : decode prog_25_method_1_code 9 = .ok (.aload_n 0, 1) := by decide +kernel
theorem d10_10 : decode prog_25_method_1_code 10 = .ok (.aload_n 3, 1) := by decide +kernel
theorem d10_11 : decode prog_25_method_1_code 11 = .ok (.putfield 13, 3) := by decide +kernel
theorem d10_14 : decode prog_25_method_1_code 14 = .ok (.aload_n 0, 1) := by decide +kernel
theorem d10_15 : decode prog_25_method_1_code 15 = .ok (.iload 4, 2) := by decide +kernel
theorem d10_17 : decode prog_25_method_1_code 17 = .ok (.putfield 17, 3) := by decide +kernel
theorem d10_20 : decode prog_25_method_1_code 20 = .ok (.return_, 1) := by decide +kernel
theorem pn_10 : plainName "com/example/aswan/aswan/rule/ClusterConfig" = true := by first | (simp [plainName, overriddenIn]; done) | decide +kernel
theorem ef_cc (m : MethodId) (r0 : Addr) (q1 : Int64) (r2 : Addr) (p3 : Int32) : entryFrame m #[(.ref r0), (.long q1), (.ref r2), (.int p3)] 5 = mkF m 0 #[.val (.ref r0), .val (.long q1), .second, .val (.ref r2), .val (.int p3)] [] := by first | (simp [entryFrame, mkF, argsToLocals, Value.category]; done) | rfl
def Qcc (Z : State) (r0 : Addr) (q1 : Int64) (r2 : Addr) (p3 : Int32) (h0 : Heap) (n0 : Nat) (v : Option Value) (h : Heap) (L : List Loc) : Prop := v = none ∧ Fr n0 L ∧ Keep h0 h [r0] ∧ Exa Z h r0 "com/example/aswan/aswan/rule/ClusterConfig" ∧ Fld Z h r0 "com/example/aswan/aswan/rule/ClusterConfig" "flowId" "J" (.long q1) ∧ Fld Z h r0 "com/example/aswan/aswan/rule/ClusterConfig" "thresholdType" "Lcom/example/aswan/aswan/rule/ThresholdType;" (.ref r2) ∧ Fld Z h r0 "com/example/aswan/aswan/rule/ClusterConfig" "fallbackToLocalWhenFail" "Z" (.int (nar .boolean p3))
set_option maxRecDepth 65536 in
set_option maxHeartbeats 40000000 in
theorem rmcc (l : Launch) (Z : State) (a0 : Array Value) (hw : ∀ d ∈ tables_1, d.before a0 Z = true) (ws : List Jvm.Cond) (r0 : Addr) (q1 : Int64) (r2 : Addr) (p3 : Int32) (h0 : Heap) (n0 : Nat) (Z0 : n0 ≤ h0.size) (E_r0 : Exa Z h0 r0 "com/example/aswan/aswan/rule/ClusterConfig") (F0 : Fld Z h0 r0 "com/example/aswan/aswan/rule/ClusterConfig" "flowId" "J" (.long (0 : Int64))) (F1 : Fld Z h0 r0 "com/example/aswan/aswan/rule/ClusterConfig" "thresholdType" "Lcom/example/aswan/aswan/rule/ThresholdType;" .null) (F2 : Fld Z h0 r0 "com/example/aswan/aswan/rule/ClusterConfig" "fallbackToLocalWhenFail" "Z" (.int (0 : Int32))) (g_r0 : n0 ≤ r0) :
    MetFree l (⟨"com/example/aswan/aswan/rule/ClusterConfig", "<init>", "(JLcom/example/aswan/aswan/rule/ThresholdType;Z)V"⟩ : MethodName) (head1 (Jvm.Cond.code (⟨"com/example/aswan/aswan/rule/ClusterConfig", "<init>", "(JLcom/example/aswan/aswan/rule/ThresholdType;Z)V"⟩ : MethodName) prog_25_method_1_code 5 none :: ws) ({ frames := 1, cells := 0, slots := 0, locals := 12 } : Room)) (fun a U => a = #[(.ref r0), (.long q1), (.ref r2), (.int p3)] ∧ Z.Warmed39 U.vm ∧ U.heap = h0) (fun _ _ _ _ _ => True) (fun _ U o U' => ∃ v L, o = .returned v ∧ Qcc Z r0 q1 r2 p3 h0 n0 v U'.heap L ∧ FrameEnd U o U' L ({ frames := 1, cells := 0, slots := 0, locals := 12 } : Room).cells ({ frames := 1, cells := 0, slots := 0, locals := 12 } : Room).slots) := by
  refine MetFree.of_bodySF (plainFor_of_name pn_10) hisR ?_
  intro p e s m args below meth c s₁ Bd hml0 hP hK
  obtain ⟨rfl, hZ, hh⟩ := hP
  have hx := Bd.exec
  have hby := Bd.bytes
  have hml : c.maxLocals = 5 := hml0
  have hown : s.vm.findClass "com/example/aswan/aswan/rule/ClusterConfig" = some m.cls := findClass_of_methodNamed Bd.named
  have hnm := (name_of_methodNamed Bd.named Bd.method).1
  have X0 : Stand p l e ({ frames := 1, cells := 0, slots := 0, locals := 12 } : Room) s m #[(.ref r0), (.long q1), (.ref r2), (.int p3)] below meth c s₁ [] 0 0 := Stand.of_body Bd
  have e0 : s₁.heap = h0 := by rw [← hh, Bd.state]; rfl
  have N0 := Fr.nil n0
  have K0 : ∀ t, Steps p.tables e below (s₁.setTop (mkF m 0 #[.val (.ref r0), .val (.long q1), .second, .val (.ref r2), .val (.int p3)] [])) t → Steps p.tables e below (s₁.setTop (entryFrame m #[(.ref r0), (.long q1), (.ref r2), (.int p3)] 5)) t := fun t k => castTop (ef_cc m r0 q1 r2 p3) k
  generalize s₁.setTop (entryFrame m #[(.ref r0), (.long q1), (.ref r2), (.int p3)] 5) = SE at K0 ⊢
  have K1 : ∀ t, own_S p e below s₁ (mkF m 1 #[.val (.ref r0), .val (.long q1), .second, .val (.ref r2), .val (.int p3)] [(.ref r0)]) t → Steps p.tables e below SE t := by
    intro t k
    refine K0 _ ?_
    refine XS.aloadN X0.here hx rfl (hb hby d10_0) rfl rfl ?_
    exact k
  obtain ⟨T2, X2, e2, st2⟩ := initO X0 hx hZ hown (hw _ (List.mem_of_getElem? (i := 66) rfl)) (hw _ (List.mem_of_getElem? (i := 25) rfl)) (hw _ (List.mem_of_getElem? (i := 26) rfl)) e0 (g := (mkF m 1 #[.val (.ref r0), .val (.long q1), .second, .val (.ref r2), .val (.int p3)] [(.ref r0)])) rfl (by rw [hml]; rfl) rfl (hb hby d10_1) (by decide) (W := 0) (by show 2 * 0 + _ ≤ _; exact Nat.le_of_eq rfl) (by decide)
  have K2 : ∀ t, own_S p e below T2 (mkF m 4 #[.val (.ref r0), .val (.long q1), .second, .val (.ref r2), .val (.int p3)] []) t → Steps p.tables e below SE t := fun t k => K1 _ (st2 _ k)
  have K3 : ∀ t, own_S p e below T2 (mkF m 6 #[.val (.ref r0), .val (.long q1), .second, .val (.ref r2), .val (.int p3)] [(.long q1), (.ref r0)]) t → Steps p.tables e below SE t := by
    intro t k
    refine K2 _ ?_
    refine XS.aloadN X2.here hx rfl (hb hby d10_4) rfl rfl ?_
    show own_S p e below T2 (mkF m 5 #[.val (.ref r0), .val (.long q1), .second, .val (.ref r2), .val (.int p3)] [(.ref r0)]) _
    refine XS.lloadN X2.here hx rfl (hb hby d10_5) rfl ?_
    exact k
  obtain ⟨T4, h4, X4, e4, W4, st4⟩ := putF X2 hx hZ hown (host := "") (Or.inl (hw _ (List.mem_of_getElem? (i := 67) rfl))) Via.refl e2 F0 E_r0 (Or.inr ⟨(hw _ (List.mem_of_getElem? (i := 68) rfl)), rfl, hnm⟩) (hw _ (List.mem_of_getElem? (i := 61) rfl)) (ty := .long) (by decide) rfl rfl (g := (mkF m 6 #[.val (.ref r0), .val (.long q1), .second, .val (.ref r2), .val (.int p3)] [(.long q1), (.ref r0)])) rfl rfl (hb hby d10_6)
  have Fw4 := Fld.same W4 F0
  have N4 := Fr.snoc X4 N0 g_r0
  have Kp4 : Keep h0 h4 [r0] := Keep.wr (Keep.refl h0 [r0]) W4 (Or.inl (List.mem_of_getElem? (i := 0) rfl))
  have K4 : ∀ t, own_S p e below T4 (mkF m 9 #[.val (.ref r0), .val (.long q1), .second, .val (.ref r2), .val (.int p3)] []) t → Steps p.tables e below SE t := fun t k => K3 _ (st4 _ k)
  have K5 : ∀ t, own_S p e below T4 (mkF m 11 #[.val (.ref r0), .val (.long q1), .second, .val (.ref r2), .val (.int p3)] [(.ref r2), (.ref r0)]) t → Steps p.tables e below SE t := by
    intro t k
    refine K4 _ ?_
    refine XS.aloadN X4.here hx rfl (hb hby d10_9) rfl rfl ?_
    show own_S p e below T4 (mkF m 10 #[.val (.ref r0), .val (.long q1), .second, .val (.ref r2), .val (.int p3)] [(.ref r0)]) _
    refine XS.aloadN X4.here hx rfl (hb hby d10_10) rfl rfl ?_
    exact k
  obtain ⟨T6, h6, X6, e6, W6, st6⟩ := putF X4 hx hZ hown (host := "") (Or.inl (hw _ (List.mem_of_getElem? (i := 69) rfl))) Via.refl e4 (F1.other W4 (Or.inr (slot_ne (Or.inr (hw _ (List.mem_of_getElem? (i := 70) rfl))) (Or.inr (hw _ (List.mem_of_getElem? (i := 68) rfl))) (by decide) (t := (.object "com/example/aswan/aswan/rule/ThresholdType")) (t' := .long) (by decide) (by decide)))) (E_r0.wr W4) (Or.inr ⟨(hw _ (List.mem_of_getElem? (i := 70) rfl)), rfl, hnm⟩) (hw _ (List.mem_of_getElem? (i := 61) rfl)) (ty := (.object "com/example/aswan/aswan/rule/ThresholdType")) (by decide) rfl rfl (g := (mkF m 11 #[.val (.ref r0), .val (.long q1), .second, .val (.ref r2), .val (.int p3)] [(.ref r2), (.ref r0)])) rfl rfl (hb hby d10_11)
  have Fw6 := Fld.same W6 (F1.other W4 (Or.inr (slot_ne (Or.inr (hw _ (List.mem_of_getElem? (i := 70) rfl))) (Or.inr (hw _ (List.mem_of_getElem? (i := 68) rfl))) (by decide) (t := (.object "com/example/aswan/aswan/rule/ThresholdType")) (t' := .long) (by decide) (by decide))))
  have N6 := Fr.snoc X6 N4 g_r0
  have Kp6 : Keep h0 h6 [r0] := Keep.wr Kp4 W6 (Or.inl (List.mem_of_getElem? (i := 0) rfl))
  have K6 : ∀ t, own_S p e below T6 (mkF m 14 #[.val (.ref r0), .val (.long q1), .second, .val (.ref r2), .val (.int p3)] []) t → Steps p.tables e below SE t := fun t k => K5 _ (st6 _ k)
  have K7 : ∀ t, own_S p e below T6 (mkF m 17 #[.val (.ref r0), .val (.long q1), .second, .val (.ref r2), .val (.int p3)] [(.int p3), (.ref r0)]) t → Steps p.tables e below SE t := by
    intro t k
    refine K6 _ ?_
    refine XS.aloadN X6.here hx rfl (hb hby d10_14) rfl rfl ?_
    show own_S p e below T6 (mkF m 15 #[.val (.ref r0), .val (.long q1), .second, .val (.ref r2), .val (.int p3)] [(.ref r0)]) _
    refine XS.iload X6.here hx rfl (hb hby d10_15) rfl ?_
    exact k
  obtain ⟨T8, h8, X8, e8, W8, st8⟩ := putFN X6 hx hZ hown (hw _ (List.mem_of_getElem? (i := 71) rfl)) Via.refl e6 ((F2.other W4 (Or.inr (slot_ne (Or.inr (hw _ (List.mem_of_getElem? (i := 72) rfl))) (Or.inr (hw _ (List.mem_of_getElem? (i := 68) rfl))) (by decide) (t := .boolean) (t' := .long) (by decide) (by decide)))).other W6 (Or.inr (slot_ne (Or.inr (hw _ (List.mem_of_getElem? (i := 72) rfl))) (Or.inr (hw _ (List.mem_of_getElem? (i := 70) rfl))) (by decide) (t := .boolean) (t' := (.object "com/example/aswan/aswan/rule/ThresholdType")) (by decide) (by decide)))) ((E_r0.wr W4).wr W6) (Or.inr ⟨(hw _ (List.mem_of_getElem? (i := 72) rfl)), rfl, hnm⟩) (hw _ (List.mem_of_getElem? (i := 61) rfl)) (ty := .boolean) (v' := (.int (nar .boolean p3))) (by decide) rfl (fits_nar_bool _) (g := (mkF m 17 #[.val (.ref r0), .val (.long q1), .second, .val (.ref r2), .val (.int p3)] [(.int p3), (.ref r0)])) rfl rfl (hb hby d10_17)
  have Fw8 := Fld.same W8 ((F2.other W4 (Or.inr (slot_ne (Or.inr (hw _ (List.mem_of_getElem? (i := 72) rfl))) (Or.inr (hw _ (List.mem_of_getElem? (i := 68) rfl))) (by decide) (t := .boolean) (t' := .long) (by decide) (by decide)))).other W6 (Or.inr (slot_ne (Or.inr (hw _ (List.mem_of_getElem? (i := 72) rfl))) (Or.inr (hw _ (List.mem_of_getElem? (i := 70) rfl))) (by decide) (t := .boolean) (t' := (.object "com/example/aswan/aswan/rule/ThresholdType")) (by decide) (by decide))))
  have N8 := Fr.snoc X8 N6 g_r0
  have Kp8 : Keep h0 h8 [r0] := Keep.wr Kp6 W8 (Or.inl (List.mem_of_getElem? (i := 0) rfl))
  have K8 : ∀ t, own_S p e below T8 (mkF m 20 #[.val (.ref r0), .val (.long q1), .second, .val (.ref r2), .val (.int p3)] []) t → Steps p.tables e below SE t := fun t k => K7 _ (st8 _ k)
  obtain ⟨fs, hr, hrun, hended, hW, hsame⟩ := X8.leave (v := none) (fun _ => rfl)
  refine ⟨_, _, K8 _ ?_, hrun, hended, _, _, rfl, ?_, ⟨_, rfl⟩, hW, hsame.mono (by decide) (by decide)⟩
  · exact X8.returnOut hx Bd.returns (hb hby d10_20) hr
  · show Qcc Z r0 q1 r2 p3 h0 n0 _ T8.heap _
    rw [e8]
    exact ⟨rfl, N8, Kp8, (((E_r0.wr W4).wr W6).wr W8), ((Fw4.other W6 (Or.inr (slot_ne (Or.inr (hw _ (List.mem_of_getElem? (i := 68) rfl))) (Or.inr (hw _ (List.mem_of_getElem? (i := 70) rfl))) (by decide) (t := .long) (t' := (.object "com/example/aswan/aswan/rule/ThresholdType")) (by decide) (by decide)))).other W8 (Or.inr (slot_ne (Or.inr (hw _ (List.mem_of_getElem? (i := 68) rfl))) (Or.inr (hw _ (List.mem_of_getElem? (i := 72) rfl))) (by decide) (t := .long) (t' := .boolean) (by decide) (by decide)))), (Fw6.other W8 (Or.inr (slot_ne (Or.inr (hw _ (List.mem_of_getElem? (i := 70) rfl))) (Or.inr (hw _ (List.mem_of_getElem? (i := 72) rfl))) (by decide) (t := (.object "com/example/aswan/aswan/rule/ThresholdType")) (t' := .boolean) (by decide) (by decide)))), Fw8⟩
theorem d2_0 : decode prog_26_method_1_code 0 = .ok (.aload_n 0, 1) := by decide +kernel
theorem d2_1 : decode prog_26_method_1_code 1 = .ok (.invokespecial 1, 3) := by decide +kernel
theorem d2_4 : decode prog_26_method_1_code 4 = .ok (.aload_n 0, 1) := by decide +kernel
theorem d2_5 : decode prog_26_method_1_code 5 = .ok (.aload_n 1, 1) := by decide +kernel
theorem d2_6 : decode prog_26_method_1_code 6 = .ok (.putfield 7, 3) := by decide +kernel
theorem d2_9 : decode prog_26_method_1_code 9 = .ok (.aload_n 0, 1) := by decide +kernel
theorem d2_10 : decode prog_26_method_1_code 10 = .ok (.dload_n 2, 1) := by decide +kernel
theorem d2_11 : decode prog_26_method_1_code 11 = .ok (.putfield 13, 3) := by decide +kernel
theorem d2_14 : decode prog_26_method_1_code 14 = .ok (.aload_n 0, 1) := by decide +kernel
theorem d2_15 : decode prog_26_method_1_code 15 = .ok (.aload 4, 2) := by decide +kernel
theorem d2_17 : decode prog_26_method_1_code 17 = .ok (.putfield 17, 3) := by decide +kernel
theorem d2_20 : decode prog_26_method_1_code 20 = .ok (.return_, 1) := by decide +kernel
theorem pn_2 : plainName "com/example/aswan/aswan/rule/FlowRule" = true := by first | (simp [plainName, overriddenIn]; done) | decide +kernel
theorem ef_fr (m : MethodId) (r0 : Addr) (r1 : Addr) (f2 : UInt64) (r3 : Addr) : entryFrame m #[(.ref r0), (.ref r1), (.double f2), (.ref r3)] 5 = mkF m 0 #[.val (.ref r0), .val (.ref r1), .val (.double f2), .second, .val (.ref r3)] [] := by first | (simp [entryFrame, mkF, argsToLocals, Value.category]; done) | rfl
def Qfr (Z : State) (r0 : Addr) (r1 : Addr) (f2 : UInt64) (r3 : Addr) (h0 : Heap) (n0 : Nat) (v : Option Value) (h : Heap) (L : List Loc) : Prop := v = none ∧ Fr n0 L ∧ Keep h0 h [r0] ∧ Exa Z h r0 "com/example/aswan/aswan/rule/FlowRule" ∧ Fld Z h r0 "com/example/aswan/aswan/rule/FlowRule" "resource" "Ljava/lang/String;" (.ref r1) ∧ Fld Z h r0 "com/example/aswan/aswan/rule/FlowRule" "count" "D" (.double f2) ∧ Fld Z h r0 "com/example/aswan/aswan/rule/FlowRule" "clusterConfig" "Lcom/example/aswan/aswan/rule/ClusterConfig;" (.ref r3)
set_option maxRecDepth 65536 in
set_option maxHeartbeats 40000000 in
theorem rmfr (l : Launch) (Z : State) (a0 : Array Value) (hw : ∀ d ∈ tables_1, d.before a0 Z = true) (ws : List Jvm.Cond) (r0 : Addr) (r1 : Addr) (f2 : UInt64) (r3 : Addr) (h0 : Heap) (n0 : Nat) (Z0 : n0 ≤ h0.size) (E_r0 : Exa Z h0 r0 "com/example/aswan/aswan/rule/FlowRule") (F0 : Fld Z h0 r0 "com/example/aswan/aswan/rule/FlowRule" "resource" "Ljava/lang/String;" .null) (F1 : Fld Z h0 r0 "com/example/aswan/aswan/rule/FlowRule" "count" "D" (.double (0 : UInt64))) (F2 : Fld Z h0 r0 "com/example/aswan/aswan/rule/FlowRule" "clusterConfig" "Lcom/example/aswan/aswan/rule/ClusterConfig;" .null) (g_r0 : n0 ≤ r0) :
    MetFree l (⟨"com/example/aswan/aswan/rule/FlowRule", "<init>", "(Ljava/lang/String;DLcom/example/aswan/aswan/rule/ClusterConfig;)V"⟩ : MethodName) (head1 (Jvm.Cond.code (⟨"com/example/aswan/aswan/rule/FlowRule", "<init>", "(Ljava/lang/String;DLcom/example/aswan/aswan/rule/ClusterConfig;)V"⟩ : MethodName) prog_26_method_1_code 5 none :: ws) ({ frames := 1, cells := 0, slots := 0, locals := 12 } : Room)) (fun a U => a = #[(.ref r0), (.ref r1), (.double f2), (.ref r3)] ∧ Z.Warmed39 U.vm ∧ U.heap = h0) (fun _ _ _ _ _ => True) (fun _ U o U' => ∃ v L, o = .returned v ∧ Qfr Z r0 r1 f2 r3 h0 n0 v U'.heap L ∧ FrameEnd U o U' L ({ frames := 1, cells := 0, slots := 0, locals := 12 } : Room).cells ({ frames := 1, cells := 0, slots := 0, locals := 12 } : Room).slots) := by
  refine MetFree.of_bodySF (plainFor_of_name pn_2) hisR ?_
  intro p e s m args below meth c s₁ Bd hml0 hP hK
  obtain ⟨rfl, hZ, hh⟩ := hP
  have hx := Bd.exec
  have hby := Bd.bytes
  have hml : c.maxLocals = 5 := hml0
  have hown : s.vm.findClass "com/example/aswan/aswan/rule/FlowRule" = some m.cls := findClass_of_methodNamed Bd.named
  have hnm := (name_of_methodNamed Bd.named Bd.method).1
  have X0 : Stand p l e ({ frames := 1, cells := 0, slots := 0, locals := 12 } : Room) s m #[(.ref r0), (.ref r1), (.double f2), (.ref r3)] below meth c s₁ [] 0 0 := Stand.of_body Bd
  have e0 : s₁.heap = h0 := by rw [← hh, Bd.state]; rfl
  have N0 := Fr.nil n0
  have K0 : ∀ t, Steps p.tables e below (s₁.setTop (mkF m 0 #[.val (.ref r0), .val (.ref r1), .val (.double f2), .second, .val (.ref r3)] [])) t → Steps p.tables e below (s₁.setTop (entryFrame m #[(.ref r0), (.ref r1), (.double f2), (.ref r3)] 5)) t := fun t k => castTop (ef_fr m r0 r1 f2 r3) k
  generalize s₁.setTop (entryFrame m #[(.ref r0), (.ref r1), (.double f2), (.ref r3)] 5) = SE at K0 ⊢
  have K1 : ∀ t, own_S p e below s₁ (mkF m 1 #[.val (.ref r0), .val (.ref r1), .val (.double f2), .second, .val (.ref r3)] [(.ref r0)]) t → Steps p.tables e below SE t := by
    intro t k
    refine K0 _ ?_
    refine XS.aloadN X0.here hx rfl (hb hby d2_0) rfl rfl ?_
    exact k
  obtain ⟨T2, X2, e2, st2⟩ := initO X0 hx hZ hown (hw _ (List.mem_of_getElem? (i := 24) rfl)) (hw _ (List.mem_of_getElem? (i := 25) rfl)) (hw _ (List.mem_of_getElem? (i := 26) rfl)) e0 (g := (mkF m 1 #[.val (.ref r0), .val (.ref r1), .val (.double f2), .second, .val (.ref r3)] [(.ref r0)])) rfl (by rw [hml]; rfl) rfl (hb hby d2_1) (by decide) (W := 0) (by show 2 * 0 + _ ≤ _; exact Nat.le_of_eq rfl) (by decide)
  have K2 : ∀ t, own_S p e below T2 (mkF m 4 #[.val (.ref r0), .val (.ref r1), .val (.double f2), .second, .val (.ref r3)] []) t → Steps p.tables e below SE t := fun t k => K1 _ (st2 _ k)
  have K3 : ∀ t, own_S p e below T2 (mkF m 6 #[.val (.ref r0), .val (.ref r1), .val (.double f2), .second, .val (.ref r3)] [(.ref r1), (.ref r0)]) t → Steps p.tables e below SE t := by
    intro t k
    refine K2 _ ?_
    refine XS.aloadN X2.here hx rfl (hb hby d2_4) rfl rfl ?_
    show own_S p e below T2 (mkF m 5 #[.val (.ref r0), .val (.ref r1), .val (.double f2), .second, .val (.ref r3)] [(.ref r0)]) _
    refine XS.aloadN X2.here hx rfl (hb hby d2_5) rfl rfl ?_
    exact k
  obtain ⟨T4, h4, X4, e4, W4, st4⟩ := putF X2 hx hZ hown (host := "") (Or.inl (hw _ (List.mem_of_getElem? (i := 27) rfl))) Via.refl e2 F0 E_r0 (Or.inr ⟨(hw _ (List.mem_of_getElem? (i := 28) rfl)), rfl, hnm⟩) (hw _ (List.mem_of_getElem? (i := 19) rfl)) (ty := (.object "java/lang/String")) (by decide) rfl rfl (g := (mkF m 6 #[.val (.ref r0), .val (.ref r1), .val (.double f2), .second, .val (.ref r3)] [(.ref r1), (.ref r0)])) rfl rfl (hb hby d2_6)
  have Fw4 := Fld.same W4 F0
  have N4 := Fr.snoc X4 N0 g_r0
  have Kp4 : Keep h0 h4 [r0] := Keep.wr (Keep.refl h0 [r0]) W4 (Or.inl (List.mem_of_getElem? (i := 0) rfl))
  have K4 : ∀ t, own_S p e below T4 (mkF m 9 #[.val (.ref r0), .val (.ref r1), .val (.double f2), .second, .val (.ref r3)] []) t → Steps p.tables e below SE t := fun t k => K3 _ (st4 _ k)
  have K5 : ∀ t, own_S p e below T4 (mkF m 11 #[.val (.ref r0), .val (.ref r1), .val (.double f2), .second, .val (.ref r3)] [(.double f2), (.ref r0)]) t → Steps p.tables e below SE t := by
    intro t k
    refine K4 _ ?_
    refine XS.aloadN X4.here hx rfl (hb hby d2_9) rfl rfl ?_
    show own_S p e below T4 (mkF m 10 #[.val (.ref r0), .val (.ref r1), .val (.double f2), .second, .val (.ref r3)] [(.ref r0)]) _
    refine XS.dloadN X4.here hx rfl (hb hby d2_10) rfl ?_
    exact k
  obtain ⟨T6, h6, X6, e6, W6, st6⟩ := putF X4 hx hZ hown (host := "") (Or.inl (hw _ (List.mem_of_getElem? (i := 29) rfl))) Via.refl e4 (F1.other W4 (Or.inr (slot_ne (Or.inr (hw _ (List.mem_of_getElem? (i := 30) rfl))) (Or.inr (hw _ (List.mem_of_getElem? (i := 28) rfl))) (by decide) (t := .double) (t' := (.object "java/lang/String")) (by decide) (by decide)))) (E_r0.wr W4) (Or.inr ⟨(hw _ (List.mem_of_getElem? (i := 30) rfl)), rfl, hnm⟩) (hw _ (List.mem_of_getElem? (i := 19) rfl)) (ty := .double) (by decide) rfl rfl (g := (mkF m 11 #[.val (.ref r0), .val (.ref r1), .val (.double f2), .second, .val (.ref r3)] [(.double f2), (.ref r0)])) rfl rfl (hb hby d2_11)
  have Fw6 := Fld.same W6 (F1.other W4 (Or.inr (slot_ne (Or.inr (hw _ (List.mem_of_getElem? (i := 30) rfl))) (Or.inr (hw _ (List.mem_of_getElem? (i := 28) rfl))) (by decide) (t := .double) (t' := (.object "java/lang/String")) (by decide) (by decide))))
  have N6 := Fr.snoc X6 N4 g_r0
  have Kp6 : Keep h0 h6 [r0] := Keep.wr Kp4 W6 (Or.inl (List.mem_of_getElem? (i := 0) rfl))
  have K6 : ∀ t, own_S p e below T6 (mkF m 14 #[.val (.ref r0), .val (.ref r1), .val (.double f2), .second, .val (.ref r3)] []) t → Steps p.tables e below SE t := fun t k => K5 _ (st6 _ k)
  have K7 : ∀ t, own_S p e below T6 (mkF m 17 #[.val (.ref r0), .val (.ref r1), .val (.double f2), .second, .val (.ref r3)] [(.ref r3), (.ref r0)]) t → Steps p.tables e below SE t := by
    intro t k
    refine K6 _ ?_
    refine XS.aloadN X6.here hx rfl (hb hby d2_14) rfl rfl ?_
    show own_S p e below T6 (mkF m 15 #[.val (.ref r0), .val (.ref r1), .val (.double f2), .second, .val (.ref r3)] [(.ref r0)]) _
    refine XS.aload X6.here hx rfl (hb hby d2_15) rfl rfl ?_
    exact k
  obtain ⟨T8, h8, X8, e8, W8, st8⟩ := putF X6 hx hZ hown (host := "") (Or.inl (hw _ (List.mem_of_getElem? (i := 31) rfl))) Via.refl e6 ((F2.other W4 (Or.inr (slot_ne (Or.inr (hw _ (List.mem_of_getElem? (i := 32) rfl))) (Or.inr (hw _ (List.mem_of_getElem? (i := 28) rfl))) (by decide) (t := (.object "com/example/aswan/aswan/rule/ClusterConfig")) (t' := (.object "java/lang/String")) (by decide) (by decide)))).other W6 (Or.inr (slot_ne (Or.inr (hw _ (List.mem_of_getElem? (i := 32) rfl))) (Or.inr (hw _ (List.mem_of_getElem? (i := 30) rfl))) (by decide) (t := (.object "com/example/aswan/aswan/rule/ClusterConfig")) (t' := .double) (by decide) (by decide)))) ((E_r0.wr W4).wr W6) (Or.inr ⟨(hw _ (List.mem_of_getElem? (i := 32) rfl)), rfl, hnm⟩) (hw _ (List.mem_of_getElem? (i := 19) rfl)) (ty := (.object "com/example/aswan/aswan/rule/ClusterConfig")) (by decide) rfl rfl (g := (mkF m 17 #[.val (.ref r0), .val (.ref r1), .val (.double f2), .second, .val (.ref r3)] [(.ref r3), (.ref r0)])) rfl rfl (hb hby d2_17)
  have Fw8 := Fld.same W8 ((F2.other W4 (Or.inr (slot_ne (Or.inr (hw _ (List.mem_of_getElem? (i := 32) rfl))) (Or.inr (hw _ (List.mem_of_getElem? (i := 28) rfl))) (by decide) (t := (.object "com/example/aswan/aswan/rule/ClusterConfig")) (t' := (.object "java/lang/String")) (by decide) (by decide)))).other W6 (Or.inr (slot_ne (Or.inr (hw _ (List.mem_of_getElem? (i := 32) rfl))) (Or.inr (hw _ (List.mem_of_getElem? (i := 30) rfl))) (by decide) (t := (.object "com/example/aswan/aswan/rule/ClusterConfig")) (t' := .double) (by decide) (by decide))))
  have N8 := Fr.snoc X8 N6 g_r0
  have Kp8 : Keep h0 h8 [r0] := Keep.wr Kp6 W8 (Or.inl (List.mem_of_getElem? (i := 0) rfl))
  have K8 : ∀ t, own_S p e below T8 (mkF m 20 #[.val (.ref r0), .val (.ref r1), .val (.double f2), .second, .val (.ref r3)] []) t → Steps p.tables e below SE t := fun t k => K7 _ (st8 _ k)
  obtain ⟨fs, hr, hrun, hended, hW, hsame⟩ := X8.leave (v := none) (fun _ => rfl)
  refine ⟨_, _, K8 _ ?_, hrun, hended, _, _, rfl, ?_, ⟨_, rfl⟩, hW, hsame.mono (by decide) (by decide)⟩
  · exact X8.returnOut hx Bd.returns (hb hby d2_20) hr
  · show Qfr Z r0 r1 f2 r3 h0 n0 _ T8.heap _
    rw [e8]
    exact ⟨rfl, N8, Kp8, (((E_r0.wr W4).wr W6).wr W8), ((Fw4.other W6 (Or.inr (slot_ne (Or.inr (hw _ (List.mem_of_getElem? (i := 28) rfl))) (Or.inr (hw _ (List.mem_of_getElem? (i := 30) rfl))) (by decide) (t := (.object "java/lang/String")) (t' := .double) (by decide) (by decide)))).other W8 (Or.inr (slot_ne (Or.inr (hw _ (List.mem_of_getElem? (i := 28) rfl))) (Or.inr (hw _ (List.mem_of_getElem? (i := 32) rfl))) (by decide) (t := (.object "java/lang/String")) (t' := (.object "com/example/aswan/aswan/rule/ClusterConfig")) (by decide) (by decide)))), (Fw6.other W8 (Or.inr (slot_ne (Or.inr (hw _ (List.mem_of_getElem? (i := 30) rfl))) (Or.inr (hw _ (List.mem_of_getElem? (i := 32) rfl))) (by decide) (t := .double) (t' := (.object "com/example/aswan/aswan/rule/ClusterConfig")) (by decide) (by decide)))), Fw8⟩
theorem ef_frn (m : MethodId) (r0 : Addr) (r1 : Addr) (f2 : UInt64) : entryFrame m #[(.ref r0), (.ref r1), (.double f2), .null] 5 = mkF m 0 #[.val (.ref r0), .val (.ref r1), .val (.double f2), .second, .val .null] [] := by first | (simp [entryFrame, mkF, argsToLocals, Value.category]; done) | rfl
def Qfrn (Z : State) (r0 : Addr) (r1 : Addr) (f2 : UInt64) (h0 : Heap) (n0 : Nat) (v : Option Value) (h : Heap) (L : List Loc) : Prop := v = none ∧ Fr n0 L ∧ Keep h0 h [r0] ∧ Exa Z h r0 "com/example/aswan/aswan/rule/FlowRule" ∧ Fld Z h r0 "com/example/aswan/aswan/rule/FlowRule" "resource" "Ljava/lang/String;" (.ref r1) ∧ Fld Z h r0 "com/example/aswan/aswan/rule/FlowRule" "count" "D" (.double f2) ∧ Fld Z h r0 "com/example/aswan/aswan/rule/FlowRule" "clusterConfig" "Lcom/example/aswan/aswan/rule/ClusterConfig;" .null
set_option maxRecDepth 65536 in
set_option maxHeartbeats 40000000 in
theorem rmfrn (l : Launch) (Z : State) (a0 : Array Value) (hw : ∀ d ∈ tables_1, d.before a0 Z = true) (ws : List Jvm.Cond) (r0 : Addr) (r1 : Addr) (f2 : UInt64) (h0 : Heap) (n0 : Nat) (Z0 : n0 ≤ h0.size) (E_r0 : Exa Z h0 r0 "com/example/aswan/aswan/rule/FlowRule") (F0 : Fld Z h0 r0 "com/example/aswan/aswan/rule/FlowRule" "resource" "Ljava/lang/String;" .null) (F1 : Fld Z h0 r0 "com/example/aswan/aswan/rule/FlowRule" "count" "D" (.double (0 : UInt64))) (F2 : Fld Z h0 r0 "com/example/aswan/aswan/rule/FlowRule" "clusterConfig" "Lcom/example/aswan/aswan/rule/ClusterConfig;" .null) (g_r0 : n0 ≤ r0) :
    MetFree l (⟨"com/example/aswan/aswan/rule/FlowRule", "<init>", "(Ljava/lang/String;DLcom/example/aswan/aswan/rule/ClusterConfig;)V"⟩ : MethodName) (head1 (Jvm.Cond.code (⟨"com/example/aswan/aswan/rule/FlowRule", "<init>", "(Ljava/lang/String;DLcom/example/aswan/aswan/rule/ClusterConfig;)V"⟩ : MethodName) prog_26_method_1_code 5 none :: ws) ({ frames := 1, cells := 0, slots := 0, locals := 12 } : Room)) (fun a U => a = #[(.ref r0), (.ref r1), (.double f2), .null] ∧ Z.Warmed39 U.vm ∧ U.heap = h0) (fun _ _ _ _ _ => True) (fun _ U o U' => ∃ v L, o = .returned v ∧ Qfrn Z r0 r1 f2 h0 n0 v U'.heap L ∧ FrameEnd U o U' L ({ frames := 1, cells := 0, slots := 0, locals := 12 } : Room).cells ({ frames := 1, cells := 0, slots := 0, locals := 12 } : Room).slots) := by
  refine MetFree.of_bodySF (plainFor_of_name pn_2) hisR ?_
  intro p e s m args below meth c s₁ Bd hml0 hP hK
  obtain ⟨rfl, hZ, hh⟩ := hP
  have hx := Bd.exec
  have hby := Bd.bytes
  have hml : c.maxLocals = 5 := hml0
  have hown : s.vm.findClass "com/example/aswan/aswan/rule/FlowRule" = some m.cls := findClass_of_methodNamed Bd.named
  have hnm := (name_of_methodNamed Bd.named Bd.method).1
  have X0 : Stand p l e ({ frames := 1, cells := 0, slots := 0, locals := 12 } : Room) s m #[(.ref r0), (.ref r1), (.double f2), .null] below meth c s₁ [] 0 0 := Stand.of_body Bd
  have e0 : s₁.heap = h0 := by rw [← hh, Bd.state]; rfl
  have N0 := Fr.nil n0
  have K0 : ∀ t, Steps p.tables e below (s₁.setTop (mkF m 0 #[.val (.ref r0), .val (.ref r1), .val (.double f2), .second, .val .null] [])) t → Steps p.tables e below (s₁.setTop (entryFrame m #[(.ref r0), (.ref r1), (.double f2), .null] 5)) t := fun t k => castTop (ef_frn m r0 r1 f2) k
  generalize s₁.setTop (entryFrame m #[(.ref r0), (.ref r1), (.double f2), .null] 5) = SE at K0 ⊢
  have K1 : ∀ t, own_S p e below s₁ (mkF m 1 #[.val (.ref r0), .val (.ref r1), .val (.double f2), .second, .val .null] [(.ref r0)]) t → Steps p.tables e below SE t := by
    intro t k
    refine K0 _ ?_
    refine XS.aloadN X0.here hx rfl (hb hby d2_0) rfl rfl ?_
    exact k
  obtain ⟨T2, X2, e2, st2⟩ := initO X0 hx hZ hown (hw _ (List.mem_of_getElem? (i := 24) rfl)) (hw _ (List.mem_of_getElem? (i := 25) rfl)) (hw _ (List.mem_of_getElem? (i := 26) rfl)) e0 (g := (mkF m 1 #[.val (.ref r0), .val (.ref r1), .val (.double f2), .second, .val .null] [(.ref r0)])) rfl (by rw [hml]; rfl) rfl (hb hby d2_1) (by decide) (W := 0) (by show 2 * 0 + _ ≤ _; exact Nat.le_of_eq rfl) (by decide)
  have K2 : ∀ t, own_S p e below T2 (mkF m 4 #[.val (.ref r0), .val (.ref r1), .val (.double f2), .second, .val .null] []) t → Steps p.tables e below SE t := fun t k => K1 _ (st2 _ k)
  have K3 : ∀ t, own_S p e below T2 (mkF m 6 #[.val (.ref r0), .val (.ref r1), .val (.double f2), .second, .val .null] [(.ref r1), (.ref r0)]) t → Steps p.tables e below SE t := by
    intro t k
    refine K2 _ ?_
    refine XS.aloadN X2.here hx rfl (hb hby d2_4) rfl rfl ?_
    show own_S p e below T2 (mkF m 5 #[.val (.ref r0), .val (.ref r1), .val (.double f2), .second, .val .null] [(.ref r0)]) _
    refine XS.aloadN X2.here hx rfl (hb hby d2_5) rfl rfl ?_
    exact k
  obtain ⟨T4, h4, X4, e4, W4, st4⟩ := putF X2 hx hZ hown (host := "") (Or.inl (hw _ (List.mem_of_getElem? (i := 27) rfl))) Via.refl e2 F0 E_r0 (Or.inr ⟨(hw _ (List.mem_of_getElem? (i := 28) rfl)), rfl, hnm⟩) (hw _ (List.mem_of_getElem? (i := 19) rfl)) (ty := (.object "java/lang/String")) (by decide) rfl rfl (g := (mkF m 6 #[.val (.ref r0), .val (.ref r1), .val (.double f2), .second, .val .null] [(.ref r1), (.ref r0)])) rfl rfl (hb hby d2_6)
  have Fw4 := Fld.same W4 F0
  have N4 := Fr.snoc X4 N0 g_r0
  have Kp4 : Keep h0 h4 [r0] := Keep.wr (Keep.refl h0 [r0]) W4 (Or.inl (List.mem_of_getElem? (i := 0) rfl))
  have K4 : ∀ t, own_S p e below T4 (mkF m 9 #[.val (.ref r0), .val (.ref r1), .val (.double f2), .second, .val .null] []) t → Steps p.tables e below SE t := fun t k => K3 _ (st4 _ k)
  have K5 : ∀ t, own_S p e below T4 (mkF m 11 #[.val (.ref r0), .val (.ref r1), .val (.double f2), .second, .val .null] [(.double f2), (.ref r0)]) t → Steps p.tables e below SE t := by
    intro t k
    refine K4 _ ?_
    refine XS.aloadN X4.here hx rfl (hb hby d2_9) rfl rfl ?_
    show own_S p e below T4 (mkF m 10 #[.val (.ref r0), .val (.ref r1), .val (.double f2), .second, .val .null] [(.ref r0)]) _
    refine XS.dloadN X4.here hx rfl (hb hby d2_10) rfl ?_
    exact k
  obtain ⟨T6, h6, X6, e6, W6, st6⟩ := putF X4 hx hZ hown (host := "") (Or.inl (hw _ (List.mem_of_getElem? (i := 29) rfl))) Via.refl e4 (F1.other W4 (Or.inr (slot_ne (Or.inr (hw _ (List.mem_of_getElem? (i := 30) rfl))) (Or.inr (hw _ (List.mem_of_getElem? (i := 28) rfl))) (by decide) (t := .double) (t' := (.object "java/lang/String")) (by decide) (by decide)))) (E_r0.wr W4) (Or.inr ⟨(hw _ (List.mem_of_getElem? (i := 30) rfl)), rfl, hnm⟩) (hw _ (List.mem_of_getElem? (i := 19) rfl)) (ty := .double) (by decide) rfl rfl (g := (mkF m 11 #[.val (.ref r0), .val (.ref r1), .val (.double f2), .second, .val .null] [(.double f2), (.ref r0)])) rfl rfl (hb hby d2_11)
  have Fw6 := Fld.same W6 (F1.other W4 (Or.inr (slot_ne (Or.inr (hw _ (List.mem_of_getElem? (i := 30) rfl))) (Or.inr (hw _ (List.mem_of_getElem? (i := 28) rfl))) (by decide) (t := .double) (t' := (.object "java/lang/String")) (by decide) (by decide))))
  have N6 := Fr.snoc X6 N4 g_r0
  have Kp6 : Keep h0 h6 [r0] := Keep.wr Kp4 W6 (Or.inl (List.mem_of_getElem? (i := 0) rfl))
  have K6 : ∀ t, own_S p e below T6 (mkF m 14 #[.val (.ref r0), .val (.ref r1), .val (.double f2), .second, .val .null] []) t → Steps p.tables e below SE t := fun t k => K5 _ (st6 _ k)
  have K7 : ∀ t, own_S p e below T6 (mkF m 17 #[.val (.ref r0), .val (.ref r1), .val (.double f2), .second, .val .null] [.null, (.ref r0)]) t → Steps p.tables e below SE t := by
    intro t k
    refine K6 _ ?_
    refine XS.aloadN X6.here hx rfl (hb hby d2_14) rfl rfl ?_
    show own_S p e below T6 (mkF m 15 #[.val (.ref r0), .val (.ref r1), .val (.double f2), .second, .val .null] [(.ref r0)]) _
    refine XS.aload X6.here hx rfl (hb hby d2_15) rfl rfl ?_
    exact k
  obtain ⟨T8, h8, X8, e8, W8, st8⟩ := putF X6 hx hZ hown (host := "") (Or.inl (hw _ (List.mem_of_getElem? (i := 31) rfl))) Via.refl e6 ((F2.other W4 (Or.inr (slot_ne (Or.inr (hw _ (List.mem_of_getElem? (i := 32) rfl))) (Or.inr (hw _ (List.mem_of_getElem? (i := 28) rfl))) (by decide) (t := (.object "com/example/aswan/aswan/rule/ClusterConfig")) (t' := (.object "java/lang/String")) (by decide) (by decide)))).other W6 (Or.inr (slot_ne (Or.inr (hw _ (List.mem_of_getElem? (i := 32) rfl))) (Or.inr (hw _ (List.mem_of_getElem? (i := 30) rfl))) (by decide) (t := (.object "com/example/aswan/aswan/rule/ClusterConfig")) (t' := .double) (by decide) (by decide)))) ((E_r0.wr W4).wr W6) (Or.inr ⟨(hw _ (List.mem_of_getElem? (i := 32) rfl)), rfl, hnm⟩) (hw _ (List.mem_of_getElem? (i := 19) rfl)) (ty := (.object "com/example/aswan/aswan/rule/ClusterConfig")) (by decide) rfl rfl (g := (mkF m 17 #[.val (.ref r0), .val (.ref r1), .val (.double f2), .second, .val .null] [.null, (.ref r0)])) rfl rfl (hb hby d2_17)
  have Fw8 := Fld.same W8 ((F2.other W4 (Or.inr (slot_ne (Or.inr (hw _ (List.mem_of_getElem? (i := 32) rfl))) (Or.inr (hw _ (List.mem_of_getElem? (i := 28) rfl))) (by decide) (t := (.object "com/example/aswan/aswan/rule/ClusterConfig")) (t' := (.object "java/lang/String")) (by decide) (by decide)))).other W6 (Or.inr (slot_ne (Or.inr (hw _ (List.mem_of_getElem? (i := 32) rfl))) (Or.inr (hw _ (List.mem_of_getElem? (i := 30) rfl))) (by decide) (t := (.object "com/example/aswan/aswan/rule/ClusterConfig")) (t' := .double) (by decide) (by decide))))
  have N8 := Fr.snoc X8 N6 g_r0
  have Kp8 : Keep h0 h8 [r0] := Keep.wr Kp6 W8 (Or.inl (List.mem_of_getElem? (i := 0) rfl))
  have K8 : ∀ t, own_S p e below T8 (mkF m 20 #[.val (.ref r0), .val (.ref r1), .val (.double f2), .second, .val .null] []) t → Steps p.tables e below SE t := fun t k => K7 _ (st8 _ k)
  obtain ⟨fs, hr, hrun, hended, hW, hsame⟩ := X8.leave (v := none) (fun _ => rfl)
  refine ⟨_, _, K8 _ ?_, hrun, hended, _, _, rfl, ?_, ⟨_, rfl⟩, hW, hsame.mono (by decide) (by decide)⟩
  · exact X8.returnOut hx Bd.returns (hb hby d2_20) hr
  · show Qfrn Z r0 r1 f2 h0 n0 _ T8.heap _
    rw [e8]
    exact ⟨rfl, N8, Kp8, (((E_r0.wr W4).wr W6).wr W8), ((Fw4.other W6 (Or.inr (slot_ne (Or.inr (hw _ (List.mem_of_getElem? (i := 28) rfl))) (Or.inr (hw _ (List.mem_of_getElem? (i := 30) rfl))) (by decide) (t := (.object "java/lang/String")) (t' := .double) (by decide) (by decide)))).other W8 (Or.inr (slot_ne (Or.inr (hw _ (List.mem_of_getElem? (i := 28) rfl))) (Or.inr (hw _ (List.mem_of_getElem? (i := 32) rfl))) (by decide) (t := (.object "java/lang/String")) (t' := (.object "com/example/aswan/aswan/rule/ClusterConfig")) (by decide) (by decide)))), (Fw6.other W8 (Or.inr (slot_ne (Or.inr (hw _ (List.mem_of_getElem? (i := 30) rfl))) (Or.inr (hw _ (List.mem_of_getElem? (i := 32) rfl))) (by decide) (t := .double) (t' := (.object "com/example/aswan/aswan/rule/ClusterConfig")) (by decide) (by decide)))), Fw8⟩
theorem d4_0 : decode prog_26_method_5_code 0 = .ok (.aload_n 0, 1) := by decide +kernel
theorem d4_1 : decode prog_26_method_5_code 1 = .ok (.getfield 17, 3) := by decide +kernel
theorem d4_4 : decode prog_26_method_5_code 4 = .ok (.ifnull 7, 3) := by decide +kernel
theorem d4_7 : decode prog_26_method_5_code 7 = .ok (.iconst 1, 1) := by decide +kernel
theorem d4_8 : decode prog_26_method_5_code 8 = .ok (.goto 4, 3) := by decide +kernel
theorem d4_12 : decode prog_26_method_5_code 12 = .ok (.ireturn, 1) := by decide +kernel
theorem ef_is1 (m : MethodId) (r0 : Addr) : entryFrame m #[(.ref r0)] 1 = mkF m 0 #[.val (.ref r0)] [] := by first | (simp [entryFrame, mkF, argsToLocals, Value.category]; done) | rfl
def Qis1 (Z : State) (r0 : Addr) (cc : Addr) (h0 : Heap) (n0 : Nat) (v : Option Value) (h : Heap) (L : List Loc) : Prop := v = some (.int (1 : Int32)) ∧ Fr n0 L ∧ h = h0
set_option maxRecDepth 65536 in
set_option maxHeartbeats 40000000 in
theorem rmis1 (l : Launch) (Z : State) (a0 : Array Value) (hw : ∀ d ∈ tables_1, d.before a0 Z = true) (ws : List Jvm.Cond) (r0 : Addr) (cc : Addr) (h0 : Heap) (n0 : Nat) (Z0 : n0 ≤ h0.size) (Fc : Fld Z h0 r0 "com/example/aswan/aswan/rule/FlowRule" "clusterConfig" "Lcom/example/aswan/aswan/rule/ClusterConfig;" (.ref cc)) :
    MetFree l (⟨"com/example/aswan/aswan/rule/FlowRule", "isClusterMode", "()Z"⟩ : MethodName) (head1 (Jvm.Cond.code (⟨"com/example/aswan/aswan/rule/FlowRule", "isClusterMode", "()Z"⟩ : MethodName) prog_26_method_5_code 1 (some .boolean) :: ws) ({ frames := 0, cells := 0, slots := 0, locals := 0 } : Room)) (fun a U => a = #[(.ref r0)] ∧ Z.Warmed39 U.vm ∧ U.heap = h0) (fun _ _ _ _ _ => True) (fun _ U o U' => ∃ v L, o = .returned v ∧ Qis1 Z r0 cc h0 n0 v U'.heap L ∧ FrameEnd U o U' L ({ frames := 0, cells := 0, slots := 0, locals := 0 } : Room).cells ({ frames := 0, cells := 0, slots := 0, locals := 0 } : Room).slots) := by
  refine MetFree.of_bodySF (plainFor_of_name pn_2) hisR ?_
  intro p e s m args below meth c s₁ Bd hml0 hP hK
  obtain ⟨rfl, hZ, hh⟩ := hP
  have hx := Bd.exec
  have hby := Bd.bytes
  have hml : c.maxLocals = 1 := hml0
  have hown : s.vm.findClass "com/example/aswan/aswan/rule/FlowRule" = some m.cls := findClass_of_methodNamed Bd.named
  have hnm := (name_of_methodNamed Bd.named Bd.method).1
  have X0 : Stand p l e ({ frames := 0, cells := 0, slots := 0, locals := 0 } : Room) s m #[(.ref r0)] below meth c s₁ [] 0 0 := Stand.of_body Bd
  have e0 : s₁.heap = h0 := by rw [← hh, Bd.state]; rfl
  have N0 := Fr.nil n0
  have K0 : ∀ t, Steps p.tables e below (s₁.setTop (mkF m 0 #[.val (.ref r0)] [])) t → Steps p.tables e below (s₁.setTop (entryFrame m #[(.ref r0)] 1)) t := fun t k => castTop (ef_is1 m r0) k
  generalize s₁.setTop (entryFrame m #[(.ref r0)] 1) = SE at K0 ⊢
  have K1 : ∀ t, own_S p e below s₁ (mkF m 1 #[.val (.ref r0)] [(.ref r0)]) t → Steps p.tables e below SE t := by
    intro t k
    refine K0 _ ?_
    refine XS.aloadN X0.here hx rfl (hb hby d4_0) rfl rfl ?_
    exact k
  obtain ⟨T2, X2, e2, st2⟩ := getF X0 hx hZ hown (host := "") (Or.inl (hw _ (List.mem_of_getElem? (i := 31) rfl))) Via.refl e0 Fc (g := (mkF m 1 #[.val (.ref r0)] [(.ref r0)])) rfl rfl (hb hby d4_1)
  have K2 : ∀ t, own_S p e below T2 (mkF m 4 #[.val (.ref r0)] [(.ref cc)]) t → Steps p.tables e below SE t := fun t k => K1 _ (st2 _ k)
  have K3 : ∀ t, own_S p e below T2 (mkF m 12 #[.val (.ref r0)] [(.int (1 : Int32))]) t → Steps p.tables e below SE t := by
    intro t k
    refine K2 _ ?_
    refine XS.ifnullNo X2.here hx rfl (hb hby d4_4) rfl ?_
    show own_S p e below T2 (mkF m 7 #[.val (.ref r0)] []) _
    refine XS.iconst X2.here hx rfl (hb hby d4_7) ?_
    show own_S p e below T2 (mkF m 8 #[.val (.ref r0)] [(.int (1 : Int32))]) _
    refine XS.goto X2.here hx rfl (pc0 := 8) (pc' := 12) rfl (hb hby d4_8) (by decide) (by decide) ?_
    exact k
  obtain ⟨fs, hr, hrun, hended, hW, hsame⟩ := X2.leave (v := some (.int (1 : Int32))) (fun h => by rw [Bd.returns] at h; cases h)
  refine ⟨_, _, K3 _ ?_, hrun, hended, _, _, rfl, ?_, ⟨_, rfl⟩, hW, hsame.mono (by decide) (by decide)⟩
  · exact retN X2 hx (t := .boolean) Bd.returns (by simp) (hb hby d4_12) hr
  · show Qis1 Z r0 cc h0 n0 _ T2.heap _
    rw [e2]
    exact ⟨rfl, N0, rfl⟩
theorem d4_11 : decode prog_26_method_5_code 11 = .ok (.iconst 0, 1) := by decide +kernel
theorem ef_is0 (m : MethodId) (r0 : Addr) : entryFrame m #[(.ref r0)] 1 = mkF m 0 #[.val (.ref r0)] [] := by first | (simp [entryFrame, mkF, argsToLocals, Value.category]; done) | rfl
def Qis0 (Z : State) (r0 : Addr) (h0 : Heap) (n0 : Nat) (v : Option Value) (h : Heap) (L : List Loc) : Prop := v = some (.int (0 : Int32)) ∧ Fr n0 L ∧ h = h0
set_option maxRecDepth 65536 in
set_option maxHeartbeats 40000000 in
theorem rmis0 (l : Launch) (Z : State) (a0 : Array Value) (hw : ∀ d ∈ tables_1, d.before a0 Z = true) (ws : List Jvm.Cond) (r0 : Addr) (h0 : Heap) (n0 : Nat) (Z0 : n0 ≤ h0.size) (Fc : Fld Z h0 r0 "com/example/aswan/aswan/rule/FlowRule" "clusterConfig" "Lcom/example/aswan/aswan/rule/ClusterConfig;" .null) :
    MetFree l (⟨"com/example/aswan/aswan/rule/FlowRule", "isClusterMode", "()Z"⟩ : MethodName) (head1 (Jvm.Cond.code (⟨"com/example/aswan/aswan/rule/FlowRule", "isClusterMode", "()Z"⟩ : MethodName) prog_26_method_5_code 1 (some .boolean) :: ws) ({ frames := 0, cells := 0, slots := 0, locals := 0 } : Room)) (fun a U => a = #[(.ref r0)] ∧ Z.Warmed39 U.vm ∧ U.heap = h0) (fun _ _ _ _ _ => True) (fun _ U o U' => ∃ v L, o = .returned v ∧ Qis0 Z r0 h0 n0 v U'.heap L ∧ FrameEnd U o U' L ({ frames := 0, cells := 0, slots := 0, locals := 0 } : Room).cells ({ frames := 0, cells := 0, slots := 0, locals := 0 } : Room).slots) := by
  refine MetFree.of_bodySF (plainFor_of_name pn_2) hisR ?_
  intro p e s m args below meth c s₁ Bd hml0 hP hK
  obtain ⟨rfl, hZ, hh⟩ := hP
  have hx := Bd.exec
  have hby := Bd.bytes
  have hml : c.maxLocals = 1 := hml0
  have hown : s.vm.findClass "com/example/aswan/aswan/rule/FlowRule" = some m.cls := findClass_of_methodNamed Bd.named
  have hnm := (name_of_methodNamed Bd.named Bd.method).1
  have X0 : Stand p l e ({ frames := 0, cells := 0, slots := 0, locals := 0 } : Room) s m #[(.ref r0)] below meth c s₁ [] 0 0 := Stand.of_body Bd
  have e0 : s₁.heap = h0 := by rw [← hh, Bd.state]; rfl
  have N0 := Fr.nil n0
  have K0 : ∀ t, Steps p.tables e below (s₁.setTop (mkF m 0 #[.val (.ref r0)] [])) t → Steps p.tables e below (s₁.setTop (entryFrame m #[(.ref r0)] 1)) t := fun t k => castTop (ef_is0 m r0) k
  generalize s₁.setTop (entryFrame m #[(.ref r0)] 1) = SE at K0 ⊢
  have K1 : ∀ t, own_S p e below s₁ (mkF m 1 #[.val (.ref r0)] [(.ref r0)]) t → Steps p.tables e below SE t := by
    intro t k
    refine K0 _ ?_
    refine XS.aloadN X0.here hx rfl (hb hby d4_0) rfl rfl ?_
    exact k
  obtain ⟨T2, X2, e2, st2⟩ := getF X0 hx hZ hown (host := "") (Or.inl (hw _ (List.mem_of_getElem? (i := 31) rfl))) Via.refl e0 Fc (g := (mkF m 1 #[.val (.ref r0)] [(.ref r0)])) rfl rfl (hb hby d4_1)
  have K2 : ∀ t, own_S p e below T2 (mkF m 4 #[.val (.ref r0)] [.null]) t → Steps p.tables e below SE t := fun t k => K1 _ (st2 _ k)
  have K3 : ∀ t, own_S p e below T2 (mkF m 12 #[.val (.ref r0)] [(.int (0 : Int32))]) t → Steps p.tables e below SE t := by
    intro t k
    refine K2 _ ?_
    refine XS.ifnullYes X2.here hx rfl (pc0 := 4) (pc' := 11) rfl (hb hby d4_4) rfl (by decide) (by decide) ?_
    show own_S p e below T2 (mkF m 11 #[.val (.ref r0)] []) _
    refine XS.iconst X2.here hx rfl (hb hby d4_11) ?_
    exact k
  obtain ⟨fs, hr, hrun, hended, hW, hsame⟩ := X2.leave (v := some (.int (0 : Int32))) (fun h => by rw [Bd.returns] at h; cases h)
  refine ⟨_, _, K3 _ ?_, hrun, hended, _, _, rfl, ?_, ⟨_, rfl⟩, hW, hsame.mono (by decide) (by decide)⟩
  · exact retN X2 hx (t := .boolean) Bd.returns (by simp) (hb hby d4_12) hr
  · show Qis0 Z r0 h0 n0 _ T2.heap _
    rw [e2]
    exact ⟨rfl, N0, rfl⟩
theorem own_c255 (x : Int32) : ¬ (255 : Int32) < (nar .char (((x &&& (255 : Int32))).toUInt32.toUInt16.toUInt32.toInt32)) := by
  have e : (nar .char (((x &&& (255 : Int32))).toUInt32.toUInt16.toUInt32.toInt32)) = (x &&& (255 : Int32)) := by
    rw [i2c_mask]
    exact i2c_mask x
  have e1 : (x &&& (255 : Int32)).toInt = x.toInt % 2 ^ 8 := Jvm.Kit.i32_mask x 255 (k := 8) (by decide) (by decide)
  have c : (255 : Int32).toInt = 255 := by decide
  rw [e, Int32.lt_iff_toInt_lt]
  omega
theorem pn_0 : plainName "com/example/aswan/aswan/rule/FlowRuleIsClusterModePinLaw" = true := by first | (simp [plainName, overriddenIn]; done) | decide +kernel
theorem pd_0_0 : parseMethodDescriptor "(JJ)J" = some ⟨[.long, .long], some .long⟩ := by decide +kernel
theorem pd_0_1 : parseMethodDescriptor "(Ljava/lang/String;DLcom/example/aswan/aswan/rule/ClusterConfig;)V" = some ⟨[(.object "java/lang/String"), .double, (.object "com/example/aswan/aswan/rule/ClusterConfig")], none⟩ := by decide +kernel
theorem pd_0_2 : parseMethodDescriptor "()Z" = some ⟨[], some .boolean⟩ := by decide +kernel
theorem pd_0_3 : parseMethodDescriptor "(JLcom/example/aswan/aswan/rule/ThresholdType;Z)V" = some ⟨[.long, (.object "com/example/aswan/aswan/rule/ThresholdType"), .boolean], none⟩ := by decide +kernel
theorem pd_0_4 : parseMethodDescriptor "([C)V" = some ⟨[(.array .char)], none⟩ := by decide +kernel
theorem ef_0 (m : MethodId) (p0 : Int32) (q1 : Int64) (p2 : Int32) (p3 : Int32) (p4 : Int32) : entryFrame m #[(.int p0), (.long q1), (.int p2), (.int p3), (.int p4)] maxLocals = mkF m 0 #[.val (.int p0), .val (.long q1), .second, .val (.int p2), .val (.int p3), .val (.int p4), .unset, .unset, .unset, .unset, .unset, .unset, .unset, .unset, .unset, .unset, .unset] [] := by first | (simp [entryFrame, mkF, argsToLocals, Value.category, maxLocals]; done) | rfl
def Q0 (Z : State) (p0 : Int32) (q1 : Int64) (p2 : Int32) (p3 : Int32) (p4 : Int32) (oAVERAGE : Addr) (oGLOBAL : Addr) (G : Int32) (h0 : Heap) (n0 : Nat) (v : Option Value) (h : Heap) (L : List Loc) : Prop := v = some (.int 1) ∧ Fr n0 L
set_option maxRecDepth 65536 in
set_option maxHeartbeats 40000000 in
theorem rm0 (l : Launch) (Z : State) (a0 : Array Value) (hw : ∀ d ∈ tables_1, d.before a0 Z = true) (ws : List Jvm.Cond) (p0 : Int32) (q1 : Int64) (p2 : Int32) (p3 : Int32) (p4 : Int32) (oAVERAGE : Addr) (oGLOBAL : Addr) (G : Int32) (h0 : Heap) (n0 : Nat) (Z0 : n0 ≤ h0.size) (ST_AVERAGE : Sta Z h0 "com/example/aswan/aswan/rule/ThresholdType" "AVERAGE" "Lcom/example/aswan/aswan/rule/ThresholdType;" (.ref oAVERAGE)) (EX_oAVERAGE : Exa Z h0 oAVERAGE "com/example/aswan/aswan/rule/ThresholdType") (ST_GLOBAL : Sta Z h0 "com/example/aswan/aswan/rule/ThresholdType" "GLOBAL" "Lcom/example/aswan/aswan/rule/ThresholdType;" (.ref oGLOBAL)) (EX_oGLOBAL : Exa Z h0 oGLOBAL "com/example/aswan/aswan/rule/ThresholdType") (S_cs : Sta Z h0 "java/lang/String" "COMPACT_STRINGS" "Z" (.int G)) (hG : ¬ G = 0) :
    MetFree l x (head1 (Jvm.Cond.code x code maxLocals ret :: ws) room_1) (fun a U => a = #[(.int p0), (.long q1), (.int p2), (.int p3), (.int p4)] ∧ Z.Warmed39 U.vm ∧ U.heap = h0) (fun _ _ _ _ _ => True) (fun _ U o U' => ∃ v L, o = .returned v ∧ Q0 Z p0 q1 p2 p3 p4 oAVERAGE oGLOBAL G h0 n0 v U'.heap L ∧ ReturnedEndW U o U' L room_1.cells room_1.slots) := by
  refine MetFree.of_bodySF (plainFor_of_name pn_0) hisR ?_
  intro p e s m args below meth c s₁ Bd hml0 hP hK
  obtain ⟨rfl, hZ, hh⟩ := hP
  have hx := Bd.exec
  have hby := Bd.bytes
  have hml : c.maxLocals = 17 := hml0
  have hown : s.vm.findClass "com/example/aswan/aswan/rule/FlowRuleIsClusterModePinLaw" = some m.cls := findClass_of_methodNamed Bd.named
  have hnm := (name_of_methodNamed Bd.named Bd.method).1
  have X0 : Stand p l e room_1 (s.setVm s.vm) m #[(.int p0), (.long q1), (.int p2), (.int p3), (.int p4)] below meth c s₁ [] 0 0 := Stand.of_body Bd
  have e0 : s₁.heap = h0 := by rw [← hh, Bd.state]; rfl
  have N0 := Fr.nil n0
  have K0 : ∀ t, Steps p.tables e below (s₁.setTop (mkF m 0 #[.val (.int p0), .val (.long q1), .second, .val (.int p2), .val (.int p3), .val (.int p4), .unset, .unset, .unset, .unset, .unset, .unset, .unset, .unset, .unset, .unset, .unset] [])) t → Steps p.tables e below (s₁.setTop (entryFrame m #[(.int p0), (.long q1), (.int p2), (.int p3), (.int p4)] maxLocals)) t := fun t k => castTop (ef_0 m p0 q1 p2 p3 p4) k
  generalize s₁.setTop (entryFrame m #[(.int p0), (.long q1), (.int p2), (.int p3), (.int p4)] maxLocals) = SE at K0 ⊢
  have hS : s.Since s.vm h0.size := State.WarmedH.since (State.WarmedH.refl s) _
  have hk : h0.size ≤ h0.size := Nat.le_refl _
  obtain ⟨cl, hcl, K2⟩ : ∃ cl : Int32, cl = (if (p0 &&& (1 : Int32)) = 0 then (0 : Int32) else (1 : Int32)) ∧ ∀ t, own_S p e below s₁ (mkF m 11 #[.val (.int p0), .val (.long q1), .second, .val (.int p2), .val (.int p3), .val (.int p4), .unset, .unset, .unset, .unset, .unset, .unset, .unset, .unset, .unset, .unset, .unset] [(.int cl)]) t → Steps p.tables e below SE t := by
    have K4 : ∀ t, own_S p e below s₁ (mkF m 3 #[.val (.int p0), .val (.long q1), .second, .val (.int p2), .val (.int p3), .val (.int p4), .unset, .unset, .unset, .unset, .unset, .unset, .unset, .unset, .unset, .unset, .unset] [(.int (p0 &&& (1 : Int32)))]) t → Steps p.tables e below SE t := by
      intro t k
      refine K0 _ ?_
      refine XS.iloadN X0.here hx rfl (hb hby at_0) rfl ?_
      show own_S p e below s₁ (mkF m 1 #[.val (.int p0), .val (.long q1), .second, .val (.int p2), .val (.int p3), .val (.int p4), .unset, .unset, .unset, .unset, .unset, .unset, .unset, .unset, .unset, .unset, .unset] [(.int p0)]) _
      refine XS.iconst X0.here hx rfl (hb hby at_1) ?_
      show own_S p e below s₁ (mkF m 2 #[.val (.int p0), .val (.long q1), .second, .val (.int p2), .val (.int p3), .val (.int p4), .unset, .unset, .unset, .unset, .unset, .unset, .unset, .unset, .unset, .unset, .unset] [(.int (1 : Int32)), (.int p0)]) _
      refine XS.iand X0.here hx rfl (hb hby at_2) rfl ?_
      exact k
    by_cases c3_3 : (p0 &&& (1 : Int32)) = 0
    · skip
      have K5 : ∀ t, own_S p e below s₁ (mkF m 11 #[.val (.int p0), .val (.long q1), .second, .val (.int p2), .val (.int p3), .val (.int p4), .unset, .unset, .unset, .unset, .unset, .unset, .unset, .unset, .unset, .unset, .unset] [(.int (0 : Int32))]) t → Steps p.tables e below SE t := by
        intro t k
        refine K4 _ ?_
        refine XS.ifYes X0.here hx rfl (pc0 := 3) (pc' := 10) rfl (hb hby at_3) rfl (XT.i0_eq_t c3_3) (by decide) (by decide) ?_
        show own_S p e below s₁ (mkF m 10 #[.val (.int p0), .val (.long q1), .second, .val (.int p2), .val (.int p3), .val (.int p4), .unset, .unset, .unset, .unset, .unset, .unset, .unset, .unset, .unset, .unset, .unset] []) _
        refine XS.iconst X0.here hx rfl (hb hby at_10) ?_
        exact k
      exact ⟨(0 : Int32), (by simp only [if_pos c3_3]), K5⟩
    · skip
      have K6 : ∀ t, own_S p e below s₁ (mkF m 11 #[.val (.int p0), .val (.long q1), .second, .val (.int p2), .val (.int p3), .val (.int p4), .unset, .unset, .unset, .unset, .unset, .unset, .unset, .unset, .unset, .unset, .unset] [(.int (1 : Int32))]) t → Steps p.tables e below SE t := by
        intro t k
        refine K4 _ ?_
        refine XS.ifNo X0.here hx rfl (hb hby at_3) rfl (XT.i0_eq_f c3_3) ?_
        show own_S p e below s₁ (mkF m 6 #[.val (.int p0), .val (.long q1), .second, .val (.int p2), .val (.int p3), .val (.int p4), .unset, .unset, .unset, .unset, .unset, .unset, .unset, .unset, .unset, .unset, .unset] []) _
        refine XS.iconst X0.here hx rfl (hb hby at_6) ?_
        show own_S p e below s₁ (mkF m 7 #[.val (.int p0), .val (.long q1), .second, .val (.int p2), .val (.int p3), .val (.int p4), .unset, .unset, .unset, .unset, .unset, .unset, .unset, .unset, .unset, .unset, .unset] [(.int (1 : Int32))]) _
        refine XS.goto X0.here hx rfl (pc0 := 7) (pc' := 11) rfl (hb hby at_7) (by decide) (by decide) ?_
        exact k
      exact ⟨(1 : Int32), (by simp only [if_neg c3_3]), K6⟩
  have K7 : ∀ t, own_S p e below s₁ (mkF m 18 #[.val (.int p0), .val (.long q1), .second, .val (.int p2), .val (.int p3), .val (.int p4), .val (.int cl), .unset, .unset, .unset, .unset, .unset, .unset, .unset, .unset, .unset, .unset] [(.int (((p0.toUInt32 >>> ((1 : Int32) &&& 31).toUInt32).toInt32) &&& (1 : Int32)))]) t → Steps p.tables e below SE t := by
    intro t k
    refine K2 _ ?_
    refine XS.istore X0.here hx rfl (hb hby at_11) rfl (l' := #[.val (.int p0), .val (.long q1), .second, .val (.int p2), .val (.int p3), .val (.int p4), .val (.int cl), .unset, .unset, .unset, .unset, .unset, .unset, .unset, .unset, .unset, .unset]) rfl ?_
    show own_S p e below s₁ (mkF m 13 #[.val (.int p0), .val (.long q1), .second, .val (.int p2), .val (.int p3), .val (.int p4), .val (.int cl), .unset, .unset, .unset, .unset, .unset, .unset, .unset, .unset, .unset, .unset] []) _
    refine XS.iloadN X0.here hx rfl (hb hby at_13) rfl ?_
    show own_S p e below s₁ (mkF m 14 #[.val (.int p0), .val (.long q1), .second, .val (.int p2), .val (.int p3), .val (.int p4), .val (.int cl), .unset, .unset, .unset, .unset, .unset, .unset, .unset, .unset, .unset, .unset] [(.int p0)]) _
    refine XS.iconst X0.here hx rfl (hb hby at_14) ?_
    show own_S p e below s₁ (mkF m 15 #[.val (.int p0), .val (.long q1), .second, .val (.int p2), .val (.int p3), .val (.int p4), .val (.int cl), .unset, .unset, .unset, .unset, .unset, .unset, .unset, .unset, .unset, .unset] [(.int (1 : Int32)), (.int p0)]) _
    refine XS.iushr X0.here hx rfl (hb hby at_15) rfl ?_
    show own_S p e below s₁ (mkF m 16 #[.val (.int p0), .val (.long q1), .second, .val (.int p2), .val (.int p3), .val (.int p4), .val (.int cl), .unset, .unset, .unset, .unset, .unset, .unset, .unset, .unset, .unset, .unset] [(.int ((p0.toUInt32 >>> ((1 : Int32) &&& 31).toUInt32).toInt32))]) _
    refine XS.iconst X0.here hx rfl (hb hby at_16) ?_
    show own_S p e below s₁ (mkF m 17 #[.val (.int p0), .val (.long q1), .second, .val (.int p2), .val (.int p3), .val (.int p4), .val (.int cl), .unset, .unset, .unset, .unset, .unset, .unset, .unset, .unset, .unset, .unset] [(.int (1 : Int32)), (.int ((p0.toUInt32 >>> ((1 : Int32) &&& 31).toUInt32).toInt32))]) _
    refine XS.iand X0.here hx rfl (hb hby at_17) rfl ?_
    exact k
  by_cases c18 : (((p0.toUInt32 >>> ((1 : Int32) &&& 31).toUInt32).toInt32) &&& (1 : Int32)) = 0
  · skip
    have K8 : ∀ t, own_S p e below s₁ (mkF m 21 #[.val (.int p0), .val (.long q1), .second, .val (.int p2), .val (.int p3), .val (.int p4), .val (.int cl), .unset, .unset, .unset, .unset, .unset, .unset, .unset, .unset, .unset, .unset] []) t → Steps p.tables e below SE t := by
      intro t k
      refine K7 _ ?_
      refine XS.ifNo X0.here hx rfl (hb hby at_18) rfl (XT.i0_ne_f c18) ?_
      exact k
    obtain ⟨T9, X9, e9, st9⟩ := getS2 X0 hx hZ hown (host := "") (Or.inl (hw _ (List.mem_of_getElem? (i := 0) rfl))) Via.refl e0 ST_AVERAGE (g := (mkF m 21 #[.val (.int p0), .val (.long q1), .second, .val (.int p2), .val (.int p3), .val (.int p4), .val (.int cl), .unset, .unset, .unset, .unset, .unset, .unset, .unset, .unset, .unset, .unset] [])) rfl (hb hby at_21)
    have K9 : ∀ t, own_S p e below T9 (mkF m 24 #[.val (.int p0), .val (.long q1), .second, .val (.int p2), .val (.int p3), .val (.int p4), .val (.int cl), .unset, .unset, .unset, .unset, .unset, .unset, .unset, .unset, .unset, .unset] [(.ref oAVERAGE)]) t → Steps p.tables e below SE t := fun t k => K8 _ (st9 _ k)
    have K11 : ∀ t, own_S p e below T9 (mkF m 32 #[.val (.int p0), .val (.long q1), .second, .val (.int p2), .val (.int p3), .val (.int p4), .val (.int cl), .val (.ref oAVERAGE), .unset, .unset, .unset, .unset, .unset, .unset, .unset, .unset, .unset] []) t → Steps p.tables e below SE t := by
      intro t k
      refine K9 _ ?_
      refine XS.goto X9.here hx rfl (pc0 := 24) (pc' := 30) rfl (hb hby at_24) (by decide) (by decide) ?_
      show own_S p e below T9 (mkF m 30 #[.val (.int p0), .val (.long q1), .second, .val (.int p2), .val (.int p3), .val (.int p4), .val (.int cl), .unset, .unset, .unset, .unset, .unset, .unset, .unset, .unset, .unset, .unset] [(.ref oAVERAGE)]) _
      refine XS.astore X9.here hx rfl (hb hby at_30) rfl rfl (l' := #[.val (.int p0), .val (.long q1), .second, .val (.int p2), .val (.int p3), .val (.int p4), .val (.int cl), .val (.ref oAVERAGE), .unset, .unset, .unset, .unset, .unset, .unset, .unset, .unset, .unset]) rfl ?_
      exact k
    obtain ⟨fb, hfb, K12⟩ : ∃ fb : Int32, fb = (if (((p0.toUInt32 >>> ((2 : Int32) &&& 31).toUInt32).toInt32) &&& (1 : Int32)) = 0 then (0 : Int32) else (1 : Int32)) ∧ ∀ t, own_S p e below T9 (mkF m 45 #[.val (.int p0), .val (.long q1), .second, .val (.int p2), .val (.int p3), .val (.int p4), .val (.int cl), .val (.ref oAVERAGE), .unset, .unset, .unset, .unset, .unset, .unset, .unset, .unset, .unset] [(.int fb)]) t → Steps p.tables e below SE t := by
      have K14 : ∀ t, own_S p e below T9 (mkF m 37 #[.val (.int p0), .val (.long q1), .second, .val (.int p2), .val (.int p3), .val (.int p4), .val (.int cl), .val (.ref oAVERAGE), .unset, .unset, .unset, .unset, .unset, .unset, .unset, .unset, .unset] [(.int (((p0.toUInt32 >>> ((2 : Int32) &&& 31).toUInt32).toInt32) &&& (1 : Int32)))]) t → Steps p.tables e below SE t := by
        intro t k
        refine K11 _ ?_
        refine XS.iloadN X9.here hx rfl (hb hby at_32) rfl ?_
        show own_S p e below T9 (mkF m 33 #[.val (.int p0), .val (.long q1), .second, .val (.int p2), .val (.int p3), .val (.int p4), .val (.int cl), .val (.ref oAVERAGE), .unset, .unset, .unset, .unset, .unset, .unset, .unset, .unset, .unset] [(.int p0)]) _
        refine XS.iconst X9.here hx rfl (hb hby at_33) ?_
        show own_S p e below T9 (mkF m 34 #[.val (.int p0), .val (.long q1), .second, .val (.int p2), .val (.int p3), .val (.int p4), .val (.int cl), .val (.ref oAVERAGE), .unset, .unset, .unset, .unset, .unset, .unset, .unset, .unset, .unset] [(.int (2 : Int32)), (.int p0)]) _
        refine XS.iushr X9.here hx rfl (hb hby at_34) rfl ?_
        show own_S p e below T9 (mkF m 35 #[.val (.int p0), .val (.long q1), .second, .val (.int p2), .val (.int p3), .val (.int p4), .val (.int cl), .val (.ref oAVERAGE), .unset, .unset, .unset, .unset, .unset, .unset, .unset, .unset, .unset] [(.int ((p0.toUInt32 >>> ((2 : Int32) &&& 31).toUInt32).toInt32))]) _
        refine XS.iconst X9.here hx rfl (hb hby at_35) ?_
        show own_S p e below T9 (mkF m 36 #[.val (.int p0), .val (.long q1), .second, .val (.int p2), .val (.int p3), .val (.int p4), .val (.int cl), .val (.ref oAVERAGE), .unset, .unset, .unset, .unset, .unset, .unset, .unset, .unset, .unset] [(.int (1 : Int32)), (.int ((p0.toUInt32 >>> ((2 : Int32) &&& 31).toUInt32).toInt32))]) _
        refine XS.iand X9.here hx rfl (hb hby at_36) rfl ?_
        exact k
      by_cases c37_13 : (((p0.toUInt32 >>> ((2 : Int32) &&& 31).toUInt32).toInt32) &&& (1 : Int32)) = 0
      · skip
        have K15 : ∀ t, own_S p e below T9 (mkF m 45 #[.val (.int p0), .val (.long q1), .second, .val (.int p2), .val (.int p3), .val (.int p4), .val (.int cl), .val (.ref oAVERAGE), .unset, .unset, .unset, .unset, .unset, .unset, .unset, .unset, .unset] [(.int (0 : Int32))]) t → Steps p.tables e below SE t := by
          intro t k
          refine K14 _ ?_
          refine XS.ifYes X9.here hx rfl (pc0 := 37) (pc' := 44) rfl (hb hby at_37) rfl (XT.i0_eq_t c37_13) (by decide) (by decide) ?_
          show own_S p e below T9 (mkF m 44 #[.val (.int p0), .val (.long q1), .second, .val (.int p2), .val (.int p3), .val (.int p4), .val (.int cl), .val (.ref oAVERAGE), .unset, .unset, .unset, .unset, .unset, .unset, .unset, .unset, .unset] []) _
          refine XS.iconst X9.here hx rfl (hb hby at_44) ?_
          exact k
        exact ⟨(0 : Int32), (by simp only [if_pos c37_13]), K15⟩
      · skip
        have K16 : ∀ t, own_S p e below T9 (mkF m 45 #[.val (.int p0), .val (.long q1), .second, .val (.int p2), .val (.int p3), .val (.int p4), .val (.int cl), .val (.ref oAVERAGE), .unset, .unset, .unset, .unset, .unset, .unset, .unset, .unset, .unset] [(.int (1 : Int32))]) t → Steps p.tables e below SE t := by
          intro t k
          refine K14 _ ?_
          refine XS.ifNo X9.here hx rfl (hb hby at_37) rfl (XT.i0_eq_f c37_13) ?_
          show own_S p e below T9 (mkF m 40 #[.val (.int p0), .val (.long q1), .second, .val (.int p2), .val (.int p3), .val (.int p4), .val (.int cl), .val (.ref oAVERAGE), .unset, .unset, .unset, .unset, .unset, .unset, .unset, .unset, .unset] []) _
          refine XS.iconst X9.here hx rfl (hb hby at_40) ?_
          show own_S p e below T9 (mkF m 41 #[.val (.int p0), .val (.long q1), .second, .val (.int p2), .val (.int p3), .val (.int p4), .val (.int cl), .val (.ref oAVERAGE), .unset, .unset, .unset, .unset, .unset, .unset, .unset, .unset, .unset] [(.int (1 : Int32))]) _
          refine XS.goto X9.here hx rfl (pc0 := 41) (pc' := 45) rfl (hb hby at_41) (by decide) (by decide) ?_
          exact k
        exact ⟨(1 : Int32), (by simp only [if_neg c37_13]), K16⟩
    have K17 : ∀ t, own_S p e below T9 (mkF m 48 #[.val (.int p0), .val (.long q1), .second, .val (.int p2), .val (.int p3), .val (.int p4), .val (.int cl), .val (.ref oAVERAGE), .val (.int fb), .unset, .unset, .unset, .unset, .unset, .unset, .unset, .unset] [(.int (2 : Int32))]) t → Steps p.tables e below SE t := by
      intro t k
      refine K12 _ ?_
      refine XS.istore X9.here hx rfl (hb hby at_45) rfl (l' := #[.val (.int p0), .val (.long q1), .second, .val (.int p2), .val (.int p3), .val (.int p4), .val (.int cl), .val (.ref oAVERAGE), .val (.int fb), .unset, .unset, .unset, .unset, .unset, .unset, .unset, .unset]) rfl ?_
      show own_S p e below T9 (mkF m 47 #[.val (.int p0), .val (.long q1), .second, .val (.int p2), .val (.int p3), .val (.int p4), .val (.int cl), .val (.ref oAVERAGE), .val (.int fb), .unset, .unset, .unset, .unset, .unset, .unset, .unset, .unset] []) _
      refine XS.iconst X9.here hx rfl (hb hby at_47) ?_
      exact k
    obtain ⟨T18, h18, k18, X18, e18, E18, A18, st18⟩ := newP X9 hx hZ (hw _ (List.mem_of_getElem? (i := 3) rfl)) e9 (g := (mkF m 48 #[.val (.int p0), .val (.long q1), .second, .val (.int p2), .val (.int p3), .val (.int p4), .val (.int cl), .val (.ref oAVERAGE), .val (.int fb), .unset, .unset, .unset, .unset, .unset, .unset, .unset, .unset] [(.int (2 : Int32))])) rfl (hb hby at_48) rfl (by decide) (cap := 2) (by decide) (by decide) (by decide) (by decide)
    obtain ⟨b18, g18⟩ : ∃ z, z = h0.size := ⟨_, rfl⟩
    rw [← g18] at A18 st18
    have g_b18 : n0 ≤ b18 := Nat.le_trans Z0 (Nat.le_of_eq g18.symm)
    have sz_b18 : h0.size ≤ b18 := Nat.le_trans (Nat.le_refl _) (Nat.le_of_eq g18.symm)
    have own_ne_oGLOBAL_b18 : oGLOBAL ≠ b18 := Nat.ne_of_lt (Nat.lt_of_lt_of_le EX_oGLOBAL.lt (Nat.le_of_eq g18.symm))
    have own_ne_oAVERAGE_b18 : oAVERAGE ≠ b18 := Nat.ne_of_lt (Nat.lt_of_lt_of_le EX_oAVERAGE.lt (Nat.le_of_eq g18.symm))
    have Kp18 : Keep h0 h18 [] := Keep.ext (Keep.refl h0 []) E18
    have V18 : Arv Z h18 b18 k18 .char (2 : Int32) [(.int (0 : Int32)), (.int (0 : Int32))] (.int (0 : Int32)) := (Arv.new A18 (by decide)).pad (pad_rep [] (.int (0 : Int32)) 2)
    have K18 : ∀ t, own_S p e below T18 (mkF m 50 #[.val (.int p0), .val (.long q1), .second, .val (.int p2), .val (.int p3), .val (.int p4), .val (.int cl), .val (.ref oAVERAGE), .val (.int fb), .unset, .unset, .unset, .unset, .unset, .unset, .unset, .unset] [(.ref b18)]) t → Steps p.tables e below SE t := fun t k => K17 _ (st18 _ k)
    have K19 : ∀ t, own_S p e below T18 (mkF m 59 #[.val (.int p0), .val (.long q1), .second, .val (.int p2), .val (.int p3), .val (.int p4), .val (.int cl), .val (.ref oAVERAGE), .val (.int fb), .unset, .unset, .unset, .unset, .unset, .unset, .unset, .unset] [(.int (((p3 &&& (255 : Int32))).toUInt32.toUInt16.toUInt32.toInt32)), (.int (0 : Int32)), (.ref b18), (.ref b18)]) t → Steps p.tables e below SE t := by
      intro t k
      refine K18 _ ?_
      refine XS.dup X18.here hx rfl (hb hby at_50) rfl rfl ?_
      show own_S p e below T18 (mkF m 51 #[.val (.int p0), .val (.long q1), .second, .val (.int p2), .val (.int p3), .val (.int p4), .val (.int cl), .val (.ref oAVERAGE), .val (.int fb), .unset, .unset, .unset, .unset, .unset, .unset, .unset, .unset] [(.ref b18), (.ref b18)]) _
      refine XS.iconst X18.here hx rfl (hb hby at_51) ?_
      show own_S p e below T18 (mkF m 52 #[.val (.int p0), .val (.long q1), .second, .val (.int p2), .val (.int p3), .val (.int p4), .val (.int cl), .val (.ref oAVERAGE), .val (.int fb), .unset, .unset, .unset, .unset, .unset, .unset, .unset, .unset] [(.int (0 : Int32)), (.ref b18), (.ref b18)]) _
      refine XS.iload X18.here hx rfl (hb hby at_52) rfl ?_
      show own_S p e below T18 (mkF m 54 #[.val (.int p0), .val (.long q1), .second, .val (.int p2), .val (.int p3), .val (.int p4), .val (.int cl), .val (.ref oAVERAGE), .val (.int fb), .unset, .unset, .unset, .unset, .unset, .unset, .unset, .unset] [(.int p3), (.int (0 : Int32)), (.ref b18), (.ref b18)]) _
      refine XS.sipush X18.here hx rfl (hb hby at_54) ?_
      show own_S p e below T18 (mkF m 57 #[.val (.int p0), .val (.long q1), .second, .val (.int p2), .val (.int p3), .val (.int p4), .val (.int cl), .val (.ref oAVERAGE), .val (.int fb), .unset, .unset, .unset, .unset, .unset, .unset, .unset, .unset] [(.int (255 : Int32)), (.int p3), (.int (0 : Int32)), (.ref b18), (.ref b18)]) _
      refine XS.iand X18.here hx rfl (hb hby at_57) rfl ?_
      show own_S p e below T18 (mkF m 58 #[.val (.int p0), .val (.long q1), .second, .val (.int p2), .val (.int p3), .val (.int p4), .val (.int cl), .val (.ref oAVERAGE), .val (.int fb), .unset, .unset, .unset, .unset, .unset, .unset, .unset, .unset] [(.int (p3 &&& (255 : Int32))), (.int (0 : Int32)), (.ref b18), (.ref b18)]) _
      refine XS.i2c X18.here hx rfl (hb hby at_58) rfl ?_
      exact k
    obtain ⟨cl20, Ar20, qk20, S20, Ng20, Hh20, Gg20⟩ := id V18
    have hin20 : ¬ ((0 : Int32) < 0 ∨ cl20.slots.size ≤ ((0 : Int32)).toNatClampNeg) := inb_of S20 ⟨by decide, by decide⟩
    obtain ⟨T21, h21, X21, e21, W21, st21⟩ := stC X18 hx hZ e18 Ar20 (j := (0 : Int32)) hin20 (g := (mkF m 59 #[.val (.int p0), .val (.long q1), .second, .val (.int p2), .val (.int p3), .val (.int p4), .val (.int cl), .val (.ref oAVERAGE), .val (.int fb), .unset, .unset, .unset, .unset, .unset, .unset, .unset, .unset] [(.int (((p3 &&& (255 : Int32))).toUInt32.toUInt16.toUInt32.toInt32)), (.int (0 : Int32)), (.ref b18), (.ref b18)])) rfl rfl (hb hby at_59)
    have V21 : Arv Z h21 b18 k18 .char (2 : Int32) [(.int (nar .char (((p3 &&& (255 : Int32))).toUInt32.toUInt16.toUInt32.toInt32))), (.int (0 : Int32))] (.int (0 : Int32)) := Arv.set Ar20 qk20 S20 Ng20 Hh20 Gg20 (fits_nar_char _) W21 0 rfl (Nat.le_of_ble_eq_true rfl)
    have N21 := Fr.snoc X21 N0 g_b18
    have Kp21 : Keep h0 h21 [] := Keep.wr Kp18 W21 (Or.inr sz_b18)
    have K21 : ∀ t, own_S p e below T21 (mkF m 60 #[.val (.int p0), .val (.long q1), .second, .val (.int p2), .val (.int p3), .val (.int p4), .val (.int cl), .val (.ref oAVERAGE), .val (.int fb), .unset, .unset, .unset, .unset, .unset, .unset, .unset, .unset] [(.ref b18)]) t → Steps p.tables e below SE t := fun t k => K19 _ (st21 _ k)
    have K22 : ∀ t, own_S p e below T21 (mkF m 69 #[.val (.int p0), .val (.long q1), .second, .val (.int p2), .val (.int p3), .val (.int p4), .val (.int cl), .val (.ref oAVERAGE), .val (.int fb), .unset, .unset, .unset, .unset, .unset, .unset, .unset, .unset] [(.int (((p4 &&& (255 : Int32))).toUInt32.toUInt16.toUInt32.toInt32)), (.int (1 : Int32)), (.ref b18), (.ref b18)]) t → Steps p.tables e below SE t := by
      intro t k
      refine K21 _ ?_
      refine XS.dup X21.here hx rfl (hb hby at_60) rfl rfl ?_
      show own_S p e below T21 (mkF m 61 #[.val (.int p0), .val (.long q1), .second, .val (.int p2), .val (.int p3), .val (.int p4), .val (.int cl), .val (.ref oAVERAGE), .val (.int fb), .unset, .unset, .unset, .unset, .unset, .unset, .unset, .unset] [(.ref b18), (.ref b18)]) _
      refine XS.iconst X21.here hx rfl (hb hby at_61) ?_
      show own_S p e below T21 (mkF m 62 #[.val (.int p0), .val (.long q1), .second, .val (.int p2), .val (.int p3), .val (.int p4), .val (.int cl), .val (.ref oAVERAGE), .val (.int fb), .unset, .unset, .unset, .unset, .unset, .unset, .unset, .unset] [(.int (1 : Int32)), (.ref b18), (.ref b18)]) _
      refine XS.iload X21.here hx rfl (hb hby at_62) rfl ?_
      show own_S p e below T21 (mkF m 64 #[.val (.int p0), .val (.long q1), .second, .val (.int p2), .val (.int p3), .val (.int p4), .val (.int cl), .val (.ref oAVERAGE), .val (.int fb), .unset, .unset, .unset, .unset, .unset, .unset, .unset, .unset] [(.int p4), (.int (1 : Int32)), (.ref b18), (.ref b18)]) _
      refine XS.sipush X21.here hx rfl (hb hby at_64) ?_
      show own_S p e below T21 (mkF m 67 #[.val (.int p0), .val (.long q1), .second, .val (.int p2), .val (.int p3), .val (.int p4), .val (.int cl), .val (.ref oAVERAGE), .val (.int fb), .unset, .unset, .unset, .unset, .unset, .unset, .unset, .unset] [(.int (255 : Int32)), (.int p4), (.int (1 : Int32)), (.ref b18), (.ref b18)]) _
      refine XS.iand X21.here hx rfl (hb hby at_67) rfl ?_
      show own_S p e below T21 (mkF m 68 #[.val (.int p0), .val (.long q1), .second, .val (.int p2), .val (.int p3), .val (.int p4), .val (.int cl), .val (.ref oAVERAGE), .val (.int fb), .unset, .unset, .unset, .unset, .unset, .unset, .unset, .unset] [(.int (p4 &&& (255 : Int32))), (.int (1 : Int32)), (.ref b18), (.ref b18)]) _
      refine XS.i2c X21.here hx rfl (hb hby at_68) rfl ?_
      exact k
    obtain ⟨cl23, Ar23, qk23, S23, Ng23, Hh23, Gg23⟩ := id V21
    have hin23 : ¬ ((1 : Int32) < 0 ∨ cl23.slots.size ≤ ((1 : Int32)).toNatClampNeg) := inb_of S23 ⟨by decide, by decide⟩
    obtain ⟨T24, h24, X24, e24, W24, st24⟩ := stC X21 hx hZ e21 Ar23 (j := (1 : Int32)) hin23 (g := (mkF m 69 #[.val (.int p0), .val (.long q1), .second, .val (.int p2), .val (.int p3), .val (.int p4), .val (.int cl), .val (.ref oAVERAGE), .val (.int fb), .unset, .unset, .unset, .unset, .unset, .unset, .unset, .unset] [(.int (((p4 &&& (255 : Int32))).toUInt32.toUInt16.toUInt32.toInt32)), (.int (1 : Int32)), (.ref b18), (.ref b18)])) rfl rfl (hb hby at_69)
    have V24 : Arv Z h24 b18 k18 .char (2 : Int32) [(.int (nar .char (((p3 &&& (255 : Int32))).toUInt32.toUInt16.toUInt32.toInt32))), (.int (nar .char (((p4 &&& (255 : Int32))).toUInt32.toUInt16.toUInt32.toInt32)))] (.int (0 : Int32)) := Arv.set Ar23 qk23 S23 Ng23 Hh23 Gg23 (fits_nar_char _) W24 1 rfl (Nat.le_of_ble_eq_true rfl)
    have N24 := Fr.snoc X24 N21 g_b18
    have Kp24 : Keep h0 h24 [] := Keep.wr Kp21 W24 (Or.inr sz_b18)
    have K24 : ∀ t, own_S p e below T24 (mkF m 70 #[.val (.int p0), .val (.long q1), .second, .val (.int p2), .val (.int p3), .val (.int p4), .val (.int cl), .val (.ref oAVERAGE), .val (.int fb), .unset, .unset, .unset, .unset, .unset, .unset, .unset, .unset] [(.ref b18)]) t → Steps p.tables e below SE t := fun t k => K22 _ (st24 _ k)
    have K25 : ∀ t, own_S p e below T24 (mkF m 77 #[.val (.int p0), .val (.long q1), .second, .val (.int p2), .val (.int p3), .val (.int p4), .val (.int cl), .val (.ref oAVERAGE), .val (.int fb), .val (.ref b18), .unset, .unset, .unset, .unset, .unset, .unset, .unset] [(.int (((p0.toUInt32 >>> ((3 : Int32) &&& 31).toUInt32).toInt32) &&& (1 : Int32)))]) t → Steps p.tables e below SE t := by
      intro t k
      refine K24 _ ?_
      refine XS.astore X24.here hx rfl (hb hby at_70) rfl rfl (l' := #[.val (.int p0), .val (.long q1), .second, .val (.int p2), .val (.int p3), .val (.int p4), .val (.int cl), .val (.ref oAVERAGE), .val (.int fb), .val (.ref b18), .unset, .unset, .unset, .unset, .unset, .unset, .unset]) rfl ?_
      show own_S p e below T24 (mkF m 72 #[.val (.int p0), .val (.long q1), .second, .val (.int p2), .val (.int p3), .val (.int p4), .val (.int cl), .val (.ref oAVERAGE), .val (.int fb), .val (.ref b18), .unset, .unset, .unset, .unset, .unset, .unset, .unset] []) _
      refine XS.iloadN X24.here hx rfl (hb hby at_72) rfl ?_
      show own_S p e below T24 (mkF m 73 #[.val (.int p0), .val (.long q1), .second, .val (.int p2), .val (.int p3), .val (.int p4), .val (.int cl), .val (.ref oAVERAGE), .val (.int fb), .val (.ref b18), .unset, .unset, .unset, .unset, .unset, .unset, .unset] [(.int p0)]) _
      refine XS.iconst X24.here hx rfl (hb hby at_73) ?_
      show own_S p e below T24 (mkF m 74 #[.val (.int p0), .val (.long q1), .second, .val (.int p2), .val (.int p3), .val (.int p4), .val (.int cl), .val (.ref oAVERAGE), .val (.int fb), .val (.ref b18), .unset, .unset, .unset, .unset, .unset, .unset, .unset] [(.int (3 : Int32)), (.int p0)]) _
      refine XS.iushr X24.here hx rfl (hb hby at_74) rfl ?_
      show own_S p e below T24 (mkF m 75 #[.val (.int p0), .val (.long q1), .second, .val (.int p2), .val (.int p3), .val (.int p4), .val (.int cl), .val (.ref oAVERAGE), .val (.int fb), .val (.ref b18), .unset, .unset, .unset, .unset, .unset, .unset, .unset] [(.int ((p0.toUInt32 >>> ((3 : Int32) &&& 31).toUInt32).toInt32))]) _
      refine XS.iconst X24.here hx rfl (hb hby at_75) ?_
      show own_S p e below T24 (mkF m 76 #[.val (.int p0), .val (.long q1), .second, .val (.int p2), .val (.int p3), .val (.int p4), .val (.int cl), .val (.ref oAVERAGE), .val (.int fb), .val (.ref b18), .unset, .unset, .unset, .unset, .unset, .unset, .unset] [(.int (1 : Int32)), (.int ((p0.toUInt32 >>> ((3 : Int32) &&& 31).toUInt32).toInt32))]) _
      refine XS.iand X24.here hx rfl (hb hby at_76) rfl ?_
      exact k
    by_cases c77 : (((p0.toUInt32 >>> ((3 : Int32) &&& 31).toUInt32).toInt32) &&& (1 : Int32)) = 0
    · skip
      have K26 : ∀ t, own_S p e below T24 (mkF m 80 #[.val (.int p0), .val (.long q1), .second, .val (.int p2), .val (.int p3), .val (.int p4), .val (.int cl), .val (.ref oAVERAGE), .val (.int fb), .val (.ref b18), .unset, .unset, .unset, .unset, .unset, .unset, .unset] []) t → Steps p.tables e below SE t := by
        intro t k
        refine K25 _ ?_
        refine XS.ifNo X24.here hx rfl (hb hby at_77) rfl (XT.i0_ne_f c77) ?_
        exact k
      obtain ⟨b27, T27, h27, k1_27, X27, e27, E27, hS, hk, hZ, hown, st27⟩ := ldcS X24 hx hZ hown (hw _ (List.mem_of_getElem? (i := 4) rfl)) (own_wS hw) e24 hS (Nat.le_trans (Nat.le_trans (Nat.le_trans hk E18.1) (Nat.le_of_eq W21.size.symm)) (Nat.le_of_eq W24.size.symm)) (g := (mkF m 80 #[.val (.int p0), .val (.long q1), .second, .val (.int p2), .val (.int p3), .val (.int p4), .val (.int cl), .val (.ref oAVERAGE), .val (.int fb), .val (.ref b18), .unset, .unset, .unset, .unset, .unset, .unset, .unset] [])) rfl (hb hby at_80) (n := 0) (by decide +kernel) (by decide) (by decide) (by decide)
      have Kp27 : Keep h0 h27 [] := Keep.ext Kp24 E27
      have K27 : ∀ t, own_S p e below T27 (mkF m 82 #[.val (.int p0), .val (.long q1), .second, .val (.int p2), .val (.int p3), .val (.int p4), .val (.int cl), .val (.ref oAVERAGE), .val (.int fb), .val (.ref b18), .unset, .unset, .unset, .unset, .unset, .unset, .unset] [(.ref b27)]) t → Steps p.tables e below SE t := fun t k => K26 _ (st27 _ k)
      have K28 : ∀ t, own_S p e below T27 (mkF m 101 #[.val (.int p0), .val (.long q1), .second, .val (.int p2), .val (.int p3), .val (.int p4), .val (.int cl), .val (.ref oAVERAGE), .val (.int fb), .val (.ref b18), .val (.ref b27), .unset, .unset, .unset, .unset, .unset, .unset] [(.double (FP.i2d (p2 &&& (1048575 : Int32))))]) t → Steps p.tables e below SE t := by
        intro t k
        refine K27 _ ?_
        refine XS.goto X27.here hx rfl (pc0 := 82) (pc' := 94) rfl (hb hby at_82) (by decide) (by decide) ?_
        show own_S p e below T27 (mkF m 94 #[.val (.int p0), .val (.long q1), .second, .val (.int p2), .val (.int p3), .val (.int p4), .val (.int cl), .val (.ref oAVERAGE), .val (.int fb), .val (.ref b18), .unset, .unset, .unset, .unset, .unset, .unset, .unset] [(.ref b27)]) _
        refine XS.astore X27.here hx rfl (hb hby at_94) rfl rfl (l' := #[.val (.int p0), .val (.long q1), .second, .val (.int p2), .val (.int p3), .val (.int p4), .val (.int cl), .val (.ref oAVERAGE), .val (.int fb), .val (.ref b18), .val (.ref b27), .unset, .unset, .unset, .unset, .unset, .unset]) rfl ?_
        show own_S p e below T27 (mkF m 96 #[.val (.int p0), .val (.long q1), .second, .val (.int p2), .val (.int p3), .val (.int p4), .val (.int cl), .val (.ref oAVERAGE), .val (.int fb), .val (.ref b18), .val (.ref b27), .unset, .unset, .unset, .unset, .unset, .unset] []) _
        refine XS.iloadN X27.here hx rfl (hb hby at_96) rfl ?_
        show own_S p e below T27 (mkF m 97 #[.val (.int p0), .val (.long q1), .second, .val (.int p2), .val (.int p3), .val (.int p4), .val (.int cl), .val (.ref oAVERAGE), .val (.int fb), .val (.ref b18), .val (.ref b27), .unset, .unset, .unset, .unset, .unset, .unset] [(.int p2)]) _
        refine Stand.ldcI X27 hx hown (mvT hZ (hw _ (List.mem_of_getElem? (i := 12) rfl))) (v := (1048575 : Int32)) (g := (mkF m 97 #[.val (.int p0), .val (.long q1), .second, .val (.int p2), .val (.int p3), .val (.int p4), .val (.int cl), .val (.ref oAVERAGE), .val (.int fb), .val (.ref b18), .val (.ref b27), .unset, .unset, .unset, .unset, .unset, .unset] [(.int p2)])) rfl (hb hby at_97) ?_
        show own_S p e below T27 (mkF m 99 #[.val (.int p0), .val (.long q1), .second, .val (.int p2), .val (.int p3), .val (.int p4), .val (.int cl), .val (.ref oAVERAGE), .val (.int fb), .val (.ref b18), .val (.ref b27), .unset, .unset, .unset, .unset, .unset, .unset] [(.int (1048575 : Int32)), (.int p2)]) _
        refine XS.iand X27.here hx rfl (hb hby at_99) rfl ?_
        show Steps p.tables e below (T27.setTop (mkF m 100 #[.val (.int p0), .val (.long q1), .second, .val (.int p2), .val (.int p3), .val (.int p4), .val (.int cl), .val (.ref oAVERAGE), .val (.int fb), .val (.ref b18), .val (.ref b27), .unset, .unset, .unset, .unset, .unset, .unset] [(.int (p2 &&& (1048575 : Int32)))])) _
        jvm_step X27.here [X27.here.top, hx, (hb hby at_100), i2d.wp_sem]
        exact k
      obtain ⟨dv, hdv⟩ : ∃ z : UInt64, z = (FP.i2d (p2 &&& (1048575 : Int32))) := ⟨_, rfl⟩
      rw [← hdv] at K28
      have K29 : ∀ t, own_S p e below T27 (mkF m 109 #[.val (.int p0), .val (.long q1), .second, .val (.int p2), .val (.int p3), .val (.int p4), .val (.int cl), .val (.ref oAVERAGE), .val (.int fb), .val (.ref b18), .val (.ref b27), .val (.double dv), .second, .unset, .unset, .unset, .unset] [(.long (q1 &&& (9223372036854775807 : Int64))), (.long (1 : Int64))]) t → Steps p.tables e below SE t := by
        intro t k
        refine K28 _ ?_
        refine XS.dstore X27.here hx rfl (hb hby at_101) rfl (l' := #[.val (.int p0), .val (.long q1), .second, .val (.int p2), .val (.int p3), .val (.int p4), .val (.int cl), .val (.ref oAVERAGE), .val (.int fb), .val (.ref b18), .val (.ref b27), .val (.double dv), .second, .unset, .unset, .unset, .unset]) rfl ?_
        show own_S p e below T27 (mkF m 103 #[.val (.int p0), .val (.long q1), .second, .val (.int p2), .val (.int p3), .val (.int p4), .val (.int cl), .val (.ref oAVERAGE), .val (.int fb), .val (.ref b18), .val (.ref b27), .val (.double dv), .second, .unset, .unset, .unset, .unset] []) _
        refine XS.lconst X27.here hx rfl (hb hby at_103) ?_
        show own_S p e below T27 (mkF m 104 #[.val (.int p0), .val (.long q1), .second, .val (.int p2), .val (.int p3), .val (.int p4), .val (.int cl), .val (.ref oAVERAGE), .val (.int fb), .val (.ref b18), .val (.ref b27), .val (.double dv), .second, .unset, .unset, .unset, .unset] [(.long (1 : Int64))]) _
        refine XS.lloadN X27.here hx rfl (hb hby at_104) rfl ?_
        show own_S p e below T27 (mkF m 105 #[.val (.int p0), .val (.long q1), .second, .val (.int p2), .val (.int p3), .val (.int p4), .val (.int cl), .val (.ref oAVERAGE), .val (.int fb), .val (.ref b18), .val (.ref b27), .val (.double dv), .second, .unset, .unset, .unset, .unset] [(.long q1), (.long (1 : Int64))]) _
        refine Stand.ldc2J X27 hx hown (mvT hZ (hw _ (List.mem_of_getElem? (i := 13) rfl))) (v := (9223372036854775807 : Int64)) (g := (mkF m 105 #[.val (.int p0), .val (.long q1), .second, .val (.int p2), .val (.int p3), .val (.int p4), .val (.int cl), .val (.ref oAVERAGE), .val (.int fb), .val (.ref b18), .val (.ref b27), .val (.double dv), .second, .unset, .unset, .unset, .unset] [(.long q1), (.long (1 : Int64))])) rfl (hb hby at_105) ?_
        show own_S p e below T27 (mkF m 108 #[.val (.int p0), .val (.long q1), .second, .val (.int p2), .val (.int p3), .val (.int p4), .val (.int cl), .val (.ref oAVERAGE), .val (.int fb), .val (.ref b18), .val (.ref b27), .val (.double dv), .second, .unset, .unset, .unset, .unset] [(.long (9223372036854775807 : Int64)), (.long q1), (.long (1 : Int64))]) _
        refine XS.land X27.here hx rfl (hb hby at_108) rfl ?_
        exact k
      obtain ⟨_, _, ⟨T30, L30, k30, n30⟩, -, X30, ⟨Lc30, hQ30, l30, y30, z30⟩, st30⟩ := Jvm.LawKit.callS X27 hx (y := (⟨"java/lang/Math", "max", "(JJ)J"⟩ : MethodName)) hown (mvT hZ (hw _ (List.mem_of_getElem? (i := 14) rfl))) (mvT hZ (hw _ (List.mem_of_getElem? (i := 15) rfl))) (mvT hZ (hw _ (List.mem_of_getElem? (i := 16) rfl))) (mvT hZ (hw _ (List.mem_of_getElem? (i := 17) rfl))) (by decide) (backOf (W := 0) (rm1 l Z a0 hw [] (1 : Int64) (q1 &&& (9223372036854775807 : Int64)) h27 n0 (Nat.le_trans Z0 Kp27.1)) hZ (hw _ (List.mem_of_getElem? (i := 17) rfl)) (hw _ (List.mem_of_getElem? (i := 16) rfl)) (by decide) (by decide)) (g := (mkF m 109 #[.val (.int p0), .val (.long q1), .second, .val (.int p2), .val (.int p3), .val (.int p4), .val (.int cl), .val (.ref oAVERAGE), .val (.int fb), .val (.ref b18), .val (.ref b27), .val (.double dv), .second, .unset, .unset, .unset, .unset] [(.long (q1 &&& (9223372036854775807 : Int64))), (.long (1 : Int64))])) rfl (by rw [hml]; rfl) (argsL := [(.long (1 : Int64)), (.long (q1 &&& (9223372036854775807 : Int64)))]) (rest := []) (lenOf pd_0_0 rfl) rfl (by show 2 * 0 + _ ≤ _; exact Nat.le_of_eq rfl) (hb hby at_109) (fun _ _ => ⟨rfl, e27, (by decide : 3 + 0 ≤ _), (by decide : 6 + 0 ≤ _)⟩)
      dsimp only [Pt.U, Pt.locs, Pt.cells, Pt.slots] at X30 l30 y30 z30 st30 hQ30
      subst l30 y30 z30
      obtain ⟨rfl, Nq30, e30⟩ := hQ30
      have N30 := Fr.app N24 Nq30
      have K30 : ∀ t, own_S p e below T30 (mkF m 112 #[.val (.int p0), .val (.long q1), .second, .val (.int p2), .val (.int p3), .val (.int p4), .val (.int cl), .val (.ref oAVERAGE), .val (.int fb), .val (.ref b18), .val (.ref b27), .val (.double dv), .second, .unset, .unset, .unset, .unset] [(.long (if (1 : Int64) < (q1 &&& (9223372036854775807 : Int64)) then (q1 &&& (9223372036854775807 : Int64)) else (1 : Int64)))]) t → Steps p.tables e below SE t := fun t k => K29 _ (st30 _ k)
      obtain ⟨idv, hidv⟩ : ∃ z : Int64, z = (if (1 : Int64) < (q1 &&& (9223372036854775807 : Int64)) then (q1 &&& (9223372036854775807 : Int64)) else (1 : Int64)) := ⟨_, rfl⟩
      rw [← hidv] at K30
      have K31 : ∀ t, own_S p e below T30 (mkF m 116 #[.val (.int p0), .val (.long q1), .second, .val (.int p2), .val (.int p3), .val (.int p4), .val (.int cl), .val (.ref oAVERAGE), .val (.int fb), .val (.ref b18), .val (.ref b27), .val (.double dv), .second, .val (.long idv), .second, .unset, .unset] [(.int cl)]) t → Steps p.tables e below SE t := by
        intro t k
        refine K30 _ ?_
        refine XS.lstore X30.here hx rfl (hb hby at_112) rfl (l' := #[.val (.int p0), .val (.long q1), .second, .val (.int p2), .val (.int p3), .val (.int p4), .val (.int cl), .val (.ref oAVERAGE), .val (.int fb), .val (.ref b18), .val (.ref b27), .val (.double dv), .second, .val (.long idv), .second, .unset, .unset]) rfl ?_
        show own_S p e below T30 (mkF m 114 #[.val (.int p0), .val (.long q1), .second, .val (.int p2), .val (.int p3), .val (.int p4), .val (.int cl), .val (.ref oAVERAGE), .val (.int fb), .val (.ref b18), .val (.ref b27), .val (.double dv), .second, .val (.long idv), .second, .unset, .unset] []) _
        refine XS.iload X30.here hx rfl (hb hby at_114) rfl ?_
        exact k
      by_cases c116 : cl = 0
      · skip
        have K32 : ∀ t, own_S p e below T30 (mkF m 138 #[.val (.int p0), .val (.long q1), .second, .val (.int p2), .val (.int p3), .val (.int p4), .val (.int cl), .val (.ref oAVERAGE), .val (.int fb), .val (.ref b18), .val (.ref b27), .val (.double dv), .second, .val (.long idv), .second, .val .null, .unset] []) t → Steps p.tables e below SE t := by
          intro t k
          refine K31 _ ?_
          refine XS.ifYes X30.here hx rfl (pc0 := 116) (pc' := 135) rfl (hb hby at_116) rfl (XT.i0_eq_t c116) (by decide) (by decide) ?_
          show own_S p e below T30 (mkF m 135 #[.val (.int p0), .val (.long q1), .second, .val (.int p2), .val (.int p3), .val (.int p4), .val (.int cl), .val (.ref oAVERAGE), .val (.int fb), .val (.ref b18), .val (.ref b27), .val (.double dv), .second, .val (.long idv), .second, .unset, .unset] []) _
          refine XS.aconstNull X30.here hx rfl (hb hby at_135) ?_
          show own_S p e below T30 (mkF m 136 #[.val (.int p0), .val (.long q1), .second, .val (.int p2), .val (.int p3), .val (.int p4), .val (.int cl), .val (.ref oAVERAGE), .val (.int fb), .val (.ref b18), .val (.ref b27), .val (.double dv), .second, .val (.long idv), .second, .unset, .unset] [.null]) _
          refine XS.astore X30.here hx rfl (hb hby at_136) rfl rfl (l' := #[.val (.int p0), .val (.long q1), .second, .val (.int p2), .val (.int p3), .val (.int p4), .val (.int cl), .val (.ref oAVERAGE), .val (.int fb), .val (.ref b18), .val (.ref b27), .val (.double dv), .second, .val (.long idv), .second, .val .null, .unset]) rfl ?_
          exact k
        obtain ⟨T33, h33, X33, e33, E33, A33, D33, -, st33⟩ := newO X30 hx hZ hown (hw _ (List.mem_of_getElem? (i := 18) rfl)) (hw _ (List.mem_of_getElem? (i := 19) rfl)) (hw _ (List.mem_of_getElem? (i := 20) rfl)) e30 (g := (mkF m 138 #[.val (.int p0), .val (.long q1), .second, .val (.int p2), .val (.int p3), .val (.int p4), .val (.int cl), .val (.ref oAVERAGE), .val (.int fb), .val (.ref b18), .val (.ref b27), .val (.double dv), .second, .val (.long idv), .second, .val .null, .unset] [])) rfl (hb hby at_138) (by decide) (by decide)
        obtain ⟨b33, g33⟩ : ∃ z, z = h27.size := ⟨_, rfl⟩
        rw [← g33] at A33 D33 st33
        have g_b33 : n0 ≤ b33 := Nat.le_trans (Nat.le_trans Z0 Kp27.1) (Nat.le_of_eq g33.symm)
        have sz_b33 : h0.size ≤ b33 := Nat.le_trans Kp27.1 (Nat.le_of_eq g33.symm)
        have own_ne_b18_b33 : b18 ≠ b33 := Nat.ne_of_lt (Nat.lt_of_lt_of_le (V24.ext E27).lt (Nat.le_of_eq g33.symm))
        have own_ne_oGLOBAL_b33 : oGLOBAL ≠ b33 := Nat.ne_of_lt (Nat.lt_of_lt_of_le (EX_oGLOBAL.ext (own_ext Kp27)).lt (Nat.le_of_eq g33.symm))
        have own_ne_oAVERAGE_b33 : oAVERAGE ≠ b33 := Nat.ne_of_lt (Nat.lt_of_lt_of_le (EX_oAVERAGE.ext (own_ext Kp27)).lt (Nat.le_of_eq g33.symm))
        have Kp33 : Keep h0 h33 [] := Keep.ext Kp27 E33
        have F_resource_b33 : Fld Z h33 b33 "com/example/aswan/aswan/rule/FlowRule" "resource" "Ljava/lang/String;" .null := D33 (Or.inr (hw _ (List.mem_of_getElem? (i := 28) rfl))) (ty := (.object "java/lang/String")) (by decide)
        have F_count_b33 : Fld Z h33 b33 "com/example/aswan/aswan/rule/FlowRule" "count" "D" (.double (0 : UInt64)) := D33 (Or.inr (hw _ (List.mem_of_getElem? (i := 30) rfl))) (ty := .double) (by decide)
        have F_clusterConfig_b33 : Fld Z h33 b33 "com/example/aswan/aswan/rule/FlowRule" "clusterConfig" "Lcom/example/aswan/aswan/rule/ClusterConfig;" .null := D33 (Or.inr (hw _ (List.mem_of_getElem? (i := 32) rfl))) (ty := (.object "com/example/aswan/aswan/rule/ClusterConfig")) (by decide)
        have K33 : ∀ t, own_S p e below T33 (mkF m 141 #[.val (.int p0), .val (.long q1), .second, .val (.int p2), .val (.int p3), .val (.int p4), .val (.int cl), .val (.ref oAVERAGE), .val (.int fb), .val (.ref b18), .val (.ref b27), .val (.double dv), .second, .val (.long idv), .second, .val .null, .unset] [(.ref b33)]) t → Steps p.tables e below SE t := fun t k => K32 _ (st33 _ k)
        have K34 : ∀ t, own_S p e below T33 (mkF m 148 #[.val (.int p0), .val (.long q1), .second, .val (.int p2), .val (.int p3), .val (.int p4), .val (.int cl), .val (.ref oAVERAGE), .val (.int fb), .val (.ref b18), .val (.ref b27), .val (.double dv), .second, .val (.long idv), .second, .val .null, .unset] [.null, (.double dv), (.ref b27), (.ref b33), (.ref b33)]) t → Steps p.tables e below SE t := by
          intro t k
          refine K33 _ ?_
          refine XS.dup X33.here hx rfl (hb hby at_141) rfl rfl ?_
          show own_S p e below T33 (mkF m 142 #[.val (.int p0), .val (.long q1), .second, .val (.int p2), .val (.int p3), .val (.int p4), .val (.int cl), .val (.ref oAVERAGE), .val (.int fb), .val (.ref b18), .val (.ref b27), .val (.double dv), .second, .val (.long idv), .second, .val .null, .unset] [(.ref b33), (.ref b33)]) _
          refine XS.aload X33.here hx rfl (hb hby at_142) rfl rfl ?_
          show own_S p e below T33 (mkF m 144 #[.val (.int p0), .val (.long q1), .second, .val (.int p2), .val (.int p3), .val (.int p4), .val (.int cl), .val (.ref oAVERAGE), .val (.int fb), .val (.ref b18), .val (.ref b27), .val (.double dv), .second, .val (.long idv), .second, .val .null, .unset] [(.ref b27), (.ref b33), (.ref b33)]) _
          refine XS.dload X33.here hx rfl (hb hby at_144) rfl ?_
          show own_S p e below T33 (mkF m 146 #[.val (.int p0), .val (.long q1), .second, .val (.int p2), .val (.int p3), .val (.int p4), .val (.int cl), .val (.ref oAVERAGE), .val (.int fb), .val (.ref b18), .val (.ref b27), .val (.double dv), .second, .val (.long idv), .second, .val .null, .unset] [(.double dv), (.ref b27), (.ref b33), (.ref b33)]) _
          refine XS.aload X33.here hx rfl (hb hby at_146) rfl rfl ?_
          exact k
        obtain ⟨_, _, ⟨T35, L35, k35, n35⟩, -, X35, ⟨Lc35, hQ35, l35, y35, z35⟩, st35⟩ := X33.specialBack hx (y := (⟨"com/example/aswan/aswan/rule/FlowRule", "<init>", "(Ljava/lang/String;DLcom/example/aswan/aswan/rule/ClusterConfig;)V"⟩ : MethodName)) rfl hown (mvT hZ (hw _ (List.mem_of_getElem? (i := 21) rfl))) (mvT hZ (hw _ (List.mem_of_getElem? (i := 22) rfl))) (mvT hZ (hw _ (List.mem_of_getElem? (i := 23) rfl))) (by decide) (backOf (W := 1) (rmfrn l Z a0 hw [] b33 b27 dv h33 n0 (Nat.le_trans Z0 Kp33.1) A33 F_resource_b33 F_count_b33 F_clusterConfig_b33 g_b33) hZ (hw _ (List.mem_of_getElem? (i := 23) rfl)) (hw _ (List.mem_of_getElem? (i := 20) rfl)) (by decide) (by decide)) (g := (mkF m 148 #[.val (.int p0), .val (.long q1), .second, .val (.int p2), .val (.int p3), .val (.int p4), .val (.int cl), .val (.ref oAVERAGE), .val (.int fb), .val (.ref b18), .val (.ref b27), .val (.double dv), .second, .val (.long idv), .second, .val .null, .unset] [.null, (.double dv), (.ref b27), (.ref b33), (.ref b33)])) rfl (by rw [hml]; rfl) (Steps.refl _) (a := b33) (argsL := [(.ref b27), (.double dv), .null]) (rest := [(.ref b33)]) (lenOf pd_0_1 rfl) rfl (by show 2 * 0 + _ ≤ _; exact Nat.le_of_eq rfl) (hb hby at_148) (fun _ _ => ⟨rfl, e33, (by decide : 4 + 0 ≤ _), (by decide : 9 + 0 ≤ _)⟩)
        dsimp only [Pt.U, Pt.locs, Pt.cells, Pt.slots] at X35 l35 y35 z35 st35 hQ35
        subst l35 y35 z35
        obtain ⟨rfl, Nq35, Kq35, Ex35, Fa35, Fb35, Fc35⟩ := hQ35
        have N35 := Fr.app N30 Nq35
        have Kp35 : Keep h0 T35.heap [] := Keep.trans Kp33 Kq35 (allS (Or.inr sz_b33) all0)
        have K35 : ∀ t, own_S p e below T35 (mkF m 151 #[.val (.int p0), .val (.long q1), .second, .val (.int p2), .val (.int p3), .val (.int p4), .val (.int cl), .val (.ref oAVERAGE), .val (.int fb), .val (.ref b18), .val (.ref b27), .val (.double dv), .second, .val (.long idv), .second, .val .null, .unset] [(.ref b33)]) t → Steps p.tables e below SE t := fun t k => K34 _ (st35.trans k)
        have K36 : ∀ t, own_S p e below T35 (mkF m 155 #[.val (.int p0), .val (.long q1), .second, .val (.int p2), .val (.int p3), .val (.int p4), .val (.int cl), .val (.ref oAVERAGE), .val (.int fb), .val (.ref b18), .val (.ref b27), .val (.double dv), .second, .val (.long idv), .second, .val .null, .val (.ref b33)] [(.ref b33)]) t → Steps p.tables e below SE t := by
          intro t k
          refine K35 _ ?_
          refine XS.astore X35.here hx rfl (hb hby at_151) rfl rfl (l' := #[.val (.int p0), .val (.long q1), .second, .val (.int p2), .val (.int p3), .val (.int p4), .val (.int cl), .val (.ref oAVERAGE), .val (.int fb), .val (.ref b18), .val (.ref b27), .val (.double dv), .second, .val (.long idv), .second, .val .null, .val (.ref b33)]) rfl ?_
          show own_S p e below T35 (mkF m 153 #[.val (.int p0), .val (.long q1), .second, .val (.int p2), .val (.int p3), .val (.int p4), .val (.int cl), .val (.ref oAVERAGE), .val (.int fb), .val (.ref b18), .val (.ref b27), .val (.double dv), .second, .val (.long idv), .second, .val .null, .val (.ref b33)] []) _
          refine XS.aload X35.here hx rfl (hb hby at_153) rfl rfl ?_
          exact k
        obtain ⟨cq37, kq37, q37a, q37b, q37c⟩ := isOf hZ rfl Ex35
        obtain ⟨_, _, ⟨T37, L37, k37, n37⟩, -, X37, ⟨Lc37, hQ37, l37, y37, z37⟩, st37⟩ := X35.virtualBack hx (y := (⟨"com/example/aswan/aswan/rule/FlowRule", "isClusterMode", "()Z"⟩ : MethodName)) (z := (⟨"com/example/aswan/aswan/rule/FlowRule", "isClusterMode", "()Z"⟩ : MethodName)) hown (mvT hZ (hw _ (List.mem_of_getElem? (i := 33) rfl))) (mvT hZ (hw _ (List.mem_of_getElem? (i := 34) rfl))) (notFace_of_selects (args := #[]) (mvT hZ (hw _ (List.mem_of_getElem? (i := 36) rfl)))) (mvT hZ (hw _ (List.mem_of_getElem? (i := 36) rfl))) (mvT hZ (hw _ (List.mem_of_getElem? (i := 35) rfl))) (by decide) (backOf (W := 0) (rmis0 l Z a0 hw [] b33  T35.heap n0 (Nat.le_trans Z0 Kp35.1) Fc35) hZ (hw _ (List.mem_of_getElem? (i := 37) rfl)) (hw _ (List.mem_of_getElem? (i := 20) rfl)) (by decide) (by decide)) q37a q37c (g := (mkF m 155 #[.val (.int p0), .val (.long q1), .second, .val (.int p2), .val (.int p3), .val (.int p4), .val (.int cl), .val (.ref oAVERAGE), .val (.int fb), .val (.ref b18), .val (.ref b27), .val (.double dv), .second, .val (.long idv), .second, .val .null, .val (.ref b33)] [(.ref b33)])) rfl (by rw [hml]; rfl) (Steps.refl _) (argsL := []) (rest := []) (lenOf pd_0_2 rfl) rfl (by show 2 * 0 + _ ≤ _; exact Nat.le_of_eq rfl) (hb hby at_155) (fun _ _ => ⟨rfl, rfl, (by decide : 4 + 0 ≤ _), (by decide : 9 + 0 ≤ _)⟩)
        dsimp only [Pt.U, Pt.locs, Pt.cells, Pt.slots] at X37 l37 y37 z37 st37 hQ37
        subst l37 y37 z37
        obtain ⟨rfl, Nq37, e37⟩ := hQ37
        have N37 := Fr.app N35 Nq37
        have K37 : ∀ t, own_S p e below T37 (mkF m 158 #[.val (.int p0), .val (.long q1), .second, .val (.int p2), .val (.int p3), .val (.int p4), .val (.int cl), .val (.ref oAVERAGE), .val (.int fb), .val (.ref b18), .val (.ref b27), .val (.double dv), .second, .val (.long idv), .second, .val .null, .val (.ref b33)] [(.int (0 : Int32))]) t → Steps p.tables e below SE t := fun t k => K36 _ (st37.trans k)
        have K38 : ∀ t, own_S p e below T37 (mkF m 168 #[.val (.int p0), .val (.long q1), .second, .val (.int p2), .val (.int p3), .val (.int p4), .val (.int cl), .val (.ref oAVERAGE), .val (.int fb), .val (.ref b18), .val (.ref b27), .val (.double dv), .second, .val (.long idv), .second, .val .null, .val (.ref b33)] [(.int (1 : Int32))]) t → Steps p.tables e below SE t := by
          intro t k
          refine K37 _ ?_
          refine XS.iload X37.here hx rfl (hb hby at_158) rfl ?_
          show own_S p e below T37 (mkF m 160 #[.val (.int p0), .val (.long q1), .second, .val (.int p2), .val (.int p3), .val (.int p4), .val (.int cl), .val (.ref oAVERAGE), .val (.int fb), .val (.ref b18), .val (.ref b27), .val (.double dv), .second, .val (.long idv), .second, .val .null, .val (.ref b33)] [(.int cl), (.int (0 : Int32))]) _
          refine XS.icmpNo X37.here hx rfl (hb hby at_160) rfl (XT.ii_ne_f (c116.symm)) ?_
          show own_S p e below T37 (mkF m 163 #[.val (.int p0), .val (.long q1), .second, .val (.int p2), .val (.int p3), .val (.int p4), .val (.int cl), .val (.ref oAVERAGE), .val (.int fb), .val (.ref b18), .val (.ref b27), .val (.double dv), .second, .val (.long idv), .second, .val .null, .val (.ref b33)] []) _
          refine XS.iconst X37.here hx rfl (hb hby at_163) ?_
          show own_S p e below T37 (mkF m 164 #[.val (.int p0), .val (.long q1), .second, .val (.int p2), .val (.int p3), .val (.int p4), .val (.int cl), .val (.ref oAVERAGE), .val (.int fb), .val (.ref b18), .val (.ref b27), .val (.double dv), .second, .val (.long idv), .second, .val .null, .val (.ref b33)] [(.int (1 : Int32))]) _
          refine XS.goto X37.here hx rfl (pc0 := 164) (pc' := 168) rfl (hb hby at_164) (by decide) (by decide) ?_
          exact k
        obtain ⟨fs, hr, hrun, hended, hRW⟩ := X37.leaveW hS (by rw [e37]; exact (Nat.le_trans (Nat.le_trans hk E33.1) Kq35.1)) (v := some (.int (1 : Int32))) (fun h => by rw [Bd.returns] at h; cases h)
        refine ⟨_, _, K38 _ ?_, hrun, hended, _, _, rfl, ?_, hRW.1, hRW.2.1, hRW.2.2.1, hRW.2.2.2.mono (by decide) (by decide)⟩
        · exact retN X37 hx (t := .boolean) Bd.returns (by simp) (hb hby at_168) hr
        · show Q0 Z p0 q1 p2 p3 p4 oAVERAGE oGLOBAL G h0 n0 _ T37.heap _
          rw [e37]
          exact ⟨rfl, N37⟩
      · skip
        have hcl1 : (1 : Int32) = cl := by
          rw [hcl] at c116 ⊢
          by_cases w : (p0 &&& (1 : Int32)) = 0
          · rw [if_pos w] at c116; exact absurd rfl c116
          · rw [if_neg w]
        have K39 : ∀ t, own_S p e below T30 (mkF m 119 #[.val (.int p0), .val (.long q1), .second, .val (.int p2), .val (.int p3), .val (.int p4), .val (.int cl), .val (.ref oAVERAGE), .val (.int fb), .val (.ref b18), .val (.ref b27), .val (.double dv), .second, .val (.long idv), .second, .unset, .unset] []) t → Steps p.tables e below SE t := by
          intro t k
          refine K31 _ ?_
          refine XS.ifNo X30.here hx rfl (hb hby at_116) rfl (XT.i0_eq_f c116) ?_
          exact k
        obtain ⟨T40, h40, X40, e40, E40, A40, D40, -, st40⟩ := newO X30 hx hZ hown (hw _ (List.mem_of_getElem? (i := 60) rfl)) (hw _ (List.mem_of_getElem? (i := 61) rfl)) (hw _ (List.mem_of_getElem? (i := 62) rfl)) e30 (g := (mkF m 119 #[.val (.int p0), .val (.long q1), .second, .val (.int p2), .val (.int p3), .val (.int p4), .val (.int cl), .val (.ref oAVERAGE), .val (.int fb), .val (.ref b18), .val (.ref b27), .val (.double dv), .second, .val (.long idv), .second, .unset, .unset] [])) rfl (hb hby at_119) (by decide) (by decide)
        obtain ⟨b40, g40⟩ : ∃ z, z = h27.size := ⟨_, rfl⟩
        rw [← g40] at A40 D40 st40
        have g_b40 : n0 ≤ b40 := Nat.le_trans (Nat.le_trans Z0 Kp27.1) (Nat.le_of_eq g40.symm)
        have sz_b40 : h0.size ≤ b40 := Nat.le_trans Kp27.1 (Nat.le_of_eq g40.symm)
        have own_ne_b18_b40 : b18 ≠ b40 := Nat.ne_of_lt (Nat.lt_of_lt_of_le (V24.ext E27).lt (Nat.le_of_eq g40.symm))
        have own_ne_oGLOBAL_b40 : oGLOBAL ≠ b40 := Nat.ne_of_lt (Nat.lt_of_lt_of_le (EX_oGLOBAL.ext (own_ext Kp27)).lt (Nat.le_of_eq g40.symm))
        have own_ne_oAVERAGE_b40 : oAVERAGE ≠ b40 := Nat.ne_of_lt (Nat.lt_of_lt_of_le (EX_oAVERAGE.ext (own_ext Kp27)).lt (Nat.le_of_eq g40.symm))
        have Kp40 : Keep h0 h40 [] := Keep.ext Kp27 E40
        have F_flowId_b40 : Fld Z h40 b40 "com/example/aswan/aswan/rule/ClusterConfig" "flowId" "J" (.long (0 : Int64)) := D40 (Or.inr (hw _ (List.mem_of_getElem? (i := 68) rfl))) (ty := .long) (by decide)
        have F_thresholdType_b40 : Fld Z h40 b40 "com/example/aswan/aswan/rule/ClusterConfig" "thresholdType" "Lcom/example/aswan/aswan/rule/ThresholdType;" .null := D40 (Or.inr (hw _ (List.mem_of_getElem? (i := 70) rfl))) (ty := (.object "com/example/aswan/aswan/rule/ThresholdType")) (by decide)
        have F_fallbackToLocalWhenFail_b40 : Fld Z h40 b40 "com/example/aswan/aswan/rule/ClusterConfig" "fallbackToLocalWhenFail" "Z" (.int (0 : Int32)) := D40 (Or.inr (hw _ (List.mem_of_getElem? (i := 72) rfl))) (ty := .boolean) (by decide)
        have K40 : ∀ t, own_S p e below T40 (mkF m 122 #[.val (.int p0), .val (.long q1), .second, .val (.int p2), .val (.int p3), .val (.int p4), .val (.int cl), .val (.ref oAVERAGE), .val (.int fb), .val (.ref b18), .val (.ref b27), .val (.double dv), .second, .val (.long idv), .second, .unset, .unset] [(.ref b40)]) t → Steps p.tables e below SE t := fun t k => K39 _ (st40 _ k)
        have K41 : ∀ t, own_S p e below T40 (mkF m 129 #[.val (.int p0), .val (.long q1), .second, .val (.int p2), .val (.int p3), .val (.int p4), .val (.int cl), .val (.ref oAVERAGE), .val (.int fb), .val (.ref b18), .val (.ref b27), .val (.double dv), .second, .val (.long idv), .second, .unset, .unset] [(.int fb), (.ref oAVERAGE), (.long idv), (.ref b40), (.ref b40)]) t → Steps p.tables e below SE t := by
          intro t k
          refine K40 _ ?_
          refine XS.dup X40.here hx rfl (hb hby at_122) rfl rfl ?_
          show own_S p e below T40 (mkF m 123 #[.val (.int p0), .val (.long q1), .second, .val (.int p2), .val (.int p3), .val (.int p4), .val (.int cl), .val (.ref oAVERAGE), .val (.int fb), .val (.ref b18), .val (.ref b27), .val (.double dv), .second, .val (.long idv), .second, .unset, .unset] [(.ref b40), (.ref b40)]) _
          refine XS.lload X40.here hx rfl (hb hby at_123) rfl ?_
          show own_S p e below T40 (mkF m 125 #[.val (.int p0), .val (.long q1), .second, .val (.int p2), .val (.int p3), .val (.int p4), .val (.int cl), .val (.ref oAVERAGE), .val (.int fb), .val (.ref b18), .val (.ref b27), .val (.double dv), .second, .val (.long idv), .second, .unset, .unset] [(.long idv), (.ref b40), (.ref b40)]) _
          refine XS.aload X40.here hx rfl (hb hby at_125) rfl rfl ?_
          show own_S p e below T40 (mkF m 127 #[.val (.int p0), .val (.long q1), .second, .val (.int p2), .val (.int p3), .val (.int p4), .val (.int cl), .val (.ref oAVERAGE), .val (.int fb), .val (.ref b18), .val (.ref b27), .val (.double dv), .second, .val (.long idv), .second, .unset, .unset] [(.ref oAVERAGE), (.long idv), (.ref b40), (.ref b40)]) _
          refine XS.iload X40.here hx rfl (hb hby at_127) rfl ?_
          exact k
        obtain ⟨_, _, ⟨T42, L42, k42, n42⟩, -, X42, ⟨Lc42, hQ42, l42, y42, z42⟩, st42⟩ := X40.specialBack hx (y := (⟨"com/example/aswan/aswan/rule/ClusterConfig", "<init>", "(JLcom/example/aswan/aswan/rule/ThresholdType;Z)V"⟩ : MethodName)) rfl hown (mvT hZ (hw _ (List.mem_of_getElem? (i := 63) rfl))) (mvT hZ (hw _ (List.mem_of_getElem? (i := 64) rfl))) (mvT hZ (hw _ (List.mem_of_getElem? (i := 65) rfl))) (by decide) (backOf (W := 1) (rmcc l Z a0 hw [] b40 idv oAVERAGE fb h40 n0 (Nat.le_trans Z0 Kp40.1) A40 F_flowId_b40 F_thresholdType_b40 F_fallbackToLocalWhenFail_b40 g_b40) hZ (hw _ (List.mem_of_getElem? (i := 65) rfl)) (hw _ (List.mem_of_getElem? (i := 62) rfl)) (by decide) (by decide)) (g := (mkF m 129 #[.val (.int p0), .val (.long q1), .second, .val (.int p2), .val (.int p3), .val (.int p4), .val (.int cl), .val (.ref oAVERAGE), .val (.int fb), .val (.ref b18), .val (.ref b27), .val (.double dv), .second, .val (.long idv), .second, .unset, .unset] [(.int fb), (.ref oAVERAGE), (.long idv), (.ref b40), (.ref b40)])) rfl (by rw [hml]; rfl) (Steps.refl _) (a := b40) (argsL := [(.long idv), (.ref oAVERAGE), (.int fb)]) (rest := [(.ref b40)]) (lenOf pd_0_3 rfl) rfl (by show 2 * 0 + _ ≤ _; exact Nat.le_of_eq rfl) (hb hby at_129) (fun _ _ => ⟨rfl, e40, (by decide : 4 + 0 ≤ _), (by decide : 9 + 0 ≤ _)⟩)
        dsimp only [Pt.U, Pt.locs, Pt.cells, Pt.slots] at X42 l42 y42 z42 st42 hQ42
        subst l42 y42 z42
        obtain ⟨rfl, Nq42, Kq42, Ex42, Fa42, Fb42, Fc42⟩ := hQ42
        have N42 := Fr.app N30 Nq42
        have Kp42 : Keep h0 T42.heap [] := Keep.trans Kp40 Kq42 (allS (Or.inr sz_b40) all0)
        have K42 : ∀ t, own_S p e below T42 (mkF m 132 #[.val (.int p0), .val (.long q1), .second, .val (.int p2), .val (.int p3), .val (.int p4), .val (.int cl), .val (.ref oAVERAGE), .val (.int fb), .val (.ref b18), .val (.ref b27), .val (.double dv), .second, .val (.long idv), .second, .unset, .unset] [(.ref b40)]) t → Steps p.tables e below SE t := fun t k => K41 _ (st42.trans k)
        have K43 : ∀ t, own_S p e below T42 (mkF m 138 #[.val (.int p0), .val (.long q1), .second, .val (.int p2), .val (.int p3), .val (.int p4), .val (.int cl), .val (.ref oAVERAGE), .val (.int fb), .val (.ref b18), .val (.ref b27), .val (.double dv), .second, .val (.long idv), .second, .val (.ref b40), .unset] []) t → Steps p.tables e below SE t := by
          intro t k
          refine K42 _ ?_
          refine XS.goto X42.here hx rfl (pc0 := 132) (pc' := 136) rfl (hb hby at_132) (by decide) (by decide) ?_
          show own_S p e below T42 (mkF m 136 #[.val (.int p0), .val (.long q1), .second, .val (.int p2), .val (.int p3), .val (.int p4), .val (.int cl), .val (.ref oAVERAGE), .val (.int fb), .val (.ref b18), .val (.ref b27), .val (.double dv), .second, .val (.long idv), .second, .unset, .unset] [(.ref b40)]) _
          refine XS.astore X42.here hx rfl (hb hby at_136) rfl rfl (l' := #[.val (.int p0), .val (.long q1), .second, .val (.int p2), .val (.int p3), .val (.int p4), .val (.int cl), .val (.ref oAVERAGE), .val (.int fb), .val (.ref b18), .val (.ref b27), .val (.double dv), .second, .val (.long idv), .second, .val (.ref b40), .unset]) rfl ?_
          exact k
        obtain ⟨T44, h44, X44, e44, E44, A44, D44, -, st44⟩ := newO X42 hx hZ hown (hw _ (List.mem_of_getElem? (i := 18) rfl)) (hw _ (List.mem_of_getElem? (i := 19) rfl)) (hw _ (List.mem_of_getElem? (i := 20) rfl)) rfl (g := (mkF m 138 #[.val (.int p0), .val (.long q1), .second, .val (.int p2), .val (.int p3), .val (.int p4), .val (.int cl), .val (.ref oAVERAGE), .val (.int fb), .val (.ref b18), .val (.ref b27), .val (.double dv), .second, .val (.long idv), .second, .val (.ref b40), .unset] [])) rfl (hb hby at_138) (by decide) (by decide)
        obtain ⟨b44, g44⟩ : ∃ z, z = T42.heap.size := ⟨_, rfl⟩
        rw [← g44] at A44 D44 st44
        have g_b44 : n0 ≤ b44 := Nat.le_trans (Nat.le_trans Z0 Kp42.1) (Nat.le_of_eq g44.symm)
        have sz_b44 : h0.size ≤ b44 := Nat.le_trans Kp42.1 (Nat.le_of_eq g44.symm)
        have own_ne_b18_b44 : b18 ≠ b44 := Nat.ne_of_lt (Nat.lt_of_lt_of_le (((V24.ext E27).ext E40).keep Kq42 (ninS (own_ne_b18_b40) nin0)).lt (Nat.le_of_eq g44.symm))
        have own_ne_b40_b44 : b40 ≠ b44 := Nat.ne_of_lt (Nat.lt_of_lt_of_le Ex42.lt (Nat.le_of_eq g44.symm))
        have own_ne_oGLOBAL_b44 : oGLOBAL ≠ b44 := Nat.ne_of_lt (Nat.lt_of_lt_of_le (EX_oGLOBAL.ext (own_ext Kp42)).lt (Nat.le_of_eq g44.symm))
        have own_ne_oAVERAGE_b44 : oAVERAGE ≠ b44 := Nat.ne_of_lt (Nat.lt_of_lt_of_le (EX_oAVERAGE.ext (own_ext Kp42)).lt (Nat.le_of_eq g44.symm))
        have Kp44 : Keep h0 h44 [] := Keep.ext Kp42 E44
        have F_resource_b44 : Fld Z h44 b44 "com/example/aswan/aswan/rule/FlowRule" "resource" "Ljava/lang/String;" .null := D44 (Or.inr (hw _ (List.mem_of_getElem? (i := 28) rfl))) (ty := (.object "java/lang/String")) (by decide)
        have F_count_b44 : Fld Z h44 b44 "com/example/aswan/aswan/rule/FlowRule" "count" "D" (.double (0 : UInt64)) := D44 (Or.inr (hw _ (List.mem_of_getElem? (i := 30) rfl))) (ty := .double) (by decide)
        have F_clusterConfig_b44 : Fld Z h44 b44 "com/example/aswan/aswan/rule/FlowRule" "clusterConfig" "Lcom/example/aswan/aswan/rule/ClusterConfig;" .null := D44 (Or.inr (hw _ (List.mem_of_getElem? (i := 32) rfl))) (ty := (.object "com/example/aswan/aswan/rule/ClusterConfig")) (by decide)
        have K44 : ∀ t, own_S p e below T44 (mkF m 141 #[.val (.int p0), .val (.long q1), .second, .val (.int p2), .val (.int p3), .val (.int p4), .val (.int cl), .val (.ref oAVERAGE), .val (.int fb), .val (.ref b18), .val (.ref b27), .val (.double dv), .second, .val (.long idv), .second, .val (.ref b40), .unset] [(.ref b44)]) t → Steps p.tables e below SE t := fun t k => K43 _ (st44 _ k)
        have K45 : ∀ t, own_S p e below T44 (mkF m 148 #[.val (.int p0), .val (.long q1), .second, .val (.int p2), .val (.int p3), .val (.int p4), .val (.int cl), .val (.ref oAVERAGE), .val (.int fb), .val (.ref b18), .val (.ref b27), .val (.double dv), .second, .val (.long idv), .second, .val (.ref b40), .unset] [(.ref b40), (.double dv), (.ref b27), (.ref b44), (.ref b44)]) t → Steps p.tables e below SE t := by
          intro t k
          refine K44 _ ?_
          refine XS.dup X44.here hx rfl (hb hby at_141) rfl rfl ?_
          show own_S p e below T44 (mkF m 142 #[.val (.int p0), .val (.long q1), .second, .val (.int p2), .val (.int p3), .val (.int p4), .val (.int cl), .val (.ref oAVERAGE), .val (.int fb), .val (.ref b18), .val (.ref b27), .val (.double dv), .second, .val (.long idv), .second, .val (.ref b40), .unset] [(.ref b44), (.ref b44)]) _
          refine XS.aload X44.here hx rfl (hb hby at_142) rfl rfl ?_
          show own_S p e below T44 (mkF m 144 #[.val (.int p0), .val (.long q1), .second, .val (.int p2), .val (.int p3), .val (.int p4), .val (.int cl), .val (.ref oAVERAGE), .val (.int fb), .val (.ref b18), .val (.ref b27), .val (.double dv), .second, .val (.long idv), .second, .val (.ref b40), .unset] [(.ref b27), (.ref b44), (.ref b44)]) _
          refine XS.dload X44.here hx rfl (hb hby at_144) rfl ?_
          show own_S p e below T44 (mkF m 146 #[.val (.int p0), .val (.long q1), .second, .val (.int p2), .val (.int p3), .val (.int p4), .val (.int cl), .val (.ref oAVERAGE), .val (.int fb), .val (.ref b18), .val (.ref b27), .val (.double dv), .second, .val (.long idv), .second, .val (.ref b40), .unset] [(.double dv), (.ref b27), (.ref b44), (.ref b44)]) _
          refine XS.aload X44.here hx rfl (hb hby at_146) rfl rfl ?_
          exact k
        obtain ⟨_, _, ⟨T46, L46, k46, n46⟩, -, X46, ⟨Lc46, hQ46, l46, y46, z46⟩, st46⟩ := X44.specialBack hx (y := (⟨"com/example/aswan/aswan/rule/FlowRule", "<init>", "(Ljava/lang/String;DLcom/example/aswan/aswan/rule/ClusterConfig;)V"⟩ : MethodName)) rfl hown (mvT hZ (hw _ (List.mem_of_getElem? (i := 21) rfl))) (mvT hZ (hw _ (List.mem_of_getElem? (i := 22) rfl))) (mvT hZ (hw _ (List.mem_of_getElem? (i := 23) rfl))) (by decide) (backOf (W := 1) (rmfr l Z a0 hw [] b44 b27 dv b40 h44 n0 (Nat.le_trans Z0 Kp44.1) A44 F_resource_b44 F_count_b44 F_clusterConfig_b44 g_b44) hZ (hw _ (List.mem_of_getElem? (i := 23) rfl)) (hw _ (List.mem_of_getElem? (i := 20) rfl)) (by decide) (by decide)) (g := (mkF m 148 #[.val (.int p0), .val (.long q1), .second, .val (.int p2), .val (.int p3), .val (.int p4), .val (.int cl), .val (.ref oAVERAGE), .val (.int fb), .val (.ref b18), .val (.ref b27), .val (.double dv), .second, .val (.long idv), .second, .val (.ref b40), .unset] [(.ref b40), (.double dv), (.ref b27), (.ref b44), (.ref b44)])) rfl (by rw [hml]; rfl) (Steps.refl _) (a := b44) (argsL := [(.ref b27), (.double dv), (.ref b40)]) (rest := [(.ref b44)]) (lenOf pd_0_1 rfl) rfl (by show 2 * 0 + _ ≤ _; exact Nat.le_of_eq rfl) (hb hby at_148) (fun _ _ => ⟨rfl, e44, (by decide : 5 + 0 ≤ _), (by decide : 12 + 0 ≤ _)⟩)
        dsimp only [Pt.U, Pt.locs, Pt.cells, Pt.slots] at X46 l46 y46 z46 st46 hQ46
        subst l46 y46 z46
        obtain ⟨rfl, Nq46, Kq46, Ex46, Fa46, Fb46, Fc46⟩ := hQ46
        have N46 := Fr.app N42 Nq46
        have Kp46 : Keep h0 T46.heap [] := Keep.trans Kp44 Kq46 (allS (Or.inr sz_b44) all0)
        have K46 : ∀ t, own_S p e below T46 (mkF m 151 #[.val (.int p0), .val (.long q1), .second, .val (.int p2), .val (.int p3), .val (.int p4), .val (.int cl), .val (.ref oAVERAGE), .val (.int fb), .val (.ref b18), .val (.ref b27), .val (.double dv), .second, .val (.long idv), .second, .val (.ref b40), .unset] [(.ref b44)]) t → Steps p.tables e below SE t := fun t k => K45 _ (st46.trans k)
        have K47 : ∀ t, own_S p e below T46 (mkF m 155 #[.val (.int p0), .val (.long q1), .second, .val (.int p2), .val (.int p3), .val (.int p4), .val (.int cl), .val (.ref oAVERAGE), .val (.int fb), .val (.ref b18), .val (.ref b27), .val (.double dv), .second, .val (.long idv), .second, .val (.ref b40), .val (.ref b44)] [(.ref b44)]) t → Steps p.tables e below SE t := by
          intro t k
          refine K46 _ ?_
          refine XS.astore X46.here hx rfl (hb hby at_151) rfl rfl (l' := #[.val (.int p0), .val (.long q1), .second, .val (.int p2), .val (.int p3), .val (.int p4), .val (.int cl), .val (.ref oAVERAGE), .val (.int fb), .val (.ref b18), .val (.ref b27), .val (.double dv), .second, .val (.long idv), .second, .val (.ref b40), .val (.ref b44)]) rfl ?_
          show own_S p e below T46 (mkF m 153 #[.val (.int p0), .val (.long q1), .second, .val (.int p2), .val (.int p3), .val (.int p4), .val (.int cl), .val (.ref oAVERAGE), .val (.int fb), .val (.ref b18), .val (.ref b27), .val (.double dv), .second, .val (.long idv), .second, .val (.ref b40), .val (.ref b44)] []) _
          refine XS.aload X46.here hx rfl (hb hby at_153) rfl rfl ?_
          exact k
        obtain ⟨cq48, kq48, q48a, q48b, q48c⟩ := isOf hZ rfl Ex46
        obtain ⟨_, _, ⟨T48, L48, k48, n48⟩, -, X48, ⟨Lc48, hQ48, l48, y48, z48⟩, st48⟩ := X46.virtualBack hx (y := (⟨"com/example/aswan/aswan/rule/FlowRule", "isClusterMode", "()Z"⟩ : MethodName)) (z := (⟨"com/example/aswan/aswan/rule/FlowRule", "isClusterMode", "()Z"⟩ : MethodName)) hown (mvT hZ (hw _ (List.mem_of_getElem? (i := 33) rfl))) (mvT hZ (hw _ (List.mem_of_getElem? (i := 34) rfl))) (notFace_of_selects (args := #[]) (mvT hZ (hw _ (List.mem_of_getElem? (i := 36) rfl)))) (mvT hZ (hw _ (List.mem_of_getElem? (i := 36) rfl))) (mvT hZ (hw _ (List.mem_of_getElem? (i := 35) rfl))) (by decide) (backOf (W := 0) (rmis1 l Z a0 hw [] b44 b40 T46.heap n0 (Nat.le_trans Z0 Kp46.1) Fc46) hZ (hw _ (List.mem_of_getElem? (i := 37) rfl)) (hw _ (List.mem_of_getElem? (i := 20) rfl)) (by decide) (by decide)) q48a q48c (g := (mkF m 155 #[.val (.int p0), .val (.long q1), .second, .val (.int p2), .val (.int p3), .val (.int p4), .val (.int cl), .val (.ref oAVERAGE), .val (.int fb), .val (.ref b18), .val (.ref b27), .val (.double dv), .second, .val (.long idv), .second, .val (.ref b40), .val (.ref b44)] [(.ref b44)])) rfl (by rw [hml]; rfl) (Steps.refl _) (argsL := []) (rest := []) (lenOf pd_0_2 rfl) rfl (by show 2 * 0 + _ ≤ _; exact Nat.le_of_eq rfl) (hb hby at_155) (fun _ _ => ⟨rfl, rfl, (by decide : 5 + 0 ≤ _), (by decide : 12 + 0 ≤ _)⟩)
        dsimp only [Pt.U, Pt.locs, Pt.cells, Pt.slots] at X48 l48 y48 z48 st48 hQ48
        subst l48 y48 z48
        obtain ⟨rfl, Nq48, e48⟩ := hQ48
        have N48 := Fr.app N46 Nq48
        have K48 : ∀ t, own_S p e below T48 (mkF m 158 #[.val (.int p0), .val (.long q1), .second, .val (.int p2), .val (.int p3), .val (.int p4), .val (.int cl), .val (.ref oAVERAGE), .val (.int fb), .val (.ref b18), .val (.ref b27), .val (.double dv), .second, .val (.long idv), .second, .val (.ref b40), .val (.ref b44)] [(.int (1 : Int32))]) t → Steps p.tables e below SE t := fun t k => K47 _ (st48.trans k)
        have K49 : ∀ t, own_S p e below T48 (mkF m 168 #[.val (.int p0), .val (.long q1), .second, .val (.int p2), .val (.int p3), .val (.int p4), .val (.int cl), .val (.ref oAVERAGE), .val (.int fb), .val (.ref b18), .val (.ref b27), .val (.double dv), .second, .val (.long idv), .second, .val (.ref b40), .val (.ref b44)] [(.int (1 : Int32))]) t → Steps p.tables e below SE t := by
          intro t k
          refine K48 _ ?_
          refine XS.iload X48.here hx rfl (hb hby at_158) rfl ?_
          show own_S p e below T48 (mkF m 160 #[.val (.int p0), .val (.long q1), .second, .val (.int p2), .val (.int p3), .val (.int p4), .val (.int cl), .val (.ref oAVERAGE), .val (.int fb), .val (.ref b18), .val (.ref b27), .val (.double dv), .second, .val (.long idv), .second, .val (.ref b40), .val (.ref b44)] [(.int cl), (.int (1 : Int32))]) _
          refine XS.icmpNo X48.here hx rfl (hb hby at_160) rfl (XT.ii_ne_f hcl1) ?_
          show own_S p e below T48 (mkF m 163 #[.val (.int p0), .val (.long q1), .second, .val (.int p2), .val (.int p3), .val (.int p4), .val (.int cl), .val (.ref oAVERAGE), .val (.int fb), .val (.ref b18), .val (.ref b27), .val (.double dv), .second, .val (.long idv), .second, .val (.ref b40), .val (.ref b44)] []) _
          refine XS.iconst X48.here hx rfl (hb hby at_163) ?_
          show own_S p e below T48 (mkF m 164 #[.val (.int p0), .val (.long q1), .second, .val (.int p2), .val (.int p3), .val (.int p4), .val (.int cl), .val (.ref oAVERAGE), .val (.int fb), .val (.ref b18), .val (.ref b27), .val (.double dv), .second, .val (.long idv), .second, .val (.ref b40), .val (.ref b44)] [(.int (1 : Int32))]) _
          refine XS.goto X48.here hx rfl (pc0 := 164) (pc' := 168) rfl (hb hby at_164) (by decide) (by decide) ?_
          exact k
        obtain ⟨fs, hr, hrun, hended, hRW⟩ := X48.leaveW hS (by rw [e48]; exact (Nat.le_trans (Nat.le_trans (Nat.le_trans (Nat.le_trans hk E40.1) Kq42.1) E44.1) Kq46.1)) (v := some (.int (1 : Int32))) (fun h => by rw [Bd.returns] at h; cases h)
        refine ⟨_, _, K49 _ ?_, hrun, hended, _, _, rfl, ?_, hRW.1, hRW.2.1, hRW.2.2.1, hRW.2.2.2.mono (by decide) (by decide)⟩
        · exact retN X48 hx (t := .boolean) Bd.returns (by simp) (hb hby at_168) hr
        · show Q0 Z p0 q1 p2 p3 p4 oAVERAGE oGLOBAL G h0 n0 _ T48.heap _
          rw [e48]
          exact ⟨rfl, N48⟩
    · skip
      have K50 : ∀ t, own_S p e below T24 (mkF m 85 #[.val (.int p0), .val (.long q1), .second, .val (.int p2), .val (.int p3), .val (.int p4), .val (.int cl), .val (.ref oAVERAGE), .val (.int fb), .val (.ref b18), .unset, .unset, .unset, .unset, .unset, .unset, .unset] []) t → Steps p.tables e below SE t := by
        intro t k
        refine K25 _ ?_
        refine XS.ifYes X24.here hx rfl (pc0 := 77) (pc' := 85) rfl (hb hby at_77) rfl (XT.i0_ne_t c77) (by decide) (by decide) ?_
        exact k
      obtain ⟨T51, h51, X51, e51, E51, A51, D51, -, st51⟩ := newO X24 hx hZ hown (hw _ (List.mem_of_getElem? (i := 38) rfl)) (hw _ (List.mem_of_getElem? (i := 6) rfl)) (hw _ (List.mem_of_getElem? (i := 5) rfl)) e24 (g := (mkF m 85 #[.val (.int p0), .val (.long q1), .second, .val (.int p2), .val (.int p3), .val (.int p4), .val (.int cl), .val (.ref oAVERAGE), .val (.int fb), .val (.ref b18), .unset, .unset, .unset, .unset, .unset, .unset, .unset] [])) rfl (hb hby at_85) (by decide) (by decide)
      obtain ⟨b51, g51⟩ : ∃ z, z = h24.size := ⟨_, rfl⟩
      rw [← g51] at A51 D51 st51
      have g_b51 : n0 ≤ b51 := Nat.le_trans (Nat.le_trans Z0 Kp24.1) (Nat.le_of_eq g51.symm)
      have sz_b51 : h0.size ≤ b51 := Nat.le_trans Kp24.1 (Nat.le_of_eq g51.symm)
      have own_ne_b18_b51 : b18 ≠ b51 := Nat.ne_of_lt (Nat.lt_of_lt_of_le V24.lt (Nat.le_of_eq g51.symm))
      have own_ne_oGLOBAL_b51 : oGLOBAL ≠ b51 := Nat.ne_of_lt (Nat.lt_of_lt_of_le (EX_oGLOBAL.ext (own_ext Kp24)).lt (Nat.le_of_eq g51.symm))
      have own_ne_oAVERAGE_b51 : oAVERAGE ≠ b51 := Nat.ne_of_lt (Nat.lt_of_lt_of_le (EX_oAVERAGE.ext (own_ext Kp24)).lt (Nat.le_of_eq g51.symm))
      have Kp51 : Keep h0 h51 [] := Keep.ext Kp24 E51
      have F_value_b51 : Fld Z h51 b51 "java/lang/String" "value" "[B" .null := D51 (Or.inr (hw _ (List.mem_of_getElem? (i := 8) rfl))) (ty := (.array .byte)) (by decide)
      have F_coder_b51 : Fld Z h51 b51 "java/lang/String" "coder" "B" (.int (0 : Int32)) := D51 (Or.inr (hw _ (List.mem_of_getElem? (i := 9) rfl))) (ty := .byte) (by decide)
      have K51 : ∀ t, own_S p e below T51 (mkF m 88 #[.val (.int p0), .val (.long q1), .second, .val (.int p2), .val (.int p3), .val (.int p4), .val (.int cl), .val (.ref oAVERAGE), .val (.int fb), .val (.ref b18), .unset, .unset, .unset, .unset, .unset, .unset, .unset] [(.ref b51)]) t → Steps p.tables e below SE t := fun t k => K50 _ (st51 _ k)
      have K52 : ∀ t, own_S p e below T51 (mkF m 91 #[.val (.int p0), .val (.long q1), .second, .val (.int p2), .val (.int p3), .val (.int p4), .val (.int cl), .val (.ref oAVERAGE), .val (.int fb), .val (.ref b18), .unset, .unset, .unset, .unset, .unset, .unset, .unset] [(.ref b18), (.ref b51), (.ref b51)]) t → Steps p.tables e below SE t := by
        intro t k
        refine K51 _ ?_
        refine XS.dup X51.here hx rfl (hb hby at_88) rfl rfl ?_
        show own_S p e below T51 (mkF m 89 #[.val (.int p0), .val (.long q1), .second, .val (.int p2), .val (.int p3), .val (.int p4), .val (.int cl), .val (.ref oAVERAGE), .val (.int fb), .val (.ref b18), .unset, .unset, .unset, .unset, .unset, .unset, .unset] [(.ref b51), (.ref b51)]) _
        refine XS.aload X51.here hx rfl (hb hby at_89) rfl rfl ?_
        exact k
      obtain ⟨_, _, ⟨T53, L53, k53, n53⟩, -, X53, ⟨Lc53, hQ53, l53, y53, z53⟩, st53⟩ := X51.specialBack hx (y := (⟨"java/lang/String", "<init>", "([C)V"⟩ : MethodName)) rfl hown (mvT hZ (hw _ (List.mem_of_getElem? (i := 39) rfl))) (mvT hZ (hw _ (List.mem_of_getElem? (i := 40) rfl))) (mvT hZ (hw _ (List.mem_of_getElem? (i := 41) rfl))) (by decide) (backOf (W := 1) (rm5_2 l Z a0 hw [] b51 b18 k18 G (nar .char (((p3 &&& (255 : Int32))).toUInt32.toUInt16.toUInt32.toInt32)) (nar .char (((p4 &&& (255 : Int32))).toUInt32.toUInt16.toUInt32.toInt32)) h51 n0 (Nat.le_trans Z0 Kp51.1) A51 F_coder_b51 F_value_b51 g_b51 (V24.ext E51) (S_cs.ext (own_ext Kp51)) hG (own_c255 _) (own_c255 _)) hZ (hw _ (List.mem_of_getElem? (i := 41) rfl)) (hw _ (List.mem_of_getElem? (i := 5) rfl)) (by decide) (by decide)) (g := (mkF m 91 #[.val (.int p0), .val (.long q1), .second, .val (.int p2), .val (.int p3), .val (.int p4), .val (.int cl), .val (.ref oAVERAGE), .val (.int fb), .val (.ref b18), .unset, .unset, .unset, .unset, .unset, .unset, .unset] [(.ref b18), (.ref b51), (.ref b51)])) rfl (by rw [hml]; rfl) (Steps.refl _) (a := b51) (argsL := [(.ref b18)]) (rest := [(.ref b51)]) (lenOf pd_0_4 rfl) rfl (by show 2 * 0 + _ ≤ _; exact Nat.le_of_eq rfl) (hb hby at_91) (fun _ _ => ⟨rfl, e51, (by decide : 2 + 1 ≤ _), (by decide : 6 + 2 ≤ _)⟩)
      dsimp only [Pt.U, Pt.locs, Pt.cells, Pt.slots] at X53 l53 y53 z53 st53 hQ53
      subst l53 y53 z53
      obtain ⟨rfl, Nq53, Kq53, rest53⟩ := hQ53
      have N53 := Fr.app N24 Nq53
      have Kp53 : Keep h0 T53.heap [] := Keep.trans Kp51 Kq53 (allS (Or.inr sz_b51) all0)
      have K53 : ∀ t, own_S p e below T53 (mkF m 94 #[.val (.int p0), .val (.long q1), .second, .val (.int p2), .val (.int p3), .val (.int p4), .val (.int cl), .val (.ref oAVERAGE), .val (.int fb), .val (.ref b18), .unset, .unset, .unset, .unset, .unset, .unset, .unset] [(.ref b51)]) t → Steps p.tables e below SE t := fun t k => K52 _ (st53.trans k)
      have K54 : ∀ t, own_S p e below T53 (mkF m 101 #[.val (.int p0), .val (.long q1), .second, .val (.int p2), .val (.int p3), .val (.int p4), .val (.int cl), .val (.ref oAVERAGE), .val (.int fb), .val (.ref b18), .val (.ref b51), .unset, .unset, .unset, .unset, .unset, .unset] [(.double (FP.i2d (p2 &&& (1048575 : Int32))))]) t → Steps p.tables e below SE t := by
        intro t k
        refine K53 _ ?_
        refine XS.astore X53.here hx rfl (hb hby at_94) rfl rfl (l' := #[.val (.int p0), .val (.long q1), .second, .val (.int p2), .val (.int p3), .val (.int p4), .val (.int cl), .val (.ref oAVERAGE), .val (.int fb), .val (.ref b18), .val (.ref b51), .unset, .unset, .unset, .unset, .unset, .unset]) rfl ?_
        show own_S p e below T53 (mkF m 96 #[.val (.int p0), .val (.long q1), .second, .val (.int p2), .val (.int p3), .val (.int p4), .val (.int cl), .val (.ref oAVERAGE), .val (.int fb), .val (.ref b18), .val (.ref b51), .unset, .unset, .unset, .unset, .unset, .unset] []) _
        refine XS.iloadN X53.here hx rfl (hb hby at_96) rfl ?_
        show own_S p e below T53 (mkF m 97 #[.val (.int p0), .val (.long q1), .second, .val (.int p2), .val (.int p3), .val (.int p4), .val (.int cl), .val (.ref oAVERAGE), .val (.int fb), .val (.ref b18), .val (.ref b51), .unset, .unset, .unset, .unset, .unset, .unset] [(.int p2)]) _
        refine Stand.ldcI X53 hx hown (mvT hZ (hw _ (List.mem_of_getElem? (i := 12) rfl))) (v := (1048575 : Int32)) (g := (mkF m 97 #[.val (.int p0), .val (.long q1), .second, .val (.int p2), .val (.int p3), .val (.int p4), .val (.int cl), .val (.ref oAVERAGE), .val (.int fb), .val (.ref b18), .val (.ref b51), .unset, .unset, .unset, .unset, .unset, .unset] [(.int p2)])) rfl (hb hby at_97) ?_
        show own_S p e below T53 (mkF m 99 #[.val (.int p0), .val (.long q1), .second, .val (.int p2), .val (.int p3), .val (.int p4), .val (.int cl), .val (.ref oAVERAGE), .val (.int fb), .val (.ref b18), .val (.ref b51), .unset, .unset, .unset, .unset, .unset, .unset] [(.int (1048575 : Int32)), (.int p2)]) _
        refine XS.iand X53.here hx rfl (hb hby at_99) rfl ?_
        show Steps p.tables e below (T53.setTop (mkF m 100 #[.val (.int p0), .val (.long q1), .second, .val (.int p2), .val (.int p3), .val (.int p4), .val (.int cl), .val (.ref oAVERAGE), .val (.int fb), .val (.ref b18), .val (.ref b51), .unset, .unset, .unset, .unset, .unset, .unset] [(.int (p2 &&& (1048575 : Int32)))])) _
        jvm_step X53.here [X53.here.top, hx, (hb hby at_100), i2d.wp_sem]
        exact k
      obtain ⟨dv, hdv⟩ : ∃ z : UInt64, z = (FP.i2d (p2 &&& (1048575 : Int32))) := ⟨_, rfl⟩
      rw [← hdv] at K54
      have K55 : ∀ t, own_S p e below T53 (mkF m 109 #[.val (.int p0), .val (.long q1), .second, .val (.int p2), .val (.int p3), .val (.int p4), .val (.int cl), .val (.ref oAVERAGE), .val (.int fb), .val (.ref b18), .val (.ref b51), .val (.double dv), .second, .unset, .unset, .unset, .unset] [(.long (q1 &&& (9223372036854775807 : Int64))), (.long (1 : Int64))]) t → Steps p.tables e below SE t := by
        intro t k
        refine K54 _ ?_
        refine XS.dstore X53.here hx rfl (hb hby at_101) rfl (l' := #[.val (.int p0), .val (.long q1), .second, .val (.int p2), .val (.int p3), .val (.int p4), .val (.int cl), .val (.ref oAVERAGE), .val (.int fb), .val (.ref b18), .val (.ref b51), .val (.double dv), .second, .unset, .unset, .unset, .unset]) rfl ?_
        show own_S p e below T53 (mkF m 103 #[.val (.int p0), .val (.long q1), .second, .val (.int p2), .val (.int p3), .val (.int p4), .val (.int cl), .val (.ref oAVERAGE), .val (.int fb), .val (.ref b18), .val (.ref b51), .val (.double dv), .second, .unset, .unset, .unset, .unset] []) _
        refine XS.lconst X53.here hx rfl (hb hby at_103) ?_
        show own_S p e below T53 (mkF m 104 #[.val (.int p0), .val (.long q1), .second, .val (.int p2), .val (.int p3), .val (.int p4), .val (.int cl), .val (.ref oAVERAGE), .val (.int fb), .val (.ref b18), .val (.ref b51), .val (.double dv), .second, .unset, .unset, .unset, .unset] [(.long (1 : Int64))]) _
        refine XS.lloadN X53.here hx rfl (hb hby at_104) rfl ?_
        show own_S p e below T53 (mkF m 105 #[.val (.int p0), .val (.long q1), .second, .val (.int p2), .val (.int p3), .val (.int p4), .val (.int cl), .val (.ref oAVERAGE), .val (.int fb), .val (.ref b18), .val (.ref b51), .val (.double dv), .second, .unset, .unset, .unset, .unset] [(.long q1), (.long (1 : Int64))]) _
        refine Stand.ldc2J X53 hx hown (mvT hZ (hw _ (List.mem_of_getElem? (i := 13) rfl))) (v := (9223372036854775807 : Int64)) (g := (mkF m 105 #[.val (.int p0), .val (.long q1), .second, .val (.int p2), .val (.int p3), .val (.int p4), .val (.int cl), .val (.ref oAVERAGE), .val (.int fb), .val (.ref b18), .val (.ref b51), .val (.double dv), .second, .unset, .unset, .unset, .unset] [(.long q1), (.long (1 : Int64))])) rfl (hb hby at_105) ?_
        show own_S p e below T53 (mkF m 108 #[.val (.int p0), .val (.long q1), .second, .val (.int p2), .val (.int p3), .val (.int p4), .val (.int cl), .val (.ref oAVERAGE), .val (.int fb), .val (.ref b18), .val (.ref b51), .val (.double dv), .second, .unset, .unset, .unset, .unset] [(.long (9223372036854775807 : Int64)), (.long q1), (.long (1 : Int64))]) _
        refine XS.land X53.here hx rfl (hb hby at_108) rfl ?_
        exact k
      obtain ⟨_, _, ⟨T56, L56, k56, n56⟩, -, X56, ⟨Lc56, hQ56, l56, y56, z56⟩, st56⟩ := Jvm.LawKit.callS X53 hx (y := (⟨"java/lang/Math", "max", "(JJ)J"⟩ : MethodName)) hown (mvT hZ (hw _ (List.mem_of_getElem? (i := 14) rfl))) (mvT hZ (hw _ (List.mem_of_getElem? (i := 15) rfl))) (mvT hZ (hw _ (List.mem_of_getElem? (i := 16) rfl))) (mvT hZ (hw _ (List.mem_of_getElem? (i := 17) rfl))) (by decide) (backOf (W := 0) (rm1 l Z a0 hw [] (1 : Int64) (q1 &&& (9223372036854775807 : Int64)) T53.heap n0 (Nat.le_trans Z0 Kp53.1)) hZ (hw _ (List.mem_of_getElem? (i := 17) rfl)) (hw _ (List.mem_of_getElem? (i := 16) rfl)) (by decide) (by decide)) (g := (mkF m 109 #[.val (.int p0), .val (.long q1), .second, .val (.int p2), .val (.int p3), .val (.int p4), .val (.int cl), .val (.ref oAVERAGE), .val (.int fb), .val (.ref b18), .val (.ref b51), .val (.double dv), .second, .unset, .unset, .unset, .unset] [(.long (q1 &&& (9223372036854775807 : Int64))), (.long (1 : Int64))])) rfl (by rw [hml]; rfl) (argsL := [(.long (1 : Int64)), (.long (q1 &&& (9223372036854775807 : Int64)))]) (rest := []) (lenOf pd_0_0 rfl) rfl (by show 2 * 0 + _ ≤ _; exact Nat.le_of_eq rfl) (hb hby at_109) (fun _ _ => ⟨rfl, rfl, (by decide : 3 + 0 ≤ _), (by decide : 8 + 0 ≤ _)⟩)
      dsimp only [Pt.U, Pt.locs, Pt.cells, Pt.slots] at X56 l56 y56 z56 st56 hQ56
      subst l56 y56 z56
      obtain ⟨rfl, Nq56, e56⟩ := hQ56
      have N56 := Fr.app N53 Nq56
      have K56 : ∀ t, own_S p e below T56 (mkF m 112 #[.val (.int p0), .val (.long q1), .second, .val (.int p2), .val (.int p3), .val (.int p4), .val (.int cl), .val (.ref oAVERAGE), .val (.int fb), .val (.ref b18), .val (.ref b51), .val (.double dv), .second, .unset, .unset, .unset, .unset] [(.long (if (1 : Int64) < (q1 &&& (9223372036854775807 : Int64)) then (q1 &&& (9223372036854775807 : Int64)) else (1 : Int64)))]) t → Steps p.tables e below SE t := fun t k => K55 _ (st56 _ k)
      obtain ⟨idv, hidv⟩ : ∃ z : Int64, z = (if (1 : Int64) < (q1 &&& (9223372036854775807 : Int64)) then (q1 &&& (9223372036854775807 : Int64)) else (1 : Int64)) := ⟨_, rfl⟩
      rw [← hidv] at K56
      have K57 : ∀ t, own_S p e below T56 (mkF m 116 #[.val (.int p0), .val (.long q1), .second, .val (.int p2), .val (.int p3), .val (.int p4), .val (.int cl), .val (.ref oAVERAGE), .val (.int fb), .val (.ref b18), .val (.ref b51), .val (.double dv), .second, .val (.long idv), .second, .unset, .unset] [(.int cl)]) t → Steps p.tables e below SE t := by
        intro t k
        refine K56 _ ?_
        refine XS.lstore X56.here hx rfl (hb hby at_112) rfl (l' := #[.val (.int p0), .val (.long q1), .second, .val (.int p2), .val (.int p3), .val (.int p4), .val (.int cl), .val (.ref oAVERAGE), .val (.int fb), .val (.ref b18), .val (.ref b51), .val (.double dv), .second, .val (.long idv), .second, .unset, .unset]) rfl ?_
        show own_S p e below T56 (mkF m 114 #[.val (.int p0), .val (.long q1), .second, .val (.int p2), .val (.int p3), .val (.int p4), .val (.int cl), .val (.ref oAVERAGE), .val (.int fb), .val (.ref b18), .val (.ref b51), .val (.double dv), .second, .val (.long idv), .second, .unset, .unset] []) _
        refine XS.iload X56.here hx rfl (hb hby at_114) rfl ?_
        exact k
      by_cases c116 : cl = 0
      · skip
        have K58 : ∀ t, own_S p e below T56 (mkF m 138 #[.val (.int p0), .val (.long q1), .second, .val (.int p2), .val (.int p3), .val (.int p4), .val (.int cl), .val (.ref oAVERAGE), .val (.int fb), .val (.ref b18), .val (.ref b51), .val (.double dv), .second, .val (.long idv), .second, .val .null, .unset] []) t → Steps p.tables e below SE t := by
          intro t k
          refine K57 _ ?_
          refine XS.ifYes X56.here hx rfl (pc0 := 116) (pc' := 135) rfl (hb hby at_116) rfl (XT.i0_eq_t c116) (by decide) (by decide) ?_
          show own_S p e below T56 (mkF m 135 #[.val (.int p0), .val (.long q1), .second, .val (.int p2), .val (.int p3), .val (.int p4), .val (.int cl), .val (.ref oAVERAGE), .val (.int fb), .val (.ref b18), .val (.ref b51), .val (.double dv), .second, .val (.long idv), .second, .unset, .unset] []) _
          refine XS.aconstNull X56.here hx rfl (hb hby at_135) ?_
          show own_S p e below T56 (mkF m 136 #[.val (.int p0), .val (.long q1), .second, .val (.int p2), .val (.int p3), .val (.int p4), .val (.int cl), .val (.ref oAVERAGE), .val (.int fb), .val (.ref b18), .val (.ref b51), .val (.double dv), .second, .val (.long idv), .second, .unset, .unset] [.null]) _
          refine XS.astore X56.here hx rfl (hb hby at_136) rfl rfl (l' := #[.val (.int p0), .val (.long q1), .second, .val (.int p2), .val (.int p3), .val (.int p4), .val (.int cl), .val (.ref oAVERAGE), .val (.int fb), .val (.ref b18), .val (.ref b51), .val (.double dv), .second, .val (.long idv), .second, .val .null, .unset]) rfl ?_
          exact k
        obtain ⟨T59, h59, X59, e59, E59, A59, D59, -, st59⟩ := newO X56 hx hZ hown (hw _ (List.mem_of_getElem? (i := 18) rfl)) (hw _ (List.mem_of_getElem? (i := 19) rfl)) (hw _ (List.mem_of_getElem? (i := 20) rfl)) e56 (g := (mkF m 138 #[.val (.int p0), .val (.long q1), .second, .val (.int p2), .val (.int p3), .val (.int p4), .val (.int cl), .val (.ref oAVERAGE), .val (.int fb), .val (.ref b18), .val (.ref b51), .val (.double dv), .second, .val (.long idv), .second, .val .null, .unset] [])) rfl (hb hby at_138) (by decide) (by decide)
        obtain ⟨b59, g59⟩ : ∃ z, z = T53.heap.size := ⟨_, rfl⟩
        rw [← g59] at A59 D59 st59
        have g_b59 : n0 ≤ b59 := Nat.le_trans (Nat.le_trans Z0 Kp53.1) (Nat.le_of_eq g59.symm)
        have sz_b59 : h0.size ≤ b59 := Nat.le_trans Kp53.1 (Nat.le_of_eq g59.symm)
        have own_ne_b18_b59 : b18 ≠ b59 := Nat.ne_of_lt (Nat.lt_of_lt_of_le ((V24.ext E51).keep Kq53 (ninS (own_ne_b18_b51) nin0)).lt (Nat.le_of_eq g59.symm))
        have own_ne_b51_b59 : b51 ≠ b59 := Nat.ne_of_lt (Nat.lt_of_lt_of_le (A51.keep Kq53).lt (Nat.le_of_eq g59.symm))
        have own_ne_oGLOBAL_b59 : oGLOBAL ≠ b59 := Nat.ne_of_lt (Nat.lt_of_lt_of_le (EX_oGLOBAL.ext (own_ext Kp53)).lt (Nat.le_of_eq g59.symm))
        have own_ne_oAVERAGE_b59 : oAVERAGE ≠ b59 := Nat.ne_of_lt (Nat.lt_of_lt_of_le (EX_oAVERAGE.ext (own_ext Kp53)).lt (Nat.le_of_eq g59.symm))
        have Kp59 : Keep h0 h59 [] := Keep.ext Kp53 E59
        have F_resource_b59 : Fld Z h59 b59 "com/example/aswan/aswan/rule/FlowRule" "resource" "Ljava/lang/String;" .null := D59 (Or.inr (hw _ (List.mem_of_getElem? (i := 28) rfl))) (ty := (.object "java/lang/String")) (by decide)
        have F_count_b59 : Fld Z h59 b59 "com/example/aswan/aswan/rule/FlowRule" "count" "D" (.double (0 : UInt64)) := D59 (Or.inr (hw _ (List.mem_of_getElem? (i := 30) rfl))) (ty := .double) (by decide)
        have F_clusterConfig_b59 : Fld Z h59 b59 "com/example/aswan/aswan/rule/FlowRule" "clusterConfig" "Lcom/example/aswan/aswan/rule/ClusterConfig;" .null := D59 (Or.inr (hw _ (List.mem_of_getElem? (i := 32) rfl))) (ty := (.object "com/example/aswan/aswan/rule/ClusterConfig")) (by decide)
        have K59 : ∀ t, own_S p e below T59 (mkF m 141 #[.val (.int p0), .val (.long q1), .second, .val (.int p2), .val (.int p3), .val (.int p4), .val (.int cl), .val (.ref oAVERAGE), .val (.int fb), .val (.ref b18), .val (.ref b51), .val (.double dv), .second, .val (.long idv), .second, .val .null, .unset] [(.ref b59)]) t → Steps p.tables e below SE t := fun t k => K58 _ (st59 _ k)
        have K60 : ∀ t, own_S p e below T59 (mkF m 148 #[.val (.int p0), .val (.long q1), .second, .val (.int p2), .val (.int p3), .val (.int p4), .val (.int cl), .val (.ref oAVERAGE), .val (.int fb), .val (.ref b18), .val (.ref b51), .val (.double dv), .second, .val (.long idv), .second, .val .null, .unset] [.null, (.double dv), (.ref b51), (.ref b59), (.ref b59)]) t → Steps p.tables e below SE t := by
          intro t k
          refine K59 _ ?_
          refine XS.dup X59.here hx rfl (hb hby at_141) rfl rfl ?_
          show own_S p e below T59 (mkF m 142 #[.val (.int p0), .val (.long q1), .second, .val (.int p2), .val (.int p3), .val (.int p4), .val (.int cl), .val (.ref oAVERAGE), .val (.int fb), .val (.ref b18), .val (.ref b51), .val (.double dv), .second, .val (.long idv), .second, .val .null, .unset] [(.ref b59), (.ref b59)]) _
          refine XS.aload X59.here hx rfl (hb hby at_142) rfl rfl ?_
          show own_S p e below T59 (mkF m 144 #[.val (.int p0), .val (.long q1), .second, .val (.int p2), .val (.int p3), .val (.int p4), .val (.int cl), .val (.ref oAVERAGE), .val (.int fb), .val (.ref b18), .val (.ref b51), .val (.double dv), .second, .val (.long idv), .second, .val .null, .unset] [(.ref b51), (.ref b59), (.ref b59)]) _
          refine XS.dload X59.here hx rfl (hb hby at_144) rfl ?_
          show own_S p e below T59 (mkF m 146 #[.val (.int p0), .val (.long q1), .second, .val (.int p2), .val (.int p3), .val (.int p4), .val (.int cl), .val (.ref oAVERAGE), .val (.int fb), .val (.ref b18), .val (.ref b51), .val (.double dv), .second, .val (.long idv), .second, .val .null, .unset] [(.double dv), (.ref b51), (.ref b59), (.ref b59)]) _
          refine XS.aload X59.here hx rfl (hb hby at_146) rfl rfl ?_
          exact k
        obtain ⟨_, _, ⟨T61, L61, k61, n61⟩, -, X61, ⟨Lc61, hQ61, l61, y61, z61⟩, st61⟩ := X59.specialBack hx (y := (⟨"com/example/aswan/aswan/rule/FlowRule", "<init>", "(Ljava/lang/String;DLcom/example/aswan/aswan/rule/ClusterConfig;)V"⟩ : MethodName)) rfl hown (mvT hZ (hw _ (List.mem_of_getElem? (i := 21) rfl))) (mvT hZ (hw _ (List.mem_of_getElem? (i := 22) rfl))) (mvT hZ (hw _ (List.mem_of_getElem? (i := 23) rfl))) (by decide) (backOf (W := 1) (rmfrn l Z a0 hw [] b59 b51 dv h59 n0 (Nat.le_trans Z0 Kp59.1) A59 F_resource_b59 F_count_b59 F_clusterConfig_b59 g_b59) hZ (hw _ (List.mem_of_getElem? (i := 23) rfl)) (hw _ (List.mem_of_getElem? (i := 20) rfl)) (by decide) (by decide)) (g := (mkF m 148 #[.val (.int p0), .val (.long q1), .second, .val (.int p2), .val (.int p3), .val (.int p4), .val (.int cl), .val (.ref oAVERAGE), .val (.int fb), .val (.ref b18), .val (.ref b51), .val (.double dv), .second, .val (.long idv), .second, .val .null, .unset] [.null, (.double dv), (.ref b51), (.ref b59), (.ref b59)])) rfl (by rw [hml]; rfl) (Steps.refl _) (a := b59) (argsL := [(.ref b51), (.double dv), .null]) (rest := [(.ref b59)]) (lenOf pd_0_1 rfl) rfl (by show 2 * 0 + _ ≤ _; exact Nat.le_of_eq rfl) (hb hby at_148) (fun _ _ => ⟨rfl, e59, (by decide : 4 + 0 ≤ _), (by decide : 11 + 0 ≤ _)⟩)
        dsimp only [Pt.U, Pt.locs, Pt.cells, Pt.slots] at X61 l61 y61 z61 st61 hQ61
        subst l61 y61 z61
        obtain ⟨rfl, Nq61, Kq61, Ex61, Fa61, Fb61, Fc61⟩ := hQ61
        have N61 := Fr.app N56 Nq61
        have Kp61 : Keep h0 T61.heap [] := Keep.trans Kp59 Kq61 (allS (Or.inr sz_b59) all0)
        have K61 : ∀ t, own_S p e below T61 (mkF m 151 #[.val (.int p0), .val (.long q1), .second, .val (.int p2), .val (.int p3), .val (.int p4), .val (.int cl), .val (.ref oAVERAGE), .val (.int fb), .val (.ref b18), .val (.ref b51), .val (.double dv), .second, .val (.long idv), .second, .val .null, .unset] [(.ref b59)]) t → Steps p.tables e below SE t := fun t k => K60 _ (st61.trans k)
        have K62 : ∀ t, own_S p e below T61 (mkF m 155 #[.val (.int p0), .val (.long q1), .second, .val (.int p2), .val (.int p3), .val (.int p4), .val (.int cl), .val (.ref oAVERAGE), .val (.int fb), .val (.ref b18), .val (.ref b51), .val (.double dv), .second, .val (.long idv), .second, .val .null, .val (.ref b59)] [(.ref b59)]) t → Steps p.tables e below SE t := by
          intro t k
          refine K61 _ ?_
          refine XS.astore X61.here hx rfl (hb hby at_151) rfl rfl (l' := #[.val (.int p0), .val (.long q1), .second, .val (.int p2), .val (.int p3), .val (.int p4), .val (.int cl), .val (.ref oAVERAGE), .val (.int fb), .val (.ref b18), .val (.ref b51), .val (.double dv), .second, .val (.long idv), .second, .val .null, .val (.ref b59)]) rfl ?_
          show own_S p e below T61 (mkF m 153 #[.val (.int p0), .val (.long q1), .second, .val (.int p2), .val (.int p3), .val (.int p4), .val (.int cl), .val (.ref oAVERAGE), .val (.int fb), .val (.ref b18), .val (.ref b51), .val (.double dv), .second, .val (.long idv), .second, .val .null, .val (.ref b59)] []) _
          refine XS.aload X61.here hx rfl (hb hby at_153) rfl rfl ?_
          exact k
        obtain ⟨cq63, kq63, q63a, q63b, q63c⟩ := isOf hZ rfl Ex61
        obtain ⟨_, _, ⟨T63, L63, k63, n63⟩, -, X63, ⟨Lc63, hQ63, l63, y63, z63⟩, st63⟩ := X61.virtualBack hx (y := (⟨"com/example/aswan/aswan/rule/FlowRule", "isClusterMode", "()Z"⟩ : MethodName)) (z := (⟨"com/example/aswan/aswan/rule/FlowRule", "isClusterMode", "()Z"⟩ : MethodName)) hown (mvT hZ (hw _ (List.mem_of_getElem? (i := 33) rfl))) (mvT hZ (hw _ (List.mem_of_getElem? (i := 34) rfl))) (notFace_of_selects (args := #[]) (mvT hZ (hw _ (List.mem_of_getElem? (i := 36) rfl)))) (mvT hZ (hw _ (List.mem_of_getElem? (i := 36) rfl))) (mvT hZ (hw _ (List.mem_of_getElem? (i := 35) rfl))) (by decide) (backOf (W := 0) (rmis0 l Z a0 hw [] b59  T61.heap n0 (Nat.le_trans Z0 Kp61.1) Fc61) hZ (hw _ (List.mem_of_getElem? (i := 37) rfl)) (hw _ (List.mem_of_getElem? (i := 20) rfl)) (by decide) (by decide)) q63a q63c (g := (mkF m 155 #[.val (.int p0), .val (.long q1), .second, .val (.int p2), .val (.int p3), .val (.int p4), .val (.int cl), .val (.ref oAVERAGE), .val (.int fb), .val (.ref b18), .val (.ref b51), .val (.double dv), .second, .val (.long idv), .second, .val .null, .val (.ref b59)] [(.ref b59)])) rfl (by rw [hml]; rfl) (Steps.refl _) (argsL := []) (rest := []) (lenOf pd_0_2 rfl) rfl (by show 2 * 0 + _ ≤ _; exact Nat.le_of_eq rfl) (hb hby at_155) (fun _ _ => ⟨rfl, rfl, (by decide : 4 + 0 ≤ _), (by decide : 11 + 0 ≤ _)⟩)
        dsimp only [Pt.U, Pt.locs, Pt.cells, Pt.slots] at X63 l63 y63 z63 st63 hQ63
        subst l63 y63 z63
        obtain ⟨rfl, Nq63, e63⟩ := hQ63
        have N63 := Fr.app N61 Nq63
        have K63 : ∀ t, own_S p e below T63 (mkF m 158 #[.val (.int p0), .val (.long q1), .second, .val (.int p2), .val (.int p3), .val (.int p4), .val (.int cl), .val (.ref oAVERAGE), .val (.int fb), .val (.ref b18), .val (.ref b51), .val (.double dv), .second, .val (.long idv), .second, .val .null, .val (.ref b59)] [(.int (0 : Int32))]) t → Steps p.tables e below SE t := fun t k => K62 _ (st63.trans k)
        have K64 : ∀ t, own_S p e below T63 (mkF m 168 #[.val (.int p0), .val (.long q1), .second, .val (.int p2), .val (.int p3), .val (.int p4), .val (.int cl), .val (.ref oAVERAGE), .val (.int fb), .val (.ref b18), .val (.ref b51), .val (.double dv), .second, .val (.long idv), .second, .val .null, .val (.ref b59)] [(.int (1 : Int32))]) t → Steps p.tables e below SE t := by
          intro t k
          refine K63 _ ?_
          refine XS.iload X63.here hx rfl (hb hby at_158) rfl ?_
          show own_S p e below T63 (mkF m 160 #[.val (.int p0), .val (.long q1), .second, .val (.int p2), .val (.int p3), .val (.int p4), .val (.int cl), .val (.ref oAVERAGE), .val (.int fb), .val (.ref b18), .val (.ref b51), .val (.double dv), .second, .val (.long idv), .second, .val .null, .val (.ref b59)] [(.int cl), (.int (0 : Int32))]) _
          refine XS.icmpNo X63.here hx rfl (hb hby at_160) rfl (XT.ii_ne_f (c116.symm)) ?_
          show own_S p e below T63 (mkF m 163 #[.val (.int p0), .val (.long q1), .second, .val (.int p2), .val (.int p3), .val (.int p4), .val (.int cl), .val (.ref oAVERAGE), .val (.int fb), .val (.ref b18), .val (.ref b51), .val (.double dv), .second, .val (.long idv), .second, .val .null, .val (.ref b59)] []) _
          refine XS.iconst X63.here hx rfl (hb hby at_163) ?_
          show own_S p e below T63 (mkF m 164 #[.val (.int p0), .val (.long q1), .second, .val (.int p2), .val (.int p3), .val (.int p4), .val (.int cl), .val (.ref oAVERAGE), .val (.int fb), .val (.ref b18), .val (.ref b51), .val (.double dv), .second, .val (.long idv), .second, .val .null, .val (.ref b59)] [(.int (1 : Int32))]) _
          refine XS.goto X63.here hx rfl (pc0 := 164) (pc' := 168) rfl (hb hby at_164) (by decide) (by decide) ?_
          exact k
        obtain ⟨fs, hr, hrun, hended, hRW⟩ := X63.leaveW hS (by rw [e63]; exact (Nat.le_trans (Nat.le_trans (Nat.le_trans (Nat.le_trans (Nat.le_trans (Nat.le_trans (Nat.le_trans hk E18.1) (Nat.le_of_eq W21.size.symm)) (Nat.le_of_eq W24.size.symm)) E51.1) Kq53.1) E59.1) Kq61.1)) (v := some (.int (1 : Int32))) (fun h => by rw [Bd.returns] at h; cases h)
        refine ⟨_, _, K64 _ ?_, hrun, hended, _, _, rfl, ?_, hRW.1, hRW.2.1, hRW.2.2.1, hRW.2.2.2.mono (by decide) (by decide)⟩
        · exact retN X63 hx (t := .boolean) Bd.returns (by simp) (hb hby at_168) hr
        · show Q0 Z p0 q1 p2 p3 p4 oAVERAGE oGLOBAL G h0 n0 _ T63.heap _
          rw [e63]
          exact ⟨rfl, N63⟩
      · skip
        have hcl1 : (1 : Int32) = cl := by
          rw [hcl] at c116 ⊢
          by_cases w : (p0 &&& (1 : Int32)) = 0
          · rw [if_pos w] at c116; exact absurd rfl c116
          · rw [if_neg w]
        have K65 : ∀ t, own_S p e below T56 (mkF m 119 #[.val (.int p0), .val (.long q1), .second, .val (.int p2), .val (.int p3), .val (.int p4), .val (.int cl), .val (.ref oAVERAGE), .val (.int fb), .val (.ref b18), .val (.ref b51), .val (.double dv), .second, .val (.long idv), .second, .unset, .unset] []) t → Steps p.tables e below SE t := by
          intro t k
          refine K57 _ ?_
          refine XS.ifNo X56.here hx rfl (hb hby at_116) rfl (XT.i0_eq_f c116) ?_
          exact k
        obtain ⟨T66, h66, X66, e66, E66, A66, D66, -, st66⟩ := newO X56 hx hZ hown (hw _ (List.mem_of_getElem? (i := 60) rfl)) (hw _ (List.mem_of_getElem? (i := 61) rfl)) (hw _ (List.mem_of_getElem? (i := 62) rfl)) e56 (g := (mkF m 119 #[.val (.int p0), .val (.long q1), .second, .val (.int p2), .val (.int p3), .val (.int p4), .val (.int cl), .val (.ref oAVERAGE), .val (.int fb), .val (.ref b18), .val (.ref b51), .val (.double dv), .second, .val (.long idv), .second, .unset, .unset] [])) rfl (hb hby at_119) (by decide) (by decide)
        obtain ⟨b66, g66⟩ : ∃ z, z = T53.heap.size := ⟨_, rfl⟩
        rw [← g66] at A66 D66 st66
        have g_b66 : n0 ≤ b66 := Nat.le_trans (Nat.le_trans Z0 Kp53.1) (Nat.le_of_eq g66.symm)
        have sz_b66 : h0.size ≤ b66 := Nat.le_trans Kp53.1 (Nat.le_of_eq g66.symm)
        have own_ne_b18_b66 : b18 ≠ b66 := Nat.ne_of_lt (Nat.lt_of_lt_of_le ((V24.ext E51).keep Kq53 (ninS (own_ne_b18_b51) nin0)).lt (Nat.le_of_eq g66.symm))
        have own_ne_b51_b66 : b51 ≠ b66 := Nat.ne_of_lt (Nat.lt_of_lt_of_le (A51.keep Kq53).lt (Nat.le_of_eq g66.symm))
        have own_ne_oGLOBAL_b66 : oGLOBAL ≠ b66 := Nat.ne_of_lt (Nat.lt_of_lt_of_le (EX_oGLOBAL.ext (own_ext Kp53)).lt (Nat.le_of_eq g66.symm))
        have own_ne_oAVERAGE_b66 : oAVERAGE ≠ b66 := Nat.ne_of_lt (Nat.lt_of_lt_of_le (EX_oAVERAGE.ext (own_ext Kp53)).lt (Nat.le_of_eq g66.symm))
        have Kp66 : Keep h0 h66 [] := Keep.ext Kp53 E66
        have F_flowId_b66 : Fld Z h66 b66 "com/example/aswan/aswan/rule/ClusterConfig" "flowId" "J" (.long (0 : Int64)) := D66 (Or.inr (hw _ (List.mem_of_getElem? (i := 68) rfl))) (ty := .long) (by decide)
        have F_thresholdType_b66 : Fld Z h66 b66 "com/example/aswan/aswan/rule/ClusterConfig" "thresholdType" "Lcom/example/aswan/aswan/rule/ThresholdType;" .null := D66 (Or.inr (hw _ (List.mem_of_getElem? (i := 70) rfl))) (ty := (.object "com/example/aswan/aswan/rule/ThresholdType")) (by decide)
        have F_fallbackToLocalWhenFail_b66 : Fld Z h66 b66 "com/example/aswan/aswan/rule/ClusterConfig" "fallbackToLocalWhenFail" "Z" (.int (0 : Int32)) := D66 (Or.inr (hw _ (List.mem_of_getElem? (i := 72) rfl))) (ty := .boolean) (by decide)
        have K66 : ∀ t, own_S p e below T66 (mkF m 122 #[.val (.int p0), .val (.long q1), .second, .val (.int p2), .val (.int p3), .val (.int p4), .val (.int cl), .val (.ref oAVERAGE), .val (.int fb), .val (.ref b18), .val (.ref b51), .val (.double dv), .second, .val (.long idv), .second, .unset, .unset] [(.ref b66)]) t → Steps p.tables e below SE t := fun t k => K65 _ (st66 _ k)
        have K67 : ∀ t, own_S p e below T66 (mkF m 129 #[.val (.int p0), .val (.long q1), .second, .val (.int p2), .val (.int p3), .val (.int p4), .val (.int cl), .val (.ref oAVERAGE), .val (.int fb), .val (.ref b18), .val (.ref b51), .val (.double dv), .second, .val (.long idv), .second, .unset, .unset] [(.int fb), (.ref oAVERAGE), (.long idv), (.ref b66), (.ref b66)]) t → Steps p.tables e below SE t := by
          intro t k
          refine K66 _ ?_
          refine XS.dup X66.here hx rfl (hb hby at_122) rfl rfl ?_
          show own_S p e below T66 (mkF m 123 #[.val (.int p0), .val (.long q1), .second, .val (.int p2), .val (.int p3), .val (.int p4), .val (.int cl), .val (.ref oAVERAGE), .val (.int fb), .val (.ref b18), .val (.ref b51), .val (.double dv), .second, .val (.long idv), .second, .unset, .unset] [(.ref b66), (.ref b66)]) _
          refine XS.lload X66.here hx rfl (hb hby at_123) rfl ?_
          show own_S p e below T66 (mkF m 125 #[.val (.int p0), .val (.long q1), .second, .val (.int p2), .val (.int p3), .val (.int p4), .val (.int cl), .val (.ref oAVERAGE), .val (.int fb), .val (.ref b18), .val (.ref b51), .val (.double dv), .second, .val (.long idv), .second, .unset, .unset] [(.long idv), (.ref b66), (.ref b66)]) _
          refine XS.aload X66.here hx rfl (hb hby at_125) rfl rfl ?_
          show own_S p e below T66 (mkF m 127 #[.val (.int p0), .val (.long q1), .second, .val (.int p2), .val (.int p3), .val (.int p4), .val (.int cl), .val (.ref oAVERAGE), .val (.int fb), .val (.ref b18), .val (.ref b51), .val (.double dv), .second, .val (.long idv), .second, .unset, .unset] [(.ref oAVERAGE), (.long idv), (.ref b66), (.ref b66)]) _
          refine XS.iload X66.here hx rfl (hb hby at_127) rfl ?_
          exact k
        obtain ⟨_, _, ⟨T68, L68, k68, n68⟩, -, X68, ⟨Lc68, hQ68, l68, y68, z68⟩, st68⟩ := X66.specialBack hx (y := (⟨"com/example/aswan/aswan/rule/ClusterConfig", "<init>", "(JLcom/example/aswan/aswan/rule/ThresholdType;Z)V"⟩ : MethodName)) rfl hown (mvT hZ (hw _ (List.mem_of_getElem? (i := 63) rfl))) (mvT hZ (hw _ (List.mem_of_getElem? (i := 64) rfl))) (mvT hZ (hw _ (List.mem_of_getElem? (i := 65) rfl))) (by decide) (backOf (W := 1) (rmcc l Z a0 hw [] b66 idv oAVERAGE fb h66 n0 (Nat.le_trans Z0 Kp66.1) A66 F_flowId_b66 F_thresholdType_b66 F_fallbackToLocalWhenFail_b66 g_b66) hZ (hw _ (List.mem_of_getElem? (i := 65) rfl)) (hw _ (List.mem_of_getElem? (i := 62) rfl)) (by decide) (by decide)) (g := (mkF m 129 #[.val (.int p0), .val (.long q1), .second, .val (.int p2), .val (.int p3), .val (.int p4), .val (.int cl), .val (.ref oAVERAGE), .val (.int fb), .val (.ref b18), .val (.ref b51), .val (.double dv), .second, .val (.long idv), .second, .unset, .unset] [(.int fb), (.ref oAVERAGE), (.long idv), (.ref b66), (.ref b66)])) rfl (by rw [hml]; rfl) (Steps.refl _) (a := b66) (argsL := [(.long idv), (.ref oAVERAGE), (.int fb)]) (rest := [(.ref b66)]) (lenOf pd_0_3 rfl) rfl (by show 2 * 0 + _ ≤ _; exact Nat.le_of_eq rfl) (hb hby at_129) (fun _ _ => ⟨rfl, e66, (by decide : 4 + 0 ≤ _), (by decide : 11 + 0 ≤ _)⟩)
        dsimp only [Pt.U, Pt.locs, Pt.cells, Pt.slots] at X68 l68 y68 z68 st68 hQ68
        subst l68 y68 z68
        obtain ⟨rfl, Nq68, Kq68, Ex68, Fa68, Fb68, Fc68⟩ := hQ68
        have N68 := Fr.app N56 Nq68
        have Kp68 : Keep h0 T68.heap [] := Keep.trans Kp66 Kq68 (allS (Or.inr sz_b66) all0)
        have K68 : ∀ t, own_S p e below T68 (mkF m 132 #[.val (.int p0), .val (.long q1), .second, .val (.int p2), .val (.int p3), .val (.int p4), .val (.int cl), .val (.ref oAVERAGE), .val (.int fb), .val (.ref b18), .val (.ref b51), .val (.double dv), .second, .val (.long idv), .second, .unset, .unset] [(.ref b66)]) t → Steps p.tables e below SE t := fun t k => K67 _ (st68.trans k)
        have K69 : ∀ t, own_S p e below T68 (mkF m 138 #[.val (.int p0), .val (.long q1), .second, .val (.int p2), .val (.int p3), .val (.int p4), .val (.int cl), .val (.ref oAVERAGE), .val (.int fb), .val (.ref b18), .val (.ref b51), .val (.double dv), .second, .val (.long idv), .second, .val (.ref b66), .unset] []) t → Steps p.tables e below SE t := by
          intro t k
          refine K68 _ ?_
          refine XS.goto X68.here hx rfl (pc0 := 132) (pc' := 136) rfl (hb hby at_132) (by decide) (by decide) ?_
          show own_S p e below T68 (mkF m 136 #[.val (.int p0), .val (.long q1), .second, .val (.int p2), .val (.int p3), .val (.int p4), .val (.int cl), .val (.ref oAVERAGE), .val (.int fb), .val (.ref b18), .val (.ref b51), .val (.double dv), .second, .val (.long idv), .second, .unset, .unset] [(.ref b66)]) _
          refine XS.astore X68.here hx rfl (hb hby at_136) rfl rfl (l' := #[.val (.int p0), .val (.long q1), .second, .val (.int p2), .val (.int p3), .val (.int p4), .val (.int cl), .val (.ref oAVERAGE), .val (.int fb), .val (.ref b18), .val (.ref b51), .val (.double dv), .second, .val (.long idv), .second, .val (.ref b66), .unset]) rfl ?_
          exact k
        obtain ⟨T70, h70, X70, e70, E70, A70, D70, -, st70⟩ := newO X68 hx hZ hown (hw _ (List.mem_of_getElem? (i := 18) rfl)) (hw _ (List.mem_of_getElem? (i := 19) rfl)) (hw _ (List.mem_of_getElem? (i := 20) rfl)) rfl (g := (mkF m 138 #[.val (.int p0), .val (.long q1), .second, .val (.int p2), .val (.int p3), .val (.int p4), .val (.int cl), .val (.ref oAVERAGE), .val (.int fb), .val (.ref b18), .val (.ref b51), .val (.double dv), .second, .val (.long idv), .second, .val (.ref b66), .unset] [])) rfl (hb hby at_138) (by decide) (by decide)
        obtain ⟨b70, g70⟩ : ∃ z, z = T68.heap.size := ⟨_, rfl⟩
        rw [← g70] at A70 D70 st70
        have g_b70 : n0 ≤ b70 := Nat.le_trans (Nat.le_trans Z0 Kp68.1) (Nat.le_of_eq g70.symm)
        have sz_b70 : h0.size ≤ b70 := Nat.le_trans Kp68.1 (Nat.le_of_eq g70.symm)
        have own_ne_b18_b70 : b18 ≠ b70 := Nat.ne_of_lt (Nat.lt_of_lt_of_le ((((V24.ext E51).keep Kq53 (ninS (own_ne_b18_b51) nin0)).ext E66).keep Kq68 (ninS (own_ne_b18_b66) nin0)).lt (Nat.le_of_eq g70.symm))
        have own_ne_b51_b70 : b51 ≠ b70 := Nat.ne_of_lt (Nat.lt_of_lt_of_le (((A51.keep Kq53).ext E66).keep Kq68).lt (Nat.le_of_eq g70.symm))
        have own_ne_b66_b70 : b66 ≠ b70 := Nat.ne_of_lt (Nat.lt_of_lt_of_le Ex68.lt (Nat.le_of_eq g70.symm))
        have own_ne_oGLOBAL_b70 : oGLOBAL ≠ b70 := Nat.ne_of_lt (Nat.lt_of_lt_of_le (EX_oGLOBAL.ext (own_ext Kp68)).lt (Nat.le_of_eq g70.symm))
        have own_ne_oAVERAGE_b70 : oAVERAGE ≠ b70 := Nat.ne_of_lt (Nat.lt_of_lt_of_le (EX_oAVERAGE.ext (own_ext Kp68)).lt (Nat.le_of_eq g70.symm))
        have Kp70 : Keep h0 h70 [] := Keep.ext Kp68 E70
        have F_resource_b70 : Fld Z h70 b70 "com/example/aswan/aswan/rule/FlowRule" "resource" "Ljava/lang/String;" .null := D70 (Or.inr (hw _ (List.mem_of_getElem? (i := 28) rfl))) (ty := (.object "java/lang/String")) (by decide)
        have F_count_b70 : Fld Z h70 b70 "com/example/aswan/aswan/rule/FlowRule" "count" "D" (.double (0 : UInt64)) := D70 (Or.inr (hw _ (List.mem_of_getElem? (i := 30) rfl))) (ty := .double) (by decide)
        have F_clusterConfig_b70 : Fld Z h70 b70 "com/example/aswan/aswan/rule/FlowRule" "clusterConfig" "Lcom/example/aswan/aswan/rule/ClusterConfig;" .null := D70 (Or.inr (hw _ (List.mem_of_getElem? (i := 32) rfl))) (ty := (.object "com/example/aswan/aswan/rule/ClusterConfig")) (by decide)
        have K70 : ∀ t, own_S p e below T70 (mkF m 141 #[.val (.int p0), .val (.long q1), .second, .val (.int p2), .val (.int p3), .val (.int p4), .val (.int cl), .val (.ref oAVERAGE), .val (.int fb), .val (.ref b18), .val (.ref b51), .val (.double dv), .second, .val (.long idv), .second, .val (.ref b66), .unset] [(.ref b70)]) t → Steps p.tables e below SE t := fun t k => K69 _ (st70 _ k)
        have K71 : ∀ t, own_S p e below T70 (mkF m 148 #[.val (.int p0), .val (.long q1), .second, .val (.int p2), .val (.int p3), .val (.int p4), .val (.int cl), .val (.ref oAVERAGE), .val (.int fb), .val (.ref b18), .val (.ref b51), .val (.double dv), .second, .val (.long idv), .second, .val (.ref b66), .unset] [(.ref b66), (.double dv), (.ref b51), (.ref b70), (.ref b70)]) t → Steps p.tables e below SE t := by
          intro t k
          refine K70 _ ?_
          refine XS.dup X70.here hx rfl (hb hby at_141) rfl rfl ?_
          show own_S p e below T70 (mkF m 142 #[.val (.int p0), .val (.long q1), .second, .val (.int p2), .val (.int p3), .val (.int p4), .val (.int cl), .val (.ref oAVERAGE), .val (.int fb), .val (.ref b18), .val (.ref b51), .val (.double dv), .second, .val (.long idv), .second, .val (.ref b66), .unset] [(.ref b70), (.ref b70)]) _
          refine XS.aload X70.here hx rfl (hb hby at_142) rfl rfl ?_
          show own_S p e below T70 (mkF m 144 #[.val (.int p0), .val (.long q1), .second, .val (.int p2), .val (.int p3), .val (.int p4), .val (.int cl), .val (.ref oAVERAGE), .val (.int fb), .val (.ref b18), .val (.ref b51), .val (.double dv), .second, .val (.long idv), .second, .val (.ref b66), .unset] [(.ref b51), (.ref b70), (.ref b70)]) _
          refine XS.dload X70.here hx rfl (hb hby at_144) rfl ?_
          show own_S p e below T70 (mkF m 146 #[.val (.int p0), .val (.long q1), .second, .val (.int p2), .val (.int p3), .val (.int p4), .val (.int cl), .val (.ref oAVERAGE), .val (.int fb), .val (.ref b18), .val (.ref b51), .val (.double dv), .second, .val (.long idv), .second, .val (.ref b66), .unset] [(.double dv), (.ref b51), (.ref b70), (.ref b70)]) _
          refine XS.aload X70.here hx rfl (hb hby at_146) rfl rfl ?_
          exact k
        obtain ⟨_, _, ⟨T72, L72, k72, n72⟩, -, X72, ⟨Lc72, hQ72, l72, y72, z72⟩, st72⟩ := X70.specialBack hx (y := (⟨"com/example/aswan/aswan/rule/FlowRule", "<init>", "(Ljava/lang/String;DLcom/example/aswan/aswan/rule/ClusterConfig;)V"⟩ : MethodName)) rfl hown (mvT hZ (hw _ (List.mem_of_getElem? (i := 21) rfl))) (mvT hZ (hw _ (List.mem_of_getElem? (i := 22) rfl))) (mvT hZ (hw _ (List.mem_of_getElem? (i := 23) rfl))) (by decide) (backOf (W := 1) (rmfr l Z a0 hw [] b70 b51 dv b66 h70 n0 (Nat.le_trans Z0 Kp70.1) A70 F_resource_b70 F_count_b70 F_clusterConfig_b70 g_b70) hZ (hw _ (List.mem_of_getElem? (i := 23) rfl)) (hw _ (List.mem_of_getElem? (i := 20) rfl)) (by decide) (by decide)) (g := (mkF m 148 #[.val (.int p0), .val (.long q1), .second, .val (.int p2), .val (.int p3), .val (.int p4), .val (.int cl), .val (.ref oAVERAGE), .val (.int fb), .val (.ref b18), .val (.ref b51), .val (.double dv), .second, .val (.long idv), .second, .val (.ref b66), .unset] [(.ref b66), (.double dv), (.ref b51), (.ref b70), (.ref b70)])) rfl (by rw [hml]; rfl) (Steps.refl _) (a := b70) (argsL := [(.ref b51), (.double dv), (.ref b66)]) (rest := [(.ref b70)]) (lenOf pd_0_1 rfl) rfl (by show 2 * 0 + _ ≤ _; exact Nat.le_of_eq rfl) (hb hby at_148) (fun _ _ => ⟨rfl, e70, (by decide : 5 + 0 ≤ _), (by decide : 14 + 0 ≤ _)⟩)
        dsimp only [Pt.U, Pt.locs, Pt.cells, Pt.slots] at X72 l72 y72 z72 st72 hQ72
        subst l72 y72 z72
        obtain ⟨rfl, Nq72, Kq72, Ex72, Fa72, Fb72, Fc72⟩ := hQ72
        have N72 := Fr.app N68 Nq72
        have Kp72 : Keep h0 T72.heap [] := Keep.trans Kp70 Kq72 (allS (Or.inr sz_b70) all0)
        have K72 : ∀ t, own_S p e below T72 (mkF m 151 #[.val (.int p0), .val (.long q1), .second, .val (.int p2), .val (.int p3), .val (.int p4), .val (.int cl), .val (.ref oAVERAGE), .val (.int fb), .val (.ref b18), .val (.ref b51), .val (.double dv), .second, .val (.long idv), .second, .val (.ref b66), .unset] [(.ref b70)]) t → Steps p.tables e below SE t := fun t k => K71 _ (st72.trans k)
        have K73 : ∀ t, own_S p e below T72 (mkF m 155 #[.val (.int p0), .val (.long q1), .second, .val (.int p2), .val (.int p3), .val (.int p4), .val (.int cl), .val (.ref oAVERAGE), .val (.int fb), .val (.ref b18), .val (.ref b51), .val (.double dv), .second, .val (.long idv), .second, .val (.ref b66), .val (.ref b70)] [(.ref b70)]) t → Steps p.tables e below SE t := by
          intro t k
          refine K72 _ ?_
          refine XS.astore X72.here hx rfl (hb hby at_151) rfl rfl (l' := #[.val (.int p0), .val (.long q1), .second, .val (.int p2), .val (.int p3), .val (.int p4), .val (.int cl), .val (.ref oAVERAGE), .val (.int fb), .val (.ref b18), .val (.ref b51), .val (.double dv), .second, .val (.long idv), .second, .val (.ref b66), .val (.ref b70)]) rfl ?_
          show own_S p e below T72 (mkF m 153 #[.val (.int p0), .val (.long q1), .second, .val (.int p2), .val (.int p3), .val (.int p4), .val (.int cl), .val (.ref oAVERAGE), .val (.int fb), .val (.ref b18), .val (.ref b51), .val (.double dv), .second, .val (.long idv), .second, .val (.ref b66), .val (.ref b70)] []) _
          refine XS.aload X72.here hx rfl (hb hby at_153) rfl rfl ?_
          exact k
        obtain ⟨cq74, kq74, q74a, q74b, q74c⟩ := isOf hZ rfl Ex72
        obtain ⟨_, _, ⟨T74, L74, k74, n74⟩, -, X74, ⟨Lc74, hQ74, l74, y74, z74⟩, st74⟩ := X72.virtualBack hx (y := (⟨"com/example/aswan/aswan/rule/FlowRule", "isClusterMode", "()Z"⟩ : MethodName)) (z := (⟨"com/example/aswan/aswan/rule/FlowRule", "isClusterMode", "()Z"⟩ : MethodName)) hown (mvT hZ (hw _ (List.mem_of_getElem? (i := 33) rfl))) (mvT hZ (hw _ (List.mem_of_getElem? (i := 34) rfl))) (notFace_of_selects (args := #[]) (mvT hZ (hw _ (List.mem_of_getElem? (i := 36) rfl)))) (mvT hZ (hw _ (List.mem_of_getElem? (i := 36) rfl))) (mvT hZ (hw _ (List.mem_of_getElem? (i := 35) rfl))) (by decide) (backOf (W := 0) (rmis1 l Z a0 hw [] b70 b66 T72.heap n0 (Nat.le_trans Z0 Kp72.1) Fc72) hZ (hw _ (List.mem_of_getElem? (i := 37) rfl)) (hw _ (List.mem_of_getElem? (i := 20) rfl)) (by decide) (by decide)) q74a q74c (g := (mkF m 155 #[.val (.int p0), .val (.long q1), .second, .val (.int p2), .val (.int p3), .val (.int p4), .val (.int cl), .val (.ref oAVERAGE), .val (.int fb), .val (.ref b18), .val (.ref b51), .val (.double dv), .second, .val (.long idv), .second, .val (.ref b66), .val (.ref b70)] [(.ref b70)])) rfl (by rw [hml]; rfl) (Steps.refl _) (argsL := []) (rest := []) (lenOf pd_0_2 rfl) rfl (by show 2 * 0 + _ ≤ _; exact Nat.le_of_eq rfl) (hb hby at_155) (fun _ _ => ⟨rfl, rfl, (by decide : 5 + 0 ≤ _), (by decide : 14 + 0 ≤ _)⟩)
        dsimp only [Pt.U, Pt.locs, Pt.cells, Pt.slots] at X74 l74 y74 z74 st74 hQ74
        subst l74 y74 z74
        obtain ⟨rfl, Nq74, e74⟩ := hQ74
        have N74 := Fr.app N72 Nq74
        have K74 : ∀ t, own_S p e below T74 (mkF m 158 #[.val (.int p0), .val (.long q1), .second, .val (.int p2), .val (.int p3), .val (.int p4), .val (.int cl), .val (.ref oAVERAGE), .val (.int fb), .val (.ref b18), .val (.ref b51), .val (.double dv), .second, .val (.long idv), .second, .val (.ref b66), .val (.ref b70)] [(.int (1 : Int32))]) t → Steps p.tables e below SE t := fun t k => K73 _ (st74.trans k)
        have K75 : ∀ t, own_S p e below T74 (mkF m 168 #[.val (.int p0), .val (.long q1), .second, .val (.int p2), .val (.int p3), .val (.int p4), .val (.int cl), .val (.ref oAVERAGE), .val (.int fb), .val (.ref b18), .val (.ref b51), .val (.double dv), .second, .val (.long idv), .second, .val (.ref b66), .val (.ref b70)] [(.int (1 : Int32))]) t → Steps p.tables e below SE t := by
          intro t k
          refine K74 _ ?_
          refine XS.iload X74.here hx rfl (hb hby at_158) rfl ?_
          show own_S p e below T74 (mkF m 160 #[.val (.int p0), .val (.long q1), .second, .val (.int p2), .val (.int p3), .val (.int p4), .val (.int cl), .val (.ref oAVERAGE), .val (.int fb), .val (.ref b18), .val (.ref b51), .val (.double dv), .second, .val (.long idv), .second, .val (.ref b66), .val (.ref b70)] [(.int cl), (.int (1 : Int32))]) _
          refine XS.icmpNo X74.here hx rfl (hb hby at_160) rfl (XT.ii_ne_f hcl1) ?_
          show own_S p e below T74 (mkF m 163 #[.val (.int p0), .val (.long q1), .second, .val (.int p2), .val (.int p3), .val (.int p4), .val (.int cl), .val (.ref oAVERAGE), .val (.int fb), .val (.ref b18), .val (.ref b51), .val (.double dv), .second, .val (.long idv), .second, .val (.ref b66), .val (.ref b70)] []) _
          refine XS.iconst X74.here hx rfl (hb hby at_163) ?_
          show own_S p e below T74 (mkF m 164 #[.val (.int p0), .val (.long q1), .second, .val (.int p2), .val (.int p3), .val (.int p4), .val (.int cl), .val (.ref oAVERAGE), .val (.int fb), .val (.ref b18), .val (.ref b51), .val (.double dv), .second, .val (.long idv), .second, .val (.ref b66), .val (.ref b70)] [(.int (1 : Int32))]) _
          refine XS.goto X74.here hx rfl (pc0 := 164) (pc' := 168) rfl (hb hby at_164) (by decide) (by decide) ?_
          exact k
        obtain ⟨fs, hr, hrun, hended, hRW⟩ := X74.leaveW hS (by rw [e74]; exact (Nat.le_trans (Nat.le_trans (Nat.le_trans (Nat.le_trans (Nat.le_trans (Nat.le_trans (Nat.le_trans (Nat.le_trans (Nat.le_trans hk E18.1) (Nat.le_of_eq W21.size.symm)) (Nat.le_of_eq W24.size.symm)) E51.1) Kq53.1) E66.1) Kq68.1) E70.1) Kq72.1)) (v := some (.int (1 : Int32))) (fun h => by rw [Bd.returns] at h; cases h)
        refine ⟨_, _, K75 _ ?_, hrun, hended, _, _, rfl, ?_, hRW.1, hRW.2.1, hRW.2.2.1, hRW.2.2.2.mono (by decide) (by decide)⟩
        · exact retN X74 hx (t := .boolean) Bd.returns (by simp) (hb hby at_168) hr
        · show Q0 Z p0 q1 p2 p3 p4 oAVERAGE oGLOBAL G h0 n0 _ T74.heap _
          rw [e74]
          exact ⟨rfl, N74⟩
  · skip
    have K76 : ∀ t, own_S p e below s₁ (mkF m 27 #[.val (.int p0), .val (.long q1), .second, .val (.int p2), .val (.int p3), .val (.int p4), .val (.int cl), .unset, .unset, .unset, .unset, .unset, .unset, .unset, .unset, .unset, .unset] []) t → Steps p.tables e below SE t := by
      intro t k
      refine K7 _ ?_
      refine XS.ifYes X0.here hx rfl (pc0 := 18) (pc' := 27) rfl (hb hby at_18) rfl (XT.i0_ne_t c18) (by decide) (by decide) ?_
      exact k
    obtain ⟨T77, X77, e77, st77⟩ := getS2 X0 hx hZ hown (host := "") (Or.inl (hw _ (List.mem_of_getElem? (i := 73) rfl))) Via.refl e0 ST_GLOBAL (g := (mkF m 27 #[.val (.int p0), .val (.long q1), .second, .val (.int p2), .val (.int p3), .val (.int p4), .val (.int cl), .unset, .unset, .unset, .unset, .unset, .unset, .unset, .unset, .unset, .unset] [])) rfl (hb hby at_27)
    have K77 : ∀ t, own_S p e below T77 (mkF m 30 #[.val (.int p0), .val (.long q1), .second, .val (.int p2), .val (.int p3), .val (.int p4), .val (.int cl), .unset, .unset, .unset, .unset, .unset, .unset, .unset, .unset, .unset, .unset] [(.ref oGLOBAL)]) t → Steps p.tables e below SE t := fun t k => K76 _ (st77 _ k)
    have K79 : ∀ t, own_S p e below T77 (mkF m 32 #[.val (.int p0), .val (.long q1), .second, .val (.int p2), .val (.int p3), .val (.int p4), .val (.int cl), .val (.ref oGLOBAL), .unset, .unset, .unset, .unset, .unset, .unset, .unset, .unset, .unset] []) t → Steps p.tables e below SE t := by
      intro t k
      refine K77 _ ?_
      refine XS.astore X77.here hx rfl (hb hby at_30) rfl rfl (l' := #[.val (.int p0), .val (.long q1), .second, .val (.int p2), .val (.int p3), .val (.int p4), .val (.int cl), .val (.ref oGLOBAL), .unset, .unset, .unset, .unset, .unset, .unset, .unset, .unset, .unset]) rfl ?_
      exact k
    obtain ⟨fb, hfb, K80⟩ : ∃ fb : Int32, fb = (if (((p0.toUInt32 >>> ((2 : Int32) &&& 31).toUInt32).toInt32) &&& (1 : Int32)) = 0 then (0 : Int32) else (1 : Int32)) ∧ ∀ t, own_S p e below T77 (mkF m 45 #[.val (.int p0), .val (.long q1), .second, .val (.int p2), .val (.int p3), .val (.int p4), .val (.int cl), .val (.ref oGLOBAL), .unset, .unset, .unset, .unset, .unset, .unset, .unset, .unset, .unset] [(.int fb)]) t → Steps p.tables e below SE t := by
      have K82 : ∀ t, own_S p e below T77 (mkF m 37 #[.val (.int p0), .val (.long q1), .second, .val (.int p2), .val (.int p3), .val (.int p4), .val (.int cl), .val (.ref oGLOBAL), .unset, .unset, .unset, .unset, .unset, .unset, .unset, .unset, .unset] [(.int (((p0.toUInt32 >>> ((2 : Int32) &&& 31).toUInt32).toInt32) &&& (1 : Int32)))]) t → Steps p.tables e below SE t := by
        intro t k
        refine K79 _ ?_
        refine XS.iloadN X77.here hx rfl (hb hby at_32) rfl ?_
        show own_S p e below T77 (mkF m 33 #[.val (.int p0), .val (.long q1), .second, .val (.int p2), .val (.int p3), .val (.int p4), .val (.int cl), .val (.ref oGLOBAL), .unset, .unset, .unset, .unset, .unset, .unset, .unset, .unset, .unset] [(.int p0)]) _
        refine XS.iconst X77.here hx rfl (hb hby at_33) ?_
        show own_S p e below T77 (mkF m 34 #[.val (.int p0), .val (.long q1), .second, .val (.int p2), .val (.int p3), .val (.int p4), .val (.int cl), .val (.ref oGLOBAL), .unset, .unset, .unset, .unset, .unset, .unset, .unset, .unset, .unset] [(.int (2 : Int32)), (.int p0)]) _
        refine XS.iushr X77.here hx rfl (hb hby at_34) rfl ?_
        show own_S p e below T77 (mkF m 35 #[.val (.int p0), .val (.long q1), .second, .val (.int p2), .val (.int p3), .val (.int p4), .val (.int cl), .val (.ref oGLOBAL), .unset, .unset, .unset, .unset, .unset, .unset, .unset, .unset, .unset] [(.int ((p0.toUInt32 >>> ((2 : Int32) &&& 31).toUInt32).toInt32))]) _
        refine XS.iconst X77.here hx rfl (hb hby at_35) ?_
        show own_S p e below T77 (mkF m 36 #[.val (.int p0), .val (.long q1), .second, .val (.int p2), .val (.int p3), .val (.int p4), .val (.int cl), .val (.ref oGLOBAL), .unset, .unset, .unset, .unset, .unset, .unset, .unset, .unset, .unset] [(.int (1 : Int32)), (.int ((p0.toUInt32 >>> ((2 : Int32) &&& 31).toUInt32).toInt32))]) _
        refine XS.iand X77.here hx rfl (hb hby at_36) rfl ?_
        exact k
      by_cases c37_81 : (((p0.toUInt32 >>> ((2 : Int32) &&& 31).toUInt32).toInt32) &&& (1 : Int32)) = 0
      · skip
        have K83 : ∀ t, own_S p e below T77 (mkF m 45 #[.val (.int p0), .val (.long q1), .second, .val (.int p2), .val (.int p3), .val (.int p4), .val (.int cl), .val (.ref oGLOBAL), .unset, .unset, .unset, .unset, .unset, .unset, .unset, .unset, .unset] [(.int (0 : Int32))]) t → Steps p.tables e below SE t := by
          intro t k
          refine K82 _ ?_
          refine XS.ifYes X77.here hx rfl (pc0 := 37) (pc' := 44) rfl (hb hby at_37) rfl (XT.i0_eq_t c37_81) (by decide) (by decide) ?_
          show own_S p e below T77 (mkF m 44 #[.val (.int p0), .val (.long q1), .second, .val (.int p2), .val (.int p3), .val (.int p4), .val (.int cl), .val (.ref oGLOBAL), .unset, .unset, .unset, .unset, .unset, .unset, .unset, .unset, .unset] []) _
          refine XS.iconst X77.here hx rfl (hb hby at_44) ?_
          exact k
        exact ⟨(0 : Int32), (by simp only [if_pos c37_81]), K83⟩
      · skip
        have K84 : ∀ t, own_S p e below T77 (mkF m 45 #[.val (.int p0), .val (.long q1), .second, .val (.int p2), .val (.int p3), .val (.int p4), .val (.int cl), .val (.ref oGLOBAL), .unset, .unset, .unset, .unset, .unset, .unset, .unset, .unset, .unset] [(.int (1 : Int32))]) t → Steps p.tables e below SE t := by
          intro t k
          refine K82 _ ?_
          refine XS.ifNo X77.here hx rfl (hb hby at_37) rfl (XT.i0_eq_f c37_81) ?_
          show own_S p e below T77 (mkF m 40 #[.val (.int p0), .val (.long q1), .second, .val (.int p2), .val (.int p3), .val (.int p4), .val (.int cl), .val (.ref oGLOBAL), .unset, .unset, .unset, .unset, .unset, .unset, .unset, .unset, .unset] []) _
          refine XS.iconst X77.here hx rfl (hb hby at_40) ?_
          show own_S p e below T77 (mkF m 41 #[.val (.int p0), .val (.long q1), .second, .val (.int p2), .val (.int p3), .val (.int p4), .val (.int cl), .val (.ref oGLOBAL), .unset, .unset, .unset, .unset, .unset, .unset, .unset, .unset, .unset] [(.int (1 : Int32))]) _
          refine XS.goto X77.here hx rfl (pc0 := 41) (pc' := 45) rfl (hb hby at_41) (by decide) (by decide) ?_
          exact k
        exact ⟨(1 : Int32), (by simp only [if_neg c37_81]), K84⟩
    have K85 : ∀ t, own_S p e below T77 (mkF m 48 #[.val (.int p0), .val (.long q1), .second, .val (.int p2), .val (.int p3), .val (.int p4), .val (.int cl), .val (.ref oGLOBAL), .val (.int fb), .unset, .unset, .unset, .unset, .unset, .unset, .unset, .unset] [(.int (2 : Int32))]) t → Steps p.tables e below SE t := by
      intro t k
      refine K80 _ ?_
      refine XS.istore X77.here hx rfl (hb hby at_45) rfl (l' := #[.val (.int p0), .val (.long q1), .second, .val (.int p2), .val (.int p3), .val (.int p4), .val (.int cl), .val (.ref oGLOBAL), .val (.int fb), .unset, .unset, .unset, .unset, .unset, .unset, .unset, .unset]) rfl ?_
      show own_S p e below T77 (mkF m 47 #[.val (.int p0), .val (.long q1), .second, .val (.int p2), .val (.int p3), .val (.int p4), .val (.int cl), .val (.ref oGLOBAL), .val (.int fb), .unset, .unset, .unset, .unset, .unset, .unset, .unset, .unset] []) _
      refine XS.iconst X77.here hx rfl (hb hby at_47) ?_
      exact k
    obtain ⟨T86, h86, k86, X86, e86, E86, A86, st86⟩ := newP X77 hx hZ (hw _ (List.mem_of_getElem? (i := 3) rfl)) e77 (g := (mkF m 48 #[.val (.int p0), .val (.long q1), .second, .val (.int p2), .val (.int p3), .val (.int p4), .val (.int cl), .val (.ref oGLOBAL), .val (.int fb), .unset, .unset, .unset, .unset, .unset, .unset, .unset, .unset] [(.int (2 : Int32))])) rfl (hb hby at_48) rfl (by decide) (cap := 2) (by decide) (by decide) (by decide) (by decide)
    obtain ⟨b86, g86⟩ : ∃ z, z = h0.size := ⟨_, rfl⟩
    rw [← g86] at A86 st86
    have g_b86 : n0 ≤ b86 := Nat.le_trans Z0 (Nat.le_of_eq g86.symm)
    have sz_b86 : h0.size ≤ b86 := Nat.le_trans (Nat.le_refl _) (Nat.le_of_eq g86.symm)
    have own_ne_oGLOBAL_b86 : oGLOBAL ≠ b86 := Nat.ne_of_lt (Nat.lt_of_lt_of_le EX_oGLOBAL.lt (Nat.le_of_eq g86.symm))
    have own_ne_oAVERAGE_b86 : oAVERAGE ≠ b86 := Nat.ne_of_lt (Nat.lt_of_lt_of_le EX_oAVERAGE.lt (Nat.le_of_eq g86.symm))
    have Kp86 : Keep h0 h86 [] := Keep.ext (Keep.refl h0 []) E86
    have V86 : Arv Z h86 b86 k86 .char (2 : Int32) [(.int (0 : Int32)), (.int (0 : Int32))] (.int (0 : Int32)) := (Arv.new A86 (by decide)).pad (pad_rep [] (.int (0 : Int32)) 2)
    have K86 : ∀ t, own_S p e below T86 (mkF m 50 #[.val (.int p0), .val (.long q1), .second, .val (.int p2), .val (.int p3), .val (.int p4), .val (.int cl), .val (.ref oGLOBAL), .val (.int fb), .unset, .unset, .unset, .unset, .unset, .unset, .unset, .unset] [(.ref b86)]) t → Steps p.tables e below SE t := fun t k => K85 _ (st86 _ k)
    have K87 : ∀ t, own_S p e below T86 (mkF m 59 #[.val (.int p0), .val (.long q1), .second, .val (.int p2), .val (.int p3), .val (.int p4), .val (.int cl), .val (.ref oGLOBAL), .val (.int fb), .unset, .unset, .unset, .unset, .unset, .unset, .unset, .unset] [(.int (((p3 &&& (255 : Int32))).toUInt32.toUInt16.toUInt32.toInt32)), (.int (0 : Int32)), (.ref b86), (.ref b86)]) t → Steps p.tables e below SE t := by
      intro t k
      refine K86 _ ?_
      refine XS.dup X86.here hx rfl (hb hby at_50) rfl rfl ?_
      show own_S p e below T86 (mkF m 51 #[.val (.int p0), .val (.long q1), .second, .val (.int p2), .val (.int p3), .val (.int p4), .val (.int cl), .val (.ref oGLOBAL), .val (.int fb), .unset, .unset, .unset, .unset, .unset, .unset, .unset, .unset] [(.ref b86), (.ref b86)]) _
      refine XS.iconst X86.here hx rfl (hb hby at_51) ?_
      show own_S p e below T86 (mkF m 52 #[.val (.int p0), .val (.long q1), .second, .val (.int p2), .val (.int p3), .val (.int p4), .val (.int cl), .val (.ref oGLOBAL), .val (.int fb), .unset, .unset, .unset, .unset, .unset, .unset, .unset, .unset] [(.int (0 : Int32)), (.ref b86), (.ref b86)]) _
      refine XS.iload X86.here hx rfl (hb hby at_52) rfl ?_
      show own_S p e below T86 (mkF m 54 #[.val (.int p0), .val (.long q1), .second, .val (.int p2), .val (.int p3), .val (.int p4), .val (.int cl), .val (.ref oGLOBAL), .val (.int fb), .unset, .unset, .unset, .unset, .unset, .unset, .unset, .unset] [(.int p3), (.int (0 : Int32)), (.ref b86), (.ref b86)]) _
      refine XS.sipush X86.here hx rfl (hb hby at_54) ?_
      show own_S p e below T86 (mkF m 57 #[.val (.int p0), .val (.long q1), .second, .val (.int p2), .val (.int p3), .val (.int p4), .val (.int cl), .val (.ref oGLOBAL), .val (.int fb), .unset, .unset, .unset, .unset, .unset, .unset, .unset, .unset] [(.int (255 : Int32)), (.int p3), (.int (0 : Int32)), (.ref b86), (.ref b86)]) _
      refine XS.iand X86.here hx rfl (hb hby at_57) rfl ?_
      show own_S p e below T86 (mkF m 58 #[.val (.int p0), .val (.long q1), .second, .val (.int p2), .val (.int p3), .val (.int p4), .val (.int cl), .val (.ref oGLOBAL), .val (.int fb), .unset, .unset, .unset, .unset, .unset, .unset, .unset, .unset] [(.int (p3 &&& (255 : Int32))), (.int (0 : Int32)), (.ref b86), (.ref b86)]) _
      refine XS.i2c X86.here hx rfl (hb hby at_58) rfl ?_
      exact k
    obtain ⟨cl88, Ar88, qk88, S88, Ng88, Hh88, Gg88⟩ := id V86
    have hin88 : ¬ ((0 : Int32) < 0 ∨ cl88.slots.size ≤ ((0 : Int32)).toNatClampNeg) := inb_of S88 ⟨by decide, by decide⟩
    obtain ⟨T89, h89, X89, e89, W89, st89⟩ := stC X86 hx hZ e86 Ar88 (j := (0 : Int32)) hin88 (g := (mkF m 59 #[.val (.int p0), .val (.long q1), .second, .val (.int p2), .val (.int p3), .val (.int p4), .val (.int cl), .val (.ref oGLOBAL), .val (.int fb), .unset, .unset, .unset, .unset, .unset, .unset, .unset, .unset] [(.int (((p3 &&& (255 : Int32))).toUInt32.toUInt16.toUInt32.toInt32)), (.int (0 : Int32)), (.ref b86), (.ref b86)])) rfl rfl (hb hby at_59)
    have V89 : Arv Z h89 b86 k86 .char (2 : Int32) [(.int (nar .char (((p3 &&& (255 : Int32))).toUInt32.toUInt16.toUInt32.toInt32))), (.int (0 : Int32))] (.int (0 : Int32)) := Arv.set Ar88 qk88 S88 Ng88 Hh88 Gg88 (fits_nar_char _) W89 0 rfl (Nat.le_of_ble_eq_true rfl)
    have N89 := Fr.snoc X89 N0 g_b86
    have Kp89 : Keep h0 h89 [] := Keep.wr Kp86 W89 (Or.inr sz_b86)
    have K89 : ∀ t, own_S p e below T89 (mkF m 60 #[.val (.int p0), .val (.long q1), .second, .val (.int p2), .val (.int p3), .val (.int p4), .val (.int cl), .val (.ref oGLOBAL), .val (.int fb), .unset, .unset, .unset, .unset, .unset, .unset, .unset, .unset] [(.ref b86)]) t → Steps p.tables e below SE t := fun t k => K87 _ (st89 _ k)
    have K90 : ∀ t, own_S p e below T89 (mkF m 69 #[.val (.int p0), .val (.long q1), .second, .val (.int p2), .val (.int p3), .val (.int p4), .val (.int cl), .val (.ref oGLOBAL), .val (.int fb), .unset, .unset, .unset, .unset, .unset, .unset, .unset, .unset] [(.int (((p4 &&& (255 : Int32))).toUInt32.toUInt16.toUInt32.toInt32)), (.int (1 : Int32)), (.ref b86), (.ref b86)]) t → Steps p.tables e below SE t := by
      intro t k
      refine K89 _ ?_
      refine XS.dup X89.here hx rfl (hb hby at_60) rfl rfl ?_
      show own_S p e below T89 (mkF m 61 #[.val (.int p0), .val (.long q1), .second, .val (.int p2), .val (.int p3), .val (.int p4), .val (.int cl), .val (.ref oGLOBAL), .val (.int fb), .unset, .unset, .unset, .unset, .unset, .unset, .unset, .unset] [(.ref b86), (.ref b86)]) _
      refine XS.iconst X89.here hx rfl (hb hby at_61) ?_
      show own_S p e below T89 (mkF m 62 #[.val (.int p0), .val (.long q1), .second, .val (.int p2), .val (.int p3), .val (.int p4), .val (.int cl), .val (.ref oGLOBAL), .val (.int fb), .unset, .unset, .unset, .unset, .unset, .unset, .unset, .unset] [(.int (1 : Int32)), (.ref b86), (.ref b86)]) _
      refine XS.iload X89.here hx rfl (hb hby at_62) rfl ?_
      show own_S p e below T89 (mkF m 64 #[.val (.int p0), .val (.long q1), .second, .val (.int p2), .val (.int p3), .val (.int p4), .val (.int cl), .val (.ref oGLOBAL), .val (.int fb), .unset, .unset, .unset, .unset, .unset, .unset, .unset, .unset] [(.int p4), (.int (1 : Int32)), (.ref b86), (.ref b86)]) _
      refine XS.sipush X89.here hx rfl (hb hby at_64) ?_
      show own_S p e below T89 (mkF m 67 #[.val (.int p0), .val (.long q1), .second, .val (.int p2), .val (.int p3), .val (.int p4), .val (.int cl), .val (.ref oGLOBAL), .val (.int fb), .unset, .unset, .unset, .unset, .unset, .unset, .unset, .unset] [(.int (255 : Int32)), (.int p4), (.int (1 : Int32)), (.ref b86), (.ref b86)]) _
      refine XS.iand X89.here hx rfl (hb hby at_67) rfl ?_
      show own_S p e below T89 (mkF m 68 #[.val (.int p0), .val (.long q1), .second, .val (.int p2), .val (.int p3), .val (.int p4), .val (.int cl), .val (.ref oGLOBAL), .val (.int fb), .unset, .unset, .unset, .unset, .unset, .unset, .unset, .unset] [(.int (p4 &&& (255 : Int32))), (.int (1 : Int32)), (.ref b86), (.ref b86)]) _
      refine XS.i2c X89.here hx rfl (hb hby at_68) rfl ?_
      exact k
    obtain ⟨cl91, Ar91, qk91, S91, Ng91, Hh91, Gg91⟩ := id V89
    have hin91 : ¬ ((1 : Int32) < 0 ∨ cl91.slots.size ≤ ((1 : Int32)).toNatClampNeg) := inb_of S91 ⟨by decide, by decide⟩
    obtain ⟨T92, h92, X92, e92, W92, st92⟩ := stC X89 hx hZ e89 Ar91 (j := (1 : Int32)) hin91 (g := (mkF m 69 #[.val (.int p0), .val (.long q1), .second, .val (.int p2), .val (.int p3), .val (.int p4), .val (.int cl), .val (.ref oGLOBAL), .val (.int fb), .unset, .unset, .unset, .unset, .unset, .unset, .unset, .unset] [(.int (((p4 &&& (255 : Int32))).toUInt32.toUInt16.toUInt32.toInt32)), (.int (1 : Int32)), (.ref b86), (.ref b86)])) rfl rfl (hb hby at_69)
    have V92 : Arv Z h92 b86 k86 .char (2 : Int32) [(.int (nar .char (((p3 &&& (255 : Int32))).toUInt32.toUInt16.toUInt32.toInt32))), (.int (nar .char (((p4 &&& (255 : Int32))).toUInt32.toUInt16.toUInt32.toInt32)))] (.int (0 : Int32)) := Arv.set Ar91 qk91 S91 Ng91 Hh91 Gg91 (fits_nar_char _) W92 1 rfl (Nat.le_of_ble_eq_true rfl)
    have N92 := Fr.snoc X92 N89 g_b86
    have Kp92 : Keep h0 h92 [] := Keep.wr Kp89 W92 (Or.inr sz_b86)
    have K92 : ∀ t, own_S p e below T92 (mkF m 70 #[.val (.int p0), .val (.long q1), .second, .val (.int p2), .val (.int p3), .val (.int p4), .val (.int cl), .val (.ref oGLOBAL), .val (.int fb), .unset, .unset, .unset, .unset, .unset, .unset, .unset, .unset] [(.ref b86)]) t → Steps p.tables e below SE t := fun t k => K90 _ (st92 _ k)
    have K93 : ∀ t, own_S p e below T92 (mkF m 77 #[.val (.int p0), .val (.long q1), .second, .val (.int p2), .val (.int p3), .val (.int p4), .val (.int cl), .val (.ref oGLOBAL), .val (.int fb), .val (.ref b86), .unset, .unset, .unset, .unset, .unset, .unset, .unset] [(.int (((p0.toUInt32 >>> ((3 : Int32) &&& 31).toUInt32).toInt32) &&& (1 : Int32)))]) t → Steps p.tables e below SE t := by
      intro t k
      refine K92 _ ?_
      refine XS.astore X92.here hx rfl (hb hby at_70) rfl rfl (l' := #[.val (.int p0), .val (.long q1), .second, .val (.int p2), .val (.int p3), .val (.int p4), .val (.int cl), .val (.ref oGLOBAL), .val (.int fb), .val (.ref b86), .unset, .unset, .unset, .unset, .unset, .unset, .unset]) rfl ?_
      show own_S p e below T92 (mkF m 72 #[.val (.int p0), .val (.long q1), .second, .val (.int p2), .val (.int p3), .val (.int p4), .val (.int cl), .val (.ref oGLOBAL), .val (.int fb), .val (.ref b86), .unset, .unset, .unset, .unset, .unset, .unset, .unset] []) _
      refine XS.iloadN X92.here hx rfl (hb hby at_72) rfl ?_
      show own_S p e below T92 (mkF m 73 #[.val (.int p0), .val (.long q1), .second, .val (.int p2), .val (.int p3), .val (.int p4), .val (.int cl), .val (.ref oGLOBAL), .val (.int fb), .val (.ref b86), .unset, .unset, .unset, .unset, .unset, .unset, .unset] [(.int p0)]) _
      refine XS.iconst X92.here hx rfl (hb hby at_73) ?_
      show own_S p e below T92 (mkF m 74 #[.val (.int p0), .val (.long q1), .second, .val (.int p2), .val (.int p3), .val (.int p4), .val (.int cl), .val (.ref oGLOBAL), .val (.int fb), .val (.ref b86), .unset, .unset, .unset, .unset, .unset, .unset, .unset] [(.int (3 : Int32)), (.int p0)]) _
      refine XS.iushr X92.here hx rfl (hb hby at_74) rfl ?_
      show own_S p e below T92 (mkF m 75 #[.val (.int p0), .val (.long q1), .second, .val (.int p2), .val (.int p3), .val (.int p4), .val (.int cl), .val (.ref oGLOBAL), .val (.int fb), .val (.ref b86), .unset, .unset, .unset, .unset, .unset, .unset, .unset] [(.int ((p0.toUInt32 >>> ((3 : Int32) &&& 31).toUInt32).toInt32))]) _
      refine XS.iconst X92.here hx rfl (hb hby at_75) ?_
      show own_S p e below T92 (mkF m 76 #[.val (.int p0), .val (.long q1), .second, .val (.int p2), .val (.int p3), .val (.int p4), .val (.int cl), .val (.ref oGLOBAL), .val (.int fb), .val (.ref b86), .unset, .unset, .unset, .unset, .unset, .unset, .unset] [(.int (1 : Int32)), (.int ((p0.toUInt32 >>> ((3 : Int32) &&& 31).toUInt32).toInt32))]) _
      refine XS.iand X92.here hx rfl (hb hby at_76) rfl ?_
      exact k
    by_cases c77 : (((p0.toUInt32 >>> ((3 : Int32) &&& 31).toUInt32).toInt32) &&& (1 : Int32)) = 0
    · skip
      have K94 : ∀ t, own_S p e below T92 (mkF m 80 #[.val (.int p0), .val (.long q1), .second, .val (.int p2), .val (.int p3), .val (.int p4), .val (.int cl), .val (.ref oGLOBAL), .val (.int fb), .val (.ref b86), .unset, .unset, .unset, .unset, .unset, .unset, .unset] []) t → Steps p.tables e below SE t := by
        intro t k
        refine K93 _ ?_
        refine XS.ifNo X92.here hx rfl (hb hby at_77) rfl (XT.i0_ne_f c77) ?_
        exact k
      obtain ⟨b95, T95, h95, k1_95, X95, e95, E95, hS, hk, hZ, hown, st95⟩ := ldcS X92 hx hZ hown (hw _ (List.mem_of_getElem? (i := 4) rfl)) (own_wS hw) e92 hS (Nat.le_trans (Nat.le_trans (Nat.le_trans hk E86.1) (Nat.le_of_eq W89.size.symm)) (Nat.le_of_eq W92.size.symm)) (g := (mkF m 80 #[.val (.int p0), .val (.long q1), .second, .val (.int p2), .val (.int p3), .val (.int p4), .val (.int cl), .val (.ref oGLOBAL), .val (.int fb), .val (.ref b86), .unset, .unset, .unset, .unset, .unset, .unset, .unset] [])) rfl (hb hby at_80) (n := 0) (by decide +kernel) (by decide) (by decide) (by decide)
      have Kp95 : Keep h0 h95 [] := Keep.ext Kp92 E95
      have K95 : ∀ t, own_S p e below T95 (mkF m 82 #[.val (.int p0), .val (.long q1), .second, .val (.int p2), .val (.int p3), .val (.int p4), .val (.int cl), .val (.ref oGLOBAL), .val (.int fb), .val (.ref b86), .unset, .unset, .unset, .unset, .unset, .unset, .unset] [(.ref b95)]) t → Steps p.tables e below SE t := fun t k => K94 _ (st95 _ k)
      have K96 : ∀ t, own_S p e below T95 (mkF m 101 #[.val (.int p0), .val (.long q1), .second, .val (.int p2), .val (.int p3), .val (.int p4), .val (.int cl), .val (.ref oGLOBAL), .val (.int fb), .val (.ref b86), .val (.ref b95), .unset, .unset, .unset, .unset, .unset, .unset] [(.double (FP.i2d (p2 &&& (1048575 : Int32))))]) t → Steps p.tables e below SE t := by
        intro t k
        refine K95 _ ?_
        refine XS.goto X95.here hx rfl (pc0 := 82) (pc' := 94) rfl (hb hby at_82) (by decide) (by decide) ?_
        show own_S p e below T95 (mkF m 94 #[.val (.int p0), .val (.long q1), .second, .val (.int p2), .val (.int p3), .val (.int p4), .val (.int cl), .val (.ref oGLOBAL), .val (.int fb), .val (.ref b86), .unset, .unset, .unset, .unset, .unset, .unset, .unset] [(.ref b95)]) _
        refine XS.astore X95.here hx rfl (hb hby at_94) rfl rfl (l' := #[.val (.int p0), .val (.long q1), .second, .val (.int p2), .val (.int p3), .val (.int p4), .val (.int cl), .val (.ref oGLOBAL), .val (.int fb), .val (.ref b86), .val (.ref b95), .unset, .unset, .unset, .unset, .unset, .unset]) rfl ?_
        show own_S p e below T95 (mkF m 96 #[.val (.int p0), .val (.long q1), .second, .val (.int p2), .val (.int p3), .val (.int p4), .val (.int cl), .val (.ref oGLOBAL), .val (.int fb), .val (.ref b86), .val (.ref b95), .unset, .unset, .unset, .unset, .unset, .unset] []) _
        refine XS.iloadN X95.here hx rfl (hb hby at_96) rfl ?_
        show own_S p e below T95 (mkF m 97 #[.val (.int p0), .val (.long q1), .second, .val (.int p2), .val (.int p3), .val (.int p4), .val (.int cl), .val (.ref oGLOBAL), .val (.int fb), .val (.ref b86), .val (.ref b95), .unset, .unset, .unset, .unset, .unset, .unset] [(.int p2)]) _
        refine Stand.ldcI X95 hx hown (mvT hZ (hw _ (List.mem_of_getElem? (i := 12) rfl))) (v := (1048575 : Int32)) (g := (mkF m 97 #[.val (.int p0), .val (.long q1), .second, .val (.int p2), .val (.int p3), .val (.int p4), .val (.int cl), .val (.ref oGLOBAL), .val (.int fb), .val (.ref b86), .val (.ref b95), .unset, .unset, .unset, .unset, .unset, .unset] [(.int p2)])) rfl (hb hby at_97) ?_
        show own_S p e below T95 (mkF m 99 #[.val (.int p0), .val (.long q1), .second, .val (.int p2), .val (.int p3), .val (.int p4), .val (.int cl), .val (.ref oGLOBAL), .val (.int fb), .val (.ref b86), .val (.ref b95), .unset, .unset, .unset, .unset, .unset, .unset] [(.int (1048575 : Int32)), (.int p2)]) _
        refine XS.iand X95.here hx rfl (hb hby at_99) rfl ?_
        show Steps p.tables e below (T95.setTop (mkF m 100 #[.val (.int p0), .val (.long q1), .second, .val (.int p2), .val (.int p3), .val (.int p4), .val (.int cl), .val (.ref oGLOBAL), .val (.int fb), .val (.ref b86), .val (.ref b95), .unset, .unset, .unset, .unset, .unset, .unset] [(.int (p2 &&& (1048575 : Int32)))])) _
        jvm_step X95.here [X95.here.top, hx, (hb hby at_100), i2d.wp_sem]
        exact k
      obtain ⟨dv, hdv⟩ : ∃ z : UInt64, z = (FP.i2d (p2 &&& (1048575 : Int32))) := ⟨_, rfl⟩
      rw [← hdv] at K96
      have K97 : ∀ t, own_S p e below T95 (mkF m 109 #[.val (.int p0), .val (.long q1), .second, .val (.int p2), .val (.int p3), .val (.int p4), .val (.int cl), .val (.ref oGLOBAL), .val (.int fb), .val (.ref b86), .val (.ref b95), .val (.double dv), .second, .unset, .unset, .unset, .unset] [(.long (q1 &&& (9223372036854775807 : Int64))), (.long (1 : Int64))]) t → Steps p.tables e below SE t := by
        intro t k
        refine K96 _ ?_
        refine XS.dstore X95.here hx rfl (hb hby at_101) rfl (l' := #[.val (.int p0), .val (.long q1), .second, .val (.int p2), .val (.int p3), .val (.int p4), .val (.int cl), .val (.ref oGLOBAL), .val (.int fb), .val (.ref b86), .val (.ref b95), .val (.double dv), .second, .unset, .unset, .unset, .unset]) rfl ?_
        show own_S p e below T95 (mkF m 103 #[.val (.int p0), .val (.long q1), .second, .val (.int p2), .val (.int p3), .val (.int p4), .val (.int cl), .val (.ref oGLOBAL), .val (.int fb), .val (.ref b86), .val (.ref b95), .val (.double dv), .second, .unset, .unset, .unset, .unset] []) _
        refine XS.lconst X95.here hx rfl (hb hby at_103) ?_
        show own_S p e below T95 (mkF m 104 #[.val (.int p0), .val (.long q1), .second, .val (.int p2), .val (.int p3), .val (.int p4), .val (.int cl), .val (.ref oGLOBAL), .val (.int fb), .val (.ref b86), .val (.ref b95), .val (.double dv), .second, .unset, .unset, .unset, .unset] [(.long (1 : Int64))]) _
        refine XS.lloadN X95.here hx rfl (hb hby at_104) rfl ?_
        show own_S p e below T95 (mkF m 105 #[.val (.int p0), .val (.long q1), .second, .val (.int p2), .val (.int p3), .val (.int p4), .val (.int cl), .val (.ref oGLOBAL), .val (.int fb), .val (.ref b86), .val (.ref b95), .val (.double dv), .second, .unset, .unset, .unset, .unset] [(.long q1), (.long (1 : Int64))]) _
        refine Stand.ldc2J X95 hx hown (mvT hZ (hw _ (List.mem_of_getElem? (i := 13) rfl))) (v := (9223372036854775807 : Int64)) (g := (mkF m 105 #[.val (.int p0), .val (.long q1), .second, .val (.int p2), .val (.int p3), .val (.int p4), .val (.int cl), .val (.ref oGLOBAL), .val (.int fb), .val (.ref b86), .val (.ref b95), .val (.double dv), .second, .unset, .unset, .unset, .unset] [(.long q1), (.long (1 : Int64))])) rfl (hb hby at_105) ?_
        show own_S p e below T95 (mkF m 108 #[.val (.int p0), .val (.long q1), .second, .val (.int p2), .val (.int p3), .val (.int p4), .val (.int cl), .val (.ref oGLOBAL), .val (.int fb), .val (.ref b86), .val (.ref b95), .val (.double dv), .second, .unset, .unset, .unset, .unset] [(.long (9223372036854775807 : Int64)), (.long q1), (.long (1 : Int64))]) _
        refine XS.land X95.here hx rfl (hb hby at_108) rfl ?_
        exact k
      obtain ⟨_, _, ⟨T98, L98, k98, n98⟩, -, X98, ⟨Lc98, hQ98, l98, y98, z98⟩, st98⟩ := Jvm.LawKit.callS X95 hx (y := (⟨"java/lang/Math", "max", "(JJ)J"⟩ : MethodName)) hown (mvT hZ (hw _ (List.mem_of_getElem? (i := 14) rfl))) (mvT hZ (hw _ (List.mem_of_getElem? (i := 15) rfl))) (mvT hZ (hw _ (List.mem_of_getElem? (i := 16) rfl))) (mvT hZ (hw _ (List.mem_of_getElem? (i := 17) rfl))) (by decide) (backOf (W := 0) (rm1 l Z a0 hw [] (1 : Int64) (q1 &&& (9223372036854775807 : Int64)) h95 n0 (Nat.le_trans Z0 Kp95.1)) hZ (hw _ (List.mem_of_getElem? (i := 17) rfl)) (hw _ (List.mem_of_getElem? (i := 16) rfl)) (by decide) (by decide)) (g := (mkF m 109 #[.val (.int p0), .val (.long q1), .second, .val (.int p2), .val (.int p3), .val (.int p4), .val (.int cl), .val (.ref oGLOBAL), .val (.int fb), .val (.ref b86), .val (.ref b95), .val (.double dv), .second, .unset, .unset, .unset, .unset] [(.long (q1 &&& (9223372036854775807 : Int64))), (.long (1 : Int64))])) rfl (by rw [hml]; rfl) (argsL := [(.long (1 : Int64)), (.long (q1 &&& (9223372036854775807 : Int64)))]) (rest := []) (lenOf pd_0_0 rfl) rfl (by show 2 * 0 + _ ≤ _; exact Nat.le_of_eq rfl) (hb hby at_109) (fun _ _ => ⟨rfl, e95, (by decide : 3 + 0 ≤ _), (by decide : 6 + 0 ≤ _)⟩)
      dsimp only [Pt.U, Pt.locs, Pt.cells, Pt.slots] at X98 l98 y98 z98 st98 hQ98
      subst l98 y98 z98
      obtain ⟨rfl, Nq98, e98⟩ := hQ98
      have N98 := Fr.app N92 Nq98
      have K98 : ∀ t, own_S p e below T98 (mkF m 112 #[.val (.int p0), .val (.long q1), .second, .val (.int p2), .val (.int p3), .val (.int p4), .val (.int cl), .val (.ref oGLOBAL), .val (.int fb), .val (.ref b86), .val (.ref b95), .val (.double dv), .second, .unset, .unset, .unset, .unset] [(.long (if (1 : Int64) < (q1 &&& (9223372036854775807 : Int64)) then (q1 &&& (9223372036854775807 : Int64)) else (1 : Int64)))]) t → Steps p.tables e below SE t := fun t k => K97 _ (st98 _ k)
      obtain ⟨idv, hidv⟩ : ∃ z : Int64, z = (if (1 : Int64) < (q1 &&& (9223372036854775807 : Int64)) then (q1 &&& (9223372036854775807 : Int64)) else (1 : Int64)) := ⟨_, rfl⟩
      rw [← hidv] at K98
      have K99 : ∀ t, own_S p e below T98 (mkF m 116 #[.val (.int p0), .val (.long q1), .second, .val (.int p2), .val (.int p3), .val (.int p4), .val (.int cl), .val (.ref oGLOBAL), .val (.int fb), .val (.ref b86), .val (.ref b95), .val (.double dv), .second, .val (.long idv), .second, .unset, .unset] [(.int cl)]) t → Steps p.tables e below SE t := by
        intro t k
        refine K98 _ ?_
        refine XS.lstore X98.here hx rfl (hb hby at_112) rfl (l' := #[.val (.int p0), .val (.long q1), .second, .val (.int p2), .val (.int p3), .val (.int p4), .val (.int cl), .val (.ref oGLOBAL), .val (.int fb), .val (.ref b86), .val (.ref b95), .val (.double dv), .second, .val (.long idv), .second, .unset, .unset]) rfl ?_
        show own_S p e below T98 (mkF m 114 #[.val (.int p0), .val (.long q1), .second, .val (.int p2), .val (.int p3), .val (.int p4), .val (.int cl), .val (.ref oGLOBAL), .val (.int fb), .val (.ref b86), .val (.ref b95), .val (.double dv), .second, .val (.long idv), .second, .unset, .unset] []) _
        refine XS.iload X98.here hx rfl (hb hby at_114) rfl ?_
        exact k
      by_cases c116 : cl = 0
      · skip
        have K100 : ∀ t, own_S p e below T98 (mkF m 138 #[.val (.int p0), .val (.long q1), .second, .val (.int p2), .val (.int p3), .val (.int p4), .val (.int cl), .val (.ref oGLOBAL), .val (.int fb), .val (.ref b86), .val (.ref b95), .val (.double dv), .second, .val (.long idv), .second, .val .null, .unset] []) t → Steps p.tables e below SE t := by
          intro t k
          refine K99 _ ?_
          refine XS.ifYes X98.here hx rfl (pc0 := 116) (pc' := 135) rfl (hb hby at_116) rfl (XT.i0_eq_t c116) (by decide) (by decide) ?_
          show own_S p e below T98 (mkF m 135 #[.val (.int p0), .val (.long q1), .second, .val (.int p2), .val (.int p3), .val (.int p4), .val (.int cl), .val (.ref oGLOBAL), .val (.int fb), .val (.ref b86), .val (.ref b95), .val (.double dv), .second, .val (.long idv), .second, .unset, .unset] []) _
          refine XS.aconstNull X98.here hx rfl (hb hby at_135) ?_
          show own_S p e below T98 (mkF m 136 #[.val (.int p0), .val (.long q1), .second, .val (.int p2), .val (.int p3), .val (.int p4), .val (.int cl), .val (.ref oGLOBAL), .val (.int fb), .val (.ref b86), .val (.ref b95), .val (.double dv), .second, .val (.long idv), .second, .unset, .unset] [.null]) _
          refine XS.astore X98.here hx rfl (hb hby at_136) rfl rfl (l' := #[.val (.int p0), .val (.long q1), .second, .val (.int p2), .val (.int p3), .val (.int p4), .val (.int cl), .val (.ref oGLOBAL), .val (.int fb), .val (.ref b86), .val (.ref b95), .val (.double dv), .second, .val (.long idv), .second, .val .null, .unset]) rfl ?_
          exact k
        obtain ⟨T101, h101, X101, e101, E101, A101, D101, -, st101⟩ := newO X98 hx hZ hown (hw _ (List.mem_of_getElem? (i := 18) rfl)) (hw _ (List.mem_of_getElem? (i := 19) rfl)) (hw _ (List.mem_of_getElem? (i := 20) rfl)) e98 (g := (mkF m 138 #[.val (.int p0), .val (.long q1), .second, .val (.int p2), .val (.int p3), .val (.int p4), .val (.int cl), .val (.ref oGLOBAL), .val (.int fb), .val (.ref b86), .val (.ref b95), .val (.double dv), .second, .val (.long idv), .second, .val .null, .unset] [])) rfl (hb hby at_138) (by decide) (by decide)
        obtain ⟨b101, g101⟩ : ∃ z, z = h95.size := ⟨_, rfl⟩
        rw [← g101] at A101 D101 st101
        have g_b101 : n0 ≤ b101 := Nat.le_trans (Nat.le_trans Z0 Kp95.1) (Nat.le_of_eq g101.symm)
        have sz_b101 : h0.size ≤ b101 := Nat.le_trans Kp95.1 (Nat.le_of_eq g101.symm)
        have own_ne_b86_b101 : b86 ≠ b101 := Nat.ne_of_lt (Nat.lt_of_lt_of_le (V92.ext E95).lt (Nat.le_of_eq g101.symm))
        have own_ne_oGLOBAL_b101 : oGLOBAL ≠ b101 := Nat.ne_of_lt (Nat.lt_of_lt_of_le (EX_oGLOBAL.ext (own_ext Kp95)).lt (Nat.le_of_eq g101.symm))
        have own_ne_oAVERAGE_b101 : oAVERAGE ≠ b101 := Nat.ne_of_lt (Nat.lt_of_lt_of_le (EX_oAVERAGE.ext (own_ext Kp95)).lt (Nat.le_of_eq g101.symm))
        have Kp101 : Keep h0 h101 [] := Keep.ext Kp95 E101
        have F_resource_b101 : Fld Z h101 b101 "com/example/aswan/aswan/rule/FlowRule" "resource" "Ljava/lang/String;" .null := D101 (Or.inr (hw _ (List.mem_of_getElem? (i := 28) rfl))) (ty := (.object "java/lang/String")) (by decide)
        have F_count_b101 : Fld Z h101 b101 "com/example/aswan/aswan/rule/FlowRule" "count" "D" (.double (0 : UInt64)) := D101 (Or.inr (hw _ (List.mem_of_getElem? (i := 30) rfl))) (ty := .double) (by decide)
        have F_clusterConfig_b101 : Fld Z h101 b101 "com/example/aswan/aswan/rule/FlowRule" "clusterConfig" "Lcom/example/aswan/aswan/rule/ClusterConfig;" .null := D101 (Or.inr (hw _ (List.mem_of_getElem? (i := 32) rfl))) (ty := (.object "com/example/aswan/aswan/rule/ClusterConfig")) (by decide)
        have K101 : ∀ t, own_S p e below T101 (mkF m 141 #[.val (.int p0), .val (.long q1), .second, .val (.int p2), .val (.int p3), .val (.int p4), .val (.int cl), .val (.ref oGLOBAL), .val (.int fb), .val (.ref b86), .val (.ref b95), .val (.double dv), .second, .val (.long idv), .second, .val .null, .unset] [(.ref b101)]) t → Steps p.tables e below SE t := fun t k => K100 _ (st101 _ k)
        have K102 : ∀ t, own_S p e below T101 (mkF m 148 #[.val (.int p0), .val (.long q1), .second, .val (.int p2), .val (.int p3), .val (.int p4), .val (.int cl), .val (.ref oGLOBAL), .val (.int fb), .val (.ref b86), .val (.ref b95), .val (.double dv), .second, .val (.long idv), .second, .val .null, .unset] [.null, (.double dv), (.ref b95), (.ref b101), (.ref b101)]) t → Steps p.tables e below SE t := by
          intro t k
          refine K101 _ ?_
          refine XS.dup X101.here hx rfl (hb hby at_141) rfl rfl ?_
          show own_S p e below T101 (mkF m 142 #[.val (.int p0), .val (.long q1), .second, .val (.int p2), .val (.int p3), .val (.int p4), .val (.int cl), .val (.ref oGLOBAL), .val (.int fb), .val (.ref b86), .val (.ref b95), .val (.double dv), .second, .val (.long idv), .second, .val .null, .unset] [(.ref b101), (.ref b101)]) _
          refine XS.aload X101.here hx rfl (hb hby at_142) rfl rfl ?_
          show own_S p e below T101 (mkF m 144 #[.val (.int p0), .val (.long q1), .second, .val (.int p2), .val (.int p3), .val (.int p4), .val (.int cl), .val (.ref oGLOBAL), .val (.int fb), .val (.ref b86), .val (.ref b95), .val (.double dv), .second, .val (.long idv), .second, .val .null, .unset] [(.ref b95), (.ref b101), (.ref b101)]) _
          refine XS.dload X101.here hx rfl (hb hby at_144) rfl ?_
          show own_S p e below T101 (mkF m 146 #[.val (.int p0), .val (.long q1), .second, .val (.int p2), .val (.int p3), .val (.int p4), .val (.int cl), .val (.ref oGLOBAL), .val (.int fb), .val (.ref b86), .val (.ref b95), .val (.double dv), .second, .val (.long idv), .second, .val .null, .unset] [(.double dv), (.ref b95), (.ref b101), (.ref b101)]) _
          refine XS.aload X101.here hx rfl (hb hby at_146) rfl rfl ?_
          exact k
        obtain ⟨_, _, ⟨T103, L103, k103, n103⟩, -, X103, ⟨Lc103, hQ103, l103, y103, z103⟩, st103⟩ := X101.specialBack hx (y := (⟨"com/example/aswan/aswan/rule/FlowRule", "<init>", "(Ljava/lang/String;DLcom/example/aswan/aswan/rule/ClusterConfig;)V"⟩ : MethodName)) rfl hown (mvT hZ (hw _ (List.mem_of_getElem? (i := 21) rfl))) (mvT hZ (hw _ (List.mem_of_getElem? (i := 22) rfl))) (mvT hZ (hw _ (List.mem_of_getElem? (i := 23) rfl))) (by decide) (backOf (W := 1) (rmfrn l Z a0 hw [] b101 b95 dv h101 n0 (Nat.le_trans Z0 Kp101.1) A101 F_resource_b101 F_count_b101 F_clusterConfig_b101 g_b101) hZ (hw _ (List.mem_of_getElem? (i := 23) rfl)) (hw _ (List.mem_of_getElem? (i := 20) rfl)) (by decide) (by decide)) (g := (mkF m 148 #[.val (.int p0), .val (.long q1), .second, .val (.int p2), .val (.int p3), .val (.int p4), .val (.int cl), .val (.ref oGLOBAL), .val (.int fb), .val (.ref b86), .val (.ref b95), .val (.double dv), .second, .val (.long idv), .second, .val .null, .unset] [.null, (.double dv), (.ref b95), (.ref b101), (.ref b101)])) rfl (by rw [hml]; rfl) (Steps.refl _) (a := b101) (argsL := [(.ref b95), (.double dv), .null]) (rest := [(.ref b101)]) (lenOf pd_0_1 rfl) rfl (by show 2 * 0 + _ ≤ _; exact Nat.le_of_eq rfl) (hb hby at_148) (fun _ _ => ⟨rfl, e101, (by decide : 4 + 0 ≤ _), (by decide : 9 + 0 ≤ _)⟩)
        dsimp only [Pt.U, Pt.locs, Pt.cells, Pt.slots] at X103 l103 y103 z103 st103 hQ103
        subst l103 y103 z103
        obtain ⟨rfl, Nq103, Kq103, Ex103, Fa103, Fb103, Fc103⟩ := hQ103
        have N103 := Fr.app N98 Nq103
        have Kp103 : Keep h0 T103.heap [] := Keep.trans Kp101 Kq103 (allS (Or.inr sz_b101) all0)
        have K103 : ∀ t, own_S p e below T103 (mkF m 151 #[.val (.int p0), .val (.long q1), .second, .val (.int p2), .val (.int p3), .val (.int p4), .val (.int cl), .val (.ref oGLOBAL), .val (.int fb), .val (.ref b86), .val (.ref b95), .val (.double dv), .second, .val (.long idv), .second, .val .null, .unset] [(.ref b101)]) t → Steps p.tables e below SE t := fun t k => K102 _ (st103.trans k)
        have K104 : ∀ t, own_S p e below T103 (mkF m 155 #[.val (.int p0), .val (.long q1), .second, .val (.int p2), .val (.int p3), .val (.int p4), .val (.int cl), .val (.ref oGLOBAL), .val (.int fb), .val (.ref b86), .val (.ref b95), .val (.double dv), .second, .val (.long idv), .second, .val .null, .val (.ref b101)] [(.ref b101)]) t → Steps p.tables e below SE t := by
          intro t k
          refine K103 _ ?_
          refine XS.astore X103.here hx rfl (hb hby at_151) rfl rfl (l' := #[.val (.int p0), .val (.long q1), .second, .val (.int p2), .val (.int p3), .val (.int p4), .val (.int cl), .val (.ref oGLOBAL), .val (.int fb), .val (.ref b86), .val (.ref b95), .val (.double dv), .second, .val (.long idv), .second, .val .null, .val (.ref b101)]) rfl ?_
          show own_S p e below T103 (mkF m 153 #[.val (.int p0), .val (.long q1), .second, .val (.int p2), .val (.int p3), .val (.int p4), .val (.int cl), .val (.ref oGLOBAL), .val (.int fb), .val (.ref b86), .val (.ref b95), .val (.double dv), .second, .val (.long idv), .second, .val .null, .val (.ref b101)] []) _
          refine XS.aload X103.here hx rfl (hb hby at_153) rfl rfl ?_
          exact k
        obtain ⟨cq105, kq105, q105a, q105b, q105c⟩ := isOf hZ rfl Ex103
        obtain ⟨_, _, ⟨T105, L105, k105, n105⟩, -, X105, ⟨Lc105, hQ105, l105, y105, z105⟩, st105⟩ := X103.virtualBack hx (y := (⟨"com/example/aswan/aswan/rule/FlowRule", "isClusterMode", "()Z"⟩ : MethodName)) (z := (⟨"com/example/aswan/aswan/rule/FlowRule", "isClusterMode", "()Z"⟩ : MethodName)) hown (mvT hZ (hw _ (List.mem_of_getElem? (i := 33) rfl))) (mvT hZ (hw _ (List.mem_of_getElem? (i := 34) rfl))) (notFace_of_selects (args := #[]) (mvT hZ (hw _ (List.mem_of_getElem? (i := 36) rfl)))) (mvT hZ (hw _ (List.mem_of_getElem? (i := 36) rfl))) (mvT hZ (hw _ (List.mem_of_getElem? (i := 35) rfl))) (by decide) (backOf (W := 0) (rmis0 l Z a0 hw [] b101  T103.heap n0 (Nat.le_trans Z0 Kp103.1) Fc103) hZ (hw _ (List.mem_of_getElem? (i := 37) rfl)) (hw _ (List.mem_of_getElem? (i := 20) rfl)) (by decide) (by decide)) q105a q105c (g := (mkF m 155 #[.val (.int p0), .val (.long q1), .second, .val (.int p2), .val (.int p3), .val (.int p4), .val (.int cl), .val (.ref oGLOBAL), .val (.int fb), .val (.ref b86), .val (.ref b95), .val (.double dv), .second, .val (.long idv), .second, .val .null, .val (.ref b101)] [(.ref b101)])) rfl (by rw [hml]; rfl) (Steps.refl _) (argsL := []) (rest := []) (lenOf pd_0_2 rfl) rfl (by show 2 * 0 + _ ≤ _; exact Nat.le_of_eq rfl) (hb hby at_155) (fun _ _ => ⟨rfl, rfl, (by decide : 4 + 0 ≤ _), (by decide : 9 + 0 ≤ _)⟩)
        dsimp only [Pt.U, Pt.locs, Pt.cells, Pt.slots] at X105 l105 y105 z105 st105 hQ105
        subst l105 y105 z105
        obtain ⟨rfl, Nq105, e105⟩ := hQ105
        have N105 := Fr.app N103 Nq105
        have K105 : ∀ t, own_S p e below T105 (mkF m 158 #[.val (.int p0), .val (.long q1), .second, .val (.int p2), .val (.int p3), .val (.int p4), .val (.int cl), .val (.ref oGLOBAL), .val (.int fb), .val (.ref b86), .val (.ref b95), .val (.double dv), .second, .val (.long idv), .second, .val .null, .val (.ref b101)] [(.int (0 : Int32))]) t → Steps p.tables e below SE t := fun t k => K104 _ (st105.trans k)
        have K106 : ∀ t, own_S p e below T105 (mkF m 168 #[.val (.int p0), .val (.long q1), .second, .val (.int p2), .val (.int p3), .val (.int p4), .val (.int cl), .val (.ref oGLOBAL), .val (.int fb), .val (.ref b86), .val (.ref b95), .val (.double dv), .second, .val (.long idv), .second, .val .null, .val (.ref b101)] [(.int (1 : Int32))]) t → Steps p.tables e below SE t := by
          intro t k
          refine K105 _ ?_
          refine XS.iload X105.here hx rfl (hb hby at_158) rfl ?_
          show own_S p e below T105 (mkF m 160 #[.val (.int p0), .val (.long q1), .second, .val (.int p2), .val (.int p3), .val (.int p4), .val (.int cl), .val (.ref oGLOBAL), .val (.int fb), .val (.ref b86), .val (.ref b95), .val (.double dv), .second, .val (.long idv), .second, .val .null, .val (.ref b101)] [(.int cl), (.int (0 : Int32))]) _
          refine XS.icmpNo X105.here hx rfl (hb hby at_160) rfl (XT.ii_ne_f (c116.symm)) ?_
          show own_S p e below T105 (mkF m 163 #[.val (.int p0), .val (.long q1), .second, .val (.int p2), .val (.int p3), .val (.int p4), .val (.int cl), .val (.ref oGLOBAL), .val (.int fb), .val (.ref b86), .val (.ref b95), .val (.double dv), .second, .val (.long idv), .second, .val .null, .val (.ref b101)] []) _
          refine XS.iconst X105.here hx rfl (hb hby at_163) ?_
          show own_S p e below T105 (mkF m 164 #[.val (.int p0), .val (.long q1), .second, .val (.int p2), .val (.int p3), .val (.int p4), .val (.int cl), .val (.ref oGLOBAL), .val (.int fb), .val (.ref b86), .val (.ref b95), .val (.double dv), .second, .val (.long idv), .second, .val .null, .val (.ref b101)] [(.int (1 : Int32))]) _
          refine XS.goto X105.here hx rfl (pc0 := 164) (pc' := 168) rfl (hb hby at_164) (by decide) (by decide) ?_
          exact k
        obtain ⟨fs, hr, hrun, hended, hRW⟩ := X105.leaveW hS (by rw [e105]; exact (Nat.le_trans (Nat.le_trans hk E101.1) Kq103.1)) (v := some (.int (1 : Int32))) (fun h => by rw [Bd.returns] at h; cases h)
        refine ⟨_, _, K106 _ ?_, hrun, hended, _, _, rfl, ?_, hRW.1, hRW.2.1, hRW.2.2.1, hRW.2.2.2.mono (by decide) (by decide)⟩
        · exact retN X105 hx (t := .boolean) Bd.returns (by simp) (hb hby at_168) hr
        · show Q0 Z p0 q1 p2 p3 p4 oAVERAGE oGLOBAL G h0 n0 _ T105.heap _
          rw [e105]
          exact ⟨rfl, N105⟩
      · skip
        have hcl1 : (1 : Int32) = cl := by
          rw [hcl] at c116 ⊢
          by_cases w : (p0 &&& (1 : Int32)) = 0
          · rw [if_pos w] at c116; exact absurd rfl c116
          · rw [if_neg w]
        have K107 : ∀ t, own_S p e below T98 (mkF m 119 #[.val (.int p0), .val (.long q1), .second, .val (.int p2), .val (.int p3), .val (.int p4), .val (.int cl), .val (.ref oGLOBAL), .val (.int fb), .val (.ref b86), .val (.ref b95), .val (.double dv), .second, .val (.long idv), .second, .unset, .unset] []) t → Steps p.tables e below SE t := by
          intro t k
          refine K99 _ ?_
          refine XS.ifNo X98.here hx rfl (hb hby at_116) rfl (XT.i0_eq_f c116) ?_
          exact k
        obtain ⟨T108, h108, X108, e108, E108, A108, D108, -, st108⟩ := newO X98 hx hZ hown (hw _ (List.mem_of_getElem? (i := 60) rfl)) (hw _ (List.mem_of_getElem? (i := 61) rfl)) (hw _ (List.mem_of_getElem? (i := 62) rfl)) e98 (g := (mkF m 119 #[.val (.int p0), .val (.long q1), .second, .val (.int p2), .val (.int p3), .val (.int p4), .val (.int cl), .val (.ref oGLOBAL), .val (.int fb), .val (.ref b86), .val (.ref b95), .val (.double dv), .second, .val (.long idv), .second, .unset, .unset] [])) rfl (hb hby at_119) (by decide) (by decide)
        obtain ⟨b108, g108⟩ : ∃ z, z = h95.size := ⟨_, rfl⟩
        rw [← g108] at A108 D108 st108
        have g_b108 : n0 ≤ b108 := Nat.le_trans (Nat.le_trans Z0 Kp95.1) (Nat.le_of_eq g108.symm)
        have sz_b108 : h0.size ≤ b108 := Nat.le_trans Kp95.1 (Nat.le_of_eq g108.symm)
        have own_ne_b86_b108 : b86 ≠ b108 := Nat.ne_of_lt (Nat.lt_of_lt_of_le (V92.ext E95).lt (Nat.le_of_eq g108.symm))
        have own_ne_oGLOBAL_b108 : oGLOBAL ≠ b108 := Nat.ne_of_lt (Nat.lt_of_lt_of_le (EX_oGLOBAL.ext (own_ext Kp95)).lt (Nat.le_of_eq g108.symm))
        have own_ne_oAVERAGE_b108 : oAVERAGE ≠ b108 := Nat.ne_of_lt (Nat.lt_of_lt_of_le (EX_oAVERAGE.ext (own_ext Kp95)).lt (Nat.le_of_eq g108.symm))
        have Kp108 : Keep h0 h108 [] := Keep.ext Kp95 E108
        have F_flowId_b108 : Fld Z h108 b108 "com/example/aswan/aswan/rule/ClusterConfig" "flowId" "J" (.long (0 : Int64)) := D108 (Or.inr (hw _ (List.mem_of_getElem? (i := 68) rfl))) (ty := .long) (by decide)
        have F_thresholdType_b108 : Fld Z h108 b108 "com/example/aswan/aswan/rule/ClusterConfig" "thresholdType" "Lcom/example/aswan/aswan/rule/ThresholdType;" .null := D108 (Or.inr (hw _ (List.mem_of_getElem? (i := 70) rfl))) (ty := (.object "com/example/aswan/aswan/rule/ThresholdType")) (by decide)
        have F_fallbackToLocalWhenFail_b108 : Fld Z h108 b108 "com/example/aswan/aswan/rule/ClusterConfig" "fallbackToLocalWhenFail" "Z" (.int (0 : Int32)) := D108 (Or.inr (hw _ (List.mem_of_getElem? (i := 72) rfl))) (ty := .boolean) (by decide)
        have K108 : ∀ t, own_S p e below T108 (mkF m 122 #[.val (.int p0), .val (.long q1), .second, .val (.int p2), .val (.int p3), .val (.int p4), .val (.int cl), .val (.ref oGLOBAL), .val (.int fb), .val (.ref b86), .val (.ref b95), .val (.double dv), .second, .val (.long idv), .second, .unset, .unset] [(.ref b108)]) t → Steps p.tables e below SE t := fun t k => K107 _ (st108 _ k)
        have K109 : ∀ t, own_S p e below T108 (mkF m 129 #[.val (.int p0), .val (.long q1), .second, .val (.int p2), .val (.int p3), .val (.int p4), .val (.int cl), .val (.ref oGLOBAL), .val (.int fb), .val (.ref b86), .val (.ref b95), .val (.double dv), .second, .val (.long idv), .second, .unset, .unset] [(.int fb), (.ref oGLOBAL), (.long idv), (.ref b108), (.ref b108)]) t → Steps p.tables e below SE t := by
          intro t k
          refine K108 _ ?_
          refine XS.dup X108.here hx rfl (hb hby at_122) rfl rfl ?_
          show own_S p e below T108 (mkF m 123 #[.val (.int p0), .val (.long q1), .second, .val (.int p2), .val (.int p3), .val (.int p4), .val (.int cl), .val (.ref oGLOBAL), .val (.int fb), .val (.ref b86), .val (.ref b95), .val (.double dv), .second, .val (.long idv), .second, .unset, .unset] [(.ref b108), (.ref b108)]) _
          refine XS.lload X108.here hx rfl (hb hby at_123) rfl ?_
          show own_S p e below T108 (mkF m 125 #[.val (.int p0), .val (.long q1), .second, .val (.int p2), .val (.int p3), .val (.int p4), .val (.int cl), .val (.ref oGLOBAL), .val (.int fb), .val (.ref b86), .val (.ref b95), .val (.double dv), .second, .val (.long idv), .second, .unset, .unset] [(.long idv), (.ref b108), (.ref b108)]) _
          refine XS.aload X108.here hx rfl (hb hby at_125) rfl rfl ?_
          show own_S p e below T108 (mkF m 127 #[.val (.int p0), .val (.long q1), .second, .val (.int p2), .val (.int p3), .val (.int p4), .val (.int cl), .val (.ref oGLOBAL), .val (.int fb), .val (.ref b86), .val (.ref b95), .val (.double dv), .second, .val (.long idv), .second, .unset, .unset] [(.ref oGLOBAL), (.long idv), (.ref b108), (.ref b108)]) _
          refine XS.iload X108.here hx rfl (hb hby at_127) rfl ?_
          exact k
        obtain ⟨_, _, ⟨T110, L110, k110, n110⟩, -, X110, ⟨Lc110, hQ110, l110, y110, z110⟩, st110⟩ := X108.specialBack hx (y := (⟨"com/example/aswan/aswan/rule/ClusterConfig", "<init>", "(JLcom/example/aswan/aswan/rule/ThresholdType;Z)V"⟩ : MethodName)) rfl hown (mvT hZ (hw _ (List.mem_of_getElem? (i := 63) rfl))) (mvT hZ (hw _ (List.mem_of_getElem? (i := 64) rfl))) (mvT hZ (hw _ (List.mem_of_getElem? (i := 65) rfl))) (by decide) (backOf (W := 1) (rmcc l Z a0 hw [] b108 idv oGLOBAL fb h108 n0 (Nat.le_trans Z0 Kp108.1) A108 F_flowId_b108 F_thresholdType_b108 F_fallbackToLocalWhenFail_b108 g_b108) hZ (hw _ (List.mem_of_getElem? (i := 65) rfl)) (hw _ (List.mem_of_getElem? (i := 62) rfl)) (by decide) (by decide)) (g := (mkF m 129 #[.val (.int p0), .val (.long q1), .second, .val (.int p2), .val (.int p3), .val (.int p4), .val (.int cl), .val (.ref oGLOBAL), .val (.int fb), .val (.ref b86), .val (.ref b95), .val (.double dv), .second, .val (.long idv), .second, .unset, .unset] [(.int fb), (.ref oGLOBAL), (.long idv), (.ref b108), (.ref b108)])) rfl (by rw [hml]; rfl) (Steps.refl _) (a := b108) (argsL := [(.long idv), (.ref oGLOBAL), (.int fb)]) (rest := [(.ref b108)]) (lenOf pd_0_3 rfl) rfl (by show 2 * 0 + _ ≤ _; exact Nat.le_of_eq rfl) (hb hby at_129) (fun _ _ => ⟨rfl, e108, (by decide : 4 + 0 ≤ _), (by decide : 9 + 0 ≤ _)⟩)
        dsimp only [Pt.U, Pt.locs, Pt.cells, Pt.slots] at X110 l110 y110 z110 st110 hQ110
        subst l110 y110 z110
        obtain ⟨rfl, Nq110, Kq110, Ex110, Fa110, Fb110, Fc110⟩ := hQ110
        have N110 := Fr.app N98 Nq110
        have Kp110 : Keep h0 T110.heap [] := Keep.trans Kp108 Kq110 (allS (Or.inr sz_b108) all0)
        have K110 : ∀ t, own_S p e below T110 (mkF m 132 #[.val (.int p0), .val (.long q1), .second, .val (.int p2), .val (.int p3), .val (.int p4), .val (.int cl), .val (.ref oGLOBAL), .val (.int fb), .val (.ref b86), .val (.ref b95), .val (.double dv), .second, .val (.long idv), .second, .unset, .unset] [(.ref b108)]) t → Steps p.tables e below SE t := fun t k => K109 _ (st110.trans k)
        have K111 : ∀ t, own_S p e below T110 (mkF m 138 #[.val (.int p0), .val (.long q1), .second, .val (.int p2), .val (.int p3), .val (.int p4), .val (.int cl), .val (.ref oGLOBAL), .val (.int fb), .val (.ref b86), .val (.ref b95), .val (.double dv), .second, .val (.long idv), .second, .val (.ref b108), .unset] []) t → Steps p.tables e below SE t := by
          intro t k
          refine K110 _ ?_
          refine XS.goto X110.here hx rfl (pc0 := 132) (pc' := 136) rfl (hb hby at_132) (by decide) (by decide) ?_
          show own_S p e below T110 (mkF m 136 #[.val (.int p0), .val (.long q1), .second, .val (.int p2), .val (.int p3), .val (.int p4), .val (.int cl), .val (.ref oGLOBAL), .val (.int fb), .val (.ref b86), .val (.ref b95), .val (.double dv), .second, .val (.long idv), .second, .unset, .unset] [(.ref b108)]) _
          refine XS.astore X110.here hx rfl (hb hby at_136) rfl rfl (l' := #[.val (.int p0), .val (.long q1), .second, .val (.int p2), .val (.int p3), .val (.int p4), .val (.int cl), .val (.ref oGLOBAL), .val (.int fb), .val (.ref b86), .val (.ref b95), .val (.double dv), .second, .val (.long idv), .second, .val (.ref b108), .unset]) rfl ?_
          exact k
        obtain ⟨T112, h112, X112, e112, E112, A112, D112, -, st112⟩ := newO X110 hx hZ hown (hw _ (List.mem_of_getElem? (i := 18) rfl)) (hw _ (List.mem_of_getElem? (i := 19) rfl)) (hw _ (List.mem_of_getElem? (i := 20) rfl)) rfl (g := (mkF m 138 #[.val (.int p0), .val (.long q1), .second, .val (.int p2), .val (.int p3), .val (.int p4), .val (.int cl), .val (.ref oGLOBAL), .val (.int fb), .val (.ref b86), .val (.ref b95), .val (.double dv), .second, .val (.long idv), .second, .val (.ref b108), .unset] [])) rfl (hb hby at_138) (by decide) (by decide)
        obtain ⟨b112, g112⟩ : ∃ z, z = T110.heap.size := ⟨_, rfl⟩
        rw [← g112] at A112 D112 st112
        have g_b112 : n0 ≤ b112 := Nat.le_trans (Nat.le_trans Z0 Kp110.1) (Nat.le_of_eq g112.symm)
        have sz_b112 : h0.size ≤ b112 := Nat.le_trans Kp110.1 (Nat.le_of_eq g112.symm)
        have own_ne_b86_b112 : b86 ≠ b112 := Nat.ne_of_lt (Nat.lt_of_lt_of_le (((V92.ext E95).ext E108).keep Kq110 (ninS (own_ne_b86_b108) nin0)).lt (Nat.le_of_eq g112.symm))
        have own_ne_b108_b112 : b108 ≠ b112 := Nat.ne_of_lt (Nat.lt_of_lt_of_le Ex110.lt (Nat.le_of_eq g112.symm))
        have own_ne_oGLOBAL_b112 : oGLOBAL ≠ b112 := Nat.ne_of_lt (Nat.lt_of_lt_of_le (EX_oGLOBAL.ext (own_ext Kp110)).lt (Nat.le_of_eq g112.symm))
        have own_ne_oAVERAGE_b112 : oAVERAGE ≠ b112 := Nat.ne_of_lt (Nat.lt_of_lt_of_le (EX_oAVERAGE.ext (own_ext Kp110)).lt (Nat.le_of_eq g112.symm))
        have Kp112 : Keep h0 h112 [] := Keep.ext Kp110 E112
        have F_resource_b112 : Fld Z h112 b112 "com/example/aswan/aswan/rule/FlowRule" "resource" "Ljava/lang/String;" .null := D112 (Or.inr (hw _ (List.mem_of_getElem? (i := 28) rfl))) (ty := (.object "java/lang/String")) (by decide)
        have F_count_b112 : Fld Z h112 b112 "com/example/aswan/aswan/rule/FlowRule" "count" "D" (.double (0 : UInt64)) := D112 (Or.inr (hw _ (List.mem_of_getElem? (i := 30) rfl))) (ty := .double) (by decide)
        have F_clusterConfig_b112 : Fld Z h112 b112 "com/example/aswan/aswan/rule/FlowRule" "clusterConfig" "Lcom/example/aswan/aswan/rule/ClusterConfig;" .null := D112 (Or.inr (hw _ (List.mem_of_getElem? (i := 32) rfl))) (ty := (.object "com/example/aswan/aswan/rule/ClusterConfig")) (by decide)
        have K112 : ∀ t, own_S p e below T112 (mkF m 141 #[.val (.int p0), .val (.long q1), .second, .val (.int p2), .val (.int p3), .val (.int p4), .val (.int cl), .val (.ref oGLOBAL), .val (.int fb), .val (.ref b86), .val (.ref b95), .val (.double dv), .second, .val (.long idv), .second, .val (.ref b108), .unset] [(.ref b112)]) t → Steps p.tables e below SE t := fun t k => K111 _ (st112 _ k)
        have K113 : ∀ t, own_S p e below T112 (mkF m 148 #[.val (.int p0), .val (.long q1), .second, .val (.int p2), .val (.int p3), .val (.int p4), .val (.int cl), .val (.ref oGLOBAL), .val (.int fb), .val (.ref b86), .val (.ref b95), .val (.double dv), .second, .val (.long idv), .second, .val (.ref b108), .unset] [(.ref b108), (.double dv), (.ref b95), (.ref b112), (.ref b112)]) t → Steps p.tables e below SE t := by
          intro t k
          refine K112 _ ?_
          refine XS.dup X112.here hx rfl (hb hby at_141) rfl rfl ?_
          show own_S p e below T112 (mkF m 142 #[.val (.int p0), .val (.long q1), .second, .val (.int p2), .val (.int p3), .val (.int p4), .val (.int cl), .val (.ref oGLOBAL), .val (.int fb), .val (.ref b86), .val (.ref b95), .val (.double dv), .second, .val (.long idv), .second, .val (.ref b108), .unset] [(.ref b112), (.ref b112)]) _
          refine XS.aload X112.here hx rfl (hb hby at_142) rfl rfl ?_
          show own_S p e below T112 (mkF m 144 #[.val (.int p0), .val (.long q1), .second, .val (.int p2), .val (.int p3), .val (.int p4), .val (.int cl), .val (.ref oGLOBAL), .val (.int fb), .val (.ref b86), .val (.ref b95), .val (.double dv), .second, .val (.long idv), .second, .val (.ref b108), .unset] [(.ref b95), (.ref b112), (.ref b112)]) _
          refine XS.dload X112.here hx rfl (hb hby at_144) rfl ?_
          show own_S p e below T112 (mkF m 146 #[.val (.int p0), .val (.long q1), .second, .val (.int p2), .val (.int p3), .val (.int p4), .val (.int cl), .val (.ref oGLOBAL), .val (.int fb), .val (.ref b86), .val (.ref b95), .val (.double dv), .second, .val (.long idv), .second, .val (.ref b108), .unset] [(.double dv), (.ref b95), (.ref b112), (.ref b112)]) _
          refine XS.aload X112.here hx rfl (hb hby at_146) rfl rfl ?_
          exact k
        obtain ⟨_, _, ⟨T114, L114, k114, n114⟩, -, X114, ⟨Lc114, hQ114, l114, y114, z114⟩, st114⟩ := X112.specialBack hx (y := (⟨"com/example/aswan/aswan/rule/FlowRule", "<init>", "(Ljava/lang/String;DLcom/example/aswan/aswan/rule/ClusterConfig;)V"⟩ : MethodName)) rfl hown (mvT hZ (hw _ (List.mem_of_getElem? (i := 21) rfl))) (mvT hZ (hw _ (List.mem_of_getElem? (i := 22) rfl))) (mvT hZ (hw _ (List.mem_of_getElem? (i := 23) rfl))) (by decide) (backOf (W := 1) (rmfr l Z a0 hw [] b112 b95 dv b108 h112 n0 (Nat.le_trans Z0 Kp112.1) A112 F_resource_b112 F_count_b112 F_clusterConfig_b112 g_b112) hZ (hw _ (List.mem_of_getElem? (i := 23) rfl)) (hw _ (List.mem_of_getElem? (i := 20) rfl)) (by decide) (by decide)) (g := (mkF m 148 #[.val (.int p0), .val (.long q1), .second, .val (.int p2), .val (.int p3), .val (.int p4), .val (.int cl), .val (.ref oGLOBAL), .val (.int fb), .val (.ref b86), .val (.ref b95), .val (.double dv), .second, .val (.long idv), .second, .val (.ref b108), .unset] [(.ref b108), (.double dv), (.ref b95), (.ref b112), (.ref b112)])) rfl (by rw [hml]; rfl) (Steps.refl _) (a := b112) (argsL := [(.ref b95), (.double dv), (.ref b108)]) (rest := [(.ref b112)]) (lenOf pd_0_1 rfl) rfl (by show 2 * 0 + _ ≤ _; exact Nat.le_of_eq rfl) (hb hby at_148) (fun _ _ => ⟨rfl, e112, (by decide : 5 + 0 ≤ _), (by decide : 12 + 0 ≤ _)⟩)
        dsimp only [Pt.U, Pt.locs, Pt.cells, Pt.slots] at X114 l114 y114 z114 st114 hQ114
        subst l114 y114 z114
        obtain ⟨rfl, Nq114, Kq114, Ex114, Fa114, Fb114, Fc114⟩ := hQ114
        have N114 := Fr.app N110 Nq114
        have Kp114 : Keep h0 T114.heap [] := Keep.trans Kp112 Kq114 (allS (Or.inr sz_b112) all0)
        have K114 : ∀ t, own_S p e below T114 (mkF m 151 #[.val (.int p0), .val (.long q1), .second, .val (.int p2), .val (.int p3), .val (.int p4), .val (.int cl), .val (.ref oGLOBAL), .val (.int fb), .val (.ref b86), .val (.ref b95), .val (.double dv), .second, .val (.long idv), .second, .val (.ref b108), .unset] [(.ref b112)]) t → Steps p.tables e below SE t := fun t k => K113 _ (st114.trans k)
        have K115 : ∀ t, own_S p e below T114 (mkF m 155 #[.val (.int p0), .val (.long q1), .second, .val (.int p2), .val (.int p3), .val (.int p4), .val (.int cl), .val (.ref oGLOBAL), .val (.int fb), .val (.ref b86), .val (.ref b95), .val (.double dv), .second, .val (.long idv), .second, .val (.ref b108), .val (.ref b112)] [(.ref b112)]) t → Steps p.tables e below SE t := by
          intro t k
          refine K114 _ ?_
          refine XS.astore X114.here hx rfl (hb hby at_151) rfl rfl (l' := #[.val (.int p0), .val (.long q1), .second, .val (.int p2), .val (.int p3), .val (.int p4), .val (.int cl), .val (.ref oGLOBAL), .val (.int fb), .val (.ref b86), .val (.ref b95), .val (.double dv), .second, .val (.long idv), .second, .val (.ref b108), .val (.ref b112)]) rfl ?_
          show own_S p e below T114 (mkF m 153 #[.val (.int p0), .val (.long q1), .second, .val (.int p2), .val (.int p3), .val (.int p4), .val (.int cl), .val (.ref oGLOBAL), .val (.int fb), .val (.ref b86), .val (.ref b95), .val (.double dv), .second, .val (.long idv), .second, .val (.ref b108), .val (.ref b112)] []) _
          refine XS.aload X114.here hx rfl (hb hby at_153) rfl rfl ?_
          exact k
        obtain ⟨cq116, kq116, q116a, q116b, q116c⟩ := isOf hZ rfl Ex114
        obtain ⟨_, _, ⟨T116, L116, k116, n116⟩, -, X116, ⟨Lc116, hQ116, l116, y116, z116⟩, st116⟩ := X114.virtualBack hx (y := (⟨"com/example/aswan/aswan/rule/FlowRule", "isClusterMode", "()Z"⟩ : MethodName)) (z := (⟨"com/example/aswan/aswan/rule/FlowRule", "isClusterMode", "()Z"⟩ : MethodName)) hown (mvT hZ (hw _ (List.mem_of_getElem? (i := 33) rfl))) (mvT hZ (hw _ (List.mem_of_getElem? (i := 34) rfl))) (notFace_of_selects (args := #[]) (mvT hZ (hw _ (List.mem_of_getElem? (i := 36) rfl)))) (mvT hZ (hw _ (List.mem_of_getElem? (i := 36) rfl))) (mvT hZ (hw _ (List.mem_of_getElem? (i := 35) rfl))) (by decide) (backOf (W := 0) (rmis1 l Z a0 hw [] b112 b108 T114.heap n0 (Nat.le_trans Z0 Kp114.1) Fc114) hZ (hw _ (List.mem_of_getElem? (i := 37) rfl)) (hw _ (List.mem_of_getElem? (i := 20) rfl)) (by decide) (by decide)) q116a q116c (g := (mkF m 155 #[.val (.int p0), .val (.long q1), .second, .val (.int p2), .val (.int p3), .val (.int p4), .val (.int cl), .val (.ref oGLOBAL), .val (.int fb), .val (.ref b86), .val (.ref b95), .val (.double dv), .second, .val (.long idv), .second, .val (.ref b108), .val (.ref b112)] [(.ref b112)])) rfl (by rw [hml]; rfl) (Steps.refl _) (argsL := []) (rest := []) (lenOf pd_0_2 rfl) rfl (by show 2 * 0 + _ ≤ _; exact Nat.le_of_eq rfl) (hb hby at_155) (fun _ _ => ⟨rfl, rfl, (by decide : 5 + 0 ≤ _), (by decide : 12 + 0 ≤ _)⟩)
        dsimp only [Pt.U, Pt.locs, Pt.cells, Pt.slots] at X116 l116 y116 z116 st116 hQ116
        subst l116 y116 z116
        obtain ⟨rfl, Nq116, e116⟩ := hQ116
        have N116 := Fr.app N114 Nq116
        have K116 : ∀ t, own_S p e below T116 (mkF m 158 #[.val (.int p0), .val (.long q1), .second, .val (.int p2), .val (.int p3), .val (.int p4), .val (.int cl), .val (.ref oGLOBAL), .val (.int fb), .val (.ref b86), .val (.ref b95), .val (.double dv), .second, .val (.long idv), .second, .val (.ref b108), .val (.ref b112)] [(.int (1 : Int32))]) t → Steps p.tables e below SE t := fun t k => K115 _ (st116.trans k)
        have K117 : ∀ t, own_S p e below T116 (mkF m 168 #[.val (.int p0), .val (.long q1), .second, .val (.int p2), .val (.int p3), .val (.int p4), .val (.int cl), .val (.ref oGLOBAL), .val (.int fb), .val (.ref b86), .val (.ref b95), .val (.double dv), .second, .val (.long idv), .second, .val (.ref b108), .val (.ref b112)] [(.int (1 : Int32))]) t → Steps p.tables e below SE t := by
          intro t k
          refine K116 _ ?_
          refine XS.iload X116.here hx rfl (hb hby at_158) rfl ?_
          show own_S p e below T116 (mkF m 160 #[.val (.int p0), .val (.long q1), .second, .val (.int p2), .val (.int p3), .val (.int p4), .val (.int cl), .val (.ref oGLOBAL), .val (.int fb), .val (.ref b86), .val (.ref b95), .val (.double dv), .second, .val (.long idv), .second, .val (.ref b108), .val (.ref b112)] [(.int cl), (.int (1 : Int32))]) _
          refine XS.icmpNo X116.here hx rfl (hb hby at_160) rfl (XT.ii_ne_f hcl1) ?_
          show own_S p e below T116 (mkF m 163 #[.val (.int p0), .val (.long q1), .second, .val (.int p2), .val (.int p3), .val (.int p4), .val (.int cl), .val (.ref oGLOBAL), .val (.int fb), .val (.ref b86), .val (.ref b95), .val (.double dv), .second, .val (.long idv), .second, .val (.ref b108), .val (.ref b112)] []) _
          refine XS.iconst X116.here hx rfl (hb hby at_163) ?_
          show own_S p e below T116 (mkF m 164 #[.val (.int p0), .val (.long q1), .second, .val (.int p2), .val (.int p3), .val (.int p4), .val (.int cl), .val (.ref oGLOBAL), .val (.int fb), .val (.ref b86), .val (.ref b95), .val (.double dv), .second, .val (.long idv), .second, .val (.ref b108), .val (.ref b112)] [(.int (1 : Int32))]) _
          refine XS.goto X116.here hx rfl (pc0 := 164) (pc' := 168) rfl (hb hby at_164) (by decide) (by decide) ?_
          exact k
        obtain ⟨fs, hr, hrun, hended, hRW⟩ := X116.leaveW hS (by rw [e116]; exact (Nat.le_trans (Nat.le_trans (Nat.le_trans (Nat.le_trans hk E108.1) Kq110.1) E112.1) Kq114.1)) (v := some (.int (1 : Int32))) (fun h => by rw [Bd.returns] at h; cases h)
        refine ⟨_, _, K117 _ ?_, hrun, hended, _, _, rfl, ?_, hRW.1, hRW.2.1, hRW.2.2.1, hRW.2.2.2.mono (by decide) (by decide)⟩
        · exact retN X116 hx (t := .boolean) Bd.returns (by simp) (hb hby at_168) hr
        · show Q0 Z p0 q1 p2 p3 p4 oAVERAGE oGLOBAL G h0 n0 _ T116.heap _
          rw [e116]
          exact ⟨rfl, N116⟩
    · skip
      have K118 : ∀ t, own_S p e below T92 (mkF m 85 #[.val (.int p0), .val (.long q1), .second, .val (.int p2), .val (.int p3), .val (.int p4), .val (.int cl), .val (.ref oGLOBAL), .val (.int fb), .val (.ref b86), .unset, .unset, .unset, .unset, .unset, .unset, .unset] []) t → Steps p.tables e below SE t := by
        intro t k
        refine K93 _ ?_
        refine XS.ifYes X92.here hx rfl (pc0 := 77) (pc' := 85) rfl (hb hby at_77) rfl (XT.i0_ne_t c77) (by decide) (by decide) ?_
        exact k
      obtain ⟨T119, h119, X119, e119, E119, A119, D119, -, st119⟩ := newO X92 hx hZ hown (hw _ (List.mem_of_getElem? (i := 38) rfl)) (hw _ (List.mem_of_getElem? (i := 6) rfl)) (hw _ (List.mem_of_getElem? (i := 5) rfl)) e92 (g := (mkF m 85 #[.val (.int p0), .val (.long q1), .second, .val (.int p2), .val (.int p3), .val (.int p4), .val (.int cl), .val (.ref oGLOBAL), .val (.int fb), .val (.ref b86), .unset, .unset, .unset, .unset, .unset, .unset, .unset] [])) rfl (hb hby at_85) (by decide) (by decide)
      obtain ⟨b119, g119⟩ : ∃ z, z = h92.size := ⟨_, rfl⟩
      rw [← g119] at A119 D119 st119
      have g_b119 : n0 ≤ b119 := Nat.le_trans (Nat.le_trans Z0 Kp92.1) (Nat.le_of_eq g119.symm)
      have sz_b119 : h0.size ≤ b119 := Nat.le_trans Kp92.1 (Nat.le_of_eq g119.symm)
      have own_ne_b86_b119 : b86 ≠ b119 := Nat.ne_of_lt (Nat.lt_of_lt_of_le V92.lt (Nat.le_of_eq g119.symm))
      have own_ne_oGLOBAL_b119 : oGLOBAL ≠ b119 := Nat.ne_of_lt (Nat.lt_of_lt_of_le (EX_oGLOBAL.ext (own_ext Kp92)).lt (Nat.le_of_eq g119.symm))
      have own_ne_oAVERAGE_b119 : oAVERAGE ≠ b119 := Nat.ne_of_lt (Nat.lt_of_lt_of_le (EX_oAVERAGE.ext (own_ext Kp92)).lt (Nat.le_of_eq g119.symm))
      have Kp119 : Keep h0 h119 [] := Keep.ext Kp92 E119
      have F_value_b119 : Fld Z h119 b119 "java/lang/String" "value" "[B" .null := D119 (Or.inr (hw _ (List.mem_of_getElem? (i := 8) rfl))) (ty := (.array .byte)) (by decide)
      have F_coder_b119 : Fld Z h119 b119 "java/lang/String" "coder" "B" (.int (0 : Int32)) := D119 (Or.inr (hw _ (List.mem_of_getElem? (i := 9) rfl))) (ty := .byte) (by decide)
      have K119 : ∀ t, own_S p e below T119 (mkF m 88 #[.val (.int p0), .val (.long q1), .second, .val (.int p2), .val (.int p3), .val (.int p4), .val (.int cl), .val (.ref oGLOBAL), .val (.int fb), .val (.ref b86), .unset, .unset, .unset, .unset, .unset, .unset, .unset] [(.ref b119)]) t → Steps p.tables e below SE t := fun t k => K118 _ (st119 _ k)
      have K120 : ∀ t, own_S p e below T119 (mkF m 91 #[.val (.int p0), .val (.long q1), .second, .val (.int p2), .val (.int p3), .val (.int p4), .val (.int cl), .val (.ref oGLOBAL), .val (.int fb), .val (.ref b86), .unset, .unset, .unset, .unset, .unset, .unset, .unset] [(.ref b86), (.ref b119), (.ref b119)]) t → Steps p.tables e below SE t := by
        intro t k
        refine K119 _ ?_
        refine XS.dup X119.here hx rfl (hb hby at_88) rfl rfl ?_
        show own_S p e below T119 (mkF m 89 #[.val (.int p0), .val (.long q1), .second, .val (.int p2), .val (.int p3), .val (.int p4), .val (.int cl), .val (.ref oGLOBAL), .val (.int fb), .val (.ref b86), .unset, .unset, .unset, .unset, .unset, .unset, .unset] [(.ref b119), (.ref b119)]) _
        refine XS.aload X119.here hx rfl (hb hby at_89) rfl rfl ?_
        exact k
      obtain ⟨_, _, ⟨T121, L121, k121, n121⟩, -, X121, ⟨Lc121, hQ121, l121, y121, z121⟩, st121⟩ := X119.specialBack hx (y := (⟨"java/lang/String", "<init>", "([C)V"⟩ : MethodName)) rfl hown (mvT hZ (hw _ (List.mem_of_getElem? (i := 39) rfl))) (mvT hZ (hw _ (List.mem_of_getElem? (i := 40) rfl))) (mvT hZ (hw _ (List.mem_of_getElem? (i := 41) rfl))) (by decide) (backOf (W := 1) (rm5_2 l Z a0 hw [] b119 b86 k86 G (nar .char (((p3 &&& (255 : Int32))).toUInt32.toUInt16.toUInt32.toInt32)) (nar .char (((p4 &&& (255 : Int32))).toUInt32.toUInt16.toUInt32.toInt32)) h119 n0 (Nat.le_trans Z0 Kp119.1) A119 F_coder_b119 F_value_b119 g_b119 (V92.ext E119) (S_cs.ext (own_ext Kp119)) hG (own_c255 _) (own_c255 _)) hZ (hw _ (List.mem_of_getElem? (i := 41) rfl)) (hw _ (List.mem_of_getElem? (i := 5) rfl)) (by decide) (by decide)) (g := (mkF m 91 #[.val (.int p0), .val (.long q1), .second, .val (.int p2), .val (.int p3), .val (.int p4), .val (.int cl), .val (.ref oGLOBAL), .val (.int fb), .val (.ref b86), .unset, .unset, .unset, .unset, .unset, .unset, .unset] [(.ref b86), (.ref b119), (.ref b119)])) rfl (by rw [hml]; rfl) (Steps.refl _) (a := b119) (argsL := [(.ref b86)]) (rest := [(.ref b119)]) (lenOf pd_0_4 rfl) rfl (by show 2 * 0 + _ ≤ _; exact Nat.le_of_eq rfl) (hb hby at_91) (fun _ _ => ⟨rfl, e119, (by decide : 2 + 1 ≤ _), (by decide : 6 + 2 ≤ _)⟩)
      dsimp only [Pt.U, Pt.locs, Pt.cells, Pt.slots] at X121 l121 y121 z121 st121 hQ121
      subst l121 y121 z121
      obtain ⟨rfl, Nq121, Kq121, rest121⟩ := hQ121
      have N121 := Fr.app N92 Nq121
      have Kp121 : Keep h0 T121.heap [] := Keep.trans Kp119 Kq121 (allS (Or.inr sz_b119) all0)
      have K121 : ∀ t, own_S p e below T121 (mkF m 94 #[.val (.int p0), .val (.long q1), .second, .val (.int p2), .val (.int p3), .val (.int p4), .val (.int cl), .val (.ref oGLOBAL), .val (.int fb), .val (.ref b86), .unset, .unset, .unset, .unset, .unset, .unset, .unset] [(.ref b119)]) t → Steps p.tables e below SE t := fun t k => K120 _ (st121.trans k)
      have K122 : ∀ t, own_S p e below T121 (mkF m 101 #[.val (.int p0), .val (.long q1), .second, .val (.int p2), .val (.int p3), .val (.int p4), .val (.int cl), .val (.ref oGLOBAL), .val (.int fb), .val (.ref b86), .val (.ref b119), .unset, .unset, .unset, .unset, .unset, .unset] [(.double (FP.i2d (p2 &&& (1048575 : Int32))))]) t → Steps p.tables e below SE t := by
        intro t k
        refine K121 _ ?_
        refine XS.astore X121.here hx rfl (hb hby at_94) rfl rfl (l' := #[.val (.int p0), .val (.long q1), .second, .val (.int p2), .val (.int p3), .val (.int p4), .val (.int cl), .val (.ref oGLOBAL), .val (.int fb), .val (.ref b86), .val (.ref b119), .unset, .unset, .unset, .unset, .unset, .unset]) rfl ?_
        show own_S p e below T121 (mkF m 96 #[.val (.int p0), .val (.long q1), .second, .val (.int p2), .val (.int p3), .val (.int p4), .val (.int cl), .val (.ref oGLOBAL), .val (.int fb), .val (.ref b86), .val (.ref b119), .unset, .unset, .unset, .unset, .unset, .unset] []) _
        refine XS.iloadN X121.here hx rfl (hb hby at_96) rfl ?_
        show own_S p e below T121 (mkF m 97 #[.val (.int p0), .val (.long q1), .second, .val (.int p2), .val (.int p3), .val (.int p4), .val (.int cl), .val (.ref oGLOBAL), .val (.int fb), .val (.ref b86), .val (.ref b119), .unset, .unset, .unset, .unset, .unset, .unset] [(.int p2)]) _
        refine Stand.ldcI X121 hx hown (mvT hZ (hw _ (List.mem_of_getElem? (i := 12) rfl))) (v := (1048575 : Int32)) (g := (mkF m 97 #[.val (.int p0), .val (.long q1), .second, .val (.int p2), .val (.int p3), .val (.int p4), .val (.int cl), .val (.ref oGLOBAL), .val (.int fb), .val (.ref b86), .val (.ref b119), .unset, .unset, .unset, .unset, .unset, .unset] [(.int p2)])) rfl (hb hby at_97) ?_
        show own_S p e below T121 (mkF m 99 #[.val (.int p0), .val (.long q1), .second, .val (.int p2), .val (.int p3), .val (.int p4), .val (.int cl), .val (.ref oGLOBAL), .val (.int fb), .val (.ref b86), .val (.ref b119), .unset, .unset, .unset, .unset, .unset, .unset] [(.int (1048575 : Int32)), (.int p2)]) _
        refine XS.iand X121.here hx rfl (hb hby at_99) rfl ?_
        show Steps p.tables e below (T121.setTop (mkF m 100 #[.val (.int p0), .val (.long q1), .second, .val (.int p2), .val (.int p3), .val (.int p4), .val (.int cl), .val (.ref oGLOBAL), .val (.int fb), .val (.ref b86), .val (.ref b119), .unset, .unset, .unset, .unset, .unset, .unset] [(.int (p2 &&& (1048575 : Int32)))])) _
        jvm_step X121.here [X121.here.top, hx, (hb hby at_100), i2d.wp_sem]
        exact k
      obtain ⟨dv, hdv⟩ : ∃ z : UInt64, z = (FP.i2d (p2 &&& (1048575 : Int32))) := ⟨_, rfl⟩
      rw [← hdv] at K122
      have K123 : ∀ t, own_S p e below T121 (mkF m 109 #[.val (.int p0), .val (.long q1), .second, .val (.int p2), .val (.int p3), .val (.int p4), .val (.int cl), .val (.ref oGLOBAL), .val (.int fb), .val (.ref b86), .val (.ref b119), .val (.double dv), .second, .unset, .unset, .unset, .unset] [(.long (q1 &&& (9223372036854775807 : Int64))), (.long (1 : Int64))]) t → Steps p.tables e below SE t := by
        intro t k
        refine K122 _ ?_
        refine XS.dstore X121.here hx rfl (hb hby at_101) rfl (l' := #[.val (.int p0), .val (.long q1), .second, .val (.int p2), .val (.int p3), .val (.int p4), .val (.int cl), .val (.ref oGLOBAL), .val (.int fb), .val (.ref b86), .val (.ref b119), .val (.double dv), .second, .unset, .unset, .unset, .unset]) rfl ?_
        show own_S p e below T121 (mkF m 103 #[.val (.int p0), .val (.long q1), .second, .val (.int p2), .val (.int p3), .val (.int p4), .val (.int cl), .val (.ref oGLOBAL), .val (.int fb), .val (.ref b86), .val (.ref b119), .val (.double dv), .second, .unset, .unset, .unset, .unset] []) _
        refine XS.lconst X121.here hx rfl (hb hby at_103) ?_
        show own_S p e below T121 (mkF m 104 #[.val (.int p0), .val (.long q1), .second, .val (.int p2), .val (.int p3), .val (.int p4), .val (.int cl), .val (.ref oGLOBAL), .val (.int fb), .val (.ref b86), .val (.ref b119), .val (.double dv), .second, .unset, .unset, .unset, .unset] [(.long (1 : Int64))]) _
        refine XS.lloadN X121.here hx rfl (hb hby at_104) rfl ?_
        show own_S p e below T121 (mkF m 105 #[.val (.int p0), .val (.long q1), .second, .val (.int p2), .val (.int p3), .val (.int p4), .val (.int cl), .val (.ref oGLOBAL), .val (.int fb), .val (.ref b86), .val (.ref b119), .val (.double dv), .second, .unset, .unset, .unset, .unset] [(.long q1), (.long (1 : Int64))]) _
        refine Stand.ldc2J X121 hx hown (mvT hZ (hw _ (List.mem_of_getElem? (i := 13) rfl))) (v := (9223372036854775807 : Int64)) (g := (mkF m 105 #[.val (.int p0), .val (.long q1), .second, .val (.int p2), .val (.int p3), .val (.int p4), .val (.int cl), .val (.ref oGLOBAL), .val (.int fb), .val (.ref b86), .val (.ref b119), .val (.double dv), .second, .unset, .unset, .unset, .unset] [(.long q1), (.long (1 : Int64))])) rfl (hb hby at_105) ?_
        show own_S p e below T121 (mkF m 108 #[.val (.int p0), .val (.long q1), .second, .val (.int p2), .val (.int p3), .val (.int p4), .val (.int cl), .val (.ref oGLOBAL), .val (.int fb), .val (.ref b86), .val (.ref b119), .val (.double dv), .second, .unset, .unset, .unset, .unset] [(.long (9223372036854775807 : Int64)), (.long q1), (.long (1 : Int64))]) _
        refine XS.land X121.here hx rfl (hb hby at_108) rfl ?_
        exact k
      obtain ⟨_, _, ⟨T124, L124, k124, n124⟩, -, X124, ⟨Lc124, hQ124, l124, y124, z124⟩, st124⟩ := Jvm.LawKit.callS X121 hx (y := (⟨"java/lang/Math", "max", "(JJ)J"⟩ : MethodName)) hown (mvT hZ (hw _ (List.mem_of_getElem? (i := 14) rfl))) (mvT hZ (hw _ (List.mem_of_getElem? (i := 15) rfl))) (mvT hZ (hw _ (List.mem_of_getElem? (i := 16) rfl))) (mvT hZ (hw _ (List.mem_of_getElem? (i := 17) rfl))) (by decide) (backOf (W := 0) (rm1 l Z a0 hw [] (1 : Int64) (q1 &&& (9223372036854775807 : Int64)) T121.heap n0 (Nat.le_trans Z0 Kp121.1)) hZ (hw _ (List.mem_of_getElem? (i := 17) rfl)) (hw _ (List.mem_of_getElem? (i := 16) rfl)) (by decide) (by decide)) (g := (mkF m 109 #[.val (.int p0), .val (.long q1), .second, .val (.int p2), .val (.int p3), .val (.int p4), .val (.int cl), .val (.ref oGLOBAL), .val (.int fb), .val (.ref b86), .val (.ref b119), .val (.double dv), .second, .unset, .unset, .unset, .unset] [(.long (q1 &&& (9223372036854775807 : Int64))), (.long (1 : Int64))])) rfl (by rw [hml]; rfl) (argsL := [(.long (1 : Int64)), (.long (q1 &&& (9223372036854775807 : Int64)))]) (rest := []) (lenOf pd_0_0 rfl) rfl (by show 2 * 0 + _ ≤ _; exact Nat.le_of_eq rfl) (hb hby at_109) (fun _ _ => ⟨rfl, rfl, (by decide : 3 + 0 ≤ _), (by decide : 8 + 0 ≤ _)⟩)
      dsimp only [Pt.U, Pt.locs, Pt.cells, Pt.slots] at X124 l124 y124 z124 st124 hQ124
      subst l124 y124 z124
      obtain ⟨rfl, Nq124, e124⟩ := hQ124
      have N124 := Fr.app N121 Nq124
      have K124 : ∀ t, own_S p e below T124 (mkF m 112 #[.val (.int p0), .val (.long q1), .second, .val (.int p2), .val (.int p3), .val (.int p4), .val (.int cl), .val (.ref oGLOBAL), .val (.int fb), .val (.ref b86), .val (.ref b119), .val (.double dv), .second, .unset, .unset, .unset, .unset] [(.long (if (1 : Int64) < (q1 &&& (9223372036854775807 : Int64)) then (q1 &&& (9223372036854775807 : Int64)) else (1 : Int64)))]) t → Steps p.tables e below SE t := fun t k => K123 _ (st124 _ k)
      obtain ⟨idv, hidv⟩ : ∃ z : Int64, z = (if (1 : Int64) < (q1 &&& (9223372036854775807 : Int64)) then (q1 &&& (9223372036854775807 : Int64)) else (1 : Int64)) := ⟨_, rfl⟩
      rw [← hidv] at K124
      have K125 : ∀ t, own_S p e below T124 (mkF m 116 #[.val (.int p0), .val (.long q1), .second, .val (.int p2), .val (.int p3), .val (.int p4), .val (.int cl), .val (.ref oGLOBAL), .val (.int fb), .val (.ref b86), .val (.ref b119), .val (.double dv), .second, .val (.long idv), .second, .unset, .unset] [(.int cl)]) t → Steps p.tables e below SE t := by
        intro t k
        refine K124 _ ?_
        refine XS.lstore X124.here hx rfl (hb hby at_112) rfl (l' := #[.val (.int p0), .val (.long q1), .second, .val (.int p2), .val (.int p3), .val (.int p4), .val (.int cl), .val (.ref oGLOBAL), .val (.int fb), .val (.ref b86), .val (.ref b119), .val (.double dv), .second, .val (.long idv), .second, .unset, .unset]) rfl ?_
        show own_S p e below T124 (mkF m 114 #[.val (.int p0), .val (.long q1), .second, .val (.int p2), .val (.int p3), .val (.int p4), .val (.int cl), .val (.ref oGLOBAL), .val (.int fb), .val (.ref b86), .val (.ref b119), .val (.double dv), .second, .val (.long idv), .second, .unset, .unset] []) _
        refine XS.iload X124.here hx rfl (hb hby at_114) rfl ?_
        exact k
      by_cases c116 : cl = 0
      · skip
        have K126 : ∀ t, own_S p e below T124 (mkF m 138 #[.val (.int p0), .val (.long q1), .second, .val (.int p2), .val (.int p3), .val (.int p4), .val (.int cl), .val (.ref oGLOBAL), .val (.int fb), .val (.ref b86), .val (.ref b119), .val (.double dv), .second, .val (.long idv), .second, .val .null, .unset] []) t → Steps p.tables e below SE t := by
          intro t k
          refine K125 _ ?_
          refine XS.ifYes X124.here hx rfl (pc0 := 116) (pc' := 135) rfl (hb hby at_116) rfl (XT.i0_eq_t c116) (by decide) (by decide) ?_
          show own_S p e below T124 (mkF m 135 #[.val (.int p0), .val (.long q1), .second, .val (.int p2), .val (.int p3), .val (.int p4), .val (.int cl), .val (.ref oGLOBAL), .val (.int fb), .val (.ref b86), .val (.ref b119), .val (.double dv), .second, .val (.long idv), .second, .unset, .unset] []) _
          refine XS.aconstNull X124.here hx rfl (hb hby at_135) ?_
          show own_S p e below T124 (mkF m 136 #[.val (.int p0), .val (.long q1), .second, .val (.int p2), .val (.int p3), .val (.int p4), .val (.int cl), .val (.ref oGLOBAL), .val (.int fb), .val (.ref b86), .val (.ref b119), .val (.double dv), .second, .val (.long idv), .second, .unset, .unset] [.null]) _
          refine XS.astore X124.here hx rfl (hb hby at_136) rfl rfl (l' := #[.val (.int p0), .val (.long q1), .second, .val (.int p2), .val (.int p3), .val (.int p4), .val (.int cl), .val (.ref oGLOBAL), .val (.int fb), .val (.ref b86), .val (.ref b119), .val (.double dv), .second, .val (.long idv), .second, .val .null, .unset]) rfl ?_
          exact k
        obtain ⟨T127, h127, X127, e127, E127, A127, D127, -, st127⟩ := newO X124 hx hZ hown (hw _ (List.mem_of_getElem? (i := 18) rfl)) (hw _ (List.mem_of_getElem? (i := 19) rfl)) (hw _ (List.mem_of_getElem? (i := 20) rfl)) e124 (g := (mkF m 138 #[.val (.int p0), .val (.long q1), .second, .val (.int p2), .val (.int p3), .val (.int p4), .val (.int cl), .val (.ref oGLOBAL), .val (.int fb), .val (.ref b86), .val (.ref b119), .val (.double dv), .second, .val (.long idv), .second, .val .null, .unset] [])) rfl (hb hby at_138) (by decide) (by decide)
        obtain ⟨b127, g127⟩ : ∃ z, z = T121.heap.size := ⟨_, rfl⟩
        rw [← g127] at A127 D127 st127
        have g_b127 : n0 ≤ b127 := Nat.le_trans (Nat.le_trans Z0 Kp121.1) (Nat.le_of_eq g127.symm)
        have sz_b127 : h0.size ≤ b127 := Nat.le_trans Kp121.1 (Nat.le_of_eq g127.symm)
        have own_ne_b86_b127 : b86 ≠ b127 := Nat.ne_of_lt (Nat.lt_of_lt_of_le ((V92.ext E119).keep Kq121 (ninS (own_ne_b86_b119) nin0)).lt (Nat.le_of_eq g127.symm))
        have own_ne_b119_b127 : b119 ≠ b127 := Nat.ne_of_lt (Nat.lt_of_lt_of_le (A119.keep Kq121).lt (Nat.le_of_eq g127.symm))
        have own_ne_oGLOBAL_b127 : oGLOBAL ≠ b127 := Nat.ne_of_lt (Nat.lt_of_lt_of_le (EX_oGLOBAL.ext (own_ext Kp121)).lt (Nat.le_of_eq g127.symm))
        have own_ne_oAVERAGE_b127 : oAVERAGE ≠ b127 := Nat.ne_of_lt (Nat.lt_of_lt_of_le (EX_oAVERAGE.ext (own_ext Kp121)).lt (Nat.le_of_eq g127.symm))
        have Kp127 : Keep h0 h127 [] := Keep.ext Kp121 E127
        have F_resource_b127 : Fld Z h127 b127 "com/example/aswan/aswan/rule/FlowRule" "resource" "Ljava/lang/String;" .null := D127 (Or.inr (hw _ (List.mem_of_getElem? (i := 28) rfl))) (ty := (.object "java/lang/String")) (by decide)
        have F_count_b127 : Fld Z h127 b127 "com/example/aswan/aswan/rule/FlowRule" "count" "D" (.double (0 : UInt64)) := D127 (Or.inr (hw _ (List.mem_of_getElem? (i := 30) rfl))) (ty := .double) (by decide)
        have F_clusterConfig_b127 : Fld Z h127 b127 "com/example/aswan/aswan/rule/FlowRule" "clusterConfig" "Lcom/example/aswan/aswan/rule/ClusterConfig;" .null := D127 (Or.inr (hw _ (List.mem_of_getElem? (i := 32) rfl))) (ty := (.object "com/example/aswan/aswan/rule/ClusterConfig")) (by decide)
        have K127 : ∀ t, own_S p e below T127 (mkF m 141 #[.val (.int p0), .val (.long q1), .second, .val (.int p2), .val (.int p3), .val (.int p4), .val (.int cl), .val (.ref oGLOBAL), .val (.int fb), .val (.ref b86), .val (.ref b119), .val (.double dv), .second, .val (.long idv), .second, .val .null, .unset] [(.ref b127)]) t → Steps p.tables e below SE t := fun t k => K126 _ (st127 _ k)
        have K128 : ∀ t, own_S p e below T127 (mkF m 148 #[.val (.int p0), .val (.long q1), .second, .val (.int p2), .val (.int p3), .val (.int p4), .val (.int cl), .val (.ref oGLOBAL), .val (.int fb), .val (.ref b86), .val (.ref b119), .val (.double dv), .second, .val (.long idv), .second, .val .null, .unset] [.null, (.double dv), (.ref b119), (.ref b127), (.ref b127)]) t → Steps p.tables e below SE t := by
          intro t k
          refine K127 _ ?_
          refine XS.dup X127.here hx rfl (hb hby at_141) rfl rfl ?_
          show own_S p e below T127 (mkF m 142 #[.val (.int p0), .val (.long q1), .second, .val (.int p2), .val (.int p3), .val (.int p4), .val (.int cl), .val (.ref oGLOBAL), .val (.int fb), .val (.ref b86), .val (.ref b119), .val (.double dv), .second, .val (.long idv), .second, .val .null, .unset] [(.ref b127), (.ref b127)]) _
          refine XS.aload X127.here hx rfl (hb hby at_142) rfl rfl ?_
          show own_S p e below T127 (mkF m 144 #[.val (.int p0), .val (.long q1), .second, .val (.int p2), .val (.int p3), .val (.int p4), .val (.int cl), .val (.ref oGLOBAL), .val (.int fb), .val (.ref b86), .val (.ref b119), .val (.double dv), .second, .val (.long idv), .second, .val .null, .unset] [(.ref b119), (.ref b127), (.ref b127)]) _
          refine XS.dload X127.here hx rfl (hb hby at_144) rfl ?_
          show own_S p e below T127 (mkF m 146 #[.val (.int p0), .val (.long q1), .second, .val (.int p2), .val (.int p3), .val (.int p4), .val (.int cl), .val (.ref oGLOBAL), .val (.int fb), .val (.ref b86), .val (.ref b119), .val (.double dv), .second, .val (.long idv), .second, .val .null, .unset] [(.double dv), (.ref b119), (.ref b127), (.ref b127)]) _
          refine XS.aload X127.here hx rfl (hb hby at_146) rfl rfl ?_
          exact k
        obtain ⟨_, _, ⟨T129, L129, k129, n129⟩, -, X129, ⟨Lc129, hQ129, l129, y129, z129⟩, st129⟩ := X127.specialBack hx (y := (⟨"com/example/aswan/aswan/rule/FlowRule", "<init>", "(Ljava/lang/String;DLcom/example/aswan/aswan/rule/ClusterConfig;)V"⟩ : MethodName)) rfl hown (mvT hZ (hw _ (List.mem_of_getElem? (i := 21) rfl))) (mvT hZ (hw _ (List.mem_of_getElem? (i := 22) rfl))) (mvT hZ (hw _ (List.mem_of_getElem? (i := 23) rfl))) (by decide) (backOf (W := 1) (rmfrn l Z a0 hw [] b127 b119 dv h127 n0 (Nat.le_trans Z0 Kp127.1) A127 F_resource_b127 F_count_b127 F_clusterConfig_b127 g_b127) hZ (hw _ (List.mem_of_getElem? (i := 23) rfl)) (hw _ (List.mem_of_getElem? (i := 20) rfl)) (by decide) (by decide)) (g := (mkF m 148 #[.val (.int p0), .val (.long q1), .second, .val (.int p2), .val (.int p3), .val (.int p4), .val (.int cl), .val (.ref oGLOBAL), .val (.int fb), .val (.ref b86), .val (.ref b119), .val (.double dv), .second, .val (.long idv), .second, .val .null, .unset] [.null, (.double dv), (.ref b119), (.ref b127), (.ref b127)])) rfl (by rw [hml]; rfl) (Steps.refl _) (a := b127) (argsL := [(.ref b119), (.double dv), .null]) (rest := [(.ref b127)]) (lenOf pd_0_1 rfl) rfl (by show 2 * 0 + _ ≤ _; exact Nat.le_of_eq rfl) (hb hby at_148) (fun _ _ => ⟨rfl, e127, (by decide : 4 + 0 ≤ _), (by decide : 11 + 0 ≤ _)⟩)
        dsimp only [Pt.U, Pt.locs, Pt.cells, Pt.slots] at X129 l129 y129 z129 st129 hQ129
        subst l129 y129 z129
        obtain ⟨rfl, Nq129, Kq129, Ex129, Fa129, Fb129, Fc129⟩ := hQ129
        have N129 := Fr.app N124 Nq129
        have Kp129 : Keep h0 T129.heap [] := Keep.trans Kp127 Kq129 (allS (Or.inr sz_b127) all0)
        have K129 : ∀ t, own_S p e below T129 (mkF m 151 #[.val (.int p0), .val (.long q1), .second, .val (.int p2), .val (.int p3), .val (.int p4), .val (.int cl), .val (.ref oGLOBAL), .val (.int fb), .val (.ref b86), .val (.ref b119), .val (.double dv), .second, .val (.long idv), .second, .val .null, .unset] [(.ref b127)]) t → Steps p.tables e below SE t := fun t k => K128 _ (st129.trans k)
        have K130 : ∀ t, own_S p e below T129 (mkF m 155 #[.val (.int p0), .val (.long q1), .second, .val (.int p2), .val (.int p3), .val (.int p4), .val (.int cl), .val (.ref oGLOBAL), .val (.int fb), .val (.ref b86), .val (.ref b119), .val (.double dv), .second, .val (.long idv), .second, .val .null, .val (.ref b127)] [(.ref b127)]) t → Steps p.tables e below SE t := by
          intro t k
          refine K129 _ ?_
          refine XS.astore X129.here hx rfl (hb hby at_151) rfl rfl (l' := #[.val (.int p0), .val (.long q1), .second, .val (.int p2), .val (.int p3), .val (.int p4), .val (.int cl), .val (.ref oGLOBAL), .val (.int fb), .val (.ref b86), .val (.ref b119), .val (.double dv), .second, .val (.long idv), .second, .val .null, .val (.ref b127)]) rfl ?_
          show own_S p e below T129 (mkF m 153 #[.val (.int p0), .val (.long q1), .second, .val (.int p2), .val (.int p3), .val (.int p4), .val (.int cl), .val (.ref oGLOBAL), .val (.int fb), .val (.ref b86), .val (.ref b119), .val (.double dv), .second, .val (.long idv), .second, .val .null, .val (.ref b127)] []) _
          refine XS.aload X129.here hx rfl (hb hby at_153) rfl rfl ?_
          exact k
        obtain ⟨cq131, kq131, q131a, q131b, q131c⟩ := isOf hZ rfl Ex129
        obtain ⟨_, _, ⟨T131, L131, k131, n131⟩, -, X131, ⟨Lc131, hQ131, l131, y131, z131⟩, st131⟩ := X129.virtualBack hx (y := (⟨"com/example/aswan/aswan/rule/FlowRule", "isClusterMode", "()Z"⟩ : MethodName)) (z := (⟨"com/example/aswan/aswan/rule/FlowRule", "isClusterMode", "()Z"⟩ : MethodName)) hown (mvT hZ (hw _ (List.mem_of_getElem? (i := 33) rfl))) (mvT hZ (hw _ (List.mem_of_getElem? (i := 34) rfl))) (notFace_of_selects (args := #[]) (mvT hZ (hw _ (List.mem_of_getElem? (i := 36) rfl)))) (mvT hZ (hw _ (List.mem_of_getElem? (i := 36) rfl))) (mvT hZ (hw _ (List.mem_of_getElem? (i := 35) rfl))) (by decide) (backOf (W := 0) (rmis0 l Z a0 hw [] b127  T129.heap n0 (Nat.le_trans Z0 Kp129.1) Fc129) hZ (hw _ (List.mem_of_getElem? (i := 37) rfl)) (hw _ (List.mem_of_getElem? (i := 20) rfl)) (by decide) (by decide)) q131a q131c (g := (mkF m 155 #[.val (.int p0), .val (.long q1), .second, .val (.int p2), .val (.int p3), .val (.int p4), .val (.int cl), .val (.ref oGLOBAL), .val (.int fb), .val (.ref b86), .val (.ref b119), .val (.double dv), .second, .val (.long idv), .second, .val .null, .val (.ref b127)] [(.ref b127)])) rfl (by rw [hml]; rfl) (Steps.refl _) (argsL := []) (rest := []) (lenOf pd_0_2 rfl) rfl (by show 2 * 0 + _ ≤ _; exact Nat.le_of_eq rfl) (hb hby at_155) (fun _ _ => ⟨rfl, rfl, (by decide : 4 + 0 ≤ _), (by decide : 11 + 0 ≤ _)⟩)
        dsimp only [Pt.U, Pt.locs, Pt.cells, Pt.slots] at X131 l131 y131 z131 st131 hQ131
        subst l131 y131 z131
        obtain ⟨rfl, Nq131, e131⟩ := hQ131
        have N131 := Fr.app N129 Nq131
        have K131 : ∀ t, own_S p e below T131 (mkF m 158 #[.val (.int p0), .val (.long q1), .second, .val (.int p2), .val (.int p3), .val (.int p4), .val (.int cl), .val (.ref oGLOBAL), .val (.int fb), .val (.ref b86), .val (.ref b119), .val (.double dv), .second, .val (.long idv), .second, .val .null, .val (.ref b127)] [(.int (0 : Int32))]) t → Steps p.tables e below SE t := fun t k => K130 _ (st131.trans k)
        have K132 : ∀ t, own_S p e below T131 (mkF m 168 #[.val (.int p0), .val (.long q1), .second, .val (.int p2), .val (.int p3), .val (.int p4), .val (.int cl), .val (.ref oGLOBAL), .val (.int fb), .val (.ref b86), .val (.ref b119), .val (.double dv), .second, .val (.long idv), .second, .val .null, .val (.ref b127)] [(.int (1 : Int32))]) t → Steps p.tables e below SE t := by
          intro t k
          refine K131 _ ?_
          refine XS.iload X131.here hx rfl (hb hby at_158) rfl ?_
          show own_S p e below T131 (mkF m 160 #[.val (.int p0), .val (.long q1), .second, .val (.int p2), .val (.int p3), .val (.int p4), .val (.int cl), .val (.ref oGLOBAL), .val (.int fb), .val (.ref b86), .val (.ref b119), .val (.double dv), .second, .val (.long idv), .second, .val .null, .val (.ref b127)] [(.int cl), (.int (0 : Int32))]) _
          refine XS.icmpNo X131.here hx rfl (hb hby at_160) rfl (XT.ii_ne_f (c116.symm)) ?_
          show own_S p e below T131 (mkF m 163 #[.val (.int p0), .val (.long q1), .second, .val (.int p2), .val (.int p3), .val (.int p4), .val (.int cl), .val (.ref oGLOBAL), .val (.int fb), .val (.ref b86), .val (.ref b119), .val (.double dv), .second, .val (.long idv), .second, .val .null, .val (.ref b127)] []) _
          refine XS.iconst X131.here hx rfl (hb hby at_163) ?_
          show own_S p e below T131 (mkF m 164 #[.val (.int p0), .val (.long q1), .second, .val (.int p2), .val (.int p3), .val (.int p4), .val (.int cl), .val (.ref oGLOBAL), .val (.int fb), .val (.ref b86), .val (.ref b119), .val (.double dv), .second, .val (.long idv), .second, .val .null, .val (.ref b127)] [(.int (1 : Int32))]) _
          refine XS.goto X131.here hx rfl (pc0 := 164) (pc' := 168) rfl (hb hby at_164) (by decide) (by decide) ?_
          exact k
        obtain ⟨fs, hr, hrun, hended, hRW⟩ := X131.leaveW hS (by rw [e131]; exact (Nat.le_trans (Nat.le_trans (Nat.le_trans (Nat.le_trans (Nat.le_trans (Nat.le_trans (Nat.le_trans hk E86.1) (Nat.le_of_eq W89.size.symm)) (Nat.le_of_eq W92.size.symm)) E119.1) Kq121.1) E127.1) Kq129.1)) (v := some (.int (1 : Int32))) (fun h => by rw [Bd.returns] at h; cases h)
        refine ⟨_, _, K132 _ ?_, hrun, hended, _, _, rfl, ?_, hRW.1, hRW.2.1, hRW.2.2.1, hRW.2.2.2.mono (by decide) (by decide)⟩
        · exact retN X131 hx (t := .boolean) Bd.returns (by simp) (hb hby at_168) hr
        · show Q0 Z p0 q1 p2 p3 p4 oAVERAGE oGLOBAL G h0 n0 _ T131.heap _
          rw [e131]
          exact ⟨rfl, N131⟩
      · skip
        have hcl1 : (1 : Int32) = cl := by
          rw [hcl] at c116 ⊢
          by_cases w : (p0 &&& (1 : Int32)) = 0
          · rw [if_pos w] at c116; exact absurd rfl c116
          · rw [if_neg w]
        have K133 : ∀ t, own_S p e below T124 (mkF m 119 #[.val (.int p0), .val (.long q1), .second, .val (.int p2), .val (.int p3), .val (.int p4), .val (.int cl), .val (.ref oGLOBAL), .val (.int fb), .val (.ref b86), .val (.ref b119), .val (.double dv), .second, .val (.long idv), .second, .unset, .unset] []) t → Steps p.tables e below SE t := by
          intro t k
          refine K125 _ ?_
          refine XS.ifNo X124.here hx rfl (hb hby at_116) rfl (XT.i0_eq_f c116) ?_
          exact k
        obtain ⟨T134, h134, X134, e134, E134, A134, D134, -, st134⟩ := newO X124 hx hZ hown (hw _ (List.mem_of_getElem? (i := 60) rfl)) (hw _ (List.mem_of_getElem? (i := 61) rfl)) (hw _ (List.mem_of_getElem? (i := 62) rfl)) e124 (g := (mkF m 119 #[.val (.int p0), .val (.long q1), .second, .val (.int p2), .val (.int p3), .val (.int p4), .val (.int cl), .val (.ref oGLOBAL), .val (.int fb), .val (.ref b86), .val (.ref b119), .val (.double dv), .second, .val (.long idv), .second, .unset, .unset] [])) rfl (hb hby at_119) (by decide) (by decide)
        obtain ⟨b134, g134⟩ : ∃ z, z = T121.heap.size := ⟨_, rfl⟩
        rw [← g134] at A134 D134 st134
        have g_b134 : n0 ≤ b134 := Nat.le_trans (Nat.le_trans Z0 Kp121.1) (Nat.le_of_eq g134.symm)
        have sz_b134 : h0.size ≤ b134 := Nat.le_trans Kp121.1 (Nat.le_of_eq g134.symm)
        have own_ne_b86_b134 : b86 ≠ b134 := Nat.ne_of_lt (Nat.lt_of_lt_of_le ((V92.ext E119).keep Kq121 (ninS (own_ne_b86_b119) nin0)).lt (Nat.le_of_eq g134.symm))
        have own_ne_b119_b134 : b119 ≠ b134 := Nat.ne_of_lt (Nat.lt_of_lt_of_le (A119.keep Kq121).lt (Nat.le_of_eq g134.symm))
        have own_ne_oGLOBAL_b134 : oGLOBAL ≠ b134 := Nat.ne_of_lt (Nat.lt_of_lt_of_le (EX_oGLOBAL.ext (own_ext Kp121)).lt (Nat.le_of_eq g134.symm))
        have own_ne_oAVERAGE_b134 : oAVERAGE ≠ b134 := Nat.ne_of_lt (Nat.lt_of_lt_of_le (EX_oAVERAGE.ext (own_ext Kp121)).lt (Nat.le_of_eq g134.symm))
        have Kp134 : Keep h0 h134 [] := Keep.ext Kp121 E134
        have F_flowId_b134 : Fld Z h134 b134 "com/example/aswan/aswan/rule/ClusterConfig" "flowId" "J" (.long (0 : Int64)) := D134 (Or.inr (hw _ (List.mem_of_getElem? (i := 68) rfl))) (ty := .long) (by decide)
        have F_thresholdType_b134 : Fld Z h134 b134 "com/example/aswan/aswan/rule/ClusterConfig" "thresholdType" "Lcom/example/aswan/aswan/rule/ThresholdType;" .null := D134 (Or.inr (hw _ (List.mem_of_getElem? (i := 70) rfl))) (ty := (.object "com/example/aswan/aswan/rule/ThresholdType")) (by decide)
        have F_fallbackToLocalWhenFail_b134 : Fld Z h134 b134 "com/example/aswan/aswan/rule/ClusterConfig" "fallbackToLocalWhenFail" "Z" (.int (0 : Int32)) := D134 (Or.inr (hw _ (List.mem_of_getElem? (i := 72) rfl))) (ty := .boolean) (by decide)
        have K134 : ∀ t, own_S p e below T134 (mkF m 122 #[.val (.int p0), .val (.long q1), .second, .val (.int p2), .val (.int p3), .val (.int p4), .val (.int cl), .val (.ref oGLOBAL), .val (.int fb), .val (.ref b86), .val (.ref b119), .val (.double dv), .second, .val (.long idv), .second, .unset, .unset] [(.ref b134)]) t → Steps p.tables e below SE t := fun t k => K133 _ (st134 _ k)
        have K135 : ∀ t, own_S p e below T134 (mkF m 129 #[.val (.int p0), .val (.long q1), .second, .val (.int p2), .val (.int p3), .val (.int p4), .val (.int cl), .val (.ref oGLOBAL), .val (.int fb), .val (.ref b86), .val (.ref b119), .val (.double dv), .second, .val (.long idv), .second, .unset, .unset] [(.int fb), (.ref oGLOBAL), (.long idv), (.ref b134), (.ref b134)]) t → Steps p.tables e below SE t := by
          intro t k
          refine K134 _ ?_
          refine XS.dup X134.here hx rfl (hb hby at_122) rfl rfl ?_
          show own_S p e below T134 (mkF m 123 #[.val (.int p0), .val (.long q1), .second, .val (.int p2), .val (.int p3), .val (.int p4), .val (.int cl), .val (.ref oGLOBAL), .val (.int fb), .val (.ref b86), .val (.ref b119), .val (.double dv), .second, .val (.long idv), .second, .unset, .unset] [(.ref b134), (.ref b134)]) _
          refine XS.lload X134.here hx rfl (hb hby at_123) rfl ?_
          show own_S p e below T134 (mkF m 125 #[.val (.int p0), .val (.long q1), .second, .val (.int p2), .val (.int p3), .val (.int p4), .val (.int cl), .val (.ref oGLOBAL), .val (.int fb), .val (.ref b86), .val (.ref b119), .val (.double dv), .second, .val (.long idv), .second, .unset, .unset] [(.long idv), (.ref b134), (.ref b134)]) _
          refine XS.aload X134.here hx rfl (hb hby at_125) rfl rfl ?_
          show own_S p e below T134 (mkF m 127 #[.val (.int p0), .val (.long q1), .second, .val (.int p2), .val (.int p3), .val (.int p4), .val (.int cl), .val (.ref oGLOBAL), .val (.int fb), .val (.ref b86), .val (.ref b119), .val (.double dv), .second, .val (.long idv), .second, .unset, .unset] [(.ref oGLOBAL), (.long idv), (.ref b134), (.ref b134)]) _
          refine XS.iload X134.here hx rfl (hb hby at_127) rfl ?_
          exact k
        obtain ⟨_, _, ⟨T136, L136, k136, n136⟩, -, X136, ⟨Lc136, hQ136, l136, y136, z136⟩, st136⟩ := X134.specialBack hx (y := (⟨"com/example/aswan/aswan/rule/ClusterConfig", "<init>", "(JLcom/example/aswan/aswan/rule/ThresholdType;Z)V"⟩ : MethodName)) rfl hown (mvT hZ (hw _ (List.mem_of_getElem? (i := 63) rfl))) (mvT hZ (hw _ (List.mem_of_getElem? (i := 64) rfl))) (mvT hZ (hw _ (List.mem_of_getElem? (i := 65) rfl))) (by decide) (backOf (W := 1) (rmcc l Z a0 hw [] b134 idv oGLOBAL fb h134 n0 (Nat.le_trans Z0 Kp134.1) A134 F_flowId_b134 F_thresholdType_b134 F_fallbackToLocalWhenFail_b134 g_b134) hZ (hw _ (List.mem_of_getElem? (i := 65) rfl)) (hw _ (List.mem_of_getElem? (i := 62) rfl)) (by decide) (by decide)) (g := (mkF m 129 #[.val (.int p0), .val (.long q1), .second, .val (.int p2), .val (.int p3), .val (.int p4), .val (.int cl), .val (.ref oGLOBAL), .val (.int fb), .val (.ref b86), .val (.ref b119), .val (.double dv), .second, .val (.long idv), .second, .unset, .unset] [(.int fb), (.ref oGLOBAL), (.long idv), (.ref b134), (.ref b134)])) rfl (by rw [hml]; rfl) (Steps.refl _) (a := b134) (argsL := [(.long idv), (.ref oGLOBAL), (.int fb)]) (rest := [(.ref b134)]) (lenOf pd_0_3 rfl) rfl (by show 2 * 0 + _ ≤ _; exact Nat.le_of_eq rfl) (hb hby at_129) (fun _ _ => ⟨rfl, e134, (by decide : 4 + 0 ≤ _), (by decide : 11 + 0 ≤ _)⟩)
        dsimp only [Pt.U, Pt.locs, Pt.cells, Pt.slots] at X136 l136 y136 z136 st136 hQ136
        subst l136 y136 z136
        obtain ⟨rfl, Nq136, Kq136, Ex136, Fa136, Fb136, Fc136⟩ := hQ136
        have N136 := Fr.app N124 Nq136
        have Kp136 : Keep h0 T136.heap [] := Keep.trans Kp134 Kq136 (allS (Or.inr sz_b134) all0)
        have K136 : ∀ t, own_S p e below T136 (mkF m 132 #[.val (.int p0), .val (.long q1), .second, .val (.int p2), .val (.int p3), .val (.int p4), .val (.int cl), .val (.ref oGLOBAL), .val (.int fb), .val (.ref b86), .val (.ref b119), .val (.double dv), .second, .val (.long idv), .second, .unset, .unset] [(.ref b134)]) t → Steps p.tables e below SE t := fun t k => K135 _ (st136.trans k)
        have K137 : ∀ t, own_S p e below T136 (mkF m 138 #[.val (.int p0), .val (.long q1), .second, .val (.int p2), .val (.int p3), .val (.int p4), .val (.int cl), .val (.ref oGLOBAL), .val (.int fb), .val (.ref b86), .val (.ref b119), .val (.double dv), .second, .val (.long idv), .second, .val (.ref b134), .unset] []) t → Steps p.tables e below SE t := by
          intro t k
          refine K136 _ ?_
          refine XS.goto X136.here hx rfl (pc0 := 132) (pc' := 136) rfl (hb hby at_132) (by decide) (by decide) ?_
          show own_S p e below T136 (mkF m 136 #[.val (.int p0), .val (.long q1), .second, .val (.int p2), .val (.int p3), .val (.int p4), .val (.int cl), .val (.ref oGLOBAL), .val (.int fb), .val (.ref b86), .val (.ref b119), .val (.double dv), .second, .val (.long idv), .second, .unset, .unset] [(.ref b134)]) _
          refine XS.astore X136.here hx rfl (hb hby at_136) rfl rfl (l' := #[.val (.int p0), .val (.long q1), .second, .val (.int p2), .val (.int p3), .val (.int p4), .val (.int cl), .val (.ref oGLOBAL), .val (.int fb), .val (.ref b86), .val (.ref b119), .val (.double dv), .second, .val (.long idv), .second, .val (.ref b134), .unset]) rfl ?_
          exact k
        obtain ⟨T138, h138, X138, e138, E138, A138, D138, -, st138⟩ := newO X136 hx hZ hown (hw _ (List.mem_of_getElem? (i := 18) rfl)) (hw _ (List.mem_of_getElem? (i := 19) rfl)) (hw _ (List.mem_of_getElem? (i := 20) rfl)) rfl (g := (mkF m 138 #[.val (.int p0), .val (.long q1), .second, .val (.int p2), .val (.int p3), .val (.int p4), .val (.int cl), .val (.ref oGLOBAL), .val (.int fb), .val (.ref b86), .val (.ref b119), .val (.double dv), .second, .val (.long idv), .second, .val (.ref b134), .unset] [])) rfl (hb hby at_138) (by decide) (by decide)
        obtain ⟨b138, g138⟩ : ∃ z, z = T136.heap.size := ⟨_, rfl⟩
        rw [← g138] at A138 D138 st138
        have g_b138 : n0 ≤ b138 := Nat.le_trans (Nat.le_trans Z0 Kp136.1) (Nat.le_of_eq g138.symm)
        have sz_b138 : h0.size ≤ b138 := Nat.le_trans Kp136.1 (Nat.le_of_eq g138.symm)
        have own_ne_b86_b138 : b86 ≠ b138 := Nat.ne_of_lt (Nat.lt_of_lt_of_le ((((V92.ext E119).keep Kq121 (ninS (own_ne_b86_b119) nin0)).ext E134).keep Kq136 (ninS (own_ne_b86_b134) nin0)).lt (Nat.le_of_eq g138.symm))
        have own_ne_b119_b138 : b119 ≠ b138 := Nat.ne_of_lt (Nat.lt_of_lt_of_le (((A119.keep Kq121).ext E134).keep Kq136).lt (Nat.le_of_eq g138.symm))
        have own_ne_b134_b138 : b134 ≠ b138 := Nat.ne_of_lt (Nat.lt_of_lt_of_le Ex136.lt (Nat.le_of_eq g138.symm))
        have own_ne_oGLOBAL_b138 : oGLOBAL ≠ b138 := Nat.ne_of_lt (Nat.lt_of_lt_of_le (EX_oGLOBAL.ext (own_ext Kp136)).lt (Nat.le_of_eq g138.symm))
        have own_ne_oAVERAGE_b138 : oAVERAGE ≠ b138 := Nat.ne_of_lt (Nat.lt_of_lt_of_le (EX_oAVERAGE.ext (own_ext Kp136)).lt (Nat.le_of_eq g138.symm))
        have Kp138 : Keep h0 h138 [] := Keep.ext Kp136 E138
        have F_resource_b138 : Fld Z h138 b138 "com/example/aswan/aswan/rule/FlowRule" "resource" "Ljava/lang/String;" .null := D138 (Or.inr (hw _ (List.mem_of_getElem? (i := 28) rfl))) (ty := (.object "java/lang/String")) (by decide)
        have F_count_b138 : Fld Z h138 b138 "com/example/aswan/aswan/rule/FlowRule" "count" "D" (.double (0 : UInt64)) := D138 (Or.inr (hw _ (List.mem_of_getElem? (i := 30) rfl))) (ty := .double) (by decide)
        have F_clusterConfig_b138 : Fld Z h138 b138 "com/example/aswan/aswan/rule/FlowRule" "clusterConfig" "Lcom/example/aswan/aswan/rule/ClusterConfig;" .null := D138 (Or.inr (hw _ (List.mem_of_getElem? (i := 32) rfl))) (ty := (.object "com/example/aswan/aswan/rule/ClusterConfig")) (by decide)
        have K138 : ∀ t, own_S p e below T138 (mkF m 141 #[.val (.int p0), .val (.long q1), .second, .val (.int p2), .val (.int p3), .val (.int p4), .val (.int cl), .val (.ref oGLOBAL), .val (.int fb), .val (.ref b86), .val (.ref b119), .val (.double dv), .second, .val (.long idv), .second, .val (.ref b134), .unset] [(.ref b138)]) t → Steps p.tables e below SE t := fun t k => K137 _ (st138 _ k)
        have K139 : ∀ t, own_S p e below T138 (mkF m 148 #[.val (.int p0), .val (.long q1), .second, .val (.int p2), .val (.int p3), .val (.int p4), .val (.int cl), .val (.ref oGLOBAL), .val (.int fb), .val (.ref b86), .val (.ref b119), .val (.double dv), .second, .val (.long idv), .second, .val (.ref b134), .unset] [(.ref b134), (.double dv), (.ref b119), (.ref b138), (.ref b138)]) t → Steps p.tables e below SE t := by
          intro t k
          refine K138 _ ?_
          refine XS.dup X138.here hx rfl (hb hby at_141) rfl rfl ?_
          show own_S p e below T138 (mkF m 142 #[.val (.int p0), .val (.long q1), .second, .val (.int p2), .val (.int p3), .val (.int p4), .val (.int cl), .val (.ref oGLOBAL), .val (.int fb), .val (.ref b86), .val (.ref b119), .val (.double dv), .second, .val (.long idv), .second, .val (.ref b134), .unset] [(.ref b138), (.ref b138)]) _
          refine XS.aload X138.here hx rfl (hb hby at_142) rfl rfl ?_
          show own_S p e below T138 (mkF m 144 #[.val (.int p0), .val (.long q1), .second, .val (.int p2), .val (.int p3), .val (.int p4), .val (.int cl), .val (.ref oGLOBAL), .val (.int fb), .val (.ref b86), .val (.ref b119), .val (.double dv), .second, .val (.long idv), .second, .val (.ref b134), .unset] [(.ref b119), (.ref b138), (.ref b138)]) _
          refine XS.dload X138.here hx rfl (hb hby at_144) rfl ?_
          show own_S p e below T138 (mkF m 146 #[.val (.int p0), .val (.long q1), .second, .val (.int p2), .val (.int p3), .val (.int p4), .val (.int cl), .val (.ref oGLOBAL), .val (.int fb), .val (.ref b86), .val (.ref b119), .val (.double dv), .second, .val (.long idv), .second, .val (.ref b134), .unset] [(.double dv), (.ref b119), (.ref b138), (.ref b138)]) _
          refine XS.aload X138.here hx rfl (hb hby at_146) rfl rfl ?_
          exact k
        obtain ⟨_, _, ⟨T140, L140, k140, n140⟩, -, X140, ⟨Lc140, hQ140, l140, y140, z140⟩, st140⟩ := X138.specialBack hx (y := (⟨"com/example/aswan/aswan/rule/FlowRule", "<init>", "(Ljava/lang/String;DLcom/example/aswan/aswan/rule/ClusterConfig;)V"⟩ : MethodName)) rfl hown (mvT hZ (hw _ (List.mem_of_getElem? (i := 21) rfl))) (mvT hZ (hw _ (List.mem_of_getElem? (i := 22) rfl))) (mvT hZ (hw _ (List.mem_of_getElem? (i := 23) rfl))) (by decide) (backOf (W := 1) (rmfr l Z a0 hw [] b138 b119 dv b134 h138 n0 (Nat.le_trans Z0 Kp138.1) A138 F_resource_b138 F_count_b138 F_clusterConfig_b138 g_b138) hZ (hw _ (List.mem_of_getElem? (i := 23) rfl)) (hw _ (List.mem_of_getElem? (i := 20) rfl)) (by decide) (by decide)) (g := (mkF m 148 #[.val (.int p0), .val (.long q1), .second, .val (.int p2), .val (.int p3), .val (.int p4), .val (.int cl), .val (.ref oGLOBAL), .val (.int fb), .val (.ref b86), .val (.ref b119), .val (.double dv), .second, .val (.long idv), .second, .val (.ref b134), .unset] [(.ref b134), (.double dv), (.ref b119), (.ref b138), (.ref b138)])) rfl (by rw [hml]; rfl) (Steps.refl _) (a := b138) (argsL := [(.ref b119), (.double dv), (.ref b134)]) (rest := [(.ref b138)]) (lenOf pd_0_1 rfl) rfl (by show 2 * 0 + _ ≤ _; exact Nat.le_of_eq rfl) (hb hby at_148) (fun _ _ => ⟨rfl, e138, (by decide : 5 + 0 ≤ _), (by decide : 14 + 0 ≤ _)⟩)
        dsimp only [Pt.U, Pt.locs, Pt.cells, Pt.slots] at X140 l140 y140 z140 st140 hQ140
        subst l140 y140 z140
        obtain ⟨rfl, Nq140, Kq140, Ex140, Fa140, Fb140, Fc140⟩ := hQ140
        have N140 := Fr.app N136 Nq140
        have Kp140 : Keep h0 T140.heap [] := Keep.trans Kp138 Kq140 (allS (Or.inr sz_b138) all0)
        have K140 : ∀ t, own_S p e below T140 (mkF m 151 #[.val (.int p0), .val (.long q1), .second, .val (.int p2), .val (.int p3), .val (.int p4), .val (.int cl), .val (.ref oGLOBAL), .val (.int fb), .val (.ref b86), .val (.ref b119), .val (.double dv), .second, .val (.long idv), .second, .val (.ref b134), .unset] [(.ref b138)]) t → Steps p.tables e below SE t := fun t k => K139 _ (st140.trans k)
        have K141 : ∀ t, own_S p e below T140 (mkF m 155 #[.val (.int p0), .val (.long q1), .second, .val (.int p2), .val (.int p3), .val (.int p4), .val (.int cl), .val (.ref oGLOBAL), .val (.int fb), .val (.ref b86), .val (.ref b119), .val (.double dv), .second, .val (.long idv), .second, .val (.ref b134), .val (.ref b138)] [(.ref b138)]) t → Steps p.tables e below SE t := by
          intro t k
          refine K140 _ ?_
          refine XS.astore X140.here hx rfl (hb hby at_151) rfl rfl (l' := #[.val (.int p0), .val (.long q1), .second, .val (.int p2), .val (.int p3), .val (.int p4), .val (.int cl), .val (.ref oGLOBAL), .val (.int fb), .val (.ref b86), .val (.ref b119), .val (.double dv), .second, .val (.long idv), .second, .val (.ref b134), .val (.ref b138)]) rfl ?_
          show own_S p e below T140 (mkF m 153 #[.val (.int p0), .val (.long q1), .second, .val (.int p2), .val (.int p3), .val (.int p4), .val (.int cl), .val (.ref oGLOBAL), .val (.int fb), .val (.ref b86), .val (.ref b119), .val (.double dv), .second, .val (.long idv), .second, .val (.ref b134), .val (.ref b138)] []) _
          refine XS.aload X140.here hx rfl (hb hby at_153) rfl rfl ?_
          exact k
        obtain ⟨cq142, kq142, q142a, q142b, q142c⟩ := isOf hZ rfl Ex140
        obtain ⟨_, _, ⟨T142, L142, k142, n142⟩, -, X142, ⟨Lc142, hQ142, l142, y142, z142⟩, st142⟩ := X140.virtualBack hx (y := (⟨"com/example/aswan/aswan/rule/FlowRule", "isClusterMode", "()Z"⟩ : MethodName)) (z := (⟨"com/example/aswan/aswan/rule/FlowRule", "isClusterMode", "()Z"⟩ : MethodName)) hown (mvT hZ (hw _ (List.mem_of_getElem? (i := 33) rfl))) (mvT hZ (hw _ (List.mem_of_getElem? (i := 34) rfl))) (notFace_of_selects (args := #[]) (mvT hZ (hw _ (List.mem_of_getElem? (i := 36) rfl)))) (mvT hZ (hw _ (List.mem_of_getElem? (i := 36) rfl))) (mvT hZ (hw _ (List.mem_of_getElem? (i := 35) rfl))) (by decide) (backOf (W := 0) (rmis1 l Z a0 hw [] b138 b134 T140.heap n0 (Nat.le_trans Z0 Kp140.1) Fc140) hZ (hw _ (List.mem_of_getElem? (i := 37) rfl)) (hw _ (List.mem_of_getElem? (i := 20) rfl)) (by decide) (by decide)) q142a q142c (g := (mkF m 155 #[.val (.int p0), .val (.long q1), .second, .val (.int p2), .val (.int p3), .val (.int p4), .val (.int cl), .val (.ref oGLOBAL), .val (.int fb), .val (.ref b86), .val (.ref b119), .val (.double dv), .second, .val (.long idv), .second, .val (.ref b134), .val (.ref b138)] [(.ref b138)])) rfl (by rw [hml]; rfl) (Steps.refl _) (argsL := []) (rest := []) (lenOf pd_0_2 rfl) rfl (by show 2 * 0 + _ ≤ _; exact Nat.le_of_eq rfl) (hb hby at_155) (fun _ _ => ⟨rfl, rfl, (by decide : 5 + 0 ≤ _), (by decide : 14 + 0 ≤ _)⟩)
        dsimp only [Pt.U, Pt.locs, Pt.cells, Pt.slots] at X142 l142 y142 z142 st142 hQ142
        subst l142 y142 z142
        obtain ⟨rfl, Nq142, e142⟩ := hQ142
        have N142 := Fr.app N140 Nq142
        have K142 : ∀ t, own_S p e below T142 (mkF m 158 #[.val (.int p0), .val (.long q1), .second, .val (.int p2), .val (.int p3), .val (.int p4), .val (.int cl), .val (.ref oGLOBAL), .val (.int fb), .val (.ref b86), .val (.ref b119), .val (.double dv), .second, .val (.long idv), .second, .val (.ref b134), .val (.ref b138)] [(.int (1 : Int32))]) t → Steps p.tables e below SE t := fun t k => K141 _ (st142.trans k)
        have K143 : ∀ t, own_S p e below T142 (mkF m 168 #[.val (.int p0), .val (.long q1), .second, .val (.int p2), .val (.int p3), .val (.int p4), .val (.int cl), .val (.ref oGLOBAL), .val (.int fb), .val (.ref b86), .val (.ref b119), .val (.double dv), .second, .val (.long idv), .second, .val (.ref b134), .val (.ref b138)] [(.int (1 : Int32))]) t → Steps p.tables e below SE t := by
          intro t k
          refine K142 _ ?_
          refine XS.iload X142.here hx rfl (hb hby at_158) rfl ?_
          show own_S p e below T142 (mkF m 160 #[.val (.int p0), .val (.long q1), .second, .val (.int p2), .val (.int p3), .val (.int p4), .val (.int cl), .val (.ref oGLOBAL), .val (.int fb), .val (.ref b86), .val (.ref b119), .val (.double dv), .second, .val (.long idv), .second, .val (.ref b134), .val (.ref b138)] [(.int cl), (.int (1 : Int32))]) _
          refine XS.icmpNo X142.here hx rfl (hb hby at_160) rfl (XT.ii_ne_f hcl1) ?_
          show own_S p e below T142 (mkF m 163 #[.val (.int p0), .val (.long q1), .second, .val (.int p2), .val (.int p3), .val (.int p4), .val (.int cl), .val (.ref oGLOBAL), .val (.int fb), .val (.ref b86), .val (.ref b119), .val (.double dv), .second, .val (.long idv), .second, .val (.ref b134), .val (.ref b138)] []) _
          refine XS.iconst X142.here hx rfl (hb hby at_163) ?_
          show own_S p e below T142 (mkF m 164 #[.val (.int p0), .val (.long q1), .second, .val (.int p2), .val (.int p3), .val (.int p4), .val (.int cl), .val (.ref oGLOBAL), .val (.int fb), .val (.ref b86), .val (.ref b119), .val (.double dv), .second, .val (.long idv), .second, .val (.ref b134), .val (.ref b138)] [(.int (1 : Int32))]) _
          refine XS.goto X142.here hx rfl (pc0 := 164) (pc' := 168) rfl (hb hby at_164) (by decide) (by decide) ?_
          exact k
        obtain ⟨fs, hr, hrun, hended, hRW⟩ := X142.leaveW hS (by rw [e142]; exact (Nat.le_trans (Nat.le_trans (Nat.le_trans (Nat.le_trans (Nat.le_trans (Nat.le_trans (Nat.le_trans (Nat.le_trans (Nat.le_trans hk E86.1) (Nat.le_of_eq W89.size.symm)) (Nat.le_of_eq W92.size.symm)) E119.1) Kq121.1) E134.1) Kq136.1) E138.1) Kq140.1)) (v := some (.int (1 : Int32))) (fun h => by rw [Bd.returns] at h; cases h)
        refine ⟨_, _, K143 _ ?_, hrun, hended, _, _, rfl, ?_, hRW.1, hRW.2.1, hRW.2.2.1, hRW.2.2.2.mono (by decide) (by decide)⟩
        · exact retN X142 hx (t := .boolean) Bd.returns (by simp) (hb hby at_168) hr
        · show Q0 Z p0 q1 p2 p3 p4 oAVERAGE oGLOBAL G h0 n0 _ T142.heap _
          rw [e142]
          exact ⟨rfl, N142⟩
set_option maxRecDepth 65536 in
set_option maxHeartbeats 40000000 in
theorem comes_1 {Post : Tables → Env → Array Value → State → Outcome → State → Prop} (hpost : ∀ tb e args s v u, (limb_1_1.after args s (.returned v) u = true ∧ limb_1_2.after args s (.returned v) u = true ∧ True) → ReturnedEndW s (.returned v) u (Jvm.fieldLocs frame_1_writes args s ++ Jvm.arrayLocs frame_1_arrays args s ++ Jvm.staticLocs frame_1_statics s) 24 1152 → Post tb e args s (.returned v) u) :
    ArmFor flags0 classFile x code maxLocals ret World_1 tables_1 room_1 Calls_1 rest_1 Pre_1 Post := by
  intro l hfl _ _ p e ha hc hk s m args below hf hA hF happ hP
  obtain ⟨hcalls, hrest, hpre⟩ := hP
  obtain ⟨-, -, -, hnamed, -, -, -, hat⟩ := (Spec.applies_iff hf).mp happ
  obtain ⟨hg, hn⟩ := and_e (Cond.before_iff.mp (show (Jvm.Cond.and given_1 narrow_1).before args s = true from hpre))
  obtain ⟨hcount, hg0⟩ := and_e hg
  obtain ⟨ha0, hg1⟩ := and_e hg0
  obtain ⟨ha1, hg2⟩ := and_e hg1
  obtain ⟨ha2, hg3⟩ := and_e hg2
  obtain ⟨ha3, hg4⟩ := and_e hg3
  obtain ⟨w0, w1, w2, w3, w4, rfl⟩ : ∃ w0 w1 w2 w3 w4 : Value, args = #[w0, w1, w2, w3, w4] := by
    have hs : args.size = 5 := by simpa [Cond.value, given_1] using hcount
    obtain ⟨L⟩ := args
    match L, hs with
    | [w0, w1, w2, w3, w4], _ => exact ⟨w0, w1, w2, w3, w4, rfl⟩
  have hw := fun d (hd : d ∈ tables_1) => atoms_spec (ws := Jvm.Cond.code x code maxLocals ret :: tables_1) hat d (List.mem_cons_of_mem _ hd)
  have hfit : Fit s := fun {y c} hc i hi => by
    obtain ⟨ha, rfl⟩ := Array.getElem?_eq_some_iff.mp hc
    have q := List.all_eq_true.mp ((Array.all_eq_true_iff_forall_mem.mp hF) _ (Array.getElem_mem ha)) i (List.mem_range.mpr hi)
    simpa [Array.getElem?_eq_getElem hi] using q
  obtain ⟨i0, ei0⟩ := is_v ha0
  obtain rfl : w0 = (.int i0) := Option.some.inj ei0
  obtain ⟨i1, ei1⟩ := isL_v ha1
  obtain rfl : w1 = (.long i1) := Option.some.inj ei1
  obtain ⟨i2, ei2⟩ := is_v ha2
  obtain rfl : w2 = (.int i2) := Option.some.inj ei2
  obtain ⟨i3, ei3⟩ := is_v ha3
  obtain rfl : w3 = (.int i3) := Option.some.inj ei3
  obtain ⟨i4, ei4⟩ := is_v hg4
  obtain rfl : w4 = (.int i4) := Option.some.inj ei4
  obtain ⟨hc0, hcr0⟩ := and_e hn
  obtain ⟨oAVERAGE, ev_oAVERAGE⟩ := exa_v hc0
  have ST_AVERAGE : Sta s s.heap "com/example/aswan/aswan/rule/ThresholdType" "AVERAGE" "Lcom/example/aswan/aswan/rule/ThresholdType;" (.ref oAVERAGE) := Sta.start ev_oAVERAGE (Or.inr ⟨(hw _ (List.mem_of_getElem? (i := 1) rfl)), (hw _ (List.mem_of_getElem? (i := 2) rfl))⟩)
  have EX_oAVERAGE : Exa s s.heap oAVERAGE "com/example/aswan/aswan/rule/ThresholdType" := Exa.start ev_oAVERAGE hc0
  obtain ⟨oGLOBAL, ev_oGLOBAL⟩ := exa_v hcr0
  have ST_GLOBAL : Sta s s.heap "com/example/aswan/aswan/rule/ThresholdType" "GLOBAL" "Lcom/example/aswan/aswan/rule/ThresholdType;" (.ref oGLOBAL) := Sta.start ev_oGLOBAL (Or.inr ⟨(hw _ (List.mem_of_getElem? (i := 1) rfl)), (hw _ (List.mem_of_getElem? (i := 74) rfl))⟩)
  have EX_oGLOBAL : Exa s s.heap oGLOBAL "com/example/aswan/aswan/rule/ThresholdType" := Exa.start ev_oGLOBAL hcr0
  have hsets := (atoms_of jdkStatics_1 (own := restOwn_1) (args := _) (s := s) (by rw [← rest_1_c_eq]; exact hrest)).1
  obtain ⟨G, evG⟩ := is_v (Cond.before_iff.mp (hsets _ (List.mem_of_getElem? (i := 1) rfl)))
  have S_cs : Sta s s.heap "java/lang/String" "COMPACT_STRINGS" "Z" (.int G) := Sta.start evG (Or.inl (hsets _ (List.mem_of_getElem? (i := 0) rfl)))
  have hG : ¬ G = 0 := by
    have q := not_v (Cond.before_iff.mp (hsets _ (List.mem_of_getElem? (i := 2) rfl)))
    intro w
    subst w
    rw [eq_i evG (Term.int_eval (0)) rfl] at q
    cases q
  obtain ⟨n, o, h1, h2, h3, _, L, rfl, ⟨rfl, N⟩, hq⟩ := rm0 l s _ hw tables_1 i0 i1 i2 i3 i4 oAVERAGE oGLOBAL G s.heap s.heap.size (Nat.le_refl _) ST_AVERAGE EX_oAVERAGE ST_GLOBAL EX_oGLOBAL S_cs hG p e ha hc hk s m _ below hf ((Spec.applies_iff_loose hf).mp happ).1 ⟨rfl, State.Warmed39.refl s, rfl⟩ trivial
  refine ⟨n, _, h1, h2, h3, hpost _ _ _ _ _ _ ⟨Cond.after_iff.mpr rfl, Cond.after_iff.mpr (eq_i res_at (Term.int_eval (1)) rfl), trivial⟩ ⟨hq.1, hq.2.1, hq.2.2.1, (hq.2.2.2.sift fun y hy => Or.inr (N y hy)).mono (by decide) (by decide)⟩⟩
theorem main_1_1 : Claimed_1_1 := comes_1 fun _ _ _ _ _ _ h hF => ⟨h.1, hF⟩
theorem main_1_2 : Claimed_1_2 := comes_1 fun _ _ _ _ _ _ h hF => ⟨h.2.1, hF⟩
end Jvm.Pilot.@@N@@
namespace Jvm.Pilot.@@N@@
open Jvm Jvm.ClassFile Sem Op Lib Jvm.Free Jvm.Stand Jvm.Pilot.@@N@@.Jvm.D
/-! MADE BY PROGRAM (witnessworld.py) out of the Statement's table words and the real class files: 24 classes; the members and pool entries that the words name. The judged class is class 1, her method 1. -/
namespace start1
open Jvm.ClassFile
def u (s : String) : CpInfo := .utf8 (stringToUtf16 s)
/-- a pool by its gaps: so many unusable entries, then the entry; so many at the end -/
def gap : Nat → List CpInfo → List CpInfo
  | 0, r => r
  | n + 1, r => .unusable :: gap n r
def poolList (es : List (Nat × CpInfo)) (last : Nat) : List CpInfo := es.foldr (fun e r => gap e.1 (e.2 :: r)) (gap last [])
def pool (es : List (Nat × CpInfo)) (last : Nat) : Array CpInfo := ⟨poolList es last⟩
def fileOf (pool : Array CpInfo) (this : Nat) (attrs : Array Attribute := #[]) (ms : Array MethodInfo := #[]) (fl : Nat := 33) (sup : Nat := 0) (ifs : Array Nat := #[]) (fds : Array FieldInfo := #[]) : ClassFile where
  minorVersion := 0
  majorVersion := 65
  constantPool := pool
  accessFlags := fl
  thisClass := this
  superClass := sup
  interfaces := ifs
  fields := fds
  methods := ms
  attributes := attrs
def plain (name : String) (sup : Option ClassId) : Class where
  name := name
  kind := .ordinary
  loader := none
  accessFlags := 33
  super := sup
  interfaces := #[]
  cf := none
  fields := #[]
  methods := #[]
  instanceTypes := #[]
  staticTypes := #[]
  resolved := #[]
  callSites := []
  init := .initialized
  statics := none
  mirror := none

def pool0 : Array CpInfo := pool [(5, u "<init>"), (0, u "()V"), (1, .class_ 10), (1, u "java/lang/Object")] 113

def k0c0 : Code := { maxStack := 0, maxLocals := 1, code := object_method_1_code, exceptionTable := #[], attributes := #[] }
def k0m0 : Method := { name := "<init>", desc := "()V", sig := { parameters := [], returnType := none }, accessFlags := 1, code := some k0c0 }
/-- java/lang/Object -/
def k0 : Class := { plain "java/lang/Object" none with
  accessFlags := 33
  interfaces := #[]
  cf := some (fileOf pool0 8 #[] #[{ accessFlags := 1, nameIndex := 5, descriptorIndex := 6, attributes := #[] }] 33 0 #[] #[])
  fields := #[]
  methods := #[k0m0]
  instanceTypes := #[]
  staticTypes := #[]
  resolved := Array.replicate 124 none
  statics := none }

def pool1 : Array CpInfo := pool [(2, .class_ 4), (1, u "java/lang/Object"), (0, u "<init>"), (0, u "()V"), (0, .fieldref 8 9), (0, .class_ 10), (0, .nameAndType 11 12), (0, u "com/example/aswan/aswan/rule/ThresholdType"), (0, u "AVERAGE"), (0, u "Lcom/example/aswan/aswan/rule/ThresholdType;"), (0, .fieldref 8 14), (0, .nameAndType 15 12), (0, u "GLOBAL"), (0, .string 17), (0, u ""), (0, .class_ 19), (0, u "java/lang/String"), (0, .methodref 18 21), (0, .nameAndType 5 22), (0, u "([C)V"), (0, .integer 1048575), (2, .long 9223372036854775807), (1, .methodref 29 30), (0, .class_ 31), (0, .nameAndType 32 33), (0, u "java/lang/Math"), (0, u "max"), (0, u "(JJ)J"), (0, .class_ 35), (0, u "com/example/aswan/aswan/rule/ClusterConfig"), (0, .methodref 34 37), (0, .nameAndType 5 38), (0, u "(JLcom/example/aswan/aswan/rule/ThresholdType;Z)V"), (0, .class_ 40), (0, u "com/example/aswan/aswan/rule/FlowRule"), (0, .methodref 39 42), (0, .nameAndType 5 43), (0, u "(Ljava/lang/String;DLcom/example/aswan/aswan/rule/ClusterConfig;)V"), (0, .methodref 39 45), (0, .nameAndType 46 47), (0, u "isClusterMode"), (0, u "()Z"), (0, .class_ 49), (0, u "com/example/aswan/aswan/rule/FlowRuleIsClusterModePinLaw"), (2, u "law"), (0, u "(IJIII)Z")] 5

def k1m0 : Method := { name := "<init>", desc := "()V", sig := { parameters := [], returnType := none }, accessFlags := 1, code := none }
def k1c1 : Code := { maxStack := 6, maxLocals := 17, code := code, exceptionTable := #[], attributes := #[] }
def k1m1 : Method := { name := "law", desc := "(IJIII)Z", sig := { parameters := [.int, .long, .int, .int, .int], returnType := some .boolean }, accessFlags := 9, code := some k1c1 }
/-- com/example/aswan/aswan/rule/FlowRuleIsClusterModePinLaw -/
def k1 : Class := { plain "com/example/aswan/aswan/rule/FlowRuleIsClusterModePinLaw" (some 0) with
  accessFlags := 49
  interfaces := #[]
  cf := some (fileOf pool1 48 #[] #[{ accessFlags := 1, nameIndex := 5, descriptorIndex := 6, attributes := #[] }, { accessFlags := 9, nameIndex := 52, descriptorIndex := 53, attributes := #[] }] 49 2 #[] #[])
  fields := #[]
  methods := #[k1m0, k1m1]
  instanceTypes := #[]
  staticTypes := #[]
  resolved := Array.replicate 59 none
  statics := none }

def pool2 : Array CpInfo := pool [(1, .class_ 2), (0, u "java/lang/constant/Constable"), (0, .class_ 4), (0, u "java/lang/Object")] 6

/-- java/lang/constant/Constable -/
def k2 : Class := { plain "java/lang/constant/Constable" (some 0) with
  accessFlags := 1537
  interfaces := #[]
  cf := some (fileOf pool2 1 #[] #[] 1537 3 #[] #[])
  fields := #[]
  methods := #[]
  instanceTypes := #[]
  staticTypes := #[]
  resolved := Array.replicate 11 none
  statics := none }

def pool3 : Array CpInfo := pool [(1, .class_ 2), (0, u "java/lang/Comparable"), (0, .class_ 4), (0, u "java/lang/Object")] 7

/-- java/lang/Comparable -/
def k3 : Class := { plain "java/lang/Comparable" (some 0) with
  accessFlags := 1537
  interfaces := #[]
  cf := some (fileOf pool3 1 #[] #[] 1537 3 #[] #[])
  fields := #[]
  methods := #[]
  instanceTypes := #[]
  staticTypes := #[]
  resolved := Array.replicate 12 none
  statics := none }

def pool4 : Array CpInfo := pool [(1, .class_ 2), (0, u "java/io/Serializable"), (0, .class_ 4), (0, u "java/lang/Object")] 2

/-- java/io/Serializable -/
def k4 : Class := { plain "java/io/Serializable" (some 0) with
  accessFlags := 1537
  interfaces := #[]
  cf := some (fileOf pool4 1 #[] #[] 1537 3 #[] #[])
  fields := #[]
  methods := #[]
  instanceTypes := #[]
  staticTypes := #[]
  resolved := Array.replicate 7 none
  statics := none }

def pool5 : Array CpInfo := pool [(2, .class_ 4), (1, u "java/lang/Enum"), (0, u "name"), (0, u "Ljava/lang/String;"), (2, u "ordinal"), (0, u "I"), (1, .class_ 14), (1, u "java/lang/Object"), (4, u "hash"), (86, .class_ 108), (1, u "java/lang/Enum$EnumDesc"), (2, .class_ 112), (0, u "java/lang/constant/Constable"), (0, .class_ 114), (0, u "java/lang/Comparable"), (0, .class_ 116), (0, u "java/io/Serializable")] 87

/-- java/lang/Enum -/
def k5 : Class := { plain "java/lang/Enum" (some 0) with
  accessFlags := 1057
  interfaces := #[2, 3, 4]
  cf := some (fileOf pool5 2 #[.nestMembers #[106]] #[] 1057 12 #[111, 113, 115] #[{ accessFlags := 18, nameIndex := 5, descriptorIndex := 6, attributes := #[] }, { accessFlags := 18, nameIndex := 9, descriptorIndex := 10, attributes := #[] }, { accessFlags := 2, nameIndex := 19, descriptorIndex := 10, attributes := #[] }])
  fields := #[{ name := "name", type := (.object "java/lang/String"), accessFlags := 18, slot := 0, constantValue := 0 }, { name := "ordinal", type := .int, accessFlags := 18, slot := 1, constantValue := 0 }, { name := "hash", type := .int, accessFlags := 2, slot := 2, constantValue := 0 }]
  methods := #[]
  instanceTypes := #[(.object "java/lang/String"), .int, .int]
  staticTypes := #[]
  resolved := Array.replicate 204 none
  statics := none }

def pool6 : Array CpInfo := pool [(1, .class_ 2), (0, u "com/example/aswan/aswan/rule/ThresholdType"), (2, u "AVERAGE"), (0, u "Lcom/example/aswan/aswan/rule/ThresholdType;"), (2, u "GLOBAL"), (2, u "$VALUES"), (0, u "[Lcom/example/aswan/aswan/rule/ThresholdType;"), (6, .class_ 22), (1, u "java/lang/Enum"), (8, u "code"), (0, u "I")] 23

/-- com/example/aswan/aswan/rule/ThresholdType -/
def k6 : Class := { plain "com/example/aswan/aswan/rule/ThresholdType" (some 5) with
  accessFlags := 16433
  interfaces := #[]
  cf := some (fileOf pool6 1 #[] #[] 16433 20 #[] #[{ accessFlags := 16409, nameIndex := 5, descriptorIndex := 6, attributes := #[] }, { accessFlags := 16409, nameIndex := 9, descriptorIndex := 6, attributes := #[] }, { accessFlags := 18, nameIndex := 31, descriptorIndex := 32, attributes := #[] }, { accessFlags := 4122, nameIndex := 12, descriptorIndex := 13, attributes := #[] }])
  fields := #[{ name := "AVERAGE", type := (.object "com/example/aswan/aswan/rule/ThresholdType"), accessFlags := 16409, slot := 0, constantValue := 0 }, { name := "GLOBAL", type := (.object "com/example/aswan/aswan/rule/ThresholdType"), accessFlags := 16409, slot := 1, constantValue := 0 }, { name := "code", type := .int, accessFlags := 18, slot := 3, constantValue := 0 }, { name := "$VALUES", type := (.array (.object "com/example/aswan/aswan/rule/ThresholdType")), accessFlags := 4122, slot := 2, constantValue := 0 }]
  methods := #[]
  instanceTypes := #[(.object "java/lang/String"), .int, .int, .int]
  staticTypes := #[(.object "com/example/aswan/aswan/rule/ThresholdType"), (.object "com/example/aswan/aswan/rule/ThresholdType"), (.array (.object "com/example/aswan/aswan/rule/ThresholdType"))]
  resolved := Array.replicate 56 none
  statics := some 0 }

def pool7 : Array CpInfo := pool [(2, .class_ 4), (1, u "java/lang/CharSequence"), (42, .class_ 48), (0, u "java/lang/CharSequence$1CodePointIterator"), (10, .class_ 60), (0, u "java/lang/CharSequence$1CharIterator"), (5, .class_ 67), (0, u "java/lang/Object")] 63

/-- java/lang/CharSequence -/
def k7 : Class := { plain "java/lang/CharSequence" (some 0) with
  accessFlags := 1537
  interfaces := #[]
  cf := some (fileOf pool7 2 #[.nestMembers #[47, 59]] #[] 1537 66 #[] #[])
  fields := #[]
  methods := #[]
  instanceTypes := #[]
  staticTypes := #[]
  resolved := Array.replicate 131 none
  statics := none }

def pool8 : Array CpInfo := pool [(1, .class_ 2), (0, u "java/lang/constant/ConstantDesc"), (0, .class_ 4), (0, u "java/lang/Object")] 32

/-- java/lang/constant/ConstantDesc -/
def k8 : Class := { plain "java/lang/constant/ConstantDesc" (some 0) with
  accessFlags := 1537
  interfaces := #[]
  cf := some (fileOf pool8 1 #[] #[] 1537 3 #[] #[])
  fields := #[]
  methods := #[]
  instanceTypes := #[]
  staticTypes := #[]
  resolved := Array.replicate 37 none
  statics := none }

def pool9 : Array CpInfo := pool [(1, .methodref 2 3), (0, .class_ 4), (0, .nameAndType 5 6), (0, u "java/lang/Object"), (0, u "<init>"), (0, u "()V"), (2, .fieldref 10 11), (0, .class_ 12), (0, .nameAndType 13 14), (0, u "java/lang/String"), (0, u "value"), (0, u "[B"), (0, .fieldref 10 16), (0, .nameAndType 17 18), (0, u "coder"), (0, u "B"), (2, u "hash"), (0, u "I"), (2, u "hashIsZero"), (0, u "Z"), (0, .methodref 10 28), (0, .nameAndType 5 29), (0, u "([CIILjava/lang/Void;)V"), (8, .fieldref 10 39), (0, .nameAndType 40 26), (0, u "COMPACT_STRINGS"), (1, .class_ 44), (1, u "java/lang/StringUTF16"), (0, u "compress"), (1, .methodref 42 48), (0, .nameAndType 49 50), (0, u "coderFromArrayLen"), (0, u "([BI)B"), (126, .methodref 42 178), (0, .nameAndType 45 179), (0, u "([CII)[B"), (395, .class_ 576), (0, u "java/lang/CharSequence"), (22, u "CASE_INSENSITIVE_ORDER"), (0, u "Ljava/util/Comparator;"), (409, u "([C)V"), (90, u "serialPersistentFields"), (0, u "[Ljava/io/ObjectStreamField;"), (0, .class_ 1104), (0, u "java/lang/String$CaseInsensitiveComparator"), (1, .class_ 1107), (0, u "java/io/Serializable"), (0, .class_ 1109), (0, u "java/lang/Comparable"), (0, .class_ 1111), (0, u "java/lang/constant/Constable"), (0, .class_ 1113), (0, u "java/lang/constant/ConstantDesc"), (2, u "serialVersionUID"), (0, u "J"), (3, u "REPL"), (0, u "C"), (2, u "LATIN1"), (1, u "UTF16")] 323

def k9m0 : Method := { name := "<init>", desc := "()V", sig := { parameters := [], returnType := none }, accessFlags := 1, code := none }
def k9c1 : Code := { maxStack := 5, maxLocals := 2, code := jdk_42_method_3_code, exceptionTable := #[], attributes := #[] }
def k9m1 : Method := { name := "<init>", desc := "([C)V", sig := { parameters := [(.array .char)], returnType := none }, accessFlags := 1, code := some k9c1 }
def k9c2 : Code := { maxStack := 4, maxLocals := 6, code := jdk_42_method_149_code, exceptionTable := #[], attributes := #[] }
def k9m2 : Method := { name := "<init>", desc := "([CIILjava/lang/Void;)V", sig := { parameters := [(.array .char), .int, .int, (.object "java/lang/Void")], returnType := none }, accessFlags := 2, code := some k9c2 }
/-- java/lang/String -/
def k9 : Class := { plain "java/lang/String" (some 0) with
  accessFlags := 49
  interfaces := #[4, 3, 7, 2, 8]
  cf := some (fileOf pool9 10 #[.nestMembers #[1103]] #[{ accessFlags := 1, nameIndex := 5, descriptorIndex := 6, attributes := #[] }, { accessFlags := 1, nameIndex := 5, descriptorIndex := 1010, attributes := #[] }, { accessFlags := 2, nameIndex := 5, descriptorIndex := 29, attributes := #[] }] 49 2 #[1106, 1108, 575, 1110, 1112] #[{ accessFlags := 18, nameIndex := 13, descriptorIndex := 14, attributes := #[] }, { accessFlags := 18, nameIndex := 17, descriptorIndex := 18, attributes := #[] }, { accessFlags := 2, nameIndex := 21, descriptorIndex := 22, attributes := #[] }, { accessFlags := 2, nameIndex := 25, descriptorIndex := 26, attributes := #[] }, { accessFlags := 26, nameIndex := 1116, descriptorIndex := 1117, attributes := #[] }, { accessFlags := 24, nameIndex := 40, descriptorIndex := 26, attributes := #[] }, { accessFlags := 26, nameIndex := 1101, descriptorIndex := 1102, attributes := #[] }, { accessFlags := 26, nameIndex := 1121, descriptorIndex := 1122, attributes := #[] }, { accessFlags := 25, nameIndex := 599, descriptorIndex := 600, attributes := #[] }, { accessFlags := 24, nameIndex := 1125, descriptorIndex := 18, attributes := #[] }, { accessFlags := 24, nameIndex := 1127, descriptorIndex := 18, attributes := #[] }])
  fields := #[{ name := "value", type := (.array .byte), accessFlags := 18, slot := 0, constantValue := 0 }, { name := "coder", type := .byte, accessFlags := 18, slot := 1, constantValue := 0 }, { name := "hash", type := .int, accessFlags := 2, slot := 2, constantValue := 0 }, { name := "hashIsZero", type := .boolean, accessFlags := 2, slot := 3, constantValue := 0 }, { name := "serialVersionUID", type := .long, accessFlags := 26, slot := 0, constantValue := 0 }, { name := "COMPACT_STRINGS", type := .boolean, accessFlags := 24, slot := 1, constantValue := 0 }, { name := "serialPersistentFields", type := (.array (.object "java/io/ObjectStreamField")), accessFlags := 26, slot := 2, constantValue := 0 }, { name := "REPL", type := .char, accessFlags := 26, slot := 3, constantValue := 0 }, { name := "CASE_INSENSITIVE_ORDER", type := (.object "java/util/Comparator"), accessFlags := 25, slot := 4, constantValue := 0 }, { name := "LATIN1", type := .byte, accessFlags := 24, slot := 5, constantValue := 0 }, { name := "UTF16", type := .byte, accessFlags := 24, slot := 6, constantValue := 0 }]
  methods := #[k9m0, k9m1, k9m2]
  instanceTypes := #[(.array .byte), .byte, .int, .boolean]
  staticTypes := #[.long, .boolean, (.array (.object "java/io/ObjectStreamField")), .char, (.object "java/util/Comparator"), .byte, .byte]
  resolved := Array.replicate 1451 none
  statics := some 1 }

def pool10 : Array CpInfo := pool [(1, .class_ 2), (0, u "java/lang/Math"), (1, .class_ 6), (1, u "java/lang/Object"), (0, u "<init>"), (0, u "()V"), (89, .class_ 100), (1, u "java/lang/Math$RandomNumberGeneratorHolder"), (20, u "(JJ)J"), (50, u "negativeZeroFloatBits"), (0, u "J"), (2, u "negativeZeroDoubleBits"), (21, u "max"), (46, u "$assertionsDisabled"), (0, u "Z"), (91, u "twoToTheDoubleScaleDown"), (0, u "D"), (4, u "twoToTheDoubleScaleUp"), (9, u "E"), (3, u "PI"), (2, u "TAU"), (2, u "DEGREES_TO_RADIANS"), (0, u "RADIANS_TO_DEGREES")] 94

def k10m0 : Method := { name := "<init>", desc := "()V", sig := { parameters := [], returnType := none }, accessFlags := 2, code := none }
def k10c1 : Code := { maxStack := 4, maxLocals := 4, code := jdk_29_method_66_code, exceptionTable := #[], attributes := #[] }
def k10m1 : Method := { name := "max", desc := "(JJ)J", sig := { parameters := [.long, .long], returnType := some .long }, accessFlags := 9, code := some k10c1 }
/-- java/lang/Math -/
def k10 : Class := { plain "java/lang/Math" (some 0) with
  accessFlags := 49
  interfaces := #[]
  cf := some (fileOf pool10 1 #[.nestMembers #[98]] #[{ accessFlags := 2, nameIndex := 7, descriptorIndex := 8, attributes := #[] }, { accessFlags := 9, nameIndex := 198, descriptorIndex := 121, attributes := #[] }] 49 4 #[] #[{ accessFlags := 25, nameIndex := 354, descriptorIndex := 339, attributes := #[] }, { accessFlags := 25, nameIndex := 358, descriptorIndex := 339, attributes := #[] }, { accessFlags := 25, nameIndex := 361, descriptorIndex := 339, attributes := #[] }, { accessFlags := 26, nameIndex := 364, descriptorIndex := 339, attributes := #[] }, { accessFlags := 26, nameIndex := 365, descriptorIndex := 339, attributes := #[] }, { accessFlags := 26, nameIndex := 172, descriptorIndex := 173, attributes := #[] }, { accessFlags := 26, nameIndex := 176, descriptorIndex := 173, attributes := #[] }, { accessFlags := 8, nameIndex := 344, descriptorIndex := 339, attributes := #[] }, { accessFlags := 8, nameIndex := 338, descriptorIndex := 339, attributes := #[] }, { accessFlags := 4120, nameIndex := 245, descriptorIndex := 246, attributes := #[] }])
  fields := #[{ name := "E", type := .double, accessFlags := 25, slot := 0, constantValue := 0 }, { name := "PI", type := .double, accessFlags := 25, slot := 1, constantValue := 0 }, { name := "TAU", type := .double, accessFlags := 25, slot := 2, constantValue := 0 }, { name := "DEGREES_TO_RADIANS", type := .double, accessFlags := 26, slot := 3, constantValue := 0 }, { name := "RADIANS_TO_DEGREES", type := .double, accessFlags := 26, slot := 4, constantValue := 0 }, { name := "negativeZeroFloatBits", type := .long, accessFlags := 26, slot := 5, constantValue := 0 }, { name := "negativeZeroDoubleBits", type := .long, accessFlags := 26, slot := 6, constantValue := 0 }, { name := "twoToTheDoubleScaleUp", type := .double, accessFlags := 8, slot := 7, constantValue := 0 }, { name := "twoToTheDoubleScaleDown", type := .double, accessFlags := 8, slot := 8, constantValue := 0 }, { name := "$assertionsDisabled", type := .boolean, accessFlags := 4120, slot := 9, constantValue := 0 }]
  methods := #[k10m0, k10m1]
  instanceTypes := #[]
  staticTypes := #[.double, .double, .double, .double, .double, .long, .long, .double, .double, .boolean]
  resolved := Array.replicate 460 none
  statics := none }

def pool11 : Array CpInfo := pool [(1, .methodref 2 3), (0, .class_ 4), (0, .nameAndType 5 6), (0, u "java/lang/Object"), (0, u "<init>"), (0, u "()V"), (0, .fieldref 8 9), (0, .class_ 10), (0, .nameAndType 11 12), (0, u "com/example/aswan/aswan/rule/FlowRule"), (0, u "resource"), (0, u "Ljava/lang/String;"), (0, .fieldref 8 14), (0, .nameAndType 15 16), (0, u "count"), (0, u "D"), (0, .fieldref 8 18), (0, .nameAndType 19 20), (0, u "clusterConfig"), (0, u "Lcom/example/aswan/aswan/rule/ClusterConfig;"), (6, .class_ 28), (0, u "java/io/Serializable"), (0, u "serialVersionUID"), (0, u "J"), (3, u "(Ljava/lang/String;DLcom/example/aswan/aswan/rule/ClusterConfig;)V"), (8, u "isClusterMode"), (0, u "()Z")] 7

def k11c0 : Code := { maxStack := 3, maxLocals := 5, code := prog_26_method_1_code, exceptionTable := #[], attributes := #[] }
def k11m0 : Method := { name := "<init>", desc := "(Ljava/lang/String;DLcom/example/aswan/aswan/rule/ClusterConfig;)V", sig := { parameters := [(.object "java/lang/String"), .double, (.object "com/example/aswan/aswan/rule/ClusterConfig")], returnType := none }, accessFlags := 0, code := some k11c0 }
def k11c1 : Code := { maxStack := 1, maxLocals := 1, code := prog_26_method_5_code, exceptionTable := #[], attributes := #[] }
def k11m1 : Method := { name := "isClusterMode", desc := "()Z", sig := { parameters := [], returnType := some .boolean }, accessFlags := 1, code := some k11c1 }
/-- com/example/aswan/aswan/rule/FlowRule -/
def k11 : Class := { plain "com/example/aswan/aswan/rule/FlowRule" (some 0) with
  accessFlags := 49
  interfaces := #[4]
  cf := some (fileOf pool11 8 #[] #[{ accessFlags := 0, nameIndex := 5, descriptorIndex := 34, attributes := #[] }, { accessFlags := 1, nameIndex := 43, descriptorIndex := 44, attributes := #[] }] 49 2 #[27] #[{ accessFlags := 26, nameIndex := 29, descriptorIndex := 30, attributes := #[] }, { accessFlags := 18, nameIndex := 11, descriptorIndex := 12, attributes := #[] }, { accessFlags := 18, nameIndex := 15, descriptorIndex := 16, attributes := #[] }, { accessFlags := 18, nameIndex := 19, descriptorIndex := 20, attributes := #[] }])
  fields := #[{ name := "serialVersionUID", type := .long, accessFlags := 26, slot := 0, constantValue := 0 }, { name := "resource", type := (.object "java/lang/String"), accessFlags := 18, slot := 0, constantValue := 0 }, { name := "count", type := .double, accessFlags := 18, slot := 1, constantValue := 0 }, { name := "clusterConfig", type := (.object "com/example/aswan/aswan/rule/ClusterConfig"), accessFlags := 18, slot := 2, constantValue := 0 }]
  methods := #[k11m0, k11m1]
  instanceTypes := #[(.object "java/lang/String"), .double, (.object "com/example/aswan/aswan/rule/ClusterConfig")]
  staticTypes := #[.long]
  resolved := Array.replicate 52 none
  statics := none }

def pool12 : Array CpInfo := pool [(6, .class_ 8), (1, u "java/lang/Object"), (0, u "<init>"), (0, u "()V"), (1, .class_ 14), (1, u "java/lang/StringUTF16"), (31, u "$assertionsDisabled"), (0, u "Z"), (13, u "HI_BYTE_SHIFT"), (0, u "I"), (2, u "LO_BYTE_SHIFT"), (49, .methodref 12 116), (0, .nameAndType 117 118), (0, u "compress"), (0, u "([CI[BII)I"), (3, u "([CII)[B"), (138, u "coderFromArrayLen"), (0, u "([BI)B"), (106, .class_ 371), (1, u "java/lang/StringUTF16$LinesSpliterator"), (58, u "MAX_LENGTH"), (196, .class_ 628), (0, u "java/lang/StringUTF16$CodePointsSpliterator"), (0, .class_ 630), (0, u "java/lang/StringUTF16$CharsSpliterator")] 4

def k12m0 : Method := { name := "<init>", desc := "()V", sig := { parameters := [], returnType := none }, accessFlags := 0, code := none }
def k12c1 : Code := { maxStack := 2, maxLocals := 2, code := jdk_52_method_15_code, exceptionTable := #[], attributes := #[] }
def k12m1 : Method := { name := "coderFromArrayLen", desc := "([BI)B", sig := { parameters := [(.array .byte), .int], returnType := some .byte }, accessFlags := 8, code := some k12c1 }
def k12c2 : Code := { maxStack := 5, maxLocals := 6, code := jdk_52_method_16_code, exceptionTable := #[], attributes := #[] }
def k12m2 : Method := { name := "compress", desc := "([CII)[B", sig := { parameters := [(.array .char), .int, .int], returnType := some (.array .byte) }, accessFlags := 9, code := some k12c2 }
def k12c3 : Code := { maxStack := 3, maxLocals := 7, code := jdk_52_method_21_code, exceptionTable := #[], attributes := #[] }
def k12m3 : Method := { name := "compress", desc := "([CI[BII)I", sig := { parameters := [(.array .char), .int, (.array .byte), .int, .int], returnType := some .int }, accessFlags := 9, code := some k12c3 }
/-- java/lang/StringUTF16 -/
def k12 : Class := { plain "java/lang/StringUTF16" (some 0) with
  accessFlags := 48
  interfaces := #[]
  cf := some (fileOf pool12 12 #[.nestMembers #[627, 629, 369]] #[{ accessFlags := 0, nameIndex := 9, descriptorIndex := 10, attributes := #[] }, { accessFlags := 8, nameIndex := 261, descriptorIndex := 262, attributes := #[] }, { accessFlags := 9, nameIndex := 117, descriptorIndex := 122, attributes := #[] }, { accessFlags := 9, nameIndex := 117, descriptorIndex := 118, attributes := #[] }] 48 6 #[] #[{ accessFlags := 26, nameIndex := 61, descriptorIndex := 62, attributes := #[] }, { accessFlags := 26, nameIndex := 65, descriptorIndex := 62, attributes := #[] }, { accessFlags := 24, nameIndex := 430, descriptorIndex := 62, attributes := #[] }, { accessFlags := 4120, nameIndex := 46, descriptorIndex := 47, attributes := #[] }])
  fields := #[{ name := "HI_BYTE_SHIFT", type := .int, accessFlags := 26, slot := 0, constantValue := 0 }, { name := "LO_BYTE_SHIFT", type := .int, accessFlags := 26, slot := 1, constantValue := 0 }, { name := "MAX_LENGTH", type := .int, accessFlags := 24, slot := 2, constantValue := 0 }, { name := "$assertionsDisabled", type := .boolean, accessFlags := 4120, slot := 3, constantValue := 0 }]
  methods := #[k12m0, k12m1, k12m2, k12m3]
  instanceTypes := #[]
  staticTypes := #[.int, .int, .int, .boolean]
  resolved := Array.replicate 635 none
  statics := none }

def pool13 : Array CpInfo := pool [(1, .methodref 2 3), (0, .class_ 4), (0, .nameAndType 5 6), (0, u "java/lang/Object"), (0, u "<init>"), (0, u "()V"), (0, .fieldref 8 9), (0, .class_ 10), (0, .nameAndType 11 12), (0, u "com/example/aswan/aswan/rule/ClusterConfig"), (0, u "flowId"), (0, u "J"), (0, .fieldref 8 14), (0, .nameAndType 15 16), (0, u "thresholdType"), (0, u "Lcom/example/aswan/aswan/rule/ThresholdType;"), (0, .fieldref 8 18), (0, .nameAndType 19 20), (0, u "fallbackToLocalWhenFail"), (0, u "Z"), (0, .class_ 22), (0, u "java/io/Serializable"), (0, u "serialVersionUID"), (3, u "(JLcom/example/aswan/aswan/rule/ThresholdType;Z)V")] 10

def k13c0 : Code := { maxStack := 3, maxLocals := 5, code := prog_25_method_1_code, exceptionTable := #[], attributes := #[] }
def k13m0 : Method := { name := "<init>", desc := "(JLcom/example/aswan/aswan/rule/ThresholdType;Z)V", sig := { parameters := [.long, (.object "com/example/aswan/aswan/rule/ThresholdType"), .boolean], returnType := none }, accessFlags := 0, code := some k13c0 }
/-- com/example/aswan/aswan/rule/ClusterConfig -/
def k13 : Class := { plain "com/example/aswan/aswan/rule/ClusterConfig" (some 0) with
  accessFlags := 49
  interfaces := #[4]
  cf := some (fileOf pool13 8 #[] #[{ accessFlags := 0, nameIndex := 5, descriptorIndex := 27, attributes := #[] }] 49 2 #[21] #[{ accessFlags := 26, nameIndex := 23, descriptorIndex := 12, attributes := #[] }, { accessFlags := 18, nameIndex := 11, descriptorIndex := 12, attributes := #[] }, { accessFlags := 18, nameIndex := 15, descriptorIndex := 16, attributes := #[] }, { accessFlags := 18, nameIndex := 19, descriptorIndex := 20, attributes := #[] }])
  fields := #[{ name := "serialVersionUID", type := .long, accessFlags := 26, slot := 0, constantValue := 0 }, { name := "flowId", type := .long, accessFlags := 18, slot := 0, constantValue := 0 }, { name := "thresholdType", type := (.object "com/example/aswan/aswan/rule/ThresholdType"), accessFlags := 18, slot := 1, constantValue := 0 }, { name := "fallbackToLocalWhenFail", type := .boolean, accessFlags := 18, slot := 2, constantValue := 0 }]
  methods := #[k13m0]
  instanceTypes := #[.long, (.object "com/example/aswan/aswan/rule/ThresholdType"), .boolean]
  staticTypes := #[.long]
  resolved := Array.replicate 38 none
  statics := none }

def pool14 : Array CpInfo := pool [(4, .class_ 6), (1, u "java/lang/Object"), (0, u "<init>"), (0, u "()V"), (5, .class_ 16), (1, u "java/lang/StringLatin1"), (104, u "$assertionsDisabled"), (0, u "Z"), (98, .class_ 223), (1, u "java/lang/StringLatin1$LinesSpliterator"), (166, .class_ 391), (0, u "java/lang/StringLatin1$CharsSpliterator")] 3

def k14m0 : Method := { name := "<init>", desc := "()V", sig := { parameters := [], returnType := none }, accessFlags := 0, code := none }
/-- java/lang/StringLatin1 -/
def k14 : Class := { plain "java/lang/StringLatin1" (some 0) with
  accessFlags := 48
  interfaces := #[]
  cf := some (fileOf pool14 14 #[.nestMembers #[390, 221]] #[{ accessFlags := 0, nameIndex := 7, descriptorIndex := 8, attributes := #[] }] 48 4 #[] #[{ accessFlags := 4120, nameIndex := 121, descriptorIndex := 122, attributes := #[] }])
  fields := #[{ name := "$assertionsDisabled", type := .boolean, accessFlags := 4120, slot := 0, constantValue := 0 }]
  methods := #[k14m0]
  instanceTypes := #[]
  staticTypes := #[.boolean]
  resolved := Array.replicate 395 none
  statics := none }

def pool15 : Array CpInfo := pool [(2, .class_ 4), (1, u "java/lang/Object"), (0, u "<init>"), (0, u "()V"), (17, .class_ 26), (1, u "jdk/internal/util/Preconditions"), (28, .class_ 56), (0, u "jdk/internal/util/Preconditions$4"), (57, .class_ 115), (0, u "jdk/internal/util/Preconditions$1"), (7, u "SIOOBE_FORMATTER"), (0, u "Ljava/util/function/BiFunction;"), (0, .class_ 126), (0, u "jdk/internal/util/Preconditions$2"), (3, u "AIOOBE_FORMATTER"), (0, .class_ 132), (0, u "jdk/internal/util/Preconditions$3"), (3, u "IOOBE_FORMATTER")] 57

def k15m0 : Method := { name := "<init>", desc := "()V", sig := { parameters := [], returnType := none }, accessFlags := 1, code := none }
/-- jdk/internal/util/Preconditions -/
def k15 : Class := { plain "jdk/internal/util/Preconditions" (some 0) with
  accessFlags := 33
  interfaces := #[]
  cf := some (fileOf pool15 24 #[.nestMembers #[55, 131, 125, 114]] #[{ accessFlags := 1, nameIndex := 5, descriptorIndex := 6, attributes := #[] }] 33 2 #[] #[{ accessFlags := 25, nameIndex := 123, descriptorIndex := 124, attributes := #[] }, { accessFlags := 25, nameIndex := 130, descriptorIndex := 124, attributes := #[] }, { accessFlags := 25, nameIndex := 136, descriptorIndex := 124, attributes := #[] }])
  fields := #[{ name := "SIOOBE_FORMATTER", type := (.object "java/util/function/BiFunction"), accessFlags := 25, slot := 0, constantValue := 0 }, { name := "AIOOBE_FORMATTER", type := (.object "java/util/function/BiFunction"), accessFlags := 25, slot := 1, constantValue := 0 }, { name := "IOOBE_FORMATTER", type := (.object "java/util/function/BiFunction"), accessFlags := 25, slot := 2, constantValue := 0 }]
  methods := #[k15m0]
  instanceTypes := #[]
  staticTypes := #[(.object "java/util/function/BiFunction"), (.object "java/util/function/BiFunction"), (.object "java/util/function/BiFunction")]
  resolved := Array.replicate 194 none
  statics := some 2 }

def pool16 : Array CpInfo := pool [(9, u "<init>"), (6, .class_ 18), (1, u "java/lang/Object"), (0, u "()V"), (1, .class_ 23), (1, u "jdk/internal/util/ArraysSupport"), (0, u "LOG2_ARRAY_LONG_INDEX_SCALE"), (0, u "I"), (2, u "U"), (0, u "Ljdk/internal/misc/Unsafe;"), (8, u "BIG_ENDIAN"), (0, u "Z"), (8, u "LOG2_BYTE_BIT_SIZE"), (4, u "LOG2_ARRAY_INT_INDEX_SCALE"), (54, u "JLA"), (0, u "Ljdk/internal/access/JavaLangAccess;"), (11, u "LOG2_ARRAY_BOOLEAN_INDEX_SCALE"), (9, u "LOG2_ARRAY_BYTE_INDEX_SCALE"), (5, u "LOG2_ARRAY_CHAR_INDEX_SCALE"), (5, u "LOG2_ARRAY_SHORT_INDEX_SCALE"), (18, u "LOG2_ARRAY_FLOAT_INDEX_SCALE"), (24, u "LOG2_ARRAY_DOUBLE_INDEX_SCALE"), (89, u "T_BOOLEAN"), (2, u "T_CHAR"), (1, u "T_FLOAT"), (1, u "T_DOUBLE"), (1, u "T_BYTE"), (1, u "T_SHORT"), (1, u "T_INT"), (1, u "T_LONG"), (1, u "SOFT_MAX_ARRAY_LENGTH")] 83

def k16m0 : Method := { name := "<init>", desc := "()V", sig := { parameters := [], returnType := none }, accessFlags := 2, code := none }
/-- jdk/internal/util/ArraysSupport -/
def k16 : Class := { plain "jdk/internal/util/ArraysSupport" (some 0) with
  accessFlags := 33
  interfaces := #[]
  cf := some (fileOf pool16 21 #[] #[{ accessFlags := 2, nameIndex := 9, descriptorIndex := 19, attributes := #[] }] 33 16 #[] #[{ accessFlags := 24, nameIndex := 28, descriptorIndex := 29, attributes := #[] }, { accessFlags := 26, nameIndex := 38, descriptorIndex := 39, attributes := #[] }, { accessFlags := 25, nameIndex := 121, descriptorIndex := 25, attributes := #[] }, { accessFlags := 25, nameIndex := 131, descriptorIndex := 25, attributes := #[] }, { accessFlags := 25, nameIndex := 137, descriptorIndex := 25, attributes := #[] }, { accessFlags := 25, nameIndex := 143, descriptorIndex := 25, attributes := #[] }, { accessFlags := 25, nameIndex := 53, descriptorIndex := 25, attributes := #[] }, { accessFlags := 25, nameIndex := 24, descriptorIndex := 25, attributes := #[] }, { accessFlags := 25, nameIndex := 162, descriptorIndex := 25, attributes := #[] }, { accessFlags := 25, nameIndex := 187, descriptorIndex := 25, attributes := #[] }, { accessFlags := 26, nameIndex := 48, descriptorIndex := 25, attributes := #[] }, { accessFlags := 25, nameIndex := 277, descriptorIndex := 25, attributes := #[] }, { accessFlags := 25, nameIndex := 280, descriptorIndex := 25, attributes := #[] }, { accessFlags := 25, nameIndex := 282, descriptorIndex := 25, attributes := #[] }, { accessFlags := 25, nameIndex := 284, descriptorIndex := 25, attributes := #[] }, { accessFlags := 25, nameIndex := 286, descriptorIndex := 25, attributes := #[] }, { accessFlags := 25, nameIndex := 288, descriptorIndex := 25, attributes := #[] }, { accessFlags := 25, nameIndex := 290, descriptorIndex := 25, attributes := #[] }, { accessFlags := 25, nameIndex := 292, descriptorIndex := 25, attributes := #[] }, { accessFlags := 26, nameIndex := 108, descriptorIndex := 109, attributes := #[] }, { accessFlags := 25, nameIndex := 294, descriptorIndex := 25, attributes := #[] }])
  fields := #[{ name := "U", type := (.object "jdk/internal/misc/Unsafe"), accessFlags := 24, slot := 0, constantValue := 0 }, { name := "BIG_ENDIAN", type := .boolean, accessFlags := 26, slot := 1, constantValue := 0 }, { name := "LOG2_ARRAY_BOOLEAN_INDEX_SCALE", type := .int, accessFlags := 25, slot := 2, constantValue := 0 }, { name := "LOG2_ARRAY_BYTE_INDEX_SCALE", type := .int, accessFlags := 25, slot := 3, constantValue := 0 }, { name := "LOG2_ARRAY_CHAR_INDEX_SCALE", type := .int, accessFlags := 25, slot := 4, constantValue := 0 }, { name := "LOG2_ARRAY_SHORT_INDEX_SCALE", type := .int, accessFlags := 25, slot := 5, constantValue := 0 }, { name := "LOG2_ARRAY_INT_INDEX_SCALE", type := .int, accessFlags := 25, slot := 6, constantValue := 0 }, { name := "LOG2_ARRAY_LONG_INDEX_SCALE", type := .int, accessFlags := 25, slot := 7, constantValue := 0 }, { name := "LOG2_ARRAY_FLOAT_INDEX_SCALE", type := .int, accessFlags := 25, slot := 8, constantValue := 0 }, { name := "LOG2_ARRAY_DOUBLE_INDEX_SCALE", type := .int, accessFlags := 25, slot := 9, constantValue := 0 }, { name := "LOG2_BYTE_BIT_SIZE", type := .int, accessFlags := 26, slot := 10, constantValue := 0 }, { name := "T_BOOLEAN", type := .int, accessFlags := 25, slot := 11, constantValue := 0 }, { name := "T_CHAR", type := .int, accessFlags := 25, slot := 12, constantValue := 0 }, { name := "T_FLOAT", type := .int, accessFlags := 25, slot := 13, constantValue := 0 }, { name := "T_DOUBLE", type := .int, accessFlags := 25, slot := 14, constantValue := 0 }, { name := "T_BYTE", type := .int, accessFlags := 25, slot := 15, constantValue := 0 }, { name := "T_SHORT", type := .int, accessFlags := 25, slot := 16, constantValue := 0 }, { name := "T_INT", type := .int, accessFlags := 25, slot := 17, constantValue := 0 }, { name := "T_LONG", type := .int, accessFlags := 25, slot := 18, constantValue := 0 }, { name := "JLA", type := (.object "jdk/internal/access/JavaLangAccess"), accessFlags := 26, slot := 19, constantValue := 0 }, { name := "SOFT_MAX_ARRAY_LENGTH", type := .int, accessFlags := 25, slot := 20, constantValue := 0 }]
  methods := #[k16m0]
  instanceTypes := #[]
  staticTypes := #[(.object "jdk/internal/misc/Unsafe"), .boolean, .int, .int, .int, .int, .int, .int, .int, .int, .int, .int, .int, .int, .int, .int, .int, .int, .int, (.object "jdk/internal/access/JavaLangAccess"), .int]
  resolved := Array.replicate 378 none
  statics := none }

def pool17 : Array CpInfo := pool [(1, u "java/lang/Cloneable"), (0, .class_ 1), (0, u "java/lang/Object"), (0, .class_ 3)] 3

/-- java/lang/Cloneable -/
def k17 : Class := { plain "java/lang/Cloneable" (some 0) with
  accessFlags := 1537
  interfaces := #[]
  cf := some (fileOf pool17 2 #[] #[] 1537 4 #[] #[])
  fields := #[]
  methods := #[]
  instanceTypes := #[]
  staticTypes := #[]
  resolved := Array.replicate 8 none
  statics := none }

/-- the primitive byte -/
def k18 : Class := { plain "byte" none with kind := .primitive 'B', accessFlags := 0x411 }
/-- [B -/
def k19 : Class := { plain "[B" (some 0) with kind := .array 18 .byte, interfaces := #[17, 4], accessFlags := 1041 }

/-- the primitive char -/
def k20 : Class := { plain "char" none with kind := .primitive 'C', accessFlags := 0x411 }
/-- [C -/
def k21 : Class := { plain "[C" (some 0) with kind := .array 20 .char, interfaces := #[17, 4], accessFlags := 1041 }

/-- the primitive int -/
def k22 : Class := { plain "int" none with kind := .primitive 'I', accessFlags := 0x411 }
/-- [I -/
def k23 : Class := { plain "[I" (some 0) with kind := .array 22 .int, interfaces := #[17, 4], accessFlags := 1041 }

def heap : Heap := #[{ cls := 6, slots := #[.ref 3, .ref 4, .null], vm := .statics 6 },
  { cls := 9, slots := #[.long 0, .int 1, .null, .int 0, .null, .int 0, .int 0], vm := .statics 9 },
  { cls := 15, slots := #[.null, .null, .null], vm := .statics 15 },
  { cls := 6, slots := #[.null, .int 0, .int 0, .int 0], vm := .none },
  { cls := 6, slots := #[.null, .int 1, .int 0, .int 1], vm := .none }]
def classes : Array Class := #[k0, k1, k2, k3, k4, k5, k6, k7, k8, k9, k10, k11, k12, k13, k14, k15, k16, k17, k18, k19, k20, k21, k22, k23]
def interned : List (Array UInt16 × Addr) := []
def slotsUsed : Nat := 21
def theMethod : MethodId := ⟨1, 1⟩
def args0 : Array Value := #[.int 5, .long 6, .int 7, .int 8, .int 9]
def aboutOver (below : List Frame) : State where
  vm := { classes := classes, interned := interned.toArray }
  heap := heap
  slotsUsed := slotsUsed
  threads := #[{ frames := .invoking theMethod args0 :: below }]
def below0 : List Frame := [.native { method := ⟨0, 0⟩, args := #[] }]
def about1 : State := aboutOver below0
def p0 : Program := .bare "" "" ""
def e0 : Env := launch0.env 0 0 0
theorem w_frames : about1.frames = Frame.invoking theMethod args0 :: below0 := rfl
set_option maxRecDepth 65536 in
theorem w_args : argsFit about1.vm theMethod args0 = true := by decide +kernel
set_option maxRecDepth 65536 in
theorem w_heap : heapFits about1 = true := by decide +kernel
set_option maxRecDepth 65536 in
theorem w_runnable : about1.curStatus? = some .runnable := by decide +kernel
set_option maxRecDepth 65536 in
theorem w_alone : about1.alone = true := by decide +kernel
set_option maxRecDepth 65536 in
theorem w_named : about1.methodNamed? x = some theMethod := by decide +kernel
set_option maxRecDepth 65536 in
theorem w_hears : about1.hears theMethod below0 = true := by decide +kernel
set_option maxRecDepth 65536 in
theorem w_ripe : about1.ripe theMethod args0 below0 = true := by decide +kernel
theorem w_running : about1.status = .running := rfl
set_option maxRecDepth 65536 in
theorem w_room : about1.hasRoom e0.platform room_1 = true :=
  launch0.hasRoom_least _ room_1 (by decide +kernel) (by decide +kernel) (by decide +kernel) (by decide +kernel) (by decide +kernel) (by decide +kernel)
theorem allAtoms_all (ts : List Jvm.Cond) (a : Array Jvm.Value) (st : Jvm.State) : (allAtoms ts).before a st = ts.all (fun c => c.before a st) := by
  induction ts with
  | nil => rfl
  | cons c t ih =>
    show (Jvm.Cond.and c (allAtoms t)).before a st = _
    rw [Jvm.Cond.before_and, ih, List.all_cons]
def words1 : List Jvm.Cond := Jvm.Cond.code x code maxLocals ret :: tables_1
/-- a 'code' word, met by the world's own term for the bytes: nothing is compared byte by byte -/
theorem code_word {y : MethodName} {bytes : ByteArray} {mx : Nat} {rt : Option FieldType} {a : Array Value} {s : State} {m : MethodId} {meth : Method} {c : Code} (h1 : s.methodNamed? y = some m) (h2 : s.vm.method? m = some meth) (h3 : meth.code = some c) (h4 : c.code = bytes)
    (h5 : (c.maxLocals == mx && c.exceptionTable.isEmpty && decide (c.maxStack ≤ mostOperands) && decide (meth.sig.returnType = rt) && !meth.locks && decide (parseMethodDescriptor y.desc = some meth.sig)) = true) : (Jvm.Cond.code y bytes mx rt).before a s = true := by
  simp only [Bool.and_eq_true, beq_iff_eq, Bool.not_eq_true', decide_eq_true_eq] at h5
  obtain ⟨⟨⟨⟨⟨g1, g2⟩, g3⟩, g4⟩, g5⟩, g6⟩ := h5
  simp [Cond.before, Cond.holds, Cond.value, h1, h2, h3, h4, g1, g2, g3, g4, g5, g6]
def isCode : Jvm.Cond → Bool
  | .code _ _ _ _ => true
  | _ => false
theorem all_split {L : List Jvm.Cond} {P : Jvm.Cond → Bool} (h1 : L.all (fun c => isCode c || P c) = true) (h2 : ∀ c ∈ L.filter isCode, P c = true) : L.all P = true := by
  refine List.all_eq_true.mpr fun c hc => ?_
  have h := List.all_eq_true.mp h1 c hc
  rcases Bool.eq_false_or_eq_true (isCode c) with hi | hi
  · exact h2 c (List.mem_filter.mpr ⟨hc, hi⟩)
  · simpa [hi] using h
set_option maxRecDepth 65536 in
theorem w_c0 : (Jvm.Cond.code x code maxLocals ret).before args0 about1 = true := code_word (m := ⟨1, 1⟩) (meth := k1m1) (c := k1c1) (by decide +kernel) rfl rfl rfl (by decide +kernel)
set_option maxRecDepth 65536 in
theorem w_c1 : (Jvm.Cond.code ({ cls := "java/lang/Math", name := "max", desc := "(JJ)J" } : Jvm.MethodName) jdk_29_method_66_code (4 : Nat) (Option.some Jvm.ClassFile.FieldType.long)).before args0 about1 = true := code_word (m := ⟨10, 1⟩) (meth := k10m1) (c := k10c1) (by decide +kernel) rfl rfl rfl (by decide +kernel)
set_option maxRecDepth 65536 in
theorem w_c2 : (Jvm.Cond.code ({ cls := "com/example/aswan/aswan/rule/FlowRule", name := "<init>", desc := "(Ljava/lang/String;DLcom/example/aswan/aswan/rule/ClusterConfig;)V" } : Jvm.MethodName) prog_26_method_1_code (5 : Nat) (Option.none : Option Jvm.ClassFile.FieldType)).before args0 about1 = true := code_word (m := ⟨11, 0⟩) (meth := k11m0) (c := k11c0) (by decide +kernel) rfl rfl rfl (by decide +kernel)
set_option maxRecDepth 65536 in
theorem w_c3 : (Jvm.Cond.code ({ cls := "java/lang/Object", name := "<init>", desc := "()V" } : Jvm.MethodName) object_method_1_code (1 : Nat) (Option.none : Option Jvm.ClassFile.FieldType)).before args0 about1 = true := code_word (m := ⟨0, 0⟩) (meth := k0m0) (c := k0c0) (by decide +kernel) rfl rfl rfl (by decide +kernel)
set_option maxRecDepth 65536 in
theorem w_c4 : (Jvm.Cond.code ({ cls := "com/example/aswan/aswan/rule/FlowRule", name := "isClusterMode", desc := "()Z" } : Jvm.MethodName) prog_26_method_5_code (1 : Nat) (Option.some Jvm.ClassFile.FieldType.boolean)).before args0 about1 = true := code_word (m := ⟨11, 1⟩) (meth := k11m1) (c := k11c1) (by decide +kernel) rfl rfl rfl (by decide +kernel)
set_option maxRecDepth 65536 in
theorem w_c5 : (Jvm.Cond.code ({ cls := "java/lang/String", name := "<init>", desc := "([C)V" } : Jvm.MethodName) jdk_42_method_3_code (2 : Nat) (Option.none : Option Jvm.ClassFile.FieldType)).before args0 about1 = true := code_word (m := ⟨9, 1⟩) (meth := k9m1) (c := k9c1) (by decide +kernel) rfl rfl rfl (by decide +kernel)
set_option maxRecDepth 65536 in
theorem w_c6 : (Jvm.Cond.code ({ cls := "java/lang/String", name := "<init>", desc := "([CIILjava/lang/Void;)V" } : Jvm.MethodName) jdk_42_method_149_code (6 : Nat) (Option.none : Option Jvm.ClassFile.FieldType)).before args0 about1 = true := code_word (m := ⟨9, 2⟩) (meth := k9m2) (c := k9c2) (by decide +kernel) rfl rfl rfl (by decide +kernel)
set_option maxRecDepth 65536 in
theorem w_c7 : (Jvm.Cond.code ({ cls := "java/lang/StringUTF16", name := "compress", desc := "([CII)[B" } : Jvm.MethodName) jdk_52_method_16_code (6 : Nat) (Option.some (Jvm.ClassFile.FieldType.array Jvm.ClassFile.FieldType.byte))).before args0 about1 = true := code_word (m := ⟨12, 2⟩) (meth := k12m2) (c := k12c2) (by decide +kernel) rfl rfl rfl (by decide +kernel)
set_option maxRecDepth 65536 in
theorem w_c8 : (Jvm.Cond.code ({ cls := "java/lang/StringUTF16", name := "compress", desc := "([CI[BII)I" } : Jvm.MethodName) jdk_52_method_21_code (7 : Nat) (Option.some Jvm.ClassFile.FieldType.int)).before args0 about1 = true := code_word (m := ⟨12, 3⟩) (meth := k12m3) (c := k12c3) (by decide +kernel) rfl rfl rfl (by decide +kernel)
set_option maxRecDepth 65536 in
theorem w_c9 : (Jvm.Cond.code ({ cls := "java/lang/StringUTF16", name := "coderFromArrayLen", desc := "([BI)B" } : Jvm.MethodName) jdk_52_method_15_code (2 : Nat) (Option.some Jvm.ClassFile.FieldType.byte)).before args0 about1 = true := code_word (m := ⟨12, 1⟩) (meth := k12m1) (c := k12c1) (by decide +kernel) rfl rfl rfl (by decide +kernel)
set_option maxRecDepth 65536 in
theorem w_c10 : (Jvm.Cond.code ({ cls := "com/example/aswan/aswan/rule/ClusterConfig", name := "<init>", desc := "(JLcom/example/aswan/aswan/rule/ThresholdType;Z)V" } : Jvm.MethodName) prog_25_method_1_code (5 : Nat) (Option.none : Option Jvm.ClassFile.FieldType)).before args0 about1 = true := code_word (m := ⟨13, 0⟩) (meth := k13m0) (c := k13c0) (by decide +kernel) rfl rfl rfl (by decide +kernel)
def codes1 : List Jvm.Cond := [Jvm.Cond.code x code maxLocals ret, Jvm.Cond.code ({ cls := "java/lang/Math", name := "max", desc := "(JJ)J" } : Jvm.MethodName) jdk_29_method_66_code (4 : Nat) (Option.some Jvm.ClassFile.FieldType.long), Jvm.Cond.code ({ cls := "com/example/aswan/aswan/rule/FlowRule", name := "<init>", desc := "(Ljava/lang/String;DLcom/example/aswan/aswan/rule/ClusterConfig;)V" } : Jvm.MethodName) prog_26_method_1_code (5 : Nat) (Option.none : Option Jvm.ClassFile.FieldType), Jvm.Cond.code ({ cls := "java/lang/Object", name := "<init>", desc := "()V" } : Jvm.MethodName) object_method_1_code (1 : Nat) (Option.none : Option Jvm.ClassFile.FieldType), Jvm.Cond.code ({ cls := "com/example/aswan/aswan/rule/FlowRule", name := "isClusterMode", desc := "()Z" } : Jvm.MethodName) prog_26_method_5_code (1 : Nat) (Option.some Jvm.ClassFile.FieldType.boolean), Jvm.Cond.code ({ cls := "java/lang/String", name := "<init>", desc := "([C)V" } : Jvm.MethodName) jdk_42_method_3_code (2 : Nat) (Option.none : Option Jvm.ClassFile.FieldType), Jvm.Cond.code ({ cls := "java/lang/String", name := "<init>", desc := "([CIILjava/lang/Void;)V" } : Jvm.MethodName) jdk_42_method_149_code (6 : Nat) (Option.none : Option Jvm.ClassFile.FieldType), Jvm.Cond.code ({ cls := "java/lang/StringUTF16", name := "compress", desc := "([CII)[B" } : Jvm.MethodName) jdk_52_method_16_code (6 : Nat) (Option.some (Jvm.ClassFile.FieldType.array Jvm.ClassFile.FieldType.byte)), Jvm.Cond.code ({ cls := "java/lang/StringUTF16", name := "compress", desc := "([CI[BII)I" } : Jvm.MethodName) jdk_52_method_21_code (7 : Nat) (Option.some Jvm.ClassFile.FieldType.int), Jvm.Cond.code ({ cls := "java/lang/StringUTF16", name := "coderFromArrayLen", desc := "([BI)B" } : Jvm.MethodName) jdk_52_method_15_code (2 : Nat) (Option.some Jvm.ClassFile.FieldType.byte), Jvm.Cond.code ({ cls := "com/example/aswan/aswan/rule/ClusterConfig", name := "<init>", desc := "(JLcom/example/aswan/aswan/rule/ThresholdType;Z)V" } : Jvm.MethodName) prog_25_method_1_code (5 : Nat) (Option.none : Option Jvm.ClassFile.FieldType)]
set_option maxRecDepth 65536 in
theorem codes_eq : words1.filter isCode = codes1 := rfl
theorem w_codes : ∀ c ∈ words1.filter isCode, c.before args0 about1 = true := by
  rw [codes_eq]
  intro c hc
  simp only [codes1, List.mem_cons, List.not_mem_nil, or_false] at hc
  rcases hc with rfl | rfl | rfl | rfl | rfl | rfl | rfl | rfl | rfl | rfl | rfl
  · exact w_c0
  · exact w_c1
  · exact w_c2
  · exact w_c3
  · exact w_c4
  · exact w_c5
  · exact w_c6
  · exact w_c7
  · exact w_c8
  · exact w_c9
  · exact w_c10
set_option maxRecDepth 65536 in
theorem w_t1 : (words1.take 24).all (fun c => isCode c || c.before args0 about1) = true := by decide +kernel
set_option maxRecDepth 65536 in
theorem w_t2 : ((words1.drop 24).take 24).all (fun c => isCode c || c.before args0 about1) = true := by decide +kernel
set_option maxRecDepth 65536 in
theorem w_t3 : (((words1.drop 24).drop 24).take 24).all (fun c => isCode c || c.before args0 about1) = true := by decide +kernel
set_option maxRecDepth 65536 in
theorem w_t4 : (((words1.drop 24).drop 24).drop 24).all (fun c => isCode c || c.before args0 about1) = true := by decide +kernel
theorem w_tables : (allAtoms (Jvm.Cond.code x code maxLocals ret :: tables_1)).before args0 about1 = true := by
  rw [allAtoms_all]
  show words1.all (fun c => c.before args0 about1) = true
  refine all_split ?_ w_codes
  rw [← List.take_append_drop 24 words1, List.all_append, w_t1, ← List.take_append_drop 24 (words1.drop 24), List.all_append, w_t2, ← List.take_append_drop 24 ((words1.drop 24).drop 24), List.all_append, w_t3, w_t4]
  rfl
set_option maxRecDepth 65536 in
theorem w_rest : rest_1_c.before args0 about1 = true := by decide +kernel
set_option maxRecDepth 65536 in
theorem w_case : (Jvm.Cond.and given_1 narrow_1).before args0 about1 = true := by decide +kernel
theorem w_applies : (headSpec (Jvm.Cond.code x code maxLocals ret :: tables_1) room_1).applies x e0.platform about1 = true :=
  (Spec.applies_iff w_frames).mpr ⟨w_running, w_runnable, w_alone, w_named, w_hears, w_ripe, w_room, w_tables⟩
theorem atStart : AtStart classFile x code maxLocals ret World_1 tables_1 room_1 Calls_1 rest_1 Pre_1 launch0 p0 e0 about1 theMethod args0 below0 :=
  ⟨lists_1, trivial, launch0.admits_env _ _ _, launch0.least_env, fairChoices_fair.cas, fairChoices_fair.clock, w_frames, w_args, w_heap, w_applies, trivial, w_rest, w_case⟩
end start1
theorem witness_1 : WitnessClaimed_1 := ⟨start1.p0, start1.e0, start1.about1, start1.theMethod, start1.args0, start1.below0, start1.atStart⟩
end Jvm.Pilot.@@N@@
