import JvmDerived
import JvmDerived.Pilot.@@N@@Statement
import JvmDerived.Pilot.@@N@@Code
set_option linter.unusedVariables false
set_option linter.unusedSimpArgs false
namespace Jvm.RoadKit
open Sem ClassFile Op Lib Jvm.Stand Jvm.Free Jvm.LawKit
section New
variable {p : Program} {l : Launch} {e : Env} {R : Room} {s : State} {m : MethodId} {args : Array Value} {below : List Frame} {meth : Method} {c : Code} {T : State} {locs : List Loc} {cells slots : Nat}
theorem retI (X : Stand p l e R s m args below meth c T locs cells slots) (hx : p.tables.exec = Jvm.exec) {pc : Nat} {Ls : Array Slot} {z : Int32} {rest : List Value} (hret : meth.sig.returnType = some .int) (hd : decode c.code pc = .ok (.ireturn, 1)) {fs : List Frame}
    (hl : ∀ (f : JFrame) (acts : List Action), f.method = m → f.locked = none → f.entered = [] → (doReturn e (T.setTop f) acts (some (.int z))).1 = T.setFrames fs) : Steps p.tables e below (T.setTop (mkF m pc Ls (.int z :: rest))) (T.setFrames fs) := by
  have hm' : T.vm.method? m = some meth := X.method'
  have hn : narrow .int (.int z) = .int z := rfl
  show Steps p.tables e below (T.setTop { method := m, pc := pc, locals := Ls, stack := _ :: rest, locked := none }) _
  jvm_step X.here [X.here.top, hx, hd, hm', hret, hn]
  first | (intro acts; rw [hl _ acts rfl rfl rfl]) | rw [hl _ _ rfl rfl rfl]
  exact Steps.refl _
end New
end Jvm.RoadKit
namespace Jvm.Free
open Sem ClassFile Op Lib Jvm.Stand
theorem own_ss {s : State} {args : Array Value} {y : MethodName} (hni : ∃ (c : ClassId) (k : Class), s.vm.findClass y.cls = some c ∧ s.vm.classes[c]? = some k ∧ k.isInterface = false) (hpriv : s.PrivateAt y) (hinst : (Cond.instanceMethod y).before args s = true) (hy : y.cls ≠ "java/lang/invoke/MethodHandle" ∧ y.cls ≠ "java/lang/invoke/VarHandle") : (Cond.selects y.cls y y).before args s = true := by
  obtain ⟨c, k, h1, h2, h3⟩ := hni
  exact selects_self_of_private h1 h2 h3 hpriv hinst hy
theorem own_ni {args : Array Value} {s : State} {K : String} {n : Nat} (w : (Cond.instantiable K n).before args s = true) : ∃ (c : ClassId) (k : Class), s.vm.findClass K = some c ∧ s.vm.classes[c]? = some k ∧ k.isInterface = false := by
  obtain ⟨t, kt, t1, t2, t3, t4, -, -⟩ := Cond.instantiable_spec w
  refine ⟨t, kt, t1, t2, ?_⟩
  cases q : kt.isInterface
  · rfl
  · rw [q] at t4; simp at t4
end Jvm.Free
@@BLOCK:NumsL.lean.txt@@
namespace Jvm.Pilot.@@N@@
open Jvm Jvm.ClassFile Sem Op Lib Jvm.Free Jvm.Stand Jvm.LawKit Jvm.RoadKit Bundle Jvm.Free.Fl Jvm.Pilot.@@N@@.Jvm.D
abbrev own_S (p : Program) (e : Env) (below : List Frame) (T : State) (g : JFrame) (t : State) : Prop := Steps p.tables e below (T.setTop g) t
abbrev own_K (p : Program) (e : Env) (below : List Frame) (S T : State) (g : JFrame) : Prop := ∀ t, Steps p.tables e below (T.setTop g) t → Steps p.tables e below S t
theorem own_ext {h h' : Heap} (K : Keep h h' []) : Ext h h' := ⟨K.1, fun a c q => K.2.1 a c q nin0⟩

theorem d4_0 : decode jdk_22_method_1_code 0 = .ok (.aload_n 0, 1) := by decide +kernel
theorem d4_1 : decode jdk_22_method_1_code 1 = .ok (.invokespecial 1, 3) := by decide +kernel
theorem d4_4 : decode jdk_22_method_1_code 4 = .ok (.return_, 1) := by decide +kernel
theorem pn_4 : plainName "java/util/AbstractCollection" = true := by first | (simp [plainName, overriddenIn]; done) | decide +kernel
theorem ef_ac (m : MethodId) (r0 : Addr) : entryFrame m #[(.ref r0)] 1 = mkF m 0 #[.val (.ref r0)] [] := by first | (simp [entryFrame, mkF, argsToLocals, Value.category]; done) | rfl
def Qac (Z : State) (r0 : Addr) (h0 : Heap) (n0 : Nat) (v : Option Value) (h : Heap) (L : List Loc) : Prop := v = none ∧ Fr n0 L ∧ h = h0
set_option maxRecDepth 65536 in
set_option maxHeartbeats 40000000 in
theorem rmac (l : Launch) (Z : State) (a0 : Array Value) (hw : ∀ d ∈ tables_1, d.before a0 Z = true) (ws : List Jvm.Cond) (r0 : Addr) (h0 : Heap) (n0 : Nat) (Z0 : n0 ≤ h0.size) :
    MetFree l (⟨"java/util/AbstractCollection", "<init>", "()V"⟩ : MethodName) (head1 (Jvm.Cond.code (⟨"java/util/AbstractCollection", "<init>", "()V"⟩ : MethodName) jdk_22_method_1_code 1 none :: ws) ({ frames := 1, cells := 0, slots := 0, locals := 12 } : Room)) (fun a U => a = #[(.ref r0)] ∧ Z.Warmed39 U.vm ∧ U.heap = h0) (fun _ _ _ _ _ => True) (fun _ U o U' => ∃ v L, o = .returned v ∧ Qac Z r0 h0 n0 v U'.heap L ∧ FrameEnd U o U' L ({ frames := 1, cells := 0, slots := 0, locals := 12 } : Room).cells ({ frames := 1, cells := 0, slots := 0, locals := 12 } : Room).slots) := by
  refine MetFree.of_bodySF (plainFor_of_name pn_4) hisR ?_
  intro p e s m args below meth c s₁ Bd hml0 hP hK
  obtain ⟨rfl, hZ, hh⟩ := hP
  have hx := Bd.exec
  have hby := Bd.bytes
  have hml : c.maxLocals = 1 := hml0
  have hown : s.vm.findClass "java/util/AbstractCollection" = some m.cls := findClass_of_methodNamed Bd.named
  have hnm := (name_of_methodNamed Bd.named Bd.method).1
  have X0 : Stand p l e ({ frames := 1, cells := 0, slots := 0, locals := 12 } : Room) s m #[(.ref r0)] below meth c s₁ [] 0 0 := Stand.of_body Bd
  have e0 : s₁.heap = h0 := by rw [← hh, Bd.state]; rfl
  have N0 := Fr.nil n0
  have K0 : ∀ t, Steps p.tables e below (s₁.setTop (mkF m 0 #[.val (.ref r0)] [])) t → Steps p.tables e below (s₁.setTop (entryFrame m #[(.ref r0)] 1)) t := fun t k => castTop (ef_ac m r0) k
  generalize s₁.setTop (entryFrame m #[(.ref r0)] 1) = SE at K0 ⊢
  have K1 : own_K p e below SE s₁ (mkF m 1 #[.val (.ref r0)] [(.ref r0)]) := by
    intro t k
    refine K0 _ ?_
    refine XS.aloadN X0.here hx rfl (hb hby d4_0) rfl rfl ?_
    exact k
  obtain ⟨T2, X2, e2, st2⟩ := initO X0 hx hZ hown (hw _ (List.mem_of_getElem? (i := 21) rfl)) (hw _ (List.mem_of_getElem? (i := 7) rfl)) (hw _ (List.mem_of_getElem? (i := 8) rfl)) e0 (g := (mkF m 1 #[.val (.ref r0)] [(.ref r0)])) rfl (by rw [hml]; rfl) rfl (hb hby d4_1) (by decide) (W := 0) (by show 2 * 0 + _ ≤ _; exact Nat.le_of_eq rfl) (by decide)
  have K2 : own_K p e below SE T2 (mkF m 4 #[.val (.ref r0)] []) := fun t k => K1 _ (st2 _ k)
  obtain ⟨fs, hr, hrun, hended, hW, hsame⟩ := X2.leave (v := none) (fun _ => rfl)
  refine ⟨_, _, K2 _ ?_, hrun, hended, _, _, rfl, ?_, ⟨_, rfl⟩, hW, hsame.mono (by decide) (by decide)⟩
  · exact X2.returnOut hx Bd.returns (hb hby d4_4) hr
  · show Qac Z r0 h0 n0 _ T2.heap _
    rw [e2]
    exact ⟨rfl, N0, rfl⟩
theorem d18_0 : decode jdk_18_method_1_code 0 = .ok (.aload_n 0, 1) := by decide +kernel
theorem d18_1 : decode jdk_18_method_1_code 1 = .ok (.invokespecial 1, 3) := by decide +kernel
theorem d18_4 : decode jdk_18_method_1_code 4 = .ok (.return_, 1) := by decide +kernel
theorem pn_18 : plainName "java/lang/Number" = true := by first | (simp [plainName, overriddenIn]; done) | decide +kernel
theorem ef_nu (m : MethodId) (r0 : Addr) : entryFrame m #[(.ref r0)] 1 = mkF m 0 #[.val (.ref r0)] [] := by first | (simp [entryFrame, mkF, argsToLocals, Value.category]; done) | rfl
def Qnu (Z : State) (r0 : Addr) (h0 : Heap) (n0 : Nat) (v : Option Value) (h : Heap) (L : List Loc) : Prop := v = none ∧ Fr n0 L ∧ h = h0
set_option maxRecDepth 65536 in
set_option maxHeartbeats 40000000 in
theorem rmnu (l : Launch) (Z : State) (a0 : Array Value) (hw : ∀ d ∈ tables_1, d.before a0 Z = true) (ws : List Jvm.Cond) (r0 : Addr) (h0 : Heap) (n0 : Nat) (Z0 : n0 ≤ h0.size) :
    MetFree l (⟨"java/lang/Number", "<init>", "()V"⟩ : MethodName) (head1 (Jvm.Cond.code (⟨"java/lang/Number", "<init>", "()V"⟩ : MethodName) jdk_18_method_1_code 1 none :: ws) ({ frames := 1, cells := 0, slots := 0, locals := 12 } : Room)) (fun a U => a = #[(.ref r0)] ∧ Z.Warmed39 U.vm ∧ U.heap = h0) (fun _ _ _ _ _ => True) (fun _ U o U' => ∃ v L, o = .returned v ∧ Qnu Z r0 h0 n0 v U'.heap L ∧ FrameEnd U o U' L ({ frames := 1, cells := 0, slots := 0, locals := 12 } : Room).cells ({ frames := 1, cells := 0, slots := 0, locals := 12 } : Room).slots) := by
  refine MetFree.of_bodySF (plainFor_of_name pn_18) hisR ?_
  intro p e s m args below meth c s₁ Bd hml0 hP hK
  obtain ⟨rfl, hZ, hh⟩ := hP
  have hx := Bd.exec
  have hby := Bd.bytes
  have hml : c.maxLocals = 1 := hml0
  have hown : s.vm.findClass "java/lang/Number" = some m.cls := findClass_of_methodNamed Bd.named
  have hnm := (name_of_methodNamed Bd.named Bd.method).1
  have X0 : Stand p l e ({ frames := 1, cells := 0, slots := 0, locals := 12 } : Room) s m #[(.ref r0)] below meth c s₁ [] 0 0 := Stand.of_body Bd
  have e0 : s₁.heap = h0 := by rw [← hh, Bd.state]; rfl
  have N0 := Fr.nil n0
  have K0 : ∀ t, Steps p.tables e below (s₁.setTop (mkF m 0 #[.val (.ref r0)] [])) t → Steps p.tables e below (s₁.setTop (entryFrame m #[(.ref r0)] 1)) t := fun t k => castTop (ef_nu m r0) k
  generalize s₁.setTop (entryFrame m #[(.ref r0)] 1) = SE at K0 ⊢
  have K1 : own_K p e below SE s₁ (mkF m 1 #[.val (.ref r0)] [(.ref r0)]) := by
    intro t k
    refine K0 _ ?_
    refine XS.aloadN X0.here hx rfl (hb hby d18_0) rfl rfl ?_
    exact k
  obtain ⟨T2, X2, e2, st2⟩ := initO X0 hx hZ hown (hw _ (List.mem_of_getElem? (i := 126) rfl)) (hw _ (List.mem_of_getElem? (i := 7) rfl)) (hw _ (List.mem_of_getElem? (i := 8) rfl)) e0 (g := (mkF m 1 #[.val (.ref r0)] [(.ref r0)])) rfl (by rw [hml]; rfl) rfl (hb hby d18_1) (by decide) (W := 0) (by show 2 * 0 + _ ≤ _; exact Nat.le_of_eq rfl) (by decide)
  have K2 : own_K p e below SE T2 (mkF m 4 #[.val (.ref r0)] []) := fun t k => K1 _ (st2 _ k)
  obtain ⟨fs, hr, hrun, hended, hW, hsame⟩ := X2.leave (v := none) (fun _ => rfl)
  refine ⟨_, _, K2 _ ?_, hrun, hended, _, _, rfl, ?_, ⟨_, rfl⟩, hW, hsame.mono (by decide) (by decide)⟩
  · exact X2.returnOut hx Bd.returns (hb hby d18_4) hr
  · show Qnu Z r0 h0 n0 _ T2.heap _
    rw [e2]
    exact ⟨rfl, N0, rfl⟩
theorem d15_0 : decode jdk_21_method_9_code 0 = .ok (.iload_n 0, 1) := by decide +kernel
theorem d15_1 : decode jdk_21_method_9_code 1 = .ok (.iload_n 1, 1) := by decide +kernel
theorem d15_2 : decode jdk_21_method_9_code 2 = .ok (.isub, 1) := by decide +kernel
theorem d15_3 : decode jdk_21_method_9_code 3 = .ok (.dup, 1) := by decide +kernel
theorem d15_4 : decode jdk_21_method_9_code 4 = .ok (.istore_n 0, 1) := by decide +kernel
theorem d15_5 : decode jdk_21_method_9_code 5 = .ok (.ifCond .ge 7, 3) := by decide +kernel
theorem d15_12 : decode jdk_21_method_9_code 12 = .ok (.iload_n 0, 1) := by decide +kernel
theorem d15_13 : decode jdk_21_method_9_code 13 = .ok (.ireturn, 1) := by decide +kernel
theorem pn_15 : plainName "java/util/ArrayDeque" = true := by first | (simp [plainName, overriddenIn]; done) | decide +kernel
theorem ef_sub0 (m : MethodId)  : entryFrame m #[(.int (0 : Int32)), (.int (0 : Int32)), (.int (6 : Int32))] 3 = mkF m 0 #[.val (.int (0 : Int32)), .val (.int (0 : Int32)), .val (.int (6 : Int32))] [] := by first | (simp [entryFrame, mkF, argsToLocals, Value.category]; done) | rfl
def Qsub0 (Z : State)  (h0 : Heap) (n0 : Nat) (v : Option Value) (h : Heap) (L : List Loc) : Prop := v = some (.int (0 : Int32)) ∧ Fr n0 L ∧ h = h0
set_option maxRecDepth 65536 in
set_option maxHeartbeats 40000000 in
theorem rmsub0 (l : Launch) (Z : State) (a0 : Array Value) (hw : ∀ d ∈ tables_1, d.before a0 Z = true) (ws : List Jvm.Cond)  (h0 : Heap) (n0 : Nat) (Z0 : n0 ≤ h0.size) :
    MetFree l (⟨"java/util/ArrayDeque", "sub", "(III)I"⟩ : MethodName) (head1 (Jvm.Cond.code (⟨"java/util/ArrayDeque", "sub", "(III)I"⟩ : MethodName) jdk_21_method_9_code 3 (some .int) :: ws) ({ frames := 0, cells := 0, slots := 0, locals := 0 } : Room)) (fun a U => a = #[(.int (0 : Int32)), (.int (0 : Int32)), (.int (6 : Int32))] ∧ Z.Warmed39 U.vm ∧ U.heap = h0) (fun _ _ _ _ _ => True) (fun _ U o U' => ∃ v L, o = .returned v ∧ Qsub0 Z  h0 n0 v U'.heap L ∧ FrameEnd U o U' L ({ frames := 0, cells := 0, slots := 0, locals := 0 } : Room).cells ({ frames := 0, cells := 0, slots := 0, locals := 0 } : Room).slots) := by
  refine MetFree.of_bodySF (plainFor_of_name pn_15) hisR ?_
  intro p e s m args below meth c s₁ Bd hml0 hP hK
  obtain ⟨rfl, hZ, hh⟩ := hP
  have hx := Bd.exec
  have hby := Bd.bytes
  have hml : c.maxLocals = 3 := hml0
  have hown : s.vm.findClass "java/util/ArrayDeque" = some m.cls := findClass_of_methodNamed Bd.named
  have hnm := (name_of_methodNamed Bd.named Bd.method).1
  have X0 : Stand p l e ({ frames := 0, cells := 0, slots := 0, locals := 0 } : Room) s m #[(.int (0 : Int32)), (.int (0 : Int32)), (.int (6 : Int32))] below meth c s₁ [] 0 0 := Stand.of_body Bd
  have e0 : s₁.heap = h0 := by rw [← hh, Bd.state]; rfl
  have N0 := Fr.nil n0
  have K0 : ∀ t, Steps p.tables e below (s₁.setTop (mkF m 0 #[.val (.int (0 : Int32)), .val (.int (0 : Int32)), .val (.int (6 : Int32))] [])) t → Steps p.tables e below (s₁.setTop (entryFrame m #[(.int (0 : Int32)), (.int (0 : Int32)), (.int (6 : Int32))] 3)) t := fun t k => castTop (ef_sub0 m ) k
  generalize s₁.setTop (entryFrame m #[(.int (0 : Int32)), (.int (0 : Int32)), (.int (6 : Int32))] 3) = SE at K0 ⊢
  have K1 : own_K p e below SE s₁ (mkF m 13 #[.val (.int (0 : Int32)), .val (.int (0 : Int32)), .val (.int (6 : Int32))] [(.int (0 : Int32))]) := by
    intro t k
    refine K0 _ ?_
    refine XS.iloadN X0.here hx rfl (hb hby d15_0) rfl ?_
    show own_S p e below s₁ (mkF m 1 #[.val (.int (0 : Int32)), .val (.int (0 : Int32)), .val (.int (6 : Int32))] [(.int (0 : Int32))]) _
    refine XS.iloadN X0.here hx rfl (hb hby d15_1) rfl ?_
    show own_S p e below s₁ (mkF m 2 #[.val (.int (0 : Int32)), .val (.int (0 : Int32)), .val (.int (6 : Int32))] [(.int (0 : Int32)), (.int (0 : Int32))]) _
    refine XS.isub X0.here hx rfl (hb hby d15_2) rfl ?_
    show own_S p e below s₁ (mkF m 3 #[.val (.int (0 : Int32)), .val (.int (0 : Int32)), .val (.int (6 : Int32))] [(.int (0 : Int32))]) _
    refine XS.dup X0.here hx rfl (hb hby d15_3) rfl rfl ?_
    show own_S p e below s₁ (mkF m 4 #[.val (.int (0 : Int32)), .val (.int (0 : Int32)), .val (.int (6 : Int32))] [(.int (0 : Int32)), (.int (0 : Int32))]) _
    refine XS.istoreN X0.here hx rfl (hb hby d15_4) rfl (l' := #[.val (.int (0 : Int32)), .val (.int (0 : Int32)), .val (.int (6 : Int32))]) rfl ?_
    show own_S p e below s₁ (mkF m 5 #[.val (.int (0 : Int32)), .val (.int (0 : Int32)), .val (.int (6 : Int32))] [(.int (0 : Int32))]) _
    refine XS.ifYes X0.here hx rfl (pc0 := 5) (pc' := 12) rfl (hb hby d15_5) rfl (XT.i0_ge_t (by decide : ¬ ((0 : Int32) < 0))) (by decide) (by decide) ?_
    show own_S p e below s₁ (mkF m 12 #[.val (.int (0 : Int32)), .val (.int (0 : Int32)), .val (.int (6 : Int32))] []) _
    refine XS.iloadN X0.here hx rfl (hb hby d15_12) rfl ?_
    exact k
  obtain ⟨fs, hr, hrun, hended, hW, hsame⟩ := X0.leave (v := some (.int (0 : Int32))) (fun h => by rw [Bd.returns] at h; cases h)
  refine ⟨_, _, K1 _ ?_, hrun, hended, _, _, rfl, ?_, ⟨_, rfl⟩, hW, hsame.mono (by decide) (by decide)⟩
  · exact retI X0 hx Bd.returns (hb hby d15_13) hr
  · show Qsub0 Z  h0 n0 _ s₁.heap _
    rw [e0]
    exact ⟨rfl, N0, rfl⟩
theorem ef_sub1 (m : MethodId)  : entryFrame m #[(.int (1 : Int32)), (.int (0 : Int32)), (.int (6 : Int32))] 3 = mkF m 0 #[.val (.int (1 : Int32)), .val (.int (0 : Int32)), .val (.int (6 : Int32))] [] := by first | (simp [entryFrame, mkF, argsToLocals, Value.category]; done) | rfl
def Qsub1 (Z : State)  (h0 : Heap) (n0 : Nat) (v : Option Value) (h : Heap) (L : List Loc) : Prop := v = some (.int (1 : Int32)) ∧ Fr n0 L ∧ h = h0
set_option maxRecDepth 65536 in
set_option maxHeartbeats 40000000 in
theorem rmsub1 (l : Launch) (Z : State) (a0 : Array Value) (hw : ∀ d ∈ tables_1, d.before a0 Z = true) (ws : List Jvm.Cond)  (h0 : Heap) (n0 : Nat) (Z0 : n0 ≤ h0.size) :
    MetFree l (⟨"java/util/ArrayDeque", "sub", "(III)I"⟩ : MethodName) (head1 (Jvm.Cond.code (⟨"java/util/ArrayDeque", "sub", "(III)I"⟩ : MethodName) jdk_21_method_9_code 3 (some .int) :: ws) ({ frames := 0, cells := 0, slots := 0, locals := 0 } : Room)) (fun a U => a = #[(.int (1 : Int32)), (.int (0 : Int32)), (.int (6 : Int32))] ∧ Z.Warmed39 U.vm ∧ U.heap = h0) (fun _ _ _ _ _ => True) (fun _ U o U' => ∃ v L, o = .returned v ∧ Qsub1 Z  h0 n0 v U'.heap L ∧ FrameEnd U o U' L ({ frames := 0, cells := 0, slots := 0, locals := 0 } : Room).cells ({ frames := 0, cells := 0, slots := 0, locals := 0 } : Room).slots) := by
  refine MetFree.of_bodySF (plainFor_of_name pn_15) hisR ?_
  intro p e s m args below meth c s₁ Bd hml0 hP hK
  obtain ⟨rfl, hZ, hh⟩ := hP
  have hx := Bd.exec
  have hby := Bd.bytes
  have hml : c.maxLocals = 3 := hml0
  have hown : s.vm.findClass "java/util/ArrayDeque" = some m.cls := findClass_of_methodNamed Bd.named
  have hnm := (name_of_methodNamed Bd.named Bd.method).1
  have X0 : Stand p l e ({ frames := 0, cells := 0, slots := 0, locals := 0 } : Room) s m #[(.int (1 : Int32)), (.int (0 : Int32)), (.int (6 : Int32))] below meth c s₁ [] 0 0 := Stand.of_body Bd
  have e0 : s₁.heap = h0 := by rw [← hh, Bd.state]; rfl
  have N0 := Fr.nil n0
  have K0 : ∀ t, Steps p.tables e below (s₁.setTop (mkF m 0 #[.val (.int (1 : Int32)), .val (.int (0 : Int32)), .val (.int (6 : Int32))] [])) t → Steps p.tables e below (s₁.setTop (entryFrame m #[(.int (1 : Int32)), (.int (0 : Int32)), (.int (6 : Int32))] 3)) t := fun t k => castTop (ef_sub1 m ) k
  generalize s₁.setTop (entryFrame m #[(.int (1 : Int32)), (.int (0 : Int32)), (.int (6 : Int32))] 3) = SE at K0 ⊢
  have K1 : own_K p e below SE s₁ (mkF m 13 #[.val (.int (1 : Int32)), .val (.int (0 : Int32)), .val (.int (6 : Int32))] [(.int (1 : Int32))]) := by
    intro t k
    refine K0 _ ?_
    refine XS.iloadN X0.here hx rfl (hb hby d15_0) rfl ?_
    show own_S p e below s₁ (mkF m 1 #[.val (.int (1 : Int32)), .val (.int (0 : Int32)), .val (.int (6 : Int32))] [(.int (1 : Int32))]) _
    refine XS.iloadN X0.here hx rfl (hb hby d15_1) rfl ?_
    show own_S p e below s₁ (mkF m 2 #[.val (.int (1 : Int32)), .val (.int (0 : Int32)), .val (.int (6 : Int32))] [(.int (0 : Int32)), (.int (1 : Int32))]) _
    refine XS.isub X0.here hx rfl (hb hby d15_2) rfl ?_
    show own_S p e below s₁ (mkF m 3 #[.val (.int (1 : Int32)), .val (.int (0 : Int32)), .val (.int (6 : Int32))] [(.int (1 : Int32))]) _
    refine XS.dup X0.here hx rfl (hb hby d15_3) rfl rfl ?_
    show own_S p e below s₁ (mkF m 4 #[.val (.int (1 : Int32)), .val (.int (0 : Int32)), .val (.int (6 : Int32))] [(.int (1 : Int32)), (.int (1 : Int32))]) _
    refine XS.istoreN X0.here hx rfl (hb hby d15_4) rfl (l' := #[.val (.int (1 : Int32)), .val (.int (0 : Int32)), .val (.int (6 : Int32))]) rfl ?_
    show own_S p e below s₁ (mkF m 5 #[.val (.int (1 : Int32)), .val (.int (0 : Int32)), .val (.int (6 : Int32))] [(.int (1 : Int32))]) _
    refine XS.ifYes X0.here hx rfl (pc0 := 5) (pc' := 12) rfl (hb hby d15_5) rfl (XT.i0_ge_t (by decide : ¬ ((1 : Int32) < 0))) (by decide) (by decide) ?_
    show own_S p e below s₁ (mkF m 12 #[.val (.int (1 : Int32)), .val (.int (0 : Int32)), .val (.int (6 : Int32))] []) _
    refine XS.iloadN X0.here hx rfl (hb hby d15_12) rfl ?_
    exact k
  obtain ⟨fs, hr, hrun, hended, hW, hsame⟩ := X0.leave (v := some (.int (1 : Int32))) (fun h => by rw [Bd.returns] at h; cases h)
  refine ⟨_, _, K1 _ ?_, hrun, hended, _, _, rfl, ?_, ⟨_, rfl⟩, hW, hsame.mono (by decide) (by decide)⟩
  · exact retI X0 hx Bd.returns (hb hby d15_13) hr
  · show Qsub1 Z  h0 n0 _ s₁.heap _
    rw [e0]
    exact ⟨rfl, N0, rfl⟩
theorem d20_0 : decode jdk_21_method_6_code 0 = .ok (.iinc 0 1, 3) := by decide +kernel
theorem d20_3 : decode jdk_21_method_6_code 3 = .ok (.iload_n 0, 1) := by decide +kernel
theorem d20_4 : decode jdk_21_method_6_code 4 = .ok (.iload_n 1, 1) := by decide +kernel
theorem d20_5 : decode jdk_21_method_6_code 5 = .ok (.if_icmp .lt 5, 3) := by decide +kernel
theorem d20_10 : decode jdk_21_method_6_code 10 = .ok (.iload_n 0, 1) := by decide +kernel
theorem d20_11 : decode jdk_21_method_6_code 11 = .ok (.ireturn, 1) := by decide +kernel
theorem ef_inc (m : MethodId)  : entryFrame m #[(.int (0 : Int32)), (.int (6 : Int32))] 2 = mkF m 0 #[.val (.int (0 : Int32)), .val (.int (6 : Int32))] [] := by first | (simp [entryFrame, mkF, argsToLocals, Value.category]; done) | rfl
def Qinc (Z : State)  (h0 : Heap) (n0 : Nat) (v : Option Value) (h : Heap) (L : List Loc) : Prop := v = some (.int (1 : Int32)) ∧ Fr n0 L ∧ h = h0
set_option maxRecDepth 65536 in
set_option maxHeartbeats 40000000 in
theorem rminc (l : Launch) (Z : State) (a0 : Array Value) (hw : ∀ d ∈ tables_1, d.before a0 Z = true) (ws : List Jvm.Cond)  (h0 : Heap) (n0 : Nat) (Z0 : n0 ≤ h0.size) :
    MetFree l (⟨"java/util/ArrayDeque", "inc", "(II)I"⟩ : MethodName) (head1 (Jvm.Cond.code (⟨"java/util/ArrayDeque", "inc", "(II)I"⟩ : MethodName) jdk_21_method_6_code 2 (some .int) :: ws) ({ frames := 0, cells := 0, slots := 0, locals := 0 } : Room)) (fun a U => a = #[(.int (0 : Int32)), (.int (6 : Int32))] ∧ Z.Warmed39 U.vm ∧ U.heap = h0) (fun _ _ _ _ _ => True) (fun _ U o U' => ∃ v L, o = .returned v ∧ Qinc Z  h0 n0 v U'.heap L ∧ FrameEnd U o U' L ({ frames := 0, cells := 0, slots := 0, locals := 0 } : Room).cells ({ frames := 0, cells := 0, slots := 0, locals := 0 } : Room).slots) := by
  refine MetFree.of_bodySF (plainFor_of_name pn_15) hisR ?_
  intro p e s m args below meth c s₁ Bd hml0 hP hK
  obtain ⟨rfl, hZ, hh⟩ := hP
  have hx := Bd.exec
  have hby := Bd.bytes
  have hml : c.maxLocals = 2 := hml0
  have hown : s.vm.findClass "java/util/ArrayDeque" = some m.cls := findClass_of_methodNamed Bd.named
  have hnm := (name_of_methodNamed Bd.named Bd.method).1
  have X0 : Stand p l e ({ frames := 0, cells := 0, slots := 0, locals := 0 } : Room) s m #[(.int (0 : Int32)), (.int (6 : Int32))] below meth c s₁ [] 0 0 := Stand.of_body Bd
  have e0 : s₁.heap = h0 := by rw [← hh, Bd.state]; rfl
  have N0 := Fr.nil n0
  have K0 : ∀ t, Steps p.tables e below (s₁.setTop (mkF m 0 #[.val (.int (0 : Int32)), .val (.int (6 : Int32))] [])) t → Steps p.tables e below (s₁.setTop (entryFrame m #[(.int (0 : Int32)), (.int (6 : Int32))] 2)) t := fun t k => castTop (ef_inc m ) k
  generalize s₁.setTop (entryFrame m #[(.int (0 : Int32)), (.int (6 : Int32))] 2) = SE at K0 ⊢
  have K1 : own_K p e below SE s₁ (mkF m 11 #[.val (.int (1 : Int32)), .val (.int (6 : Int32))] [(.int (1 : Int32))]) := by
    intro t k
    refine K0 _ ?_
    refine XS.iinc X0.here hx rfl (hb hby d20_0) rfl (l' := #[.val (.int (1 : Int32)), .val (.int (6 : Int32))]) rfl ?_
    show own_S p e below s₁ (mkF m 3 #[.val (.int (1 : Int32)), .val (.int (6 : Int32))] []) _
    refine XS.iloadN X0.here hx rfl (hb hby d20_3) rfl ?_
    show own_S p e below s₁ (mkF m 4 #[.val (.int (1 : Int32)), .val (.int (6 : Int32))] [(.int (1 : Int32))]) _
    refine XS.iloadN X0.here hx rfl (hb hby d20_4) rfl ?_
    show own_S p e below s₁ (mkF m 5 #[.val (.int (1 : Int32)), .val (.int (6 : Int32))] [(.int (6 : Int32)), (.int (1 : Int32))]) _
    refine XS.icmpYes X0.here hx rfl (pc0 := 5) (pc' := 10) rfl (hb hby d20_5) rfl (XT.ii_lt_t (by decide : (1 : Int32) < (6 : Int32))) (by decide) (by decide) ?_
    show own_S p e below s₁ (mkF m 10 #[.val (.int (1 : Int32)), .val (.int (6 : Int32))] []) _
    refine XS.iloadN X0.here hx rfl (hb hby d20_10) rfl ?_
    exact k
  obtain ⟨fs, hr, hrun, hended, hW, hsame⟩ := X0.leave (v := some (.int (1 : Int32))) (fun h => by rw [Bd.returns] at h; cases h)
  refine ⟨_, _, K1 _ ?_, hrun, hended, _, _, rfl, ?_, ⟨_, rfl⟩, hW, hsame.mono (by decide) (by decide)⟩
  · exact retI X0 hx Bd.returns (hb hby d20_11) hr
  · show Qinc Z  h0 n0 _ s₁.heap _
    rw [e0]
    exact ⟨rfl, N0, rfl⟩
theorem d3_0 : decode jdk_21_method_4_code 0 = .ok (.aload_n 0, 1) := by decide +kernel
theorem d3_1 : decode jdk_21_method_4_code 1 = .ok (.invokespecial 42, 3) := by decide +kernel
theorem d3_4 : decode jdk_21_method_4_code 4 = .ok (.aload_n 0, 1) := by decide +kernel
theorem d3_5 : decode jdk_21_method_4_code 5 = .ok (.iload_n 1, 1) := by decide +kernel
theorem d3_6 : decode jdk_21_method_4_code 6 = .ok (.iconst 1, 1) := by decide +kernel
theorem d3_7 : decode jdk_21_method_4_code 7 = .ok (.if_icmp .ge 7, 3) := by decide +kernel
theorem d3_14 : decode jdk_21_method_4_code 14 = .ok (.iload_n 1, 1) := by decide +kernel
theorem d3_15 : decode jdk_21_method_4_code 15 = .ok (.ldc 41, 2) := by decide +kernel
theorem d3_17 : decode jdk_21_method_4_code 17 = .ok (.if_icmp .ne 8, 3) := by decide +kernel
theorem d3_25 : decode jdk_21_method_4_code 25 = .ok (.iload_n 1, 1) := by decide +kernel
theorem d3_26 : decode jdk_21_method_4_code 26 = .ok (.iconst 1, 1) := by decide +kernel
theorem d3_27 : decode jdk_21_method_4_code 27 = .ok (.iadd, 1) := by decide +kernel
theorem d3_28 : decode jdk_21_method_4_code 28 = .ok (.anewarray 47, 3) := by decide +kernel
theorem d3_31 : decode jdk_21_method_4_code 31 = .ok (.putfield 3, 3) := by decide +kernel
theorem d3_34 : decode jdk_21_method_4_code 34 = .ok (.return_, 1) := by decide +kernel
theorem pd_qi_0 : parseMethodDescriptor "()V" = some ⟨[], none⟩ := by decide +kernel
theorem ef_qi (m : MethodId) (r0 : Addr) : entryFrame m #[(.ref r0), (.int (5 : Int32))] 2 = mkF m 0 #[.val (.ref r0), .val (.int (5 : Int32))] [] := by first | (simp [entryFrame, mkF, argsToLocals, Value.category]; done) | rfl
def Qqi (Z : State) (r0 : Addr) (h0 : Heap) (n0 : Nat) (v : Option Value) (h : Heap) (L : List Loc) : Prop := v = none ∧ Fr n0 L ∧ Keep h0 h [r0] ∧ Exa Z h r0 "java/util/ArrayDeque" ∧ Fld Z h r0 "java/util/ArrayDeque" "head" "I" (.int (0 : Int32)) ∧ Fld Z h r0 "java/util/ArrayDeque" "tail" "I" (.int (0 : Int32)) ∧ ∃ (ea : Addr) (kE : ClassId), h0.size ≤ ea ∧ Fld Z h r0 "java/util/ArrayDeque" "elements" "[Ljava/lang/Object;" (.ref ea) ∧ Arv Z h ea kE (.object "java/lang/Object") (6 : Int32) [.null, .null, .null, .null, .null, .null] .null ∧ Ovr Z kE "java/lang/Object"
set_option maxRecDepth 65536 in
set_option maxHeartbeats 40000000 in
theorem rmqi (l : Launch) (Z : State) (a0 : Array Value) (hw : ∀ d ∈ tables_1, d.before a0 Z = true) (ws : List Jvm.Cond) (r0 : Addr) (h0 : Heap) (n0 : Nat) (Z0 : n0 ≤ h0.size) (E_r0 : Exa Z h0 r0 "java/util/ArrayDeque") (F_e : Fld Z h0 r0 "java/util/ArrayDeque" "elements" "[Ljava/lang/Object;" .null) (F_h : Fld Z h0 r0 "java/util/ArrayDeque" "head" "I" (.int (0 : Int32))) (F_t : Fld Z h0 r0 "java/util/ArrayDeque" "tail" "I" (.int (0 : Int32))) (g_r0 : n0 ≤ r0) :
    MetFree l (⟨"java/util/ArrayDeque", "<init>", "(I)V"⟩ : MethodName) (head1 (Jvm.Cond.code (⟨"java/util/ArrayDeque", "<init>", "(I)V"⟩ : MethodName) jdk_21_method_4_code 2 none :: ws) ({ frames := 2, cells := 1, slots := 6, locals := 24 } : Room)) (fun a U => a = #[(.ref r0), (.int (5 : Int32))] ∧ Z.Warmed39 U.vm ∧ U.heap = h0) (fun _ _ _ _ _ => True) (fun _ U o U' => ∃ v L, o = .returned v ∧ Qqi Z r0 h0 n0 v U'.heap L ∧ FrameEnd U o U' L ({ frames := 2, cells := 1, slots := 6, locals := 24 } : Room).cells ({ frames := 2, cells := 1, slots := 6, locals := 24 } : Room).slots) := by
  refine MetFree.of_bodySF (plainFor_of_name pn_15) hisR ?_
  intro p e s m args below meth c s₁ Bd hml0 hP hK
  obtain ⟨rfl, hZ, hh⟩ := hP
  have hx := Bd.exec
  have hby := Bd.bytes
  have hml : c.maxLocals = 2 := hml0
  have hown : s.vm.findClass "java/util/ArrayDeque" = some m.cls := findClass_of_methodNamed Bd.named
  have hnm := (name_of_methodNamed Bd.named Bd.method).1
  have X0 : Stand p l e ({ frames := 2, cells := 1, slots := 6, locals := 24 } : Room) s m #[(.ref r0), (.int (5 : Int32))] below meth c s₁ [] 0 0 := Stand.of_body Bd
  have e0 : s₁.heap = h0 := by rw [← hh, Bd.state]; rfl
  have N0 := Fr.nil n0
  have K0 : ∀ t, Steps p.tables e below (s₁.setTop (mkF m 0 #[.val (.ref r0), .val (.int (5 : Int32))] [])) t → Steps p.tables e below (s₁.setTop (entryFrame m #[(.ref r0), (.int (5 : Int32))] 2)) t := fun t k => castTop (ef_qi m r0) k
  generalize s₁.setTop (entryFrame m #[(.ref r0), (.int (5 : Int32))] 2) = SE at K0 ⊢
  have K1 : own_K p e below SE s₁ (mkF m 1 #[.val (.ref r0), .val (.int (5 : Int32))] [(.ref r0)]) := by
    intro t k
    refine K0 _ ?_
    refine XS.aloadN X0.here hx rfl (hb hby d3_0) rfl rfl ?_
    exact k
  obtain ⟨_, _, ⟨T2, L2, k2, n2⟩, -, X2, ⟨Lc2, hQ2, l2, y2, z2⟩, st2⟩ := X0.specialBack hx (y := (⟨"java/util/AbstractCollection", "<init>", "()V"⟩ : MethodName)) rfl hown (mvT hZ (hw _ (List.mem_of_getElem? (i := 15) rfl))) (mvT hZ (hw _ (List.mem_of_getElem? (i := 16) rfl))) (mvT hZ (hw _ (List.mem_of_getElem? (i := 20) rfl))) (by decide) (backOf (W := 0) (rmac l Z a0 hw [] r0 h0 n0 Z0) hZ (hw _ (List.mem_of_getElem? (i := 20) rfl)) (hw _ (List.mem_of_getElem? (i := 19) rfl)) (by decide) (by decide)) (g := (mkF m 1 #[.val (.ref r0), .val (.int (5 : Int32))] [(.ref r0)])) rfl (by rw [hml]; rfl) (Steps.refl _) (a := r0) (argsL := []) (rest := []) (lenOf pd_qi_0 rfl) rfl (by show 2 * 0 + _ ≤ _; exact Nat.le_of_eq rfl) (hb hby d3_1) (fun _ _ => ⟨rfl, e0, (by decide : 0 + 0 ≤ _), (by decide : 0 + 0 ≤ _)⟩)
  dsimp only [Pt.U, Pt.locs, Pt.cells, Pt.slots] at X2 l2 y2 z2 st2 hQ2
  rw [y2, z2] at X2
  obtain ⟨rfl, Nq2, e2⟩ := hQ2
  have N2 : Fr n0 L2 := by rw [l2]; exact Fr.app N0 Nq2
  have K2 : own_K p e below SE T2 (mkF m 4 #[.val (.ref r0), .val (.int (5 : Int32))] []) := fun t k => K1 _ (st2.trans k)
  have K3 : own_K p e below SE T2 (mkF m 28 #[.val (.ref r0), .val (.int (5 : Int32))] [(.int (6 : Int32)), (.ref r0)]) := by
    intro t k
    refine K2 _ ?_
    refine XS.aloadN X2.here hx rfl (hb hby d3_4) rfl rfl ?_
    show own_S p e below T2 (mkF m 5 #[.val (.ref r0), .val (.int (5 : Int32))] [(.ref r0)]) _
    refine XS.iloadN X2.here hx rfl (hb hby d3_5) rfl ?_
    show own_S p e below T2 (mkF m 6 #[.val (.ref r0), .val (.int (5 : Int32))] [(.int (5 : Int32)), (.ref r0)]) _
    refine XS.iconst X2.here hx rfl (hb hby d3_6) ?_
    show own_S p e below T2 (mkF m 7 #[.val (.ref r0), .val (.int (5 : Int32))] [(.int (1 : Int32)), (.int (5 : Int32)), (.ref r0)]) _
    refine XS.icmpYes X2.here hx rfl (pc0 := 7) (pc' := 14) rfl (hb hby d3_7) rfl (XT.ii_ge_t (by decide : ¬ ((5 : Int32) < (1 : Int32)))) (by decide) (by decide) ?_
    show own_S p e below T2 (mkF m 14 #[.val (.ref r0), .val (.int (5 : Int32))] [(.ref r0)]) _
    refine XS.iloadN X2.here hx rfl (hb hby d3_14) rfl ?_
    show own_S p e below T2 (mkF m 15 #[.val (.ref r0), .val (.int (5 : Int32))] [(.int (5 : Int32)), (.ref r0)]) _
    refine Stand.ldcI X2 hx hown (mvT hZ (hw _ (List.mem_of_getElem? (i := 22) rfl))) (v := (2147483647 : Int32)) (g := (mkF m 15 #[.val (.ref r0), .val (.int (5 : Int32))] [(.int (5 : Int32)), (.ref r0)])) rfl (hb hby d3_15) ?_
    show own_S p e below T2 (mkF m 17 #[.val (.ref r0), .val (.int (5 : Int32))] [(.int (2147483647 : Int32)), (.int (5 : Int32)), (.ref r0)]) _
    refine XS.icmpYes X2.here hx rfl (pc0 := 17) (pc' := 25) rfl (hb hby d3_17) rfl (XT.ii_ne_t (by decide : ¬ ((5 : Int32) = (2147483647 : Int32)))) (by decide) (by decide) ?_
    show own_S p e below T2 (mkF m 25 #[.val (.ref r0), .val (.int (5 : Int32))] [(.ref r0)]) _
    refine XS.iloadN X2.here hx rfl (hb hby d3_25) rfl ?_
    show own_S p e below T2 (mkF m 26 #[.val (.ref r0), .val (.int (5 : Int32))] [(.int (5 : Int32)), (.ref r0)]) _
    refine XS.iconst X2.here hx rfl (hb hby d3_26) ?_
    show own_S p e below T2 (mkF m 27 #[.val (.ref r0), .val (.int (5 : Int32))] [(.int (1 : Int32)), (.int (5 : Int32)), (.ref r0)]) _
    refine XS.iadd X2.here hx rfl (hb hby d3_27) rfl ?_
    exact k
  obtain ⟨T4, h4, k4, X4, e4, E4, A4, O4, st4⟩ := newR X2 hx hZ hown (hw _ (List.mem_of_getElem? (i := 23) rfl)) (hw _ (List.mem_of_getElem? (i := 24) rfl)) e2 (g := (mkF m 28 #[.val (.ref r0), .val (.int (5 : Int32))] [(.int (6 : Int32)), (.ref r0)])) rfl (hb hby d3_28) rfl (by decide) (cap := 6) (by decide) (by decide) (by decide) (by decide)
  obtain ⟨b4, g4⟩ : ∃ z, z = h0.size := ⟨_, rfl⟩
  rw [← g4] at A4 st4
  have g_b4 : n0 ≤ b4 := Nat.le_trans Z0 (Nat.le_of_eq g4.symm)
  have sz_b4 : h0.size ≤ b4 := Nat.le_trans (Nat.le_refl _) (Nat.le_of_eq g4.symm)
  have own_ne_r0_b4 : r0 ≠ b4 := Nat.ne_of_lt (Nat.lt_of_lt_of_le E_r0.lt (Nat.le_of_eq g4.symm))
  have Kp4 : Keep h0 h4 [r0] := Keep.ext (Keep.refl h0 [r0]) E4
  have V4 : Arv Z h4 b4 k4 (.object "java/lang/Object") (6 : Int32) [.null, .null, .null, .null, .null, .null] .null := (Arv.new A4 (by decide)).pad (pad_rep [] .null 6)
  have K4 : own_K p e below SE T4 (mkF m 31 #[.val (.ref r0), .val (.int (5 : Int32))] [(.ref b4), (.ref r0)]) := fun t k => K3 _ (st4 _ k)
  obtain ⟨T5, h5, X5, e5, W5, st5⟩ := putF X4 hx hZ hown (host := "") (Or.inl (hw _ (List.mem_of_getElem? (i := 25) rfl))) Via.refl e4 (F_e.ext E4) (E_r0.ext E4) (Or.inl (hw _ (List.mem_of_getElem? (i := 26) rfl))) (hw _ (List.mem_of_getElem? (i := 10) rfl)) (ty := (.array (.object "java/lang/Object"))) (by decide) rfl rfl (g := (mkF m 31 #[.val (.ref r0), .val (.int (5 : Int32))] [(.ref b4), (.ref r0)])) rfl rfl (hb hby d3_31)
  have Fw5 := Fld.same W5 (F_e.ext E4)
  have N5 := Fr.snoc X5 N2 g_r0
  have Kp5 : Keep h0 h5 [r0] := Keep.wr Kp4 W5 (Or.inl (List.mem_of_getElem? (i := 0) rfl))
  have K5 : own_K p e below SE T5 (mkF m 34 #[.val (.ref r0), .val (.int (5 : Int32))] []) := fun t k => K4 _ (st5 _ k)
  obtain ⟨fs, hr, hrun, hended, hW, hsame⟩ := X5.leave (v := none) (fun _ => rfl)
  refine ⟨_, _, K5 _ ?_, hrun, hended, _, _, rfl, ?_, ⟨_, rfl⟩, hW, hsame.mono (by decide) (by decide)⟩
  · exact X5.returnOut hx Bd.returns (hb hby d3_34) hr
  · show Qqi Z r0 h0 n0 _ T5.heap _
    rw [e5]
    exact ⟨rfl, N5, Kp5, ((E_r0.ext E4).wr W5), ((F_h.ext E4).other W5 (Or.inr (slot_ne (Or.inl (hw _ (List.mem_of_getElem? (i := 106) rfl))) (Or.inl (hw _ (List.mem_of_getElem? (i := 26) rfl))) (by decide) (t := .int) (t' := (.array (.object "java/lang/Object"))) (by decide) (by decide)))), ((F_t.ext E4).other W5 (Or.inr (slot_ne (Or.inl (hw _ (List.mem_of_getElem? (i := 104) rfl))) (Or.inl (hw _ (List.mem_of_getElem? (i := 26) rfl))) (by decide) (t := .int) (t' := (.array (.object "java/lang/Object"))) (by decide) (by decide)))), b4, k4, sz_b4, Fw5, (V4.other W5 (Ne.symm (own_ne_r0_b4))), O4⟩
theorem d1_0 : decode prog_44_method_1_code 0 = .ok (.aload_n 0, 1) := by decide +kernel
theorem d1_1 : decode prog_44_method_1_code 1 = .ok (.invokespecial 1, 3) := by decide +kernel
theorem d1_4 : decode prog_44_method_1_code 4 = .ok (.aload_n 0, 1) := by decide +kernel
theorem d1_5 : decode prog_44_method_1_code 5 = .ok (.new 7, 3) := by decide +kernel
theorem d1_8 : decode prog_44_method_1_code 8 = .ok (.dup, 1) := by decide +kernel
theorem d1_9 : decode prog_44_method_1_code 9 = .ok (.iconst 5, 1) := by decide +kernel
theorem d1_10 : decode prog_44_method_1_code 10 = .ok (.invokespecial 11, 3) := by decide +kernel
theorem d1_13 : decode prog_44_method_1_code 13 = .ok (.putfield 14, 3) := by decide +kernel
theorem d1_16 : decode prog_44_method_1_code 16 = .ok (.aload_n 0, 1) := by decide +kernel
theorem d1_17 : decode prog_44_method_1_code 17 = .ok (.aload_n 1, 1) := by decide +kernel
theorem d1_18 : decode prog_44_method_1_code 18 = .ok (.putfield 18, 3) := by decide +kernel
theorem d1_21 : decode prog_44_method_1_code 21 = .ok (.aload_n 0, 1) := by decide +kernel
theorem d1_22 : decode prog_44_method_1_code 22 = .ok (.lload_n 2, 1) := by decide +kernel
theorem d1_23 : decode prog_44_method_1_code 23 = .ok (.putfield 22, 3) := by decide +kernel
theorem d1_26 : decode prog_44_method_1_code 26 = .ok (.aload_n 0, 1) := by decide +kernel
theorem d1_27 : decode prog_44_method_1_code 27 = .ok (.lload 4, 2) := by decide +kernel
theorem d1_29 : decode prog_44_method_1_code 29 = .ok (.putfield 26, 3) := by decide +kernel
theorem d1_32 : decode prog_44_method_1_code 32 = .ok (.aload_n 0, 1) := by decide +kernel
theorem d1_33 : decode prog_44_method_1_code 33 = .ok (.lload 4, 2) := by decide +kernel
theorem d1_35 : decode prog_44_method_1_code 35 = .ok (.putfield 29, 3) := by decide +kernel
theorem d1_38 : decode prog_44_method_1_code 38 = .ok (.aload_n 0, 1) := by decide +kernel
theorem d1_39 : decode prog_44_method_1_code 39 = .ok (.lload 4, 2) := by decide +kernel
theorem d1_41 : decode prog_44_method_1_code 41 = .ok (.putfield 32, 3) := by decide +kernel
theorem d1_44 : decode prog_44_method_1_code 44 = .ok (.return_, 1) := by decide +kernel
theorem pn_1 : plainName "com/example/headroom/headroom/model/Member" = true := by first | (simp [plainName, overriddenIn]; done) | decide +kernel
theorem pd_mi_0 : parseMethodDescriptor "(I)V" = some ⟨[.int], none⟩ := by decide +kernel
theorem ef_mi (m : MethodId) (r0 : Addr) (q2 : Int64) (q3 : Int64) : entryFrame m #[(.ref r0), .null, (.long q2), (.long q3)] 6 = mkF m 0 #[.val (.ref r0), .val .null, .val (.long q2), .second, .val (.long q3), .second] [] := by first | (simp [entryFrame, mkF, argsToLocals, Value.category]; done) | rfl
def Qmi (Z : State) (r0 : Addr) (q2 : Int64) (q3 : Int64) (h0 : Heap) (n0 : Nat) (v : Option Value) (h : Heap) (L : List Loc) : Prop := v = none ∧ Fr n0 L ∧ Keep h0 h [r0] ∧ Exa Z h r0 "com/example/headroom/headroom/model/Member" ∧ ∃ (d ea : Addr) (kE : ClassId), h0.size ≤ d ∧ h0.size ≤ ea ∧ d ≠ ea ∧ Ovr Z kE "java/lang/Object" ∧ Fld Z h r0 "com/example/headroom/headroom/model/Member" "processingTimes" "Ljava/util/Deque;" (.ref d) ∧ Fld Z h r0 "com/example/headroom/headroom/model/Member" "pending" "J" (.long (0 : Int64)) ∧ Fld Z h r0 "com/example/headroom/headroom/model/Member" "processingMs" "D" (.double (0 : UInt64)) ∧ Fld Z h r0 "com/example/headroom/headroom/model/Member" "sentSinceReport" "J" (.long (0 : Int64)) ∧ Fld Z h r0 "com/example/headroom/headroom/model/Member" "delivered" "J" (.long (0 : Int64)) ∧ Fld Z h r0 "com/example/headroom/headroom/model/Member" "lastReportNanos" "J" (.long q3) ∧ Fld Z h r0 "com/example/headroom/headroom/model/Member" "lastSentNanos" "J" (.long q3) ∧ Fld Z h r0 "com/example/headroom/headroom/model/Member" "reported" "Z" (.int (0 : Int32)) ∧ Fld Z h r0 "com/example/headroom/headroom/model/Member" "lastAcknowledgedNanos" "J" (.long q3) ∧ Exa Z h d "java/util/ArrayDeque" ∧ Fld Z h d "java/util/ArrayDeque" "head" "I" (.int (0 : Int32)) ∧ Fld Z h d "java/util/ArrayDeque" "tail" "I" (.int (0 : Int32)) ∧ Fld Z h d "java/util/ArrayDeque" "elements" "[Ljava/lang/Object;" (.ref ea) ∧ Arv Z h ea kE (.object "java/lang/Object") (6 : Int32) [.null, .null, .null, .null, .null, .null] .null
set_option maxRecDepth 65536 in
set_option maxHeartbeats 40000000 in
theorem rmmi (l : Launch) (Z : State) (a0 : Array Value) (hw : ∀ d ∈ tables_1, d.before a0 Z = true) (ws : List Jvm.Cond) (r0 : Addr) (q2 : Int64) (q3 : Int64) (h0 : Heap) (n0 : Nat) (Z0 : n0 ≤ h0.size) (E_r0 : Exa Z h0 r0 "com/example/headroom/headroom/model/Member") (M_processingTimes : Fld Z h0 r0 "com/example/headroom/headroom/model/Member" "processingTimes" "Ljava/util/Deque;" .null) (M_subscription : Fld Z h0 r0 "com/example/headroom/headroom/model/Member" "subscription" "Lcom/example/headroom/headroom/model/Subscription;" .null) (M_joinOrder : Fld Z h0 r0 "com/example/headroom/headroom/model/Member" "joinOrder" "J" (.long (0 : Int64))) (M_pending : Fld Z h0 r0 "com/example/headroom/headroom/model/Member" "pending" "J" (.long (0 : Int64))) (M_processingMs : Fld Z h0 r0 "com/example/headroom/headroom/model/Member" "processingMs" "D" (.double (0 : UInt64))) (M_sentSinceReport : Fld Z h0 r0 "com/example/headroom/headroom/model/Member" "sentSinceReport" "J" (.long (0 : Int64))) (M_delivered : Fld Z h0 r0 "com/example/headroom/headroom/model/Member" "delivered" "J" (.long (0 : Int64))) (M_lastReportNanos : Fld Z h0 r0 "com/example/headroom/headroom/model/Member" "lastReportNanos" "J" (.long (0 : Int64))) (M_lastSentNanos : Fld Z h0 r0 "com/example/headroom/headroom/model/Member" "lastSentNanos" "J" (.long (0 : Int64))) (M_reported : Fld Z h0 r0 "com/example/headroom/headroom/model/Member" "reported" "Z" (.int (0 : Int32))) (M_lastAcknowledgedNanos : Fld Z h0 r0 "com/example/headroom/headroom/model/Member" "lastAcknowledgedNanos" "J" (.long (0 : Int64))) (g_r0 : n0 ≤ r0) :
    MetFree l (⟨"com/example/headroom/headroom/model/Member", "<init>", "(Lcom/example/headroom/headroom/model/Subscription;JJ)V"⟩ : MethodName) (head1 (Jvm.Cond.code (⟨"com/example/headroom/headroom/model/Member", "<init>", "(Lcom/example/headroom/headroom/model/Subscription;JJ)V"⟩ : MethodName) prog_44_method_1_code 6 none :: ws) ({ frames := 3, cells := 2, slots := 9, locals := 39 } : Room)) (fun a U => a = #[(.ref r0), .null, (.long q2), (.long q3)] ∧ Z.Warmed39 U.vm ∧ U.heap = h0) (fun _ _ _ _ _ => True) (fun _ U o U' => ∃ v L, o = .returned v ∧ Qmi Z r0 q2 q3 h0 n0 v U'.heap L ∧ FrameEnd U o U' L ({ frames := 3, cells := 2, slots := 9, locals := 39 } : Room).cells ({ frames := 3, cells := 2, slots := 9, locals := 39 } : Room).slots) := by
  refine MetFree.of_bodySF (plainFor_of_name pn_1) hisR ?_
  intro p e s m args below meth c s₁ Bd hml0 hP hK
  obtain ⟨rfl, hZ, hh⟩ := hP
  have hx := Bd.exec
  have hby := Bd.bytes
  have hml : c.maxLocals = 6 := hml0
  have hown : s.vm.findClass "com/example/headroom/headroom/model/Member" = some m.cls := findClass_of_methodNamed Bd.named
  have hnm := (name_of_methodNamed Bd.named Bd.method).1
  have X0 : Stand p l e ({ frames := 3, cells := 2, slots := 9, locals := 39 } : Room) s m #[(.ref r0), .null, (.long q2), (.long q3)] below meth c s₁ [] 0 0 := Stand.of_body Bd
  have e0 : s₁.heap = h0 := by rw [← hh, Bd.state]; rfl
  have N0 := Fr.nil n0
  have K0 : ∀ t, Steps p.tables e below (s₁.setTop (mkF m 0 #[.val (.ref r0), .val .null, .val (.long q2), .second, .val (.long q3), .second] [])) t → Steps p.tables e below (s₁.setTop (entryFrame m #[(.ref r0), .null, (.long q2), (.long q3)] 6)) t := fun t k => castTop (ef_mi m r0 q2 q3) k
  generalize s₁.setTop (entryFrame m #[(.ref r0), .null, (.long q2), (.long q3)] 6) = SE at K0 ⊢
  have K1 : own_K p e below SE s₁ (mkF m 1 #[.val (.ref r0), .val .null, .val (.long q2), .second, .val (.long q3), .second] [(.ref r0)]) := by
    intro t k
    refine K0 _ ?_
    refine XS.aloadN X0.here hx rfl (hb hby d1_0) rfl rfl ?_
    exact k
  obtain ⟨T2, X2, e2, st2⟩ := initO X0 hx hZ hown (hw _ (List.mem_of_getElem? (i := 6) rfl)) (hw _ (List.mem_of_getElem? (i := 7) rfl)) (hw _ (List.mem_of_getElem? (i := 8) rfl)) e0 (g := (mkF m 1 #[.val (.ref r0), .val .null, .val (.long q2), .second, .val (.long q3), .second] [(.ref r0)])) rfl (by rw [hml]; rfl) rfl (hb hby d1_1) (by decide) (W := 0) (by show 2 * 0 + _ ≤ _; exact Nat.le_of_eq rfl) (by decide)
  have K2 : own_K p e below SE T2 (mkF m 4 #[.val (.ref r0), .val .null, .val (.long q2), .second, .val (.long q3), .second] []) := fun t k => K1 _ (st2 _ k)
  have K3 : own_K p e below SE T2 (mkF m 5 #[.val (.ref r0), .val .null, .val (.long q2), .second, .val (.long q3), .second] [(.ref r0)]) := by
    intro t k
    refine K2 _ ?_
    refine XS.aloadN X2.here hx rfl (hb hby d1_4) rfl rfl ?_
    exact k
  obtain ⟨T4, h4, X4, e4, E4, A4, D4, -, st4⟩ := newO X2 hx hZ hown (hw _ (List.mem_of_getElem? (i := 9) rfl)) (hw _ (List.mem_of_getElem? (i := 10) rfl)) (hw _ (List.mem_of_getElem? (i := 11) rfl)) e2 (g := (mkF m 5 #[.val (.ref r0), .val .null, .val (.long q2), .second, .val (.long q3), .second] [(.ref r0)])) rfl (hb hby d1_5) (by decide) (by decide)
  obtain ⟨b4, g4⟩ : ∃ z, z = h0.size := ⟨_, rfl⟩
  rw [← g4] at A4 D4 st4
  have g_b4 : n0 ≤ b4 := Nat.le_trans Z0 (Nat.le_of_eq g4.symm)
  have sz_b4 : h0.size ≤ b4 := Nat.le_trans (Nat.le_refl _) (Nat.le_of_eq g4.symm)
  have own_ne_r0_b4 : r0 ≠ b4 := Nat.ne_of_lt (Nat.lt_of_lt_of_le E_r0.lt (Nat.le_of_eq g4.symm))
  have Kp4 : Keep h0 h4 [r0] := Keep.ext (Keep.refl h0 [r0]) E4
  have F_elements_b4 : Fld Z h4 b4 "java/util/ArrayDeque" "elements" "[Ljava/lang/Object;" .null := D4 (Or.inl (hw _ (List.mem_of_getElem? (i := 26) rfl))) (ty := (.array (.object "java/lang/Object"))) (by decide)
  have F_tail_b4 : Fld Z h4 b4 "java/util/ArrayDeque" "tail" "I" (.int (0 : Int32)) := D4 (Or.inl (hw _ (List.mem_of_getElem? (i := 104) rfl))) (ty := .int) (by decide)
  have F_head_b4 : Fld Z h4 b4 "java/util/ArrayDeque" "head" "I" (.int (0 : Int32)) := D4 (Or.inl (hw _ (List.mem_of_getElem? (i := 106) rfl))) (ty := .int) (by decide)
  have K4 : own_K p e below SE T4 (mkF m 8 #[.val (.ref r0), .val .null, .val (.long q2), .second, .val (.long q3), .second] [(.ref b4), (.ref r0)]) := fun t k => K3 _ (st4 _ k)
  have K5 : own_K p e below SE T4 (mkF m 10 #[.val (.ref r0), .val .null, .val (.long q2), .second, .val (.long q3), .second] [(.int (5 : Int32)), (.ref b4), (.ref b4), (.ref r0)]) := by
    intro t k
    refine K4 _ ?_
    refine XS.dup X4.here hx rfl (hb hby d1_8) rfl rfl ?_
    show own_S p e below T4 (mkF m 9 #[.val (.ref r0), .val .null, .val (.long q2), .second, .val (.long q3), .second] [(.ref b4), (.ref b4), (.ref r0)]) _
    refine XS.iconst X4.here hx rfl (hb hby d1_9) ?_
    exact k
  obtain ⟨_, _, ⟨T6, L6, k6, n6⟩, -, X6, ⟨Lc6, hQ6, l6, y6, z6⟩, st6⟩ := X4.specialBack hx (y := (⟨"java/util/ArrayDeque", "<init>", "(I)V"⟩ : MethodName)) rfl hown (mvT hZ (hw _ (List.mem_of_getElem? (i := 12) rfl))) (mvT hZ (hw _ (List.mem_of_getElem? (i := 13) rfl))) (mvT hZ (hw _ (List.mem_of_getElem? (i := 14) rfl))) (by decide) (backOf (W := 2) (rmqi l Z a0 hw [] b4 h4 n0 (Nat.le_trans Z0 Kp4.1) A4 F_elements_b4 F_head_b4 F_tail_b4 g_b4) hZ (hw _ (List.mem_of_getElem? (i := 14) rfl)) (hw _ (List.mem_of_getElem? (i := 11) rfl)) (by decide) (by decide)) (g := (mkF m 10 #[.val (.ref r0), .val .null, .val (.long q2), .second, .val (.long q3), .second] [(.int (5 : Int32)), (.ref b4), (.ref b4), (.ref r0)])) rfl (by rw [hml]; rfl) (Steps.refl _) (a := b4) (argsL := [(.int (5 : Int32))]) (rest := [(.ref b4), (.ref r0)]) (lenOf pd_mi_0 rfl) rfl (by show 2 * 0 + _ ≤ _; exact Nat.le_of_eq rfl) (hb hby d1_10) (fun _ _ => ⟨rfl, e4, (by decide : 1 + 1 ≤ _), (by decide : 3 + 6 ≤ _)⟩)
  dsimp only [Pt.U, Pt.locs, Pt.cells, Pt.slots] at X6 l6 y6 z6 st6 hQ6
  rw [y6, z6] at X6
  obtain ⟨rfl, Nq6, Kq6, Ex6, Fh6, Ft6, ea, kE, hea, Fe6, Va6, Ov⟩ := hQ6
  have N6 : Fr n0 L6 := by rw [l6]; exact Fr.app N0 Nq6
  have Kp6 : Keep h0 T6.heap [r0] := Keep.trans Kp4 Kq6 (allS (Or.inr sz_b4) all0)
  have K6 : own_K p e below SE T6 (mkF m 13 #[.val (.ref r0), .val .null, .val (.long q2), .second, .val (.long q3), .second] [(.ref b4), (.ref r0)]) := fun t k => K5 _ (st6.trans k)
  have own_ne_r0_ea : r0 ≠ ea := Nat.ne_of_lt (Nat.lt_of_lt_of_le (E_r0.ext E4).lt hea)
  have own_ne_b4_ea : b4 ≠ ea := Nat.ne_of_lt (Nat.lt_of_lt_of_le A4.lt hea)
  have sz_ea : h0.size ≤ ea := Nat.le_trans Kp4.1 hea
  obtain ⟨T7, h7, X7, e7, W7, st7⟩ := putF X6 hx hZ hown (host := "") (Or.inl (hw _ (List.mem_of_getElem? (i := 27) rfl))) Via.refl rfl ((M_processingTimes.ext E4).keep Kq6 (ninS (own_ne_r0_b4) nin0)) ((E_r0.ext E4).keep Kq6) (Or.inr ⟨(hw _ (List.mem_of_getElem? (i := 28) rfl)), rfl, hnm⟩) (hw _ (List.mem_of_getElem? (i := 1) rfl)) (ty := (.object "java/util/Deque")) (by decide) rfl rfl (g := (mkF m 13 #[.val (.ref r0), .val .null, .val (.long q2), .second, .val (.long q3), .second] [(.ref b4), (.ref r0)])) rfl rfl (hb hby d1_13)
  have Fw7 := Fld.same W7 ((M_processingTimes.ext E4).keep Kq6 (ninS (own_ne_r0_b4) nin0))
  have N7 := Fr.snoc X7 N6 g_r0
  have Kp7 : Keep h0 h7 [r0] := Keep.wr Kp6 W7 (Or.inl (List.mem_of_getElem? (i := 0) rfl))
  have K7 : own_K p e below SE T7 (mkF m 16 #[.val (.ref r0), .val .null, .val (.long q2), .second, .val (.long q3), .second] []) := fun t k => K6 _ (st7 _ k)
  have K8 : own_K p e below SE T7 (mkF m 18 #[.val (.ref r0), .val .null, .val (.long q2), .second, .val (.long q3), .second] [.null, (.ref r0)]) := by
    intro t k
    refine K7 _ ?_
    refine XS.aloadN X7.here hx rfl (hb hby d1_16) rfl rfl ?_
    show own_S p e below T7 (mkF m 17 #[.val (.ref r0), .val .null, .val (.long q2), .second, .val (.long q3), .second] [(.ref r0)]) _
    refine XS.aloadN X7.here hx rfl (hb hby d1_17) rfl rfl ?_
    exact k
  obtain ⟨T9, h9, X9, e9, W9, st9⟩ := putF X7 hx hZ hown (host := "") (Or.inl (hw _ (List.mem_of_getElem? (i := 29) rfl))) Via.refl e7 (((M_subscription.ext E4).keep Kq6 (ninS (own_ne_r0_b4) nin0)).other W7 (Or.inr (slot_ne (Or.inl (hw _ (List.mem_of_getElem? (i := 30) rfl))) (Or.inr (hw _ (List.mem_of_getElem? (i := 28) rfl))) (by decide) (t := (.object "com/example/headroom/headroom/model/Subscription")) (t' := (.object "java/util/Deque")) (by decide) (by decide)))) (((E_r0.ext E4).keep Kq6).wr W7) (Or.inl (hw _ (List.mem_of_getElem? (i := 30) rfl))) (hw _ (List.mem_of_getElem? (i := 1) rfl)) (ty := (.object "com/example/headroom/headroom/model/Subscription")) (by decide) rfl rfl (g := (mkF m 18 #[.val (.ref r0), .val .null, .val (.long q2), .second, .val (.long q3), .second] [.null, (.ref r0)])) rfl rfl (hb hby d1_18)
  have Fw9 := Fld.same W9 (((M_subscription.ext E4).keep Kq6 (ninS (own_ne_r0_b4) nin0)).other W7 (Or.inr (slot_ne (Or.inl (hw _ (List.mem_of_getElem? (i := 30) rfl))) (Or.inr (hw _ (List.mem_of_getElem? (i := 28) rfl))) (by decide) (t := (.object "com/example/headroom/headroom/model/Subscription")) (t' := (.object "java/util/Deque")) (by decide) (by decide))))
  have N9 := Fr.snoc X9 N7 g_r0
  have Kp9 : Keep h0 h9 [r0] := Keep.wr Kp7 W9 (Or.inl (List.mem_of_getElem? (i := 0) rfl))
  have K9 : own_K p e below SE T9 (mkF m 21 #[.val (.ref r0), .val .null, .val (.long q2), .second, .val (.long q3), .second] []) := fun t k => K8 _ (st9 _ k)
  have K10 : own_K p e below SE T9 (mkF m 23 #[.val (.ref r0), .val .null, .val (.long q2), .second, .val (.long q3), .second] [(.long q2), (.ref r0)]) := by
    intro t k
    refine K9 _ ?_
    refine XS.aloadN X9.here hx rfl (hb hby d1_21) rfl rfl ?_
    show own_S p e below T9 (mkF m 22 #[.val (.ref r0), .val .null, .val (.long q2), .second, .val (.long q3), .second] [(.ref r0)]) _
    refine XS.lloadN X9.here hx rfl (hb hby d1_22) rfl ?_
    exact k
  obtain ⟨T11, h11, X11, e11, W11, st11⟩ := putF X9 hx hZ hown (host := "") (Or.inl (hw _ (List.mem_of_getElem? (i := 31) rfl))) Via.refl e9 ((((M_joinOrder.ext E4).keep Kq6 (ninS (own_ne_r0_b4) nin0)).other W7 (Or.inr (slot_ne (Or.inr (hw _ (List.mem_of_getElem? (i := 32) rfl))) (Or.inr (hw _ (List.mem_of_getElem? (i := 28) rfl))) (by decide) (t := .long) (t' := (.object "java/util/Deque")) (by decide) (by decide)))).other W9 (Or.inr (slot_ne (Or.inr (hw _ (List.mem_of_getElem? (i := 32) rfl))) (Or.inl (hw _ (List.mem_of_getElem? (i := 30) rfl))) (by decide) (t := .long) (t' := (.object "com/example/headroom/headroom/model/Subscription")) (by decide) (by decide)))) ((((E_r0.ext E4).keep Kq6).wr W7).wr W9) (Or.inr ⟨(hw _ (List.mem_of_getElem? (i := 32) rfl)), rfl, hnm⟩) (hw _ (List.mem_of_getElem? (i := 1) rfl)) (ty := .long) (by decide) rfl rfl (g := (mkF m 23 #[.val (.ref r0), .val .null, .val (.long q2), .second, .val (.long q3), .second] [(.long q2), (.ref r0)])) rfl rfl (hb hby d1_23)
  have Fw11 := Fld.same W11 ((((M_joinOrder.ext E4).keep Kq6 (ninS (own_ne_r0_b4) nin0)).other W7 (Or.inr (slot_ne (Or.inr (hw _ (List.mem_of_getElem? (i := 32) rfl))) (Or.inr (hw _ (List.mem_of_getElem? (i := 28) rfl))) (by decide) (t := .long) (t' := (.object "java/util/Deque")) (by decide) (by decide)))).other W9 (Or.inr (slot_ne (Or.inr (hw _ (List.mem_of_getElem? (i := 32) rfl))) (Or.inl (hw _ (List.mem_of_getElem? (i := 30) rfl))) (by decide) (t := .long) (t' := (.object "com/example/headroom/headroom/model/Subscription")) (by decide) (by decide))))
  have N11 := Fr.snoc X11 N9 g_r0
  have Kp11 : Keep h0 h11 [r0] := Keep.wr Kp9 W11 (Or.inl (List.mem_of_getElem? (i := 0) rfl))
  have K11 : own_K p e below SE T11 (mkF m 26 #[.val (.ref r0), .val .null, .val (.long q2), .second, .val (.long q3), .second] []) := fun t k => K10 _ (st11 _ k)
  have K12 : own_K p e below SE T11 (mkF m 29 #[.val (.ref r0), .val .null, .val (.long q2), .second, .val (.long q3), .second] [(.long q3), (.ref r0)]) := by
    intro t k
    refine K11 _ ?_
    refine XS.aloadN X11.here hx rfl (hb hby d1_26) rfl rfl ?_
    show own_S p e below T11 (mkF m 27 #[.val (.ref r0), .val .null, .val (.long q2), .second, .val (.long q3), .second] [(.ref r0)]) _
    refine XS.lload X11.here hx rfl (hb hby d1_27) rfl ?_
    exact k
  obtain ⟨T13, h13, X13, e13, W13, st13⟩ := putF X11 hx hZ hown (host := "") (Or.inl (hw _ (List.mem_of_getElem? (i := 33) rfl))) Via.refl e11 (((((M_lastReportNanos.ext E4).keep Kq6 (ninS (own_ne_r0_b4) nin0)).other W7 (Or.inr (slot_ne (Or.inl (hw _ (List.mem_of_getElem? (i := 34) rfl))) (Or.inr (hw _ (List.mem_of_getElem? (i := 28) rfl))) (by decide) (t := .long) (t' := (.object "java/util/Deque")) (by decide) (by decide)))).other W9 (Or.inr (slot_ne (Or.inl (hw _ (List.mem_of_getElem? (i := 34) rfl))) (Or.inl (hw _ (List.mem_of_getElem? (i := 30) rfl))) (by decide) (t := .long) (t' := (.object "com/example/headroom/headroom/model/Subscription")) (by decide) (by decide)))).other W11 (Or.inr (slot_ne (Or.inl (hw _ (List.mem_of_getElem? (i := 34) rfl))) (Or.inr (hw _ (List.mem_of_getElem? (i := 32) rfl))) (by decide) (t := .long) (t' := .long) (by decide) (by decide)))) (((((E_r0.ext E4).keep Kq6).wr W7).wr W9).wr W11) (Or.inl (hw _ (List.mem_of_getElem? (i := 34) rfl))) (hw _ (List.mem_of_getElem? (i := 1) rfl)) (ty := .long) (by decide) rfl rfl (g := (mkF m 29 #[.val (.ref r0), .val .null, .val (.long q2), .second, .val (.long q3), .second] [(.long q3), (.ref r0)])) rfl rfl (hb hby d1_29)
  have Fw13 := Fld.same W13 (((((M_lastReportNanos.ext E4).keep Kq6 (ninS (own_ne_r0_b4) nin0)).other W7 (Or.inr (slot_ne (Or.inl (hw _ (List.mem_of_getElem? (i := 34) rfl))) (Or.inr (hw _ (List.mem_of_getElem? (i := 28) rfl))) (by decide) (t := .long) (t' := (.object "java/util/Deque")) (by decide) (by decide)))).other W9 (Or.inr (slot_ne (Or.inl (hw _ (List.mem_of_getElem? (i := 34) rfl))) (Or.inl (hw _ (List.mem_of_getElem? (i := 30) rfl))) (by decide) (t := .long) (t' := (.object "com/example/headroom/headroom/model/Subscription")) (by decide) (by decide)))).other W11 (Or.inr (slot_ne (Or.inl (hw _ (List.mem_of_getElem? (i := 34) rfl))) (Or.inr (hw _ (List.mem_of_getElem? (i := 32) rfl))) (by decide) (t := .long) (t' := .long) (by decide) (by decide))))
  have N13 := Fr.snoc X13 N11 g_r0
  have Kp13 : Keep h0 h13 [r0] := Keep.wr Kp11 W13 (Or.inl (List.mem_of_getElem? (i := 0) rfl))
  have K13 : own_K p e below SE T13 (mkF m 32 #[.val (.ref r0), .val .null, .val (.long q2), .second, .val (.long q3), .second] []) := fun t k => K12 _ (st13 _ k)
  have K14 : own_K p e below SE T13 (mkF m 35 #[.val (.ref r0), .val .null, .val (.long q2), .second, .val (.long q3), .second] [(.long q3), (.ref r0)]) := by
    intro t k
    refine K13 _ ?_
    refine XS.aloadN X13.here hx rfl (hb hby d1_32) rfl rfl ?_
    show own_S p e below T13 (mkF m 33 #[.val (.ref r0), .val .null, .val (.long q2), .second, .val (.long q3), .second] [(.ref r0)]) _
    refine XS.lload X13.here hx rfl (hb hby d1_33) rfl ?_
    exact k
  obtain ⟨T15, h15, X15, e15, W15, st15⟩ := putF X13 hx hZ hown (host := "") (Or.inl (hw _ (List.mem_of_getElem? (i := 35) rfl))) Via.refl e13 ((((((M_lastSentNanos.ext E4).keep Kq6 (ninS (own_ne_r0_b4) nin0)).other W7 (Or.inr (slot_ne (Or.inl (hw _ (List.mem_of_getElem? (i := 36) rfl))) (Or.inr (hw _ (List.mem_of_getElem? (i := 28) rfl))) (by decide) (t := .long) (t' := (.object "java/util/Deque")) (by decide) (by decide)))).other W9 (Or.inr (slot_ne (Or.inl (hw _ (List.mem_of_getElem? (i := 36) rfl))) (Or.inl (hw _ (List.mem_of_getElem? (i := 30) rfl))) (by decide) (t := .long) (t' := (.object "com/example/headroom/headroom/model/Subscription")) (by decide) (by decide)))).other W11 (Or.inr (slot_ne (Or.inl (hw _ (List.mem_of_getElem? (i := 36) rfl))) (Or.inr (hw _ (List.mem_of_getElem? (i := 32) rfl))) (by decide) (t := .long) (t' := .long) (by decide) (by decide)))).other W13 (Or.inr (slot_ne (Or.inl (hw _ (List.mem_of_getElem? (i := 36) rfl))) (Or.inl (hw _ (List.mem_of_getElem? (i := 34) rfl))) (by decide) (t := .long) (t' := .long) (by decide) (by decide)))) ((((((E_r0.ext E4).keep Kq6).wr W7).wr W9).wr W11).wr W13) (Or.inl (hw _ (List.mem_of_getElem? (i := 36) rfl))) (hw _ (List.mem_of_getElem? (i := 1) rfl)) (ty := .long) (by decide) rfl rfl (g := (mkF m 35 #[.val (.ref r0), .val .null, .val (.long q2), .second, .val (.long q3), .second] [(.long q3), (.ref r0)])) rfl rfl (hb hby d1_35)
  have Fw15 := Fld.same W15 ((((((M_lastSentNanos.ext E4).keep Kq6 (ninS (own_ne_r0_b4) nin0)).other W7 (Or.inr (slot_ne (Or.inl (hw _ (List.mem_of_getElem? (i := 36) rfl))) (Or.inr (hw _ (List.mem_of_getElem? (i := 28) rfl))) (by decide) (t := .long) (t' := (.object "java/util/Deque")) (by decide) (by decide)))).other W9 (Or.inr (slot_ne (Or.inl (hw _ (List.mem_of_getElem? (i := 36) rfl))) (Or.inl (hw _ (List.mem_of_getElem? (i := 30) rfl))) (by decide) (t := .long) (t' := (.object "com/example/headroom/headroom/model/Subscription")) (by decide) (by decide)))).other W11 (Or.inr (slot_ne (Or.inl (hw _ (List.mem_of_getElem? (i := 36) rfl))) (Or.inr (hw _ (List.mem_of_getElem? (i := 32) rfl))) (by decide) (t := .long) (t' := .long) (by decide) (by decide)))).other W13 (Or.inr (slot_ne (Or.inl (hw _ (List.mem_of_getElem? (i := 36) rfl))) (Or.inl (hw _ (List.mem_of_getElem? (i := 34) rfl))) (by decide) (t := .long) (t' := .long) (by decide) (by decide))))
  have N15 := Fr.snoc X15 N13 g_r0
  have Kp15 : Keep h0 h15 [r0] := Keep.wr Kp13 W15 (Or.inl (List.mem_of_getElem? (i := 0) rfl))
  have K15 : own_K p e below SE T15 (mkF m 38 #[.val (.ref r0), .val .null, .val (.long q2), .second, .val (.long q3), .second] []) := fun t k => K14 _ (st15 _ k)
  have K16 : own_K p e below SE T15 (mkF m 41 #[.val (.ref r0), .val .null, .val (.long q2), .second, .val (.long q3), .second] [(.long q3), (.ref r0)]) := by
    intro t k
    refine K15 _ ?_
    refine XS.aloadN X15.here hx rfl (hb hby d1_38) rfl rfl ?_
    show own_S p e below T15 (mkF m 39 #[.val (.ref r0), .val .null, .val (.long q2), .second, .val (.long q3), .second] [(.ref r0)]) _
    refine XS.lload X15.here hx rfl (hb hby d1_39) rfl ?_
    exact k
  obtain ⟨T17, h17, X17, e17, W17, st17⟩ := putF X15 hx hZ hown (host := "") (Or.inl (hw _ (List.mem_of_getElem? (i := 37) rfl))) Via.refl e15 (((((((M_lastAcknowledgedNanos.ext E4).keep Kq6 (ninS (own_ne_r0_b4) nin0)).other W7 (Or.inr (slot_ne (Or.inl (hw _ (List.mem_of_getElem? (i := 38) rfl))) (Or.inr (hw _ (List.mem_of_getElem? (i := 28) rfl))) (by decide) (t := .long) (t' := (.object "java/util/Deque")) (by decide) (by decide)))).other W9 (Or.inr (slot_ne (Or.inl (hw _ (List.mem_of_getElem? (i := 38) rfl))) (Or.inl (hw _ (List.mem_of_getElem? (i := 30) rfl))) (by decide) (t := .long) (t' := (.object "com/example/headroom/headroom/model/Subscription")) (by decide) (by decide)))).other W11 (Or.inr (slot_ne (Or.inl (hw _ (List.mem_of_getElem? (i := 38) rfl))) (Or.inr (hw _ (List.mem_of_getElem? (i := 32) rfl))) (by decide) (t := .long) (t' := .long) (by decide) (by decide)))).other W13 (Or.inr (slot_ne (Or.inl (hw _ (List.mem_of_getElem? (i := 38) rfl))) (Or.inl (hw _ (List.mem_of_getElem? (i := 34) rfl))) (by decide) (t := .long) (t' := .long) (by decide) (by decide)))).other W15 (Or.inr (slot_ne (Or.inl (hw _ (List.mem_of_getElem? (i := 38) rfl))) (Or.inl (hw _ (List.mem_of_getElem? (i := 36) rfl))) (by decide) (t := .long) (t' := .long) (by decide) (by decide)))) (((((((E_r0.ext E4).keep Kq6).wr W7).wr W9).wr W11).wr W13).wr W15) (Or.inl (hw _ (List.mem_of_getElem? (i := 38) rfl))) (hw _ (List.mem_of_getElem? (i := 1) rfl)) (ty := .long) (by decide) rfl rfl (g := (mkF m 41 #[.val (.ref r0), .val .null, .val (.long q2), .second, .val (.long q3), .second] [(.long q3), (.ref r0)])) rfl rfl (hb hby d1_41)
  have Fw17 := Fld.same W17 (((((((M_lastAcknowledgedNanos.ext E4).keep Kq6 (ninS (own_ne_r0_b4) nin0)).other W7 (Or.inr (slot_ne (Or.inl (hw _ (List.mem_of_getElem? (i := 38) rfl))) (Or.inr (hw _ (List.mem_of_getElem? (i := 28) rfl))) (by decide) (t := .long) (t' := (.object "java/util/Deque")) (by decide) (by decide)))).other W9 (Or.inr (slot_ne (Or.inl (hw _ (List.mem_of_getElem? (i := 38) rfl))) (Or.inl (hw _ (List.mem_of_getElem? (i := 30) rfl))) (by decide) (t := .long) (t' := (.object "com/example/headroom/headroom/model/Subscription")) (by decide) (by decide)))).other W11 (Or.inr (slot_ne (Or.inl (hw _ (List.mem_of_getElem? (i := 38) rfl))) (Or.inr (hw _ (List.mem_of_getElem? (i := 32) rfl))) (by decide) (t := .long) (t' := .long) (by decide) (by decide)))).other W13 (Or.inr (slot_ne (Or.inl (hw _ (List.mem_of_getElem? (i := 38) rfl))) (Or.inl (hw _ (List.mem_of_getElem? (i := 34) rfl))) (by decide) (t := .long) (t' := .long) (by decide) (by decide)))).other W15 (Or.inr (slot_ne (Or.inl (hw _ (List.mem_of_getElem? (i := 38) rfl))) (Or.inl (hw _ (List.mem_of_getElem? (i := 36) rfl))) (by decide) (t := .long) (t' := .long) (by decide) (by decide))))
  have N17 := Fr.snoc X17 N15 g_r0
  have Kp17 : Keep h0 h17 [r0] := Keep.wr Kp15 W17 (Or.inl (List.mem_of_getElem? (i := 0) rfl))
  have K17 : own_K p e below SE T17 (mkF m 44 #[.val (.ref r0), .val .null, .val (.long q2), .second, .val (.long q3), .second] []) := fun t k => K16 _ (st17 _ k)
  obtain ⟨fs, hr, hrun, hended, hW, hsame⟩ := X17.leave (v := none) (fun _ => rfl)
  refine ⟨_, _, K17 _ ?_, hrun, hended, _, _, rfl, ?_, ⟨_, rfl⟩, hW, hsame.mono (by decide) (by decide)⟩
  · exact X17.returnOut hx Bd.returns (hb hby d1_44) hr
  · show Qmi Z r0 q2 q3 h0 n0 _ T17.heap _
    rw [e17]
    exact ⟨rfl, N17, Kp17, ((((((((E_r0.ext E4).keep Kq6).wr W7).wr W9).wr W11).wr W13).wr W15).wr W17), b4, ea, kE, sz_b4, sz_ea, own_ne_b4_ea, Ov, (((((Fw7.other W9 (Or.inr (slot_ne (Or.inr (hw _ (List.mem_of_getElem? (i := 28) rfl))) (Or.inl (hw _ (List.mem_of_getElem? (i := 30) rfl))) (by decide) (t := (.object "java/util/Deque")) (t' := (.object "com/example/headroom/headroom/model/Subscription")) (by decide) (by decide)))).other W11 (Or.inr (slot_ne (Or.inr (hw _ (List.mem_of_getElem? (i := 28) rfl))) (Or.inr (hw _ (List.mem_of_getElem? (i := 32) rfl))) (by decide) (t := (.object "java/util/Deque")) (t' := .long) (by decide) (by decide)))).other W13 (Or.inr (slot_ne (Or.inr (hw _ (List.mem_of_getElem? (i := 28) rfl))) (Or.inl (hw _ (List.mem_of_getElem? (i := 34) rfl))) (by decide) (t := (.object "java/util/Deque")) (t' := .long) (by decide) (by decide)))).other W15 (Or.inr (slot_ne (Or.inr (hw _ (List.mem_of_getElem? (i := 28) rfl))) (Or.inl (hw _ (List.mem_of_getElem? (i := 36) rfl))) (by decide) (t := (.object "java/util/Deque")) (t' := .long) (by decide) (by decide)))).other W17 (Or.inr (slot_ne (Or.inr (hw _ (List.mem_of_getElem? (i := 28) rfl))) (Or.inl (hw _ (List.mem_of_getElem? (i := 38) rfl))) (by decide) (t := (.object "java/util/Deque")) (t' := .long) (by decide) (by decide)))), ((((((((M_pending.ext E4).keep Kq6 (ninS (own_ne_r0_b4) nin0)).other W7 (Or.inr (slot_ne (Or.inl (hw _ (List.mem_of_getElem? (i := 52) rfl))) (Or.inr (hw _ (List.mem_of_getElem? (i := 28) rfl))) (by decide) (t := .long) (t' := (.object "java/util/Deque")) (by decide) (by decide)))).other W9 (Or.inr (slot_ne (Or.inl (hw _ (List.mem_of_getElem? (i := 52) rfl))) (Or.inl (hw _ (List.mem_of_getElem? (i := 30) rfl))) (by decide) (t := .long) (t' := (.object "com/example/headroom/headroom/model/Subscription")) (by decide) (by decide)))).other W11 (Or.inr (slot_ne (Or.inl (hw _ (List.mem_of_getElem? (i := 52) rfl))) (Or.inr (hw _ (List.mem_of_getElem? (i := 32) rfl))) (by decide) (t := .long) (t' := .long) (by decide) (by decide)))).other W13 (Or.inr (slot_ne (Or.inl (hw _ (List.mem_of_getElem? (i := 52) rfl))) (Or.inl (hw _ (List.mem_of_getElem? (i := 34) rfl))) (by decide) (t := .long) (t' := .long) (by decide) (by decide)))).other W15 (Or.inr (slot_ne (Or.inl (hw _ (List.mem_of_getElem? (i := 52) rfl))) (Or.inl (hw _ (List.mem_of_getElem? (i := 36) rfl))) (by decide) (t := .long) (t' := .long) (by decide) (by decide)))).other W17 (Or.inr (slot_ne (Or.inl (hw _ (List.mem_of_getElem? (i := 52) rfl))) (Or.inl (hw _ (List.mem_of_getElem? (i := 38) rfl))) (by decide) (t := .long) (t' := .long) (by decide) (by decide)))), ((((((((M_processingMs.ext E4).keep Kq6 (ninS (own_ne_r0_b4) nin0)).other W7 (Or.inr (slot_ne (Or.inl (hw _ (List.mem_of_getElem? (i := 61) rfl))) (Or.inr (hw _ (List.mem_of_getElem? (i := 28) rfl))) (by decide) (t := .double) (t' := (.object "java/util/Deque")) (by decide) (by decide)))).other W9 (Or.inr (slot_ne (Or.inl (hw _ (List.mem_of_getElem? (i := 61) rfl))) (Or.inl (hw _ (List.mem_of_getElem? (i := 30) rfl))) (by decide) (t := .double) (t' := (.object "com/example/headroom/headroom/model/Subscription")) (by decide) (by decide)))).other W11 (Or.inr (slot_ne (Or.inl (hw _ (List.mem_of_getElem? (i := 61) rfl))) (Or.inr (hw _ (List.mem_of_getElem? (i := 32) rfl))) (by decide) (t := .double) (t' := .long) (by decide) (by decide)))).other W13 (Or.inr (slot_ne (Or.inl (hw _ (List.mem_of_getElem? (i := 61) rfl))) (Or.inl (hw _ (List.mem_of_getElem? (i := 34) rfl))) (by decide) (t := .double) (t' := .long) (by decide) (by decide)))).other W15 (Or.inr (slot_ne (Or.inl (hw _ (List.mem_of_getElem? (i := 61) rfl))) (Or.inl (hw _ (List.mem_of_getElem? (i := 36) rfl))) (by decide) (t := .double) (t' := .long) (by decide) (by decide)))).other W17 (Or.inr (slot_ne (Or.inl (hw _ (List.mem_of_getElem? (i := 61) rfl))) (Or.inl (hw _ (List.mem_of_getElem? (i := 38) rfl))) (by decide) (t := .double) (t' := .long) (by decide) (by decide)))), ((((((((M_sentSinceReport.ext E4).keep Kq6 (ninS (own_ne_r0_b4) nin0)).other W7 (Or.inr (slot_ne (Or.inl (hw _ (List.mem_of_getElem? (i := 54) rfl))) (Or.inr (hw _ (List.mem_of_getElem? (i := 28) rfl))) (by decide) (t := .long) (t' := (.object "java/util/Deque")) (by decide) (by decide)))).other W9 (Or.inr (slot_ne (Or.inl (hw _ (List.mem_of_getElem? (i := 54) rfl))) (Or.inl (hw _ (List.mem_of_getElem? (i := 30) rfl))) (by decide) (t := .long) (t' := (.object "com/example/headroom/headroom/model/Subscription")) (by decide) (by decide)))).other W11 (Or.inr (slot_ne (Or.inl (hw _ (List.mem_of_getElem? (i := 54) rfl))) (Or.inr (hw _ (List.mem_of_getElem? (i := 32) rfl))) (by decide) (t := .long) (t' := .long) (by decide) (by decide)))).other W13 (Or.inr (slot_ne (Or.inl (hw _ (List.mem_of_getElem? (i := 54) rfl))) (Or.inl (hw _ (List.mem_of_getElem? (i := 34) rfl))) (by decide) (t := .long) (t' := .long) (by decide) (by decide)))).other W15 (Or.inr (slot_ne (Or.inl (hw _ (List.mem_of_getElem? (i := 54) rfl))) (Or.inl (hw _ (List.mem_of_getElem? (i := 36) rfl))) (by decide) (t := .long) (t' := .long) (by decide) (by decide)))).other W17 (Or.inr (slot_ne (Or.inl (hw _ (List.mem_of_getElem? (i := 54) rfl))) (Or.inl (hw _ (List.mem_of_getElem? (i := 38) rfl))) (by decide) (t := .long) (t' := .long) (by decide) (by decide)))), ((((((((M_delivered.ext E4).keep Kq6 (ninS (own_ne_r0_b4) nin0)).other W7 (Or.inr (slot_ne (Or.inl (hw _ (List.mem_of_getElem? (i := 68) rfl))) (Or.inr (hw _ (List.mem_of_getElem? (i := 28) rfl))) (by decide) (t := .long) (t' := (.object "java/util/Deque")) (by decide) (by decide)))).other W9 (Or.inr (slot_ne (Or.inl (hw _ (List.mem_of_getElem? (i := 68) rfl))) (Or.inl (hw _ (List.mem_of_getElem? (i := 30) rfl))) (by decide) (t := .long) (t' := (.object "com/example/headroom/headroom/model/Subscription")) (by decide) (by decide)))).other W11 (Or.inr (slot_ne (Or.inl (hw _ (List.mem_of_getElem? (i := 68) rfl))) (Or.inr (hw _ (List.mem_of_getElem? (i := 32) rfl))) (by decide) (t := .long) (t' := .long) (by decide) (by decide)))).other W13 (Or.inr (slot_ne (Or.inl (hw _ (List.mem_of_getElem? (i := 68) rfl))) (Or.inl (hw _ (List.mem_of_getElem? (i := 34) rfl))) (by decide) (t := .long) (t' := .long) (by decide) (by decide)))).other W15 (Or.inr (slot_ne (Or.inl (hw _ (List.mem_of_getElem? (i := 68) rfl))) (Or.inl (hw _ (List.mem_of_getElem? (i := 36) rfl))) (by decide) (t := .long) (t' := .long) (by decide) (by decide)))).other W17 (Or.inr (slot_ne (Or.inl (hw _ (List.mem_of_getElem? (i := 68) rfl))) (Or.inl (hw _ (List.mem_of_getElem? (i := 38) rfl))) (by decide) (t := .long) (t' := .long) (by decide) (by decide)))), ((Fw13.other W15 (Or.inr (slot_ne (Or.inl (hw _ (List.mem_of_getElem? (i := 34) rfl))) (Or.inl (hw _ (List.mem_of_getElem? (i := 36) rfl))) (by decide) (t := .long) (t' := .long) (by decide) (by decide)))).other W17 (Or.inr (slot_ne (Or.inl (hw _ (List.mem_of_getElem? (i := 34) rfl))) (Or.inl (hw _ (List.mem_of_getElem? (i := 38) rfl))) (by decide) (t := .long) (t' := .long) (by decide) (by decide)))), (Fw15.other W17 (Or.inr (slot_ne (Or.inl (hw _ (List.mem_of_getElem? (i := 36) rfl))) (Or.inl (hw _ (List.mem_of_getElem? (i := 38) rfl))) (by decide) (t := .long) (t' := .long) (by decide) (by decide)))), ((((((((M_reported.ext E4).keep Kq6 (ninS (own_ne_r0_b4) nin0)).other W7 (Or.inr (slot_ne (Or.inl (hw _ (List.mem_of_getElem? (i := 45) rfl))) (Or.inr (hw _ (List.mem_of_getElem? (i := 28) rfl))) (by decide) (t := .boolean) (t' := (.object "java/util/Deque")) (by decide) (by decide)))).other W9 (Or.inr (slot_ne (Or.inl (hw _ (List.mem_of_getElem? (i := 45) rfl))) (Or.inl (hw _ (List.mem_of_getElem? (i := 30) rfl))) (by decide) (t := .boolean) (t' := (.object "com/example/headroom/headroom/model/Subscription")) (by decide) (by decide)))).other W11 (Or.inr (slot_ne (Or.inl (hw _ (List.mem_of_getElem? (i := 45) rfl))) (Or.inr (hw _ (List.mem_of_getElem? (i := 32) rfl))) (by decide) (t := .boolean) (t' := .long) (by decide) (by decide)))).other W13 (Or.inr (slot_ne (Or.inl (hw _ (List.mem_of_getElem? (i := 45) rfl))) (Or.inl (hw _ (List.mem_of_getElem? (i := 34) rfl))) (by decide) (t := .boolean) (t' := .long) (by decide) (by decide)))).other W15 (Or.inr (slot_ne (Or.inl (hw _ (List.mem_of_getElem? (i := 45) rfl))) (Or.inl (hw _ (List.mem_of_getElem? (i := 36) rfl))) (by decide) (t := .boolean) (t' := .long) (by decide) (by decide)))).other W17 (Or.inr (slot_ne (Or.inl (hw _ (List.mem_of_getElem? (i := 45) rfl))) (Or.inl (hw _ (List.mem_of_getElem? (i := 38) rfl))) (by decide) (t := .boolean) (t' := .long) (by decide) (by decide)))), Fw17, ((((((Ex6.wr W7).wr W9).wr W11).wr W13).wr W15).wr W17), ((((((Fh6.other W7 (Or.inl (Ne.symm (own_ne_r0_b4)))).other W9 (Or.inl (Ne.symm (own_ne_r0_b4)))).other W11 (Or.inl (Ne.symm (own_ne_r0_b4)))).other W13 (Or.inl (Ne.symm (own_ne_r0_b4)))).other W15 (Or.inl (Ne.symm (own_ne_r0_b4)))).other W17 (Or.inl (Ne.symm (own_ne_r0_b4)))), ((((((Ft6.other W7 (Or.inl (Ne.symm (own_ne_r0_b4)))).other W9 (Or.inl (Ne.symm (own_ne_r0_b4)))).other W11 (Or.inl (Ne.symm (own_ne_r0_b4)))).other W13 (Or.inl (Ne.symm (own_ne_r0_b4)))).other W15 (Or.inl (Ne.symm (own_ne_r0_b4)))).other W17 (Or.inl (Ne.symm (own_ne_r0_b4)))), ((((((Fe6.other W7 (Or.inl (Ne.symm (own_ne_r0_b4)))).other W9 (Or.inl (Ne.symm (own_ne_r0_b4)))).other W11 (Or.inl (Ne.symm (own_ne_r0_b4)))).other W13 (Or.inl (Ne.symm (own_ne_r0_b4)))).other W15 (Or.inl (Ne.symm (own_ne_r0_b4)))).other W17 (Or.inl (Ne.symm (own_ne_r0_b4)))), ((((((Va6.other W7 (Ne.symm (own_ne_r0_ea))).other W9 (Ne.symm (own_ne_r0_ea))).other W11 (Ne.symm (own_ne_r0_ea))).other W13 (Ne.symm (own_ne_r0_ea))).other W15 (Ne.symm (own_ne_r0_ea))).other W17 (Ne.symm (own_ne_r0_ea)))⟩
theorem d8_0 : decode prog_44_method_14_code 0 = .ok (.aload_n 0, 1) := by decide +kernel
theorem d8_1 : decode prog_44_method_14_code 1 = .ok (.dup, 1) := by decide +kernel
theorem d8_2 : decode prog_44_method_14_code 2 = .ok (.getfield 54, 3) := by decide +kernel
theorem d8_5 : decode prog_44_method_14_code 5 = .ok (.lconst 1, 1) := by decide +kernel
theorem d8_6 : decode prog_44_method_14_code 6 = .ok (.ladd, 1) := by decide +kernel
theorem d8_7 : decode prog_44_method_14_code 7 = .ok (.putfield 54, 3) := by decide +kernel
theorem d8_10 : decode prog_44_method_14_code 10 = .ok (.aload_n 0, 1) := by decide +kernel
theorem d8_11 : decode prog_44_method_14_code 11 = .ok (.dup, 1) := by decide +kernel
theorem d8_12 : decode prog_44_method_14_code 12 = .ok (.getfield 57, 3) := by decide +kernel
theorem d8_15 : decode prog_44_method_14_code 15 = .ok (.lconst 1, 1) := by decide +kernel
theorem d8_16 : decode prog_44_method_14_code 16 = .ok (.ladd, 1) := by decide +kernel
theorem d8_17 : decode prog_44_method_14_code 17 = .ok (.putfield 57, 3) := by decide +kernel
theorem d8_20 : decode prog_44_method_14_code 20 = .ok (.aload_n 0, 1) := by decide +kernel
theorem d8_21 : decode prog_44_method_14_code 21 = .ok (.lload_n 1, 1) := by decide +kernel
theorem d8_22 : decode prog_44_method_14_code 22 = .ok (.putfield 29, 3) := by decide +kernel
theorem d8_25 : decode prog_44_method_14_code 25 = .ok (.return_, 1) := by decide +kernel
theorem ef_se (m : MethodId) (r0 : Addr) (q1 : Int64) : entryFrame m #[(.ref r0), (.long q1)] 3 = mkF m 0 #[.val (.ref r0), .val (.long q1), .second] [] := by first | (simp [entryFrame, mkF, argsToLocals, Value.category]; done) | rfl
def Qse (Z : State) (r0 : Addr) (q1 : Int64) (vp : Int64) (vm : UInt64) (vs : Int64) (vd : Int64) (vr : Int64) (vl : Int64) (d : Addr) (va : Int64) (h0 : Heap) (n0 : Nat) (v : Option Value) (h : Heap) (L : List Loc) : Prop := v = none ∧ Fr n0 L ∧ Keep h0 h [r0] ∧ Exa Z h r0 "com/example/headroom/headroom/model/Member" ∧ Fld Z h r0 "com/example/headroom/headroom/model/Member" "pending" "J" (.long vp) ∧ Fld Z h r0 "com/example/headroom/headroom/model/Member" "processingMs" "D" (.double vm) ∧ Fld Z h r0 "com/example/headroom/headroom/model/Member" "sentSinceReport" "J" (.long (vs + (1 : Int64))) ∧ Fld Z h r0 "com/example/headroom/headroom/model/Member" "delivered" "J" (.long (vd + (1 : Int64))) ∧ Fld Z h r0 "com/example/headroom/headroom/model/Member" "lastReportNanos" "J" (.long vr) ∧ Fld Z h r0 "com/example/headroom/headroom/model/Member" "lastSentNanos" "J" (.long q1) ∧ Fld Z h r0 "com/example/headroom/headroom/model/Member" "processingTimes" "Ljava/util/Deque;" (.ref d) ∧ Fld Z h r0 "com/example/headroom/headroom/model/Member" "reported" "Z" (.int (0 : Int32)) ∧ Fld Z h r0 "com/example/headroom/headroom/model/Member" "lastAcknowledgedNanos" "J" (.long va)
set_option maxRecDepth 65536 in
set_option maxHeartbeats 40000000 in
theorem rmse (l : Launch) (Z : State) (a0 : Array Value) (hw : ∀ d ∈ tables_1, d.before a0 Z = true) (ws : List Jvm.Cond) (r0 : Addr) (q1 : Int64) (vp : Int64) (vm : UInt64) (vs : Int64) (vd : Int64) (vr : Int64) (vl : Int64) (d : Addr) (va : Int64) (h0 : Heap) (n0 : Nat) (Z0 : n0 ≤ h0.size) (E_r0 : Exa Z h0 r0 "com/example/headroom/headroom/model/Member") (M_pending : Fld Z h0 r0 "com/example/headroom/headroom/model/Member" "pending" "J" (.long vp)) (M_processingMs : Fld Z h0 r0 "com/example/headroom/headroom/model/Member" "processingMs" "D" (.double vm)) (M_sentSinceReport : Fld Z h0 r0 "com/example/headroom/headroom/model/Member" "sentSinceReport" "J" (.long vs)) (M_delivered : Fld Z h0 r0 "com/example/headroom/headroom/model/Member" "delivered" "J" (.long vd)) (M_lastReportNanos : Fld Z h0 r0 "com/example/headroom/headroom/model/Member" "lastReportNanos" "J" (.long vr)) (M_lastSentNanos : Fld Z h0 r0 "com/example/headroom/headroom/model/Member" "lastSentNanos" "J" (.long vl)) (M_processingTimes : Fld Z h0 r0 "com/example/headroom/headroom/model/Member" "processingTimes" "Ljava/util/Deque;" (.ref d)) (M_reported : Fld Z h0 r0 "com/example/headroom/headroom/model/Member" "reported" "Z" (.int (0 : Int32))) (M_lastAcknowledgedNanos : Fld Z h0 r0 "com/example/headroom/headroom/model/Member" "lastAcknowledgedNanos" "J" (.long va)) (g_r0 : n0 ≤ r0) :
    MetFree l (⟨"com/example/headroom/headroom/model/Member", "sent", "(J)V"⟩ : MethodName) (head1 (Jvm.Cond.code (⟨"com/example/headroom/headroom/model/Member", "sent", "(J)V"⟩ : MethodName) prog_44_method_14_code 3 none :: ws) ({ frames := 0, cells := 0, slots := 0, locals := 0 } : Room)) (fun a U => a = #[(.ref r0), (.long q1)] ∧ Z.Warmed39 U.vm ∧ U.heap = h0) (fun _ _ _ _ _ => True) (fun _ U o U' => ∃ v L, o = .returned v ∧ Qse Z r0 q1 vp vm vs vd vr vl d va h0 n0 v U'.heap L ∧ FrameEnd U o U' L ({ frames := 0, cells := 0, slots := 0, locals := 0 } : Room).cells ({ frames := 0, cells := 0, slots := 0, locals := 0 } : Room).slots) := by
  refine MetFree.of_bodySF (plainFor_of_name pn_1) hisR ?_
  intro p e s m args below meth c s₁ Bd hml0 hP hK
  obtain ⟨rfl, hZ, hh⟩ := hP
  have hx := Bd.exec
  have hby := Bd.bytes
  have hml : c.maxLocals = 3 := hml0
  have hown : s.vm.findClass "com/example/headroom/headroom/model/Member" = some m.cls := findClass_of_methodNamed Bd.named
  have hnm := (name_of_methodNamed Bd.named Bd.method).1
  have X0 : Stand p l e ({ frames := 0, cells := 0, slots := 0, locals := 0 } : Room) s m #[(.ref r0), (.long q1)] below meth c s₁ [] 0 0 := Stand.of_body Bd
  have e0 : s₁.heap = h0 := by rw [← hh, Bd.state]; rfl
  have N0 := Fr.nil n0
  have K0 : ∀ t, Steps p.tables e below (s₁.setTop (mkF m 0 #[.val (.ref r0), .val (.long q1), .second] [])) t → Steps p.tables e below (s₁.setTop (entryFrame m #[(.ref r0), (.long q1)] 3)) t := fun t k => castTop (ef_se m r0 q1) k
  generalize s₁.setTop (entryFrame m #[(.ref r0), (.long q1)] 3) = SE at K0 ⊢
  have K1 : own_K p e below SE s₁ (mkF m 2 #[.val (.ref r0), .val (.long q1), .second] [(.ref r0), (.ref r0)]) := by
    intro t k
    refine K0 _ ?_
    refine XS.aloadN X0.here hx rfl (hb hby d8_0) rfl rfl ?_
    show own_S p e below s₁ (mkF m 1 #[.val (.ref r0), .val (.long q1), .second] [(.ref r0)]) _
    refine XS.dup X0.here hx rfl (hb hby d8_1) rfl rfl ?_
    exact k
  obtain ⟨T2, X2, e2, st2⟩ := getF X0 hx hZ hown (host := "") (Or.inl (hw _ (List.mem_of_getElem? (i := 53) rfl))) Via.refl e0 M_sentSinceReport (g := (mkF m 2 #[.val (.ref r0), .val (.long q1), .second] [(.ref r0), (.ref r0)])) rfl rfl (hb hby d8_2)
  have K2 : own_K p e below SE T2 (mkF m 5 #[.val (.ref r0), .val (.long q1), .second] [(.long vs), (.ref r0)]) := fun t k => K1 _ (st2 _ k)
  have K3 : own_K p e below SE T2 (mkF m 7 #[.val (.ref r0), .val (.long q1), .second] [(.long (vs + (1 : Int64))), (.ref r0)]) := by
    intro t k
    refine K2 _ ?_
    refine XS.lconst X2.here hx rfl (hb hby d8_5) ?_
    show own_S p e below T2 (mkF m 6 #[.val (.ref r0), .val (.long q1), .second] [(.long (1 : Int64)), (.long vs), (.ref r0)]) _
    refine XS.ladd X2.here hx rfl (hb hby d8_6) rfl ?_
    exact k
  obtain ⟨T4, h4, X4, e4, W4, st4⟩ := putF X2 hx hZ hown (host := "") (Or.inl (hw _ (List.mem_of_getElem? (i := 53) rfl))) Via.refl e2 M_sentSinceReport E_r0 (Or.inl (hw _ (List.mem_of_getElem? (i := 54) rfl))) (hw _ (List.mem_of_getElem? (i := 1) rfl)) (ty := .long) (by decide) rfl rfl (g := (mkF m 7 #[.val (.ref r0), .val (.long q1), .second] [(.long (vs + (1 : Int64))), (.ref r0)])) rfl rfl (hb hby d8_7)
  have Fw4 := Fld.same W4 M_sentSinceReport
  have N4 := Fr.snoc X4 N0 g_r0
  have Kp4 : Keep h0 h4 [r0] := Keep.wr (Keep.refl h0 [r0]) W4 (Or.inl (List.mem_of_getElem? (i := 0) rfl))
  have K4 : own_K p e below SE T4 (mkF m 10 #[.val (.ref r0), .val (.long q1), .second] []) := fun t k => K3 _ (st4 _ k)
  have K5 : own_K p e below SE T4 (mkF m 12 #[.val (.ref r0), .val (.long q1), .second] [(.ref r0), (.ref r0)]) := by
    intro t k
    refine K4 _ ?_
    refine XS.aloadN X4.here hx rfl (hb hby d8_10) rfl rfl ?_
    show own_S p e below T4 (mkF m 11 #[.val (.ref r0), .val (.long q1), .second] [(.ref r0)]) _
    refine XS.dup X4.here hx rfl (hb hby d8_11) rfl rfl ?_
    exact k
  obtain ⟨T6, X6, e6, st6⟩ := getF X4 hx hZ hown (host := "") (Or.inl (hw _ (List.mem_of_getElem? (i := 67) rfl))) Via.refl e4 (M_delivered.other W4 (Or.inr (slot_ne (Or.inl (hw _ (List.mem_of_getElem? (i := 68) rfl))) (Or.inl (hw _ (List.mem_of_getElem? (i := 54) rfl))) (by decide) (t := .long) (t' := .long) (by decide) (by decide)))) (g := (mkF m 12 #[.val (.ref r0), .val (.long q1), .second] [(.ref r0), (.ref r0)])) rfl rfl (hb hby d8_12)
  have K6 : own_K p e below SE T6 (mkF m 15 #[.val (.ref r0), .val (.long q1), .second] [(.long vd), (.ref r0)]) := fun t k => K5 _ (st6 _ k)
  have K7 : own_K p e below SE T6 (mkF m 17 #[.val (.ref r0), .val (.long q1), .second] [(.long (vd + (1 : Int64))), (.ref r0)]) := by
    intro t k
    refine K6 _ ?_
    refine XS.lconst X6.here hx rfl (hb hby d8_15) ?_
    show own_S p e below T6 (mkF m 16 #[.val (.ref r0), .val (.long q1), .second] [(.long (1 : Int64)), (.long vd), (.ref r0)]) _
    refine XS.ladd X6.here hx rfl (hb hby d8_16) rfl ?_
    exact k
  obtain ⟨T8, h8, X8, e8, W8, st8⟩ := putF X6 hx hZ hown (host := "") (Or.inl (hw _ (List.mem_of_getElem? (i := 67) rfl))) Via.refl e6 (M_delivered.other W4 (Or.inr (slot_ne (Or.inl (hw _ (List.mem_of_getElem? (i := 68) rfl))) (Or.inl (hw _ (List.mem_of_getElem? (i := 54) rfl))) (by decide) (t := .long) (t' := .long) (by decide) (by decide)))) (E_r0.wr W4) (Or.inl (hw _ (List.mem_of_getElem? (i := 68) rfl))) (hw _ (List.mem_of_getElem? (i := 1) rfl)) (ty := .long) (by decide) rfl rfl (g := (mkF m 17 #[.val (.ref r0), .val (.long q1), .second] [(.long (vd + (1 : Int64))), (.ref r0)])) rfl rfl (hb hby d8_17)
  have Fw8 := Fld.same W8 (M_delivered.other W4 (Or.inr (slot_ne (Or.inl (hw _ (List.mem_of_getElem? (i := 68) rfl))) (Or.inl (hw _ (List.mem_of_getElem? (i := 54) rfl))) (by decide) (t := .long) (t' := .long) (by decide) (by decide))))
  have N8 := Fr.snoc X8 N4 g_r0
  have Kp8 : Keep h0 h8 [r0] := Keep.wr Kp4 W8 (Or.inl (List.mem_of_getElem? (i := 0) rfl))
  have K8 : own_K p e below SE T8 (mkF m 20 #[.val (.ref r0), .val (.long q1), .second] []) := fun t k => K7 _ (st8 _ k)
  have K9 : own_K p e below SE T8 (mkF m 22 #[.val (.ref r0), .val (.long q1), .second] [(.long q1), (.ref r0)]) := by
    intro t k
    refine K8 _ ?_
    refine XS.aloadN X8.here hx rfl (hb hby d8_20) rfl rfl ?_
    show own_S p e below T8 (mkF m 21 #[.val (.ref r0), .val (.long q1), .second] [(.ref r0)]) _
    refine XS.lloadN X8.here hx rfl (hb hby d8_21) rfl ?_
    exact k
  obtain ⟨T10, h10, X10, e10, W10, st10⟩ := putF X8 hx hZ hown (host := "") (Or.inl (hw _ (List.mem_of_getElem? (i := 35) rfl))) Via.refl e8 ((M_lastSentNanos.other W4 (Or.inr (slot_ne (Or.inl (hw _ (List.mem_of_getElem? (i := 36) rfl))) (Or.inl (hw _ (List.mem_of_getElem? (i := 54) rfl))) (by decide) (t := .long) (t' := .long) (by decide) (by decide)))).other W8 (Or.inr (slot_ne (Or.inl (hw _ (List.mem_of_getElem? (i := 36) rfl))) (Or.inl (hw _ (List.mem_of_getElem? (i := 68) rfl))) (by decide) (t := .long) (t' := .long) (by decide) (by decide)))) ((E_r0.wr W4).wr W8) (Or.inl (hw _ (List.mem_of_getElem? (i := 36) rfl))) (hw _ (List.mem_of_getElem? (i := 1) rfl)) (ty := .long) (by decide) rfl rfl (g := (mkF m 22 #[.val (.ref r0), .val (.long q1), .second] [(.long q1), (.ref r0)])) rfl rfl (hb hby d8_22)
  have Fw10 := Fld.same W10 ((M_lastSentNanos.other W4 (Or.inr (slot_ne (Or.inl (hw _ (List.mem_of_getElem? (i := 36) rfl))) (Or.inl (hw _ (List.mem_of_getElem? (i := 54) rfl))) (by decide) (t := .long) (t' := .long) (by decide) (by decide)))).other W8 (Or.inr (slot_ne (Or.inl (hw _ (List.mem_of_getElem? (i := 36) rfl))) (Or.inl (hw _ (List.mem_of_getElem? (i := 68) rfl))) (by decide) (t := .long) (t' := .long) (by decide) (by decide))))
  have N10 := Fr.snoc X10 N8 g_r0
  have Kp10 : Keep h0 h10 [r0] := Keep.wr Kp8 W10 (Or.inl (List.mem_of_getElem? (i := 0) rfl))
  have K10 : own_K p e below SE T10 (mkF m 25 #[.val (.ref r0), .val (.long q1), .second] []) := fun t k => K9 _ (st10 _ k)
  obtain ⟨fs, hr, hrun, hended, hW, hsame⟩ := X10.leave (v := none) (fun _ => rfl)
  refine ⟨_, _, K10 _ ?_, hrun, hended, _, _, rfl, ?_, ⟨_, rfl⟩, hW, hsame.mono (by decide) (by decide)⟩
  · exact X10.returnOut hx Bd.returns (hb hby d8_25) hr
  · show Qse Z r0 q1 vp vm vs vd vr vl d va h0 n0 _ T10.heap _
    rw [e10]
    exact ⟨rfl, N10, Kp10, (((E_r0.wr W4).wr W8).wr W10), (((M_pending.other W4 (Or.inr (slot_ne (Or.inl (hw _ (List.mem_of_getElem? (i := 52) rfl))) (Or.inl (hw _ (List.mem_of_getElem? (i := 54) rfl))) (by decide) (t := .long) (t' := .long) (by decide) (by decide)))).other W8 (Or.inr (slot_ne (Or.inl (hw _ (List.mem_of_getElem? (i := 52) rfl))) (Or.inl (hw _ (List.mem_of_getElem? (i := 68) rfl))) (by decide) (t := .long) (t' := .long) (by decide) (by decide)))).other W10 (Or.inr (slot_ne (Or.inl (hw _ (List.mem_of_getElem? (i := 52) rfl))) (Or.inl (hw _ (List.mem_of_getElem? (i := 36) rfl))) (by decide) (t := .long) (t' := .long) (by decide) (by decide)))), (((M_processingMs.other W4 (Or.inr (slot_ne (Or.inl (hw _ (List.mem_of_getElem? (i := 61) rfl))) (Or.inl (hw _ (List.mem_of_getElem? (i := 54) rfl))) (by decide) (t := .double) (t' := .long) (by decide) (by decide)))).other W8 (Or.inr (slot_ne (Or.inl (hw _ (List.mem_of_getElem? (i := 61) rfl))) (Or.inl (hw _ (List.mem_of_getElem? (i := 68) rfl))) (by decide) (t := .double) (t' := .long) (by decide) (by decide)))).other W10 (Or.inr (slot_ne (Or.inl (hw _ (List.mem_of_getElem? (i := 61) rfl))) (Or.inl (hw _ (List.mem_of_getElem? (i := 36) rfl))) (by decide) (t := .double) (t' := .long) (by decide) (by decide)))), ((Fw4.other W8 (Or.inr (slot_ne (Or.inl (hw _ (List.mem_of_getElem? (i := 54) rfl))) (Or.inl (hw _ (List.mem_of_getElem? (i := 68) rfl))) (by decide) (t := .long) (t' := .long) (by decide) (by decide)))).other W10 (Or.inr (slot_ne (Or.inl (hw _ (List.mem_of_getElem? (i := 54) rfl))) (Or.inl (hw _ (List.mem_of_getElem? (i := 36) rfl))) (by decide) (t := .long) (t' := .long) (by decide) (by decide)))), (Fw8.other W10 (Or.inr (slot_ne (Or.inl (hw _ (List.mem_of_getElem? (i := 68) rfl))) (Or.inl (hw _ (List.mem_of_getElem? (i := 36) rfl))) (by decide) (t := .long) (t' := .long) (by decide) (by decide)))), (((M_lastReportNanos.other W4 (Or.inr (slot_ne (Or.inl (hw _ (List.mem_of_getElem? (i := 34) rfl))) (Or.inl (hw _ (List.mem_of_getElem? (i := 54) rfl))) (by decide) (t := .long) (t' := .long) (by decide) (by decide)))).other W8 (Or.inr (slot_ne (Or.inl (hw _ (List.mem_of_getElem? (i := 34) rfl))) (Or.inl (hw _ (List.mem_of_getElem? (i := 68) rfl))) (by decide) (t := .long) (t' := .long) (by decide) (by decide)))).other W10 (Or.inr (slot_ne (Or.inl (hw _ (List.mem_of_getElem? (i := 34) rfl))) (Or.inl (hw _ (List.mem_of_getElem? (i := 36) rfl))) (by decide) (t := .long) (t' := .long) (by decide) (by decide)))), Fw10, (((M_processingTimes.other W4 (Or.inr (slot_ne (Or.inr (hw _ (List.mem_of_getElem? (i := 28) rfl))) (Or.inl (hw _ (List.mem_of_getElem? (i := 54) rfl))) (by decide) (t := (.object "java/util/Deque")) (t' := .long) (by decide) (by decide)))).other W8 (Or.inr (slot_ne (Or.inr (hw _ (List.mem_of_getElem? (i := 28) rfl))) (Or.inl (hw _ (List.mem_of_getElem? (i := 68) rfl))) (by decide) (t := (.object "java/util/Deque")) (t' := .long) (by decide) (by decide)))).other W10 (Or.inr (slot_ne (Or.inr (hw _ (List.mem_of_getElem? (i := 28) rfl))) (Or.inl (hw _ (List.mem_of_getElem? (i := 36) rfl))) (by decide) (t := (.object "java/util/Deque")) (t' := .long) (by decide) (by decide)))), (((M_reported.other W4 (Or.inr (slot_ne (Or.inl (hw _ (List.mem_of_getElem? (i := 45) rfl))) (Or.inl (hw _ (List.mem_of_getElem? (i := 54) rfl))) (by decide) (t := .boolean) (t' := .long) (by decide) (by decide)))).other W8 (Or.inr (slot_ne (Or.inl (hw _ (List.mem_of_getElem? (i := 45) rfl))) (Or.inl (hw _ (List.mem_of_getElem? (i := 68) rfl))) (by decide) (t := .boolean) (t' := .long) (by decide) (by decide)))).other W10 (Or.inr (slot_ne (Or.inl (hw _ (List.mem_of_getElem? (i := 45) rfl))) (Or.inl (hw _ (List.mem_of_getElem? (i := 36) rfl))) (by decide) (t := .boolean) (t' := .long) (by decide) (by decide)))), (((M_lastAcknowledgedNanos.other W4 (Or.inr (slot_ne (Or.inl (hw _ (List.mem_of_getElem? (i := 38) rfl))) (Or.inl (hw _ (List.mem_of_getElem? (i := 54) rfl))) (by decide) (t := .long) (t' := .long) (by decide) (by decide)))).other W8 (Or.inr (slot_ne (Or.inl (hw _ (List.mem_of_getElem? (i := 38) rfl))) (Or.inl (hw _ (List.mem_of_getElem? (i := 68) rfl))) (by decide) (t := .long) (t' := .long) (by decide) (by decide)))).other W10 (Or.inr (slot_ne (Or.inl (hw _ (List.mem_of_getElem? (i := 38) rfl))) (Or.inl (hw _ (List.mem_of_getElem? (i := 36) rfl))) (by decide) (t := .long) (t' := .long) (by decide) (by decide))))⟩
theorem d7_0 : decode prog_44_method_6_code 0 = .ok (.aload_n 0, 1) := by decide +kernel
theorem d7_1 : decode prog_44_method_6_code 1 = .ok (.getfield 44, 3) := by decide +kernel
theorem d7_4 : decode prog_44_method_6_code 4 = .ok (.dreturn, 1) := by decide +kernel
theorem ef_gprocessingMs (m : MethodId) (r0 : Addr) : entryFrame m #[(.ref r0)] 1 = mkF m 0 #[.val (.ref r0)] [] := by first | (simp [entryFrame, mkF, argsToLocals, Value.category]; done) | rfl
def QgprocessingMs (Z : State) (r0 : Addr) (vx : UInt64) (h0 : Heap) (n0 : Nat) (v : Option Value) (h : Heap) (L : List Loc) : Prop := v = some (.double vx) ∧ Fr n0 L ∧ h = h0
set_option maxRecDepth 65536 in
set_option maxHeartbeats 40000000 in
theorem rmgprocessingMs (l : Launch) (Z : State) (a0 : Array Value) (hw : ∀ d ∈ tables_1, d.before a0 Z = true) (ws : List Jvm.Cond) (r0 : Addr) (vx : UInt64) (h0 : Heap) (n0 : Nat) (Z0 : n0 ≤ h0.size) (F_x : Fld Z h0 r0 "com/example/headroom/headroom/model/Member" "processingMs" "D" (.double vx)) :
    MetFree l (⟨"com/example/headroom/headroom/model/Member", "processingMs", "()D"⟩ : MethodName) (head1 (Jvm.Cond.code (⟨"com/example/headroom/headroom/model/Member", "processingMs", "()D"⟩ : MethodName) prog_44_method_6_code 1 (some .double) :: ws) ({ frames := 0, cells := 0, slots := 0, locals := 0 } : Room)) (fun a U => a = #[(.ref r0)] ∧ Z.Warmed39 U.vm ∧ U.heap = h0) (fun _ _ _ _ _ => True) (fun _ U o U' => ∃ v L, o = .returned v ∧ QgprocessingMs Z r0 vx h0 n0 v U'.heap L ∧ FrameEnd U o U' L ({ frames := 0, cells := 0, slots := 0, locals := 0 } : Room).cells ({ frames := 0, cells := 0, slots := 0, locals := 0 } : Room).slots) := by
  refine MetFree.of_bodySF (plainFor_of_name pn_1) hisR ?_
  intro p e s m args below meth c s₁ Bd hml0 hP hK
  obtain ⟨rfl, hZ, hh⟩ := hP
  have hx := Bd.exec
  have hby := Bd.bytes
  have hml : c.maxLocals = 1 := hml0
  have hown : s.vm.findClass "com/example/headroom/headroom/model/Member" = some m.cls := findClass_of_methodNamed Bd.named
  have hnm := (name_of_methodNamed Bd.named Bd.method).1
  have X0 : Stand p l e ({ frames := 0, cells := 0, slots := 0, locals := 0 } : Room) s m #[(.ref r0)] below meth c s₁ [] 0 0 := Stand.of_body Bd
  have e0 : s₁.heap = h0 := by rw [← hh, Bd.state]; rfl
  have N0 := Fr.nil n0
  have K0 : ∀ t, Steps p.tables e below (s₁.setTop (mkF m 0 #[.val (.ref r0)] [])) t → Steps p.tables e below (s₁.setTop (entryFrame m #[(.ref r0)] 1)) t := fun t k => castTop (ef_gprocessingMs m r0) k
  generalize s₁.setTop (entryFrame m #[(.ref r0)] 1) = SE at K0 ⊢
  have K1 : own_K p e below SE s₁ (mkF m 1 #[.val (.ref r0)] [(.ref r0)]) := by
    intro t k
    refine K0 _ ?_
    refine XS.aloadN X0.here hx rfl (hb hby d7_0) rfl rfl ?_
    exact k
  obtain ⟨T2, X2, e2, st2⟩ := getF X0 hx hZ hown (host := "") (Or.inl (hw _ (List.mem_of_getElem? (i := 60) rfl))) Via.refl e0 F_x (g := (mkF m 1 #[.val (.ref r0)] [(.ref r0)])) rfl rfl (hb hby d7_1)
  have K2 : own_K p e below SE T2 (mkF m 4 #[.val (.ref r0)] [(.double vx)]) := fun t k => K1 _ (st2 _ k)
  obtain ⟨fs, hr, hrun, hended, hW, hsame⟩ := X2.leave (v := some (.double vx)) (fun h => by rw [Bd.returns] at h; cases h)
  refine ⟨_, _, K2 _ ?_, hrun, hended, _, _, rfl, ?_, ⟨_, rfl⟩, hW, hsame.mono (by decide) (by decide)⟩
  · show Steps p.tables e below (T2.setTop (mkF m 4 #[.val (.ref r0)] [(.double vx)])) _
    jvm_step X2.here [X2.here.top, hx, (hb hby d7_4), X2.method', Bd.returns, narrow]
    first | (intro acts; rw [hr _ acts rfl rfl rfl]) | rw [hr _ _ rfl rfl rfl]
    exact Steps.refl _
  · show QgprocessingMs Z r0 vx h0 n0 _ T2.heap _
    rw [e2]
    exact ⟨rfl, N0, rfl⟩
theorem d9_0 : decode prog_44_method_8_code 0 = .ok (.aload_n 0, 1) := by decide +kernel
theorem d9_1 : decode prog_44_method_8_code 1 = .ok (.getfield 54, 3) := by decide +kernel
theorem d9_4 : decode prog_44_method_8_code 4 = .ok (.lreturn, 1) := by decide +kernel
theorem ef_gsentSinceReport (m : MethodId) (r0 : Addr) : entryFrame m #[(.ref r0)] 1 = mkF m 0 #[.val (.ref r0)] [] := by first | (simp [entryFrame, mkF, argsToLocals, Value.category]; done) | rfl
def QgsentSinceReport (Z : State) (r0 : Addr) (vx : Int64) (h0 : Heap) (n0 : Nat) (v : Option Value) (h : Heap) (L : List Loc) : Prop := v = some (.long vx) ∧ Fr n0 L ∧ h = h0
set_option maxRecDepth 65536 in
set_option maxHeartbeats 40000000 in
theorem rmgsentSinceReport (l : Launch) (Z : State) (a0 : Array Value) (hw : ∀ d ∈ tables_1, d.before a0 Z = true) (ws : List Jvm.Cond) (r0 : Addr) (vx : Int64) (h0 : Heap) (n0 : Nat) (Z0 : n0 ≤ h0.size) (F_x : Fld Z h0 r0 "com/example/headroom/headroom/model/Member" "sentSinceReport" "J" (.long vx)) :
    MetFree l (⟨"com/example/headroom/headroom/model/Member", "sentSinceReport", "()J"⟩ : MethodName) (head1 (Jvm.Cond.code (⟨"com/example/headroom/headroom/model/Member", "sentSinceReport", "()J"⟩ : MethodName) prog_44_method_8_code 1 (some .long) :: ws) ({ frames := 0, cells := 0, slots := 0, locals := 0 } : Room)) (fun a U => a = #[(.ref r0)] ∧ Z.Warmed39 U.vm ∧ U.heap = h0) (fun _ _ _ _ _ => True) (fun _ U o U' => ∃ v L, o = .returned v ∧ QgsentSinceReport Z r0 vx h0 n0 v U'.heap L ∧ FrameEnd U o U' L ({ frames := 0, cells := 0, slots := 0, locals := 0 } : Room).cells ({ frames := 0, cells := 0, slots := 0, locals := 0 } : Room).slots) := by
  refine MetFree.of_bodySF (plainFor_of_name pn_1) hisR ?_
  intro p e s m args below meth c s₁ Bd hml0 hP hK
  obtain ⟨rfl, hZ, hh⟩ := hP
  have hx := Bd.exec
  have hby := Bd.bytes
  have hml : c.maxLocals = 1 := hml0
  have hown : s.vm.findClass "com/example/headroom/headroom/model/Member" = some m.cls := findClass_of_methodNamed Bd.named
  have hnm := (name_of_methodNamed Bd.named Bd.method).1
  have X0 : Stand p l e ({ frames := 0, cells := 0, slots := 0, locals := 0 } : Room) s m #[(.ref r0)] below meth c s₁ [] 0 0 := Stand.of_body Bd
  have e0 : s₁.heap = h0 := by rw [← hh, Bd.state]; rfl
  have N0 := Fr.nil n0
  have K0 : ∀ t, Steps p.tables e below (s₁.setTop (mkF m 0 #[.val (.ref r0)] [])) t → Steps p.tables e below (s₁.setTop (entryFrame m #[(.ref r0)] 1)) t := fun t k => castTop (ef_gsentSinceReport m r0) k
  generalize s₁.setTop (entryFrame m #[(.ref r0)] 1) = SE at K0 ⊢
  have K1 : own_K p e below SE s₁ (mkF m 1 #[.val (.ref r0)] [(.ref r0)]) := by
    intro t k
    refine K0 _ ?_
    refine XS.aloadN X0.here hx rfl (hb hby d9_0) rfl rfl ?_
    exact k
  obtain ⟨T2, X2, e2, st2⟩ := getF X0 hx hZ hown (host := "") (Or.inl (hw _ (List.mem_of_getElem? (i := 53) rfl))) Via.refl e0 F_x (g := (mkF m 1 #[.val (.ref r0)] [(.ref r0)])) rfl rfl (hb hby d9_1)
  have K2 : own_K p e below SE T2 (mkF m 4 #[.val (.ref r0)] [(.long vx)]) := fun t k => K1 _ (st2 _ k)
  obtain ⟨fs, hr, hrun, hended, hW, hsame⟩ := X2.leave (v := some (.long vx)) (fun h => by rw [Bd.returns] at h; cases h)
  refine ⟨_, _, K2 _ ?_, hrun, hended, _, _, rfl, ?_, ⟨_, rfl⟩, hW, hsame.mono (by decide) (by decide)⟩
  · exact X2.lreturnOut hx Bd.returns (hb hby d9_4) hr
  · show QgsentSinceReport Z r0 vx h0 n0 _ T2.heap _
    rw [e2]
    exact ⟨rfl, N0, rfl⟩
theorem d10_0 : decode prog_44_method_9_code 0 = .ok (.aload_n 0, 1) := by decide +kernel
theorem d10_1 : decode prog_44_method_9_code 1 = .ok (.getfield 57, 3) := by decide +kernel
theorem d10_4 : decode prog_44_method_9_code 4 = .ok (.lreturn, 1) := by decide +kernel
theorem ef_gdelivered (m : MethodId) (r0 : Addr) : entryFrame m #[(.ref r0)] 1 = mkF m 0 #[.val (.ref r0)] [] := by first | (simp [entryFrame, mkF, argsToLocals, Value.category]; done) | rfl
def Qgdelivered (Z : State) (r0 : Addr) (vx : Int64) (h0 : Heap) (n0 : Nat) (v : Option Value) (h : Heap) (L : List Loc) : Prop := v = some (.long vx) ∧ Fr n0 L ∧ h = h0
set_option maxRecDepth 65536 in
set_option maxHeartbeats 40000000 in
theorem rmgdelivered (l : Launch) (Z : State) (a0 : Array Value) (hw : ∀ d ∈ tables_1, d.before a0 Z = true) (ws : List Jvm.Cond) (r0 : Addr) (vx : Int64) (h0 : Heap) (n0 : Nat) (Z0 : n0 ≤ h0.size) (F_x : Fld Z h0 r0 "com/example/headroom/headroom/model/Member" "delivered" "J" (.long vx)) :
    MetFree l (⟨"com/example/headroom/headroom/model/Member", "delivered", "()J"⟩ : MethodName) (head1 (Jvm.Cond.code (⟨"com/example/headroom/headroom/model/Member", "delivered", "()J"⟩ : MethodName) prog_44_method_9_code 1 (some .long) :: ws) ({ frames := 0, cells := 0, slots := 0, locals := 0 } : Room)) (fun a U => a = #[(.ref r0)] ∧ Z.Warmed39 U.vm ∧ U.heap = h0) (fun _ _ _ _ _ => True) (fun _ U o U' => ∃ v L, o = .returned v ∧ Qgdelivered Z r0 vx h0 n0 v U'.heap L ∧ FrameEnd U o U' L ({ frames := 0, cells := 0, slots := 0, locals := 0 } : Room).cells ({ frames := 0, cells := 0, slots := 0, locals := 0 } : Room).slots) := by
  refine MetFree.of_bodySF (plainFor_of_name pn_1) hisR ?_
  intro p e s m args below meth c s₁ Bd hml0 hP hK
  obtain ⟨rfl, hZ, hh⟩ := hP
  have hx := Bd.exec
  have hby := Bd.bytes
  have hml : c.maxLocals = 1 := hml0
  have hown : s.vm.findClass "com/example/headroom/headroom/model/Member" = some m.cls := findClass_of_methodNamed Bd.named
  have hnm := (name_of_methodNamed Bd.named Bd.method).1
  have X0 : Stand p l e ({ frames := 0, cells := 0, slots := 0, locals := 0 } : Room) s m #[(.ref r0)] below meth c s₁ [] 0 0 := Stand.of_body Bd
  have e0 : s₁.heap = h0 := by rw [← hh, Bd.state]; rfl
  have N0 := Fr.nil n0
  have K0 : ∀ t, Steps p.tables e below (s₁.setTop (mkF m 0 #[.val (.ref r0)] [])) t → Steps p.tables e below (s₁.setTop (entryFrame m #[(.ref r0)] 1)) t := fun t k => castTop (ef_gdelivered m r0) k
  generalize s₁.setTop (entryFrame m #[(.ref r0)] 1) = SE at K0 ⊢
  have K1 : own_K p e below SE s₁ (mkF m 1 #[.val (.ref r0)] [(.ref r0)]) := by
    intro t k
    refine K0 _ ?_
    refine XS.aloadN X0.here hx rfl (hb hby d10_0) rfl rfl ?_
    exact k
  obtain ⟨T2, X2, e2, st2⟩ := getF X0 hx hZ hown (host := "") (Or.inl (hw _ (List.mem_of_getElem? (i := 67) rfl))) Via.refl e0 F_x (g := (mkF m 1 #[.val (.ref r0)] [(.ref r0)])) rfl rfl (hb hby d10_1)
  have K2 : own_K p e below SE T2 (mkF m 4 #[.val (.ref r0)] [(.long vx)]) := fun t k => K1 _ (st2 _ k)
  obtain ⟨fs, hr, hrun, hended, hW, hsame⟩ := X2.leave (v := some (.long vx)) (fun h => by rw [Bd.returns] at h; cases h)
  refine ⟨_, _, K2 _ ?_, hrun, hended, _, _, rfl, ?_, ⟨_, rfl⟩, hW, hsame.mono (by decide) (by decide)⟩
  · exact X2.lreturnOut hx Bd.returns (hb hby d10_4) hr
  · show Qgdelivered Z r0 vx h0 n0 _ T2.heap _
    rw [e2]
    exact ⟨rfl, N0, rfl⟩
theorem d11_0 : decode prog_44_method_11_code 0 = .ok (.aload_n 0, 1) := by decide +kernel
theorem d11_1 : decode prog_44_method_11_code 1 = .ok (.getfield 29, 3) := by decide +kernel
theorem d11_4 : decode prog_44_method_11_code 4 = .ok (.lreturn, 1) := by decide +kernel
theorem ef_glastSentNanos (m : MethodId) (r0 : Addr) : entryFrame m #[(.ref r0)] 1 = mkF m 0 #[.val (.ref r0)] [] := by first | (simp [entryFrame, mkF, argsToLocals, Value.category]; done) | rfl
def QglastSentNanos (Z : State) (r0 : Addr) (vx : Int64) (h0 : Heap) (n0 : Nat) (v : Option Value) (h : Heap) (L : List Loc) : Prop := v = some (.long vx) ∧ Fr n0 L ∧ h = h0
set_option maxRecDepth 65536 in
set_option maxHeartbeats 40000000 in
theorem rmglastSentNanos (l : Launch) (Z : State) (a0 : Array Value) (hw : ∀ d ∈ tables_1, d.before a0 Z = true) (ws : List Jvm.Cond) (r0 : Addr) (vx : Int64) (h0 : Heap) (n0 : Nat) (Z0 : n0 ≤ h0.size) (F_x : Fld Z h0 r0 "com/example/headroom/headroom/model/Member" "lastSentNanos" "J" (.long vx)) :
    MetFree l (⟨"com/example/headroom/headroom/model/Member", "lastSentNanos", "()J"⟩ : MethodName) (head1 (Jvm.Cond.code (⟨"com/example/headroom/headroom/model/Member", "lastSentNanos", "()J"⟩ : MethodName) prog_44_method_11_code 1 (some .long) :: ws) ({ frames := 0, cells := 0, slots := 0, locals := 0 } : Room)) (fun a U => a = #[(.ref r0)] ∧ Z.Warmed39 U.vm ∧ U.heap = h0) (fun _ _ _ _ _ => True) (fun _ U o U' => ∃ v L, o = .returned v ∧ QglastSentNanos Z r0 vx h0 n0 v U'.heap L ∧ FrameEnd U o U' L ({ frames := 0, cells := 0, slots := 0, locals := 0 } : Room).cells ({ frames := 0, cells := 0, slots := 0, locals := 0 } : Room).slots) := by
  refine MetFree.of_bodySF (plainFor_of_name pn_1) hisR ?_
  intro p e s m args below meth c s₁ Bd hml0 hP hK
  obtain ⟨rfl, hZ, hh⟩ := hP
  have hx := Bd.exec
  have hby := Bd.bytes
  have hml : c.maxLocals = 1 := hml0
  have hown : s.vm.findClass "com/example/headroom/headroom/model/Member" = some m.cls := findClass_of_methodNamed Bd.named
  have hnm := (name_of_methodNamed Bd.named Bd.method).1
  have X0 : Stand p l e ({ frames := 0, cells := 0, slots := 0, locals := 0 } : Room) s m #[(.ref r0)] below meth c s₁ [] 0 0 := Stand.of_body Bd
  have e0 : s₁.heap = h0 := by rw [← hh, Bd.state]; rfl
  have N0 := Fr.nil n0
  have K0 : ∀ t, Steps p.tables e below (s₁.setTop (mkF m 0 #[.val (.ref r0)] [])) t → Steps p.tables e below (s₁.setTop (entryFrame m #[(.ref r0)] 1)) t := fun t k => castTop (ef_glastSentNanos m r0) k
  generalize s₁.setTop (entryFrame m #[(.ref r0)] 1) = SE at K0 ⊢
  have K1 : own_K p e below SE s₁ (mkF m 1 #[.val (.ref r0)] [(.ref r0)]) := by
    intro t k
    refine K0 _ ?_
    refine XS.aloadN X0.here hx rfl (hb hby d11_0) rfl rfl ?_
    exact k
  obtain ⟨T2, X2, e2, st2⟩ := getF X0 hx hZ hown (host := "") (Or.inl (hw _ (List.mem_of_getElem? (i := 35) rfl))) Via.refl e0 F_x (g := (mkF m 1 #[.val (.ref r0)] [(.ref r0)])) rfl rfl (hb hby d11_1)
  have K2 : own_K p e below SE T2 (mkF m 4 #[.val (.ref r0)] [(.long vx)]) := fun t k => K1 _ (st2 _ k)
  obtain ⟨fs, hr, hrun, hended, hW, hsame⟩ := X2.leave (v := some (.long vx)) (fun h => by rw [Bd.returns] at h; cases h)
  refine ⟨_, _, K2 _ ?_, hrun, hended, _, _, rfl, ?_, ⟨_, rfl⟩, hW, hsame.mono (by decide) (by decide)⟩
  · exact X2.lreturnOut hx Bd.returns (hb hby d11_4) hr
  · show QglastSentNanos Z r0 vx h0 n0 _ T2.heap _
    rw [e2]
    exact ⟨rfl, N0, rfl⟩
theorem d12_0 : decode prog_44_method_5_code 0 = .ok (.aload_n 0, 1) := by decide +kernel
theorem d12_1 : decode prog_44_method_5_code 1 = .ok (.getfield 41, 3) := by decide +kernel
theorem d12_4 : decode prog_44_method_5_code 4 = .ok (.lreturn, 1) := by decide +kernel
theorem ef_gpending (m : MethodId) (r0 : Addr) : entryFrame m #[(.ref r0)] 1 = mkF m 0 #[.val (.ref r0)] [] := by first | (simp [entryFrame, mkF, argsToLocals, Value.category]; done) | rfl
def Qgpending (Z : State) (r0 : Addr) (vx : Int64) (h0 : Heap) (n0 : Nat) (v : Option Value) (h : Heap) (L : List Loc) : Prop := v = some (.long vx) ∧ Fr n0 L ∧ h = h0
set_option maxRecDepth 65536 in
set_option maxHeartbeats 40000000 in
theorem rmgpending (l : Launch) (Z : State) (a0 : Array Value) (hw : ∀ d ∈ tables_1, d.before a0 Z = true) (ws : List Jvm.Cond) (r0 : Addr) (vx : Int64) (h0 : Heap) (n0 : Nat) (Z0 : n0 ≤ h0.size) (F_x : Fld Z h0 r0 "com/example/headroom/headroom/model/Member" "pending" "J" (.long vx)) :
    MetFree l (⟨"com/example/headroom/headroom/model/Member", "pending", "()J"⟩ : MethodName) (head1 (Jvm.Cond.code (⟨"com/example/headroom/headroom/model/Member", "pending", "()J"⟩ : MethodName) prog_44_method_5_code 1 (some .long) :: ws) ({ frames := 0, cells := 0, slots := 0, locals := 0 } : Room)) (fun a U => a = #[(.ref r0)] ∧ Z.Warmed39 U.vm ∧ U.heap = h0) (fun _ _ _ _ _ => True) (fun _ U o U' => ∃ v L, o = .returned v ∧ Qgpending Z r0 vx h0 n0 v U'.heap L ∧ FrameEnd U o U' L ({ frames := 0, cells := 0, slots := 0, locals := 0 } : Room).cells ({ frames := 0, cells := 0, slots := 0, locals := 0 } : Room).slots) := by
  refine MetFree.of_bodySF (plainFor_of_name pn_1) hisR ?_
  intro p e s m args below meth c s₁ Bd hml0 hP hK
  obtain ⟨rfl, hZ, hh⟩ := hP
  have hx := Bd.exec
  have hby := Bd.bytes
  have hml : c.maxLocals = 1 := hml0
  have hown : s.vm.findClass "com/example/headroom/headroom/model/Member" = some m.cls := findClass_of_methodNamed Bd.named
  have hnm := (name_of_methodNamed Bd.named Bd.method).1
  have X0 : Stand p l e ({ frames := 0, cells := 0, slots := 0, locals := 0 } : Room) s m #[(.ref r0)] below meth c s₁ [] 0 0 := Stand.of_body Bd
  have e0 : s₁.heap = h0 := by rw [← hh, Bd.state]; rfl
  have N0 := Fr.nil n0
  have K0 : ∀ t, Steps p.tables e below (s₁.setTop (mkF m 0 #[.val (.ref r0)] [])) t → Steps p.tables e below (s₁.setTop (entryFrame m #[(.ref r0)] 1)) t := fun t k => castTop (ef_gpending m r0) k
  generalize s₁.setTop (entryFrame m #[(.ref r0)] 1) = SE at K0 ⊢
  have K1 : own_K p e below SE s₁ (mkF m 1 #[.val (.ref r0)] [(.ref r0)]) := by
    intro t k
    refine K0 _ ?_
    refine XS.aloadN X0.here hx rfl (hb hby d12_0) rfl rfl ?_
    exact k
  obtain ⟨T2, X2, e2, st2⟩ := getF X0 hx hZ hown (host := "") (Or.inl (hw _ (List.mem_of_getElem? (i := 51) rfl))) Via.refl e0 F_x (g := (mkF m 1 #[.val (.ref r0)] [(.ref r0)])) rfl rfl (hb hby d12_1)
  have K2 : own_K p e below SE T2 (mkF m 4 #[.val (.ref r0)] [(.long vx)]) := fun t k => K1 _ (st2 _ k)
  obtain ⟨fs, hr, hrun, hended, hW, hsame⟩ := X2.leave (v := some (.long vx)) (fun h => by rw [Bd.returns] at h; cases h)
  refine ⟨_, _, K2 _ ?_, hrun, hended, _, _, rfl, ?_, ⟨_, rfl⟩, hW, hsame.mono (by decide) (by decide)⟩
  · exact X2.lreturnOut hx Bd.returns (hb hby d12_4) hr
  · show Qgpending Z r0 vx h0 n0 _ T2.heap _
    rw [e2]
    exact ⟨rfl, N0, rfl⟩
theorem d13_0 : decode prog_44_method_10_code 0 = .ok (.aload_n 0, 1) := by decide +kernel
theorem d13_1 : decode prog_44_method_10_code 1 = .ok (.getfield 26, 3) := by decide +kernel
theorem d13_4 : decode prog_44_method_10_code 4 = .ok (.lreturn, 1) := by decide +kernel
theorem ef_glastReportNanos (m : MethodId) (r0 : Addr) : entryFrame m #[(.ref r0)] 1 = mkF m 0 #[.val (.ref r0)] [] := by first | (simp [entryFrame, mkF, argsToLocals, Value.category]; done) | rfl
def QglastReportNanos (Z : State) (r0 : Addr) (vx : Int64) (h0 : Heap) (n0 : Nat) (v : Option Value) (h : Heap) (L : List Loc) : Prop := v = some (.long vx) ∧ Fr n0 L ∧ h = h0
set_option maxRecDepth 65536 in
set_option maxHeartbeats 40000000 in
theorem rmglastReportNanos (l : Launch) (Z : State) (a0 : Array Value) (hw : ∀ d ∈ tables_1, d.before a0 Z = true) (ws : List Jvm.Cond) (r0 : Addr) (vx : Int64) (h0 : Heap) (n0 : Nat) (Z0 : n0 ≤ h0.size) (F_x : Fld Z h0 r0 "com/example/headroom/headroom/model/Member" "lastReportNanos" "J" (.long vx)) :
    MetFree l (⟨"com/example/headroom/headroom/model/Member", "lastReportNanos", "()J"⟩ : MethodName) (head1 (Jvm.Cond.code (⟨"com/example/headroom/headroom/model/Member", "lastReportNanos", "()J"⟩ : MethodName) prog_44_method_10_code 1 (some .long) :: ws) ({ frames := 0, cells := 0, slots := 0, locals := 0 } : Room)) (fun a U => a = #[(.ref r0)] ∧ Z.Warmed39 U.vm ∧ U.heap = h0) (fun _ _ _ _ _ => True) (fun _ U o U' => ∃ v L, o = .returned v ∧ QglastReportNanos Z r0 vx h0 n0 v U'.heap L ∧ FrameEnd U o U' L ({ frames := 0, cells := 0, slots := 0, locals := 0 } : Room).cells ({ frames := 0, cells := 0, slots := 0, locals := 0 } : Room).slots) := by
  refine MetFree.of_bodySF (plainFor_of_name pn_1) hisR ?_
  intro p e s m args below meth c s₁ Bd hml0 hP hK
  obtain ⟨rfl, hZ, hh⟩ := hP
  have hx := Bd.exec
  have hby := Bd.bytes
  have hml : c.maxLocals = 1 := hml0
  have hown : s.vm.findClass "com/example/headroom/headroom/model/Member" = some m.cls := findClass_of_methodNamed Bd.named
  have hnm := (name_of_methodNamed Bd.named Bd.method).1
  have X0 : Stand p l e ({ frames := 0, cells := 0, slots := 0, locals := 0 } : Room) s m #[(.ref r0)] below meth c s₁ [] 0 0 := Stand.of_body Bd
  have e0 : s₁.heap = h0 := by rw [← hh, Bd.state]; rfl
  have N0 := Fr.nil n0
  have K0 : ∀ t, Steps p.tables e below (s₁.setTop (mkF m 0 #[.val (.ref r0)] [])) t → Steps p.tables e below (s₁.setTop (entryFrame m #[(.ref r0)] 1)) t := fun t k => castTop (ef_glastReportNanos m r0) k
  generalize s₁.setTop (entryFrame m #[(.ref r0)] 1) = SE at K0 ⊢
  have K1 : own_K p e below SE s₁ (mkF m 1 #[.val (.ref r0)] [(.ref r0)]) := by
    intro t k
    refine K0 _ ?_
    refine XS.aloadN X0.here hx rfl (hb hby d13_0) rfl rfl ?_
    exact k
  obtain ⟨T2, X2, e2, st2⟩ := getF X0 hx hZ hown (host := "") (Or.inl (hw _ (List.mem_of_getElem? (i := 33) rfl))) Via.refl e0 F_x (g := (mkF m 1 #[.val (.ref r0)] [(.ref r0)])) rfl rfl (hb hby d13_1)
  have K2 : own_K p e below SE T2 (mkF m 4 #[.val (.ref r0)] [(.long vx)]) := fun t k => K1 _ (st2 _ k)
  obtain ⟨fs, hr, hrun, hended, hW, hsame⟩ := X2.leave (v := some (.long vx)) (fun h => by rw [Bd.returns] at h; cases h)
  refine ⟨_, _, K2 _ ?_, hrun, hended, _, _, rfl, ?_, ⟨_, rfl⟩, hW, hsame.mono (by decide) (by decide)⟩
  · exact X2.lreturnOut hx Bd.returns (hb hby d13_4) hr
  · show QglastReportNanos Z r0 vx h0 n0 _ T2.heap _
    rw [e2]
    exact ⟨rfl, N0, rfl⟩
theorem d14_0 : decode jdk_21_method_37_code 0 = .ok (.aload_n 0, 1) := by decide +kernel
theorem d14_1 : decode jdk_21_method_37_code 1 = .ok (.getfield 20, 3) := by decide +kernel
theorem d14_4 : decode jdk_21_method_37_code 4 = .ok (.aload_n 0, 1) := by decide +kernel
theorem d14_5 : decode jdk_21_method_37_code 5 = .ok (.getfield 24, 3) := by decide +kernel
theorem d14_8 : decode jdk_21_method_37_code 8 = .ok (.aload_n 0, 1) := by decide +kernel
theorem d14_9 : decode jdk_21_method_37_code 9 = .ok (.getfield 3, 3) := by decide +kernel
theorem d14_12 : decode jdk_21_method_37_code 12 = .ok (.arraylength, 1) := by decide +kernel
theorem d14_13 : decode jdk_21_method_37_code 13 = .ok (.invokestatic 127, 3) := by decide +kernel
theorem d14_16 : decode jdk_21_method_37_code 16 = .ok (.ireturn, 1) := by decide +kernel
theorem pd_size0_0 : parseMethodDescriptor "(III)I" = some ⟨[.int, .int, .int], some .int⟩ := by decide +kernel
theorem ef_size0 (m : MethodId) (r0 : Addr) : entryFrame m #[(.ref r0)] 1 = mkF m 0 #[.val (.ref r0)] [] := by first | (simp [entryFrame, mkF, argsToLocals, Value.category]; done) | rfl
def Qsize0 (Z : State) (r0 : Addr) (ea : Addr) (kE : ClassId) (h0 : Heap) (n0 : Nat) (v : Option Value) (h : Heap) (L : List Loc) : Prop := v = some (.int (0 : Int32)) ∧ Fr n0 L ∧ h = h0
set_option maxRecDepth 65536 in
set_option maxHeartbeats 40000000 in
theorem rmsize0 (l : Launch) (Z : State) (a0 : Array Value) (hw : ∀ d ∈ tables_1, d.before a0 Z = true) (ws : List Jvm.Cond) (r0 : Addr) (ea : Addr) (kE : ClassId) (h0 : Heap) (n0 : Nat) (Z0 : n0 ≤ h0.size) (F_h : Fld Z h0 r0 "java/util/ArrayDeque" "head" "I" (.int (0 : Int32))) (F_t : Fld Z h0 r0 "java/util/ArrayDeque" "tail" "I" (.int (0 : Int32))) (F_e : Fld Z h0 r0 "java/util/ArrayDeque" "elements" "[Ljava/lang/Object;" (.ref ea)) (V_e : Arv Z h0 ea kE (.object "java/lang/Object") (6 : Int32) [.null, .null, .null, .null, .null, .null] .null) :
    MetFree l (⟨"java/util/ArrayDeque", "size", "()I"⟩ : MethodName) (head1 (Jvm.Cond.code (⟨"java/util/ArrayDeque", "size", "()I"⟩ : MethodName) jdk_21_method_37_code 1 (some .int) :: ws) ({ frames := 1, cells := 0, slots := 0, locals := 14 } : Room)) (fun a U => a = #[(.ref r0)] ∧ Z.Warmed39 U.vm ∧ U.heap = h0) (fun _ _ _ _ _ => True) (fun _ U o U' => ∃ v L, o = .returned v ∧ Qsize0 Z r0 ea kE h0 n0 v U'.heap L ∧ FrameEnd U o U' L ({ frames := 1, cells := 0, slots := 0, locals := 14 } : Room).cells ({ frames := 1, cells := 0, slots := 0, locals := 14 } : Room).slots) := by
  refine MetFree.of_bodySF (plainFor_of_name pn_15) hisR ?_
  intro p e s m args below meth c s₁ Bd hml0 hP hK
  obtain ⟨rfl, hZ, hh⟩ := hP
  have hx := Bd.exec
  have hby := Bd.bytes
  have hml : c.maxLocals = 1 := hml0
  have hown : s.vm.findClass "java/util/ArrayDeque" = some m.cls := findClass_of_methodNamed Bd.named
  have hnm := (name_of_methodNamed Bd.named Bd.method).1
  have X0 : Stand p l e ({ frames := 1, cells := 0, slots := 0, locals := 14 } : Room) s m #[(.ref r0)] below meth c s₁ [] 0 0 := Stand.of_body Bd
  have e0 : s₁.heap = h0 := by rw [← hh, Bd.state]; rfl
  have N0 := Fr.nil n0
  have K0 : ∀ t, Steps p.tables e below (s₁.setTop (mkF m 0 #[.val (.ref r0)] [])) t → Steps p.tables e below (s₁.setTop (entryFrame m #[(.ref r0)] 1)) t := fun t k => castTop (ef_size0 m r0) k
  generalize s₁.setTop (entryFrame m #[(.ref r0)] 1) = SE at K0 ⊢
  have K1 : own_K p e below SE s₁ (mkF m 1 #[.val (.ref r0)] [(.ref r0)]) := by
    intro t k
    refine K0 _ ?_
    refine XS.aloadN X0.here hx rfl (hb hby d14_0) rfl rfl ?_
    exact k
  obtain ⟨T2, X2, e2, st2⟩ := getF X0 hx hZ hown (host := "") (Or.inl (hw _ (List.mem_of_getElem? (i := 103) rfl))) Via.refl e0 F_t (g := (mkF m 1 #[.val (.ref r0)] [(.ref r0)])) rfl rfl (hb hby d14_1)
  have K2 : own_K p e below SE T2 (mkF m 4 #[.val (.ref r0)] [(.int (0 : Int32))]) := fun t k => K1 _ (st2 _ k)
  have K3 : own_K p e below SE T2 (mkF m 5 #[.val (.ref r0)] [(.ref r0), (.int (0 : Int32))]) := by
    intro t k
    refine K2 _ ?_
    refine XS.aloadN X2.here hx rfl (hb hby d14_4) rfl rfl ?_
    exact k
  obtain ⟨T4, X4, e4, st4⟩ := getF X2 hx hZ hown (host := "") (Or.inl (hw _ (List.mem_of_getElem? (i := 105) rfl))) Via.refl e2 F_h (g := (mkF m 5 #[.val (.ref r0)] [(.ref r0), (.int (0 : Int32))])) rfl rfl (hb hby d14_5)
  have K4 : own_K p e below SE T4 (mkF m 8 #[.val (.ref r0)] [(.int (0 : Int32)), (.int (0 : Int32))]) := fun t k => K3 _ (st4 _ k)
  have K5 : own_K p e below SE T4 (mkF m 9 #[.val (.ref r0)] [(.ref r0), (.int (0 : Int32)), (.int (0 : Int32))]) := by
    intro t k
    refine K4 _ ?_
    refine XS.aloadN X4.here hx rfl (hb hby d14_8) rfl rfl ?_
    exact k
  obtain ⟨T6, X6, e6, st6⟩ := getF X4 hx hZ hown (host := "") (Or.inl (hw _ (List.mem_of_getElem? (i := 25) rfl))) Via.refl e4 F_e (g := (mkF m 9 #[.val (.ref r0)] [(.ref r0), (.int (0 : Int32)), (.int (0 : Int32))])) rfl rfl (hb hby d14_9)
  have K6 : own_K p e below SE T6 (mkF m 12 #[.val (.ref r0)] [(.ref ea), (.int (0 : Int32)), (.int (0 : Int32))]) := fun t k => K5 _ (st6 _ k)
  obtain ⟨cl7, Ar7, -, S7, Ng7, -, -⟩ := id V_e
  have K8 : own_K p e below SE T6 (mkF m 13 #[.val (.ref r0)] [(.int (6 : Int32)), (.int (0 : Int32)), (.int (0 : Int32))]) := by
    intro t k
    refine K6 _ ?_
    refine X6.arraylength hx (by rw [e6]; exact Ar7.1) (State.isArrayOf_alike hZ.alike Ar7.2.1) (g := (mkF m 12 #[.val (.ref r0)] [(.ref ea), (.int (0 : Int32)), (.int (0 : Int32))])) rfl rfl (hb hby d14_12) _ ?_
    rw [len_of S7 Ng7]
    exact k
  obtain ⟨_, _, ⟨T9, L9, k9, n9⟩, -, X9, ⟨Lc9, hQ9, l9, y9, z9⟩, st9⟩ := Jvm.LawKit.callS X6 hx (y := (⟨"java/util/ArrayDeque", "sub", "(III)I"⟩ : MethodName)) hown (mvT hZ (hw _ (List.mem_of_getElem? (i := 107) rfl))) (mvT hZ (hw _ (List.mem_of_getElem? (i := 108) rfl))) (mvT hZ (hw _ (List.mem_of_getElem? (i := 11) rfl))) (mvT hZ (hw _ (List.mem_of_getElem? (i := 109) rfl))) (by decide) (backOf (W := 0) (rmsub0 l Z a0 hw [] h0 n0 Z0) hZ (hw _ (List.mem_of_getElem? (i := 109) rfl)) (hw _ (List.mem_of_getElem? (i := 11) rfl)) (by decide) (by decide)) (g := (mkF m 13 #[.val (.ref r0)] [(.int (6 : Int32)), (.int (0 : Int32)), (.int (0 : Int32))])) rfl (by rw [hml]; rfl) (argsL := [(.int (0 : Int32)), (.int (0 : Int32)), (.int (6 : Int32))]) (rest := []) (lenOf pd_size0_0 rfl) rfl (by show 2 * 0 + _ ≤ _; exact Nat.le_of_eq rfl) (hb hby d14_13) (fun _ _ => ⟨rfl, e6, (by decide : 0 + 0 ≤ _), (by decide : 0 + 0 ≤ _)⟩)
  dsimp only [Pt.U, Pt.locs, Pt.cells, Pt.slots] at X9 l9 y9 z9 st9 hQ9
  rw [y9, z9] at X9
  obtain ⟨rfl, Nq9, e9⟩ := hQ9
  have N9 : Fr n0 L9 := by rw [l9]; exact Fr.app N0 Nq9
  have K9 : own_K p e below SE T9 (mkF m 16 #[.val (.ref r0)] [(.int (0 : Int32))]) := fun t k => K8 _ (st9 _ k)
  obtain ⟨fs, hr, hrun, hended, hW, hsame⟩ := X9.leave (v := some (.int (0 : Int32))) (fun h => by rw [Bd.returns] at h; cases h)
  refine ⟨_, _, K9 _ ?_, hrun, hended, _, _, rfl, ?_, ⟨_, rfl⟩, hW, hsame.mono (by decide) (by decide)⟩
  · exact retI X9 hx Bd.returns (hb hby d14_16) hr
  · show Qsize0 Z r0 ea kE h0 n0 _ T9.heap _
    rw [e9]
    exact ⟨rfl, N9, rfl⟩
theorem pd_size1_0 : parseMethodDescriptor "(III)I" = some ⟨[.int, .int, .int], some .int⟩ := by decide +kernel
theorem ef_size1 (m : MethodId) (r0 : Addr) : entryFrame m #[(.ref r0)] 1 = mkF m 0 #[.val (.ref r0)] [] := by first | (simp [entryFrame, mkF, argsToLocals, Value.category]; done) | rfl
def Qsize1 (Z : State) (r0 : Addr) (ea : Addr) (kE : ClassId) (w : Addr) (h0 : Heap) (n0 : Nat) (v : Option Value) (h : Heap) (L : List Loc) : Prop := v = some (.int (1 : Int32)) ∧ Fr n0 L ∧ h = h0
set_option maxRecDepth 65536 in
set_option maxHeartbeats 40000000 in
theorem rmsize1 (l : Launch) (Z : State) (a0 : Array Value) (hw : ∀ d ∈ tables_1, d.before a0 Z = true) (ws : List Jvm.Cond) (r0 : Addr) (ea : Addr) (kE : ClassId) (w : Addr) (h0 : Heap) (n0 : Nat) (Z0 : n0 ≤ h0.size) (F_h : Fld Z h0 r0 "java/util/ArrayDeque" "head" "I" (.int (0 : Int32))) (F_t : Fld Z h0 r0 "java/util/ArrayDeque" "tail" "I" (.int (1 : Int32))) (F_e : Fld Z h0 r0 "java/util/ArrayDeque" "elements" "[Ljava/lang/Object;" (.ref ea)) (V_e : Arv Z h0 ea kE (.object "java/lang/Object") (6 : Int32) [(.ref w), .null, .null, .null, .null, .null] .null) :
    MetFree l (⟨"java/util/ArrayDeque", "size", "()I"⟩ : MethodName) (head1 (Jvm.Cond.code (⟨"java/util/ArrayDeque", "size", "()I"⟩ : MethodName) jdk_21_method_37_code 1 (some .int) :: ws) ({ frames := 1, cells := 0, slots := 0, locals := 14 } : Room)) (fun a U => a = #[(.ref r0)] ∧ Z.Warmed39 U.vm ∧ U.heap = h0) (fun _ _ _ _ _ => True) (fun _ U o U' => ∃ v L, o = .returned v ∧ Qsize1 Z r0 ea kE w h0 n0 v U'.heap L ∧ FrameEnd U o U' L ({ frames := 1, cells := 0, slots := 0, locals := 14 } : Room).cells ({ frames := 1, cells := 0, slots := 0, locals := 14 } : Room).slots) := by
  refine MetFree.of_bodySF (plainFor_of_name pn_15) hisR ?_
  intro p e s m args below meth c s₁ Bd hml0 hP hK
  obtain ⟨rfl, hZ, hh⟩ := hP
  have hx := Bd.exec
  have hby := Bd.bytes
  have hml : c.maxLocals = 1 := hml0
  have hown : s.vm.findClass "java/util/ArrayDeque" = some m.cls := findClass_of_methodNamed Bd.named
  have hnm := (name_of_methodNamed Bd.named Bd.method).1
  have X0 : Stand p l e ({ frames := 1, cells := 0, slots := 0, locals := 14 } : Room) s m #[(.ref r0)] below meth c s₁ [] 0 0 := Stand.of_body Bd
  have e0 : s₁.heap = h0 := by rw [← hh, Bd.state]; rfl
  have N0 := Fr.nil n0
  have K0 : ∀ t, Steps p.tables e below (s₁.setTop (mkF m 0 #[.val (.ref r0)] [])) t → Steps p.tables e below (s₁.setTop (entryFrame m #[(.ref r0)] 1)) t := fun t k => castTop (ef_size1 m r0) k
  generalize s₁.setTop (entryFrame m #[(.ref r0)] 1) = SE at K0 ⊢
  have K1 : own_K p e below SE s₁ (mkF m 1 #[.val (.ref r0)] [(.ref r0)]) := by
    intro t k
    refine K0 _ ?_
    refine XS.aloadN X0.here hx rfl (hb hby d14_0) rfl rfl ?_
    exact k
  obtain ⟨T2, X2, e2, st2⟩ := getF X0 hx hZ hown (host := "") (Or.inl (hw _ (List.mem_of_getElem? (i := 103) rfl))) Via.refl e0 F_t (g := (mkF m 1 #[.val (.ref r0)] [(.ref r0)])) rfl rfl (hb hby d14_1)
  have K2 : own_K p e below SE T2 (mkF m 4 #[.val (.ref r0)] [(.int (1 : Int32))]) := fun t k => K1 _ (st2 _ k)
  have K3 : own_K p e below SE T2 (mkF m 5 #[.val (.ref r0)] [(.ref r0), (.int (1 : Int32))]) := by
    intro t k
    refine K2 _ ?_
    refine XS.aloadN X2.here hx rfl (hb hby d14_4) rfl rfl ?_
    exact k
  obtain ⟨T4, X4, e4, st4⟩ := getF X2 hx hZ hown (host := "") (Or.inl (hw _ (List.mem_of_getElem? (i := 105) rfl))) Via.refl e2 F_h (g := (mkF m 5 #[.val (.ref r0)] [(.ref r0), (.int (1 : Int32))])) rfl rfl (hb hby d14_5)
  have K4 : own_K p e below SE T4 (mkF m 8 #[.val (.ref r0)] [(.int (0 : Int32)), (.int (1 : Int32))]) := fun t k => K3 _ (st4 _ k)
  have K5 : own_K p e below SE T4 (mkF m 9 #[.val (.ref r0)] [(.ref r0), (.int (0 : Int32)), (.int (1 : Int32))]) := by
    intro t k
    refine K4 _ ?_
    refine XS.aloadN X4.here hx rfl (hb hby d14_8) rfl rfl ?_
    exact k
  obtain ⟨T6, X6, e6, st6⟩ := getF X4 hx hZ hown (host := "") (Or.inl (hw _ (List.mem_of_getElem? (i := 25) rfl))) Via.refl e4 F_e (g := (mkF m 9 #[.val (.ref r0)] [(.ref r0), (.int (0 : Int32)), (.int (1 : Int32))])) rfl rfl (hb hby d14_9)
  have K6 : own_K p e below SE T6 (mkF m 12 #[.val (.ref r0)] [(.ref ea), (.int (0 : Int32)), (.int (1 : Int32))]) := fun t k => K5 _ (st6 _ k)
  obtain ⟨cl7, Ar7, -, S7, Ng7, -, -⟩ := id V_e
  have K8 : own_K p e below SE T6 (mkF m 13 #[.val (.ref r0)] [(.int (6 : Int32)), (.int (0 : Int32)), (.int (1 : Int32))]) := by
    intro t k
    refine K6 _ ?_
    refine X6.arraylength hx (by rw [e6]; exact Ar7.1) (State.isArrayOf_alike hZ.alike Ar7.2.1) (g := (mkF m 12 #[.val (.ref r0)] [(.ref ea), (.int (0 : Int32)), (.int (1 : Int32))])) rfl rfl (hb hby d14_12) _ ?_
    rw [len_of S7 Ng7]
    exact k
  obtain ⟨_, _, ⟨T9, L9, k9, n9⟩, -, X9, ⟨Lc9, hQ9, l9, y9, z9⟩, st9⟩ := Jvm.LawKit.callS X6 hx (y := (⟨"java/util/ArrayDeque", "sub", "(III)I"⟩ : MethodName)) hown (mvT hZ (hw _ (List.mem_of_getElem? (i := 107) rfl))) (mvT hZ (hw _ (List.mem_of_getElem? (i := 108) rfl))) (mvT hZ (hw _ (List.mem_of_getElem? (i := 11) rfl))) (mvT hZ (hw _ (List.mem_of_getElem? (i := 109) rfl))) (by decide) (backOf (W := 0) (rmsub1 l Z a0 hw [] h0 n0 Z0) hZ (hw _ (List.mem_of_getElem? (i := 109) rfl)) (hw _ (List.mem_of_getElem? (i := 11) rfl)) (by decide) (by decide)) (g := (mkF m 13 #[.val (.ref r0)] [(.int (6 : Int32)), (.int (0 : Int32)), (.int (1 : Int32))])) rfl (by rw [hml]; rfl) (argsL := [(.int (1 : Int32)), (.int (0 : Int32)), (.int (6 : Int32))]) (rest := []) (lenOf pd_size1_0 rfl) rfl (by show 2 * 0 + _ ≤ _; exact Nat.le_of_eq rfl) (hb hby d14_13) (fun _ _ => ⟨rfl, e6, (by decide : 0 + 0 ≤ _), (by decide : 0 + 0 ≤ _)⟩)
  dsimp only [Pt.U, Pt.locs, Pt.cells, Pt.slots] at X9 l9 y9 z9 st9 hQ9
  rw [y9, z9] at X9
  obtain ⟨rfl, Nq9, e9⟩ := hQ9
  have N9 : Fr n0 L9 := by rw [l9]; exact Fr.app N0 Nq9
  have K9 : own_K p e below SE T9 (mkF m 16 #[.val (.ref r0)] [(.int (1 : Int32))]) := fun t k => K8 _ (st9 _ k)
  obtain ⟨fs, hr, hrun, hended, hW, hsame⟩ := X9.leave (v := some (.int (1 : Int32))) (fun h => by rw [Bd.returns] at h; cases h)
  refine ⟨_, _, K9 _ ?_, hrun, hended, _, _, rfl, ?_, ⟨_, rfl⟩, hW, hsame.mono (by decide) (by decide)⟩
  · exact retI X9 hx Bd.returns (hb hby d14_16) hr
  · show Qsize1 Z r0 ea kE w h0 n0 _ T9.heap _
    rw [e9]
    exact ⟨rfl, N9, rfl⟩
theorem d17_0 : decode jdk_117_method_9_code 0 = .ok (.aload_n 0, 1) := by decide +kernel
theorem d17_1 : decode jdk_117_method_9_code 1 = .ok (.invokespecial 113, 3) := by decide +kernel
theorem d17_4 : decode jdk_117_method_9_code 4 = .ok (.aload_n 0, 1) := by decide +kernel
theorem d17_5 : decode jdk_117_method_9_code 5 = .ok (.dload_n 1, 1) := by decide +kernel
theorem d17_6 : decode jdk_117_method_9_code 6 = .ok (.putfield 118, 3) := by decide +kernel
theorem d17_9 : decode jdk_117_method_9_code 9 = .ok (.return_, 1) := by decide +kernel
theorem pn_17 : plainName "java/lang/Double" = true := by first | (simp [plainName, overriddenIn]; done) | decide +kernel
theorem pd_di_0 : parseMethodDescriptor "()V" = some ⟨[], none⟩ := by decide +kernel
theorem ef_di (m : MethodId) (r0 : Addr) (f1 : UInt64) : entryFrame m #[(.ref r0), (.double f1)] 3 = mkF m 0 #[.val (.ref r0), .val (.double f1), .second] [] := by first | (simp [entryFrame, mkF, argsToLocals, Value.category]; done) | rfl
def Qdi (Z : State) (r0 : Addr) (f1 : UInt64) (h0 : Heap) (n0 : Nat) (v : Option Value) (h : Heap) (L : List Loc) : Prop := v = none ∧ Fr n0 L ∧ Keep h0 h [r0] ∧ Exa Z h r0 "java/lang/Double" ∧ Fld Z h r0 "java/lang/Double" "value" "D" (.double f1)
set_option maxRecDepth 65536 in
set_option maxHeartbeats 40000000 in
theorem rmdi (l : Launch) (Z : State) (a0 : Array Value) (hw : ∀ d ∈ tables_1, d.before a0 Z = true) (ws : List Jvm.Cond) (r0 : Addr) (f1 : UInt64) (h0 : Heap) (n0 : Nat) (Z0 : n0 ≤ h0.size) (E_r0 : Exa Z h0 r0 "java/lang/Double") (F_v : Fld Z h0 r0 "java/lang/Double" "value" "D" (.double (0 : UInt64))) (g_r0 : n0 ≤ r0) :
    MetFree l (⟨"java/lang/Double", "<init>", "(D)V"⟩ : MethodName) (head1 (Jvm.Cond.code (⟨"java/lang/Double", "<init>", "(D)V"⟩ : MethodName) jdk_117_method_9_code 3 none :: ws) ({ frames := 2, cells := 0, slots := 0, locals := 24 } : Room)) (fun a U => a = #[(.ref r0), (.double f1)] ∧ Z.Warmed39 U.vm ∧ U.heap = h0) (fun _ _ _ _ _ => True) (fun _ U o U' => ∃ v L, o = .returned v ∧ Qdi Z r0 f1 h0 n0 v U'.heap L ∧ FrameEnd U o U' L ({ frames := 2, cells := 0, slots := 0, locals := 24 } : Room).cells ({ frames := 2, cells := 0, slots := 0, locals := 24 } : Room).slots) := by
  refine MetFree.of_bodySF (plainFor_of_name pn_17) hisR ?_
  intro p e s m args below meth c s₁ Bd hml0 hP hK
  obtain ⟨rfl, hZ, hh⟩ := hP
  have hx := Bd.exec
  have hby := Bd.bytes
  have hml : c.maxLocals = 3 := hml0
  have hown : s.vm.findClass "java/lang/Double" = some m.cls := findClass_of_methodNamed Bd.named
  have hnm := (name_of_methodNamed Bd.named Bd.method).1
  have X0 : Stand p l e ({ frames := 2, cells := 0, slots := 0, locals := 24 } : Room) s m #[(.ref r0), (.double f1)] below meth c s₁ [] 0 0 := Stand.of_body Bd
  have e0 : s₁.heap = h0 := by rw [← hh, Bd.state]; rfl
  have N0 := Fr.nil n0
  have K0 : ∀ t, Steps p.tables e below (s₁.setTop (mkF m 0 #[.val (.ref r0), .val (.double f1), .second] [])) t → Steps p.tables e below (s₁.setTop (entryFrame m #[(.ref r0), (.double f1)] 3)) t := fun t k => castTop (ef_di m r0 f1) k
  generalize s₁.setTop (entryFrame m #[(.ref r0), (.double f1)] 3) = SE at K0 ⊢
  have K1 : own_K p e below SE s₁ (mkF m 1 #[.val (.ref r0), .val (.double f1), .second] [(.ref r0)]) := by
    intro t k
    refine K0 _ ?_
    refine XS.aloadN X0.here hx rfl (hb hby d17_0) rfl rfl ?_
    exact k
  obtain ⟨_, _, ⟨T2, L2, k2, n2⟩, -, X2, ⟨Lc2, hQ2, l2, y2, z2⟩, st2⟩ := X0.specialBack hx (y := (⟨"java/lang/Number", "<init>", "()V"⟩ : MethodName)) rfl hown (mvT hZ (hw _ (List.mem_of_getElem? (i := 120) rfl))) (mvT hZ (hw _ (List.mem_of_getElem? (i := 121) rfl))) (mvT hZ (hw _ (List.mem_of_getElem? (i := 125) rfl))) (by decide) (backOf (W := 0) (rmnu l Z a0 hw [] r0 h0 n0 Z0) hZ (hw _ (List.mem_of_getElem? (i := 125) rfl)) (hw _ (List.mem_of_getElem? (i := 124) rfl)) (by decide) (by decide)) (g := (mkF m 1 #[.val (.ref r0), .val (.double f1), .second] [(.ref r0)])) rfl (by rw [hml]; rfl) (Steps.refl _) (a := r0) (argsL := []) (rest := []) (lenOf pd_di_0 rfl) rfl (by show 2 * 0 + _ ≤ _; exact Nat.le_of_eq rfl) (hb hby d17_1) (fun _ _ => ⟨rfl, e0, (by decide : 0 + 0 ≤ _), (by decide : 0 + 0 ≤ _)⟩)
  dsimp only [Pt.U, Pt.locs, Pt.cells, Pt.slots] at X2 l2 y2 z2 st2 hQ2
  rw [y2, z2] at X2
  obtain ⟨rfl, Nq2, e2⟩ := hQ2
  have N2 : Fr n0 L2 := by rw [l2]; exact Fr.app N0 Nq2
  have K2 : own_K p e below SE T2 (mkF m 4 #[.val (.ref r0), .val (.double f1), .second] []) := fun t k => K1 _ (st2.trans k)
  have K3 : own_K p e below SE T2 (mkF m 6 #[.val (.ref r0), .val (.double f1), .second] [(.double f1), (.ref r0)]) := by
    intro t k
    refine K2 _ ?_
    refine XS.aloadN X2.here hx rfl (hb hby d17_4) rfl rfl ?_
    show own_S p e below T2 (mkF m 5 #[.val (.ref r0), .val (.double f1), .second] [(.ref r0)]) _
    refine XS.dloadN X2.here hx rfl (hb hby d17_5) rfl ?_
    exact k
  obtain ⟨T4, h4, X4, e4, W4, st4⟩ := putF X2 hx hZ hown (host := "") (Or.inl (hw _ (List.mem_of_getElem? (i := 127) rfl))) Via.refl e2 F_v E_r0 (Or.inr ⟨(hw _ (List.mem_of_getElem? (i := 128) rfl)), rfl, hnm⟩) (hw _ (List.mem_of_getElem? (i := 115) rfl)) (ty := .double) (by decide) rfl rfl (g := (mkF m 6 #[.val (.ref r0), .val (.double f1), .second] [(.double f1), (.ref r0)])) rfl rfl (hb hby d17_6)
  have Fw4 := Fld.same W4 F_v
  have N4 := Fr.snoc X4 N2 g_r0
  have Kp4 : Keep h0 h4 [r0] := Keep.wr (Keep.refl h0 [r0]) W4 (Or.inl (List.mem_of_getElem? (i := 0) rfl))
  have K4 : own_K p e below SE T4 (mkF m 9 #[.val (.ref r0), .val (.double f1), .second] []) := fun t k => K3 _ (st4 _ k)
  obtain ⟨fs, hr, hrun, hended, hW, hsame⟩ := X4.leave (v := none) (fun _ => rfl)
  refine ⟨_, _, K4 _ ?_, hrun, hended, _, _, rfl, ?_, ⟨_, rfl⟩, hW, hsame.mono (by decide) (by decide)⟩
  · exact X4.returnOut hx Bd.returns (hb hby d17_9) hr
  · show Qdi Z r0 f1 h0 n0 _ T4.heap _
    rw [e4]
    exact ⟨rfl, N4, Kp4, (E_r0.wr W4), Fw4⟩
theorem d16_0 : decode jdk_117_method_4_code 0 = .ok (.new 1, 3) := by decide +kernel
theorem d16_3 : decode jdk_117_method_4_code 3 = .ok (.dup, 1) := by decide +kernel
theorem d16_4 : decode jdk_117_method_4_code 4 = .ok (.dload_n 0, 1) := by decide +kernel
theorem d16_5 : decode jdk_117_method_4_code 5 = .ok (.invokespecial 105, 3) := by decide +kernel
theorem d16_8 : decode jdk_117_method_4_code 8 = .ok (.areturn, 1) := by decide +kernel
theorem pd_dv_0 : parseMethodDescriptor "(D)V" = some ⟨[.double], none⟩ := by decide +kernel
theorem ef_dv (m : MethodId) (f0 : UInt64) : entryFrame m #[(.double f0)] 2 = mkF m 0 #[.val (.double f0), .second] [] := by first | (simp [entryFrame, mkF, argsToLocals, Value.category]; done) | rfl
def Qdv (Z : State) (f0 : UInt64) (h0 : Heap) (n0 : Nat) (v : Option Value) (h : Heap) (L : List Loc) : Prop := v = some (.ref h0.size) ∧ Fr n0 L ∧ Keep h0 h [] ∧ Exa Z h h0.size "java/lang/Double" ∧ Fld Z h h0.size "java/lang/Double" "value" "D" (.double f0)
set_option maxRecDepth 65536 in
set_option maxHeartbeats 40000000 in
theorem rmdv (l : Launch) (Z : State) (a0 : Array Value) (hw : ∀ d ∈ tables_1, d.before a0 Z = true) (ws : List Jvm.Cond) (f0 : UInt64) (h0 : Heap) (n0 : Nat) (Z0 : n0 ≤ h0.size) :
    MetFree l (⟨"java/lang/Double", "valueOf", "(D)Ljava/lang/Double;"⟩ : MethodName) (head1 (Jvm.Cond.code (⟨"java/lang/Double", "valueOf", "(D)Ljava/lang/Double;"⟩ : MethodName) jdk_117_method_4_code 2 (some (.object "java/lang/Double")) :: ws) ({ frames := 3, cells := 1, slots := 1, locals := 39 } : Room)) (fun a U => a = #[(.double f0)] ∧ Z.Warmed39 U.vm ∧ U.heap = h0) (fun _ _ _ _ _ => True) (fun _ U o U' => ∃ v L, o = .returned v ∧ Qdv Z f0 h0 n0 v U'.heap L ∧ FrameEnd U o U' L ({ frames := 3, cells := 1, slots := 1, locals := 39 } : Room).cells ({ frames := 3, cells := 1, slots := 1, locals := 39 } : Room).slots) := by
  refine MetFree.of_bodySF (plainFor_of_name pn_17) hisR ?_
  intro p e s m args below meth c s₁ Bd hml0 hP hK
  obtain ⟨rfl, hZ, hh⟩ := hP
  have hx := Bd.exec
  have hby := Bd.bytes
  have hml : c.maxLocals = 2 := hml0
  have hown : s.vm.findClass "java/lang/Double" = some m.cls := findClass_of_methodNamed Bd.named
  have hnm := (name_of_methodNamed Bd.named Bd.method).1
  have X0 : Stand p l e ({ frames := 3, cells := 1, slots := 1, locals := 39 } : Room) s m #[(.double f0)] below meth c s₁ [] 0 0 := Stand.of_body Bd
  have e0 : s₁.heap = h0 := by rw [← hh, Bd.state]; rfl
  have N0 := Fr.nil n0
  have K0 : ∀ t, Steps p.tables e below (s₁.setTop (mkF m 0 #[.val (.double f0), .second] [])) t → Steps p.tables e below (s₁.setTop (entryFrame m #[(.double f0)] 2)) t := fun t k => castTop (ef_dv m f0) k
  generalize s₁.setTop (entryFrame m #[(.double f0)] 2) = SE at K0 ⊢
  obtain ⟨T1, h1, X1, e1, E1, A1, D1, -, st1⟩ := newO X0 hx hZ hown (hw _ (List.mem_of_getElem? (i := 114) rfl)) (hw _ (List.mem_of_getElem? (i := 115) rfl)) (hw _ (List.mem_of_getElem? (i := 112) rfl)) e0 (g := (mkF m 0 #[.val (.double f0), .second] [])) rfl (hb hby d16_0) (by decide) (by decide)
  obtain ⟨b1, g1⟩ : ∃ z, z = h0.size := ⟨_, rfl⟩
  rw [← g1] at A1 D1 st1
  have g_b1 : n0 ≤ b1 := Nat.le_trans Z0 (Nat.le_of_eq g1.symm)
  have sz_b1 : h0.size ≤ b1 := Nat.le_trans (Nat.le_refl _) (Nat.le_of_eq g1.symm)
  have Kp1 : Keep h0 h1 [] := Keep.ext (Keep.refl h0 []) E1
  have F_value_b1 : Fld Z h1 b1 "java/lang/Double" "value" "D" (.double (0 : UInt64)) := D1 (Or.inr (hw _ (List.mem_of_getElem? (i := 128) rfl))) (ty := .double) (by decide)
  have K1 : own_K p e below SE T1 (mkF m 3 #[.val (.double f0), .second] [(.ref b1)]) := fun t k => K0 _ (st1 _ k)
  have K2 : own_K p e below SE T1 (mkF m 5 #[.val (.double f0), .second] [(.double f0), (.ref b1), (.ref b1)]) := by
    intro t k
    refine K1 _ ?_
    refine XS.dup X1.here hx rfl (hb hby d16_3) rfl rfl ?_
    show own_S p e below T1 (mkF m 4 #[.val (.double f0), .second] [(.ref b1), (.ref b1)]) _
    refine XS.dloadN X1.here hx rfl (hb hby d16_4) rfl ?_
    exact k
  obtain ⟨_, _, ⟨T3, L3, k3, n3⟩, -, X3, ⟨Lc3, hQ3, l3, y3, z3⟩, st3⟩ := X1.specialBack hx (y := (⟨"java/lang/Double", "<init>", "(D)V"⟩ : MethodName)) rfl hown (mvT hZ (hw _ (List.mem_of_getElem? (i := 116) rfl))) (mvT hZ (hw _ (List.mem_of_getElem? (i := 117) rfl))) (mvT hZ (hw _ (List.mem_of_getElem? (i := 119) rfl))) (by decide) (backOf (W := 1) (rmdi l Z a0 hw [] b1 f0 h1 n0 (Nat.le_trans Z0 Kp1.1) A1 F_value_b1 g_b1) hZ (hw _ (List.mem_of_getElem? (i := 119) rfl)) (hw _ (List.mem_of_getElem? (i := 112) rfl)) (by decide) (by decide)) (g := (mkF m 5 #[.val (.double f0), .second] [(.double f0), (.ref b1), (.ref b1)])) rfl (by rw [hml]; rfl) (Steps.refl _) (a := b1) (argsL := [(.double f0)]) (rest := [(.ref b1)]) (lenOf pd_dv_0 rfl) rfl (by show 2 * 0 + _ ≤ _; exact Nat.le_of_eq rfl) (hb hby d16_5) (fun _ _ => ⟨rfl, e1, (by decide : 1 + 0 ≤ _), (by decide : 1 + 0 ≤ _)⟩)
  dsimp only [Pt.U, Pt.locs, Pt.cells, Pt.slots] at X3 l3 y3 z3 st3 hQ3
  rw [y3, z3] at X3
  obtain ⟨rfl, Nq3, Kq3, Ex3, Fv3⟩ := hQ3
  have N3 : Fr n0 L3 := by rw [l3]; exact Fr.app N0 Nq3
  have Kp3 : Keep h0 T3.heap [] := Keep.trans Kp1 Kq3 (allS (Or.inr sz_b1) all0)
  have K3 : own_K p e below SE T3 (mkF m 8 #[.val (.double f0), .second] [(.ref b1)]) := fun t k => K2 _ (st3.trans k)
  obtain ⟨fs, hr, hrun, hended, hW, hsame⟩ := X3.leave (v := some (.ref b1)) (fun h => by rw [Bd.returns] at h; cases h)
  refine ⟨_, _, K3 _ ?_, hrun, hended, _, _, rfl, ?_, ⟨_, rfl⟩, hW, hsame.mono (by decide) (by decide)⟩
  · show Steps p.tables e below (T3.setTop (mkF m 8 #[.val (.double f0), .second] [(.ref b1)])) _
    jvm_step X3.here [X3.here.top, hx, (hb hby d16_8), X3.method', Bd.returns, Value.isRef, FieldType.isReference]
    first | (intro acts; rw [hr _ acts rfl rfl rfl]) | rw [hr _ _ rfl rfl rfl]
    exact Steps.refl _
  · show Qdv Z f0 h0 n0 _ T3.heap _
    exact ⟨congrArg (fun z => some (Value.ref z)) g1, N3, Kp3, (g1 ▸ Ex3), (g1 ▸ Fv3)⟩
theorem d26_0 : decode jdk_117_method_19_code 0 = .ok (.aload_n 0, 1) := by decide +kernel
theorem d26_1 : decode jdk_117_method_19_code 1 = .ok (.getfield 118, 3) := by decide +kernel
theorem d26_4 : decode jdk_117_method_19_code 4 = .ok (.dreturn, 1) := by decide +kernel
theorem ef_dd (m : MethodId) (r0 : Addr) : entryFrame m #[(.ref r0)] 1 = mkF m 0 #[.val (.ref r0)] [] := by first | (simp [entryFrame, mkF, argsToLocals, Value.category]; done) | rfl
def Qdd (Z : State) (r0 : Addr) (vx : UInt64) (h0 : Heap) (n0 : Nat) (v : Option Value) (h : Heap) (L : List Loc) : Prop := v = some (.double vx) ∧ Fr n0 L ∧ h = h0
set_option maxRecDepth 65536 in
set_option maxHeartbeats 40000000 in
theorem rmdd (l : Launch) (Z : State) (a0 : Array Value) (hw : ∀ d ∈ tables_1, d.before a0 Z = true) (ws : List Jvm.Cond) (r0 : Addr) (vx : UInt64) (h0 : Heap) (n0 : Nat) (Z0 : n0 ≤ h0.size) (F_v : Fld Z h0 r0 "java/lang/Double" "value" "D" (.double vx)) :
    MetFree l (⟨"java/lang/Double", "doubleValue", "()D"⟩ : MethodName) (head1 (Jvm.Cond.code (⟨"java/lang/Double", "doubleValue", "()D"⟩ : MethodName) jdk_117_method_19_code 1 (some .double) :: ws) ({ frames := 0, cells := 0, slots := 0, locals := 0 } : Room)) (fun a U => a = #[(.ref r0)] ∧ Z.Warmed39 U.vm ∧ U.heap = h0) (fun _ _ _ _ _ => True) (fun _ U o U' => ∃ v L, o = .returned v ∧ Qdd Z r0 vx h0 n0 v U'.heap L ∧ FrameEnd U o U' L ({ frames := 0, cells := 0, slots := 0, locals := 0 } : Room).cells ({ frames := 0, cells := 0, slots := 0, locals := 0 } : Room).slots) := by
  refine MetFree.of_bodySF (plainFor_of_name pn_17) hisR ?_
  intro p e s m args below meth c s₁ Bd hml0 hP hK
  obtain ⟨rfl, hZ, hh⟩ := hP
  have hx := Bd.exec
  have hby := Bd.bytes
  have hml : c.maxLocals = 1 := hml0
  have hown : s.vm.findClass "java/lang/Double" = some m.cls := findClass_of_methodNamed Bd.named
  have hnm := (name_of_methodNamed Bd.named Bd.method).1
  have X0 : Stand p l e ({ frames := 0, cells := 0, slots := 0, locals := 0 } : Room) s m #[(.ref r0)] below meth c s₁ [] 0 0 := Stand.of_body Bd
  have e0 : s₁.heap = h0 := by rw [← hh, Bd.state]; rfl
  have N0 := Fr.nil n0
  have K0 : ∀ t, Steps p.tables e below (s₁.setTop (mkF m 0 #[.val (.ref r0)] [])) t → Steps p.tables e below (s₁.setTop (entryFrame m #[(.ref r0)] 1)) t := fun t k => castTop (ef_dd m r0) k
  generalize s₁.setTop (entryFrame m #[(.ref r0)] 1) = SE at K0 ⊢
  have K1 : own_K p e below SE s₁ (mkF m 1 #[.val (.ref r0)] [(.ref r0)]) := by
    intro t k
    refine K0 _ ?_
    refine XS.aloadN X0.here hx rfl (hb hby d26_0) rfl rfl ?_
    exact k
  obtain ⟨T2, X2, e2, st2⟩ := getF X0 hx hZ hown (host := "") (Or.inl (hw _ (List.mem_of_getElem? (i := 127) rfl))) Via.refl e0 F_v (g := (mkF m 1 #[.val (.ref r0)] [(.ref r0)])) rfl rfl (hb hby d26_1)
  have K2 : own_K p e below SE T2 (mkF m 4 #[.val (.ref r0)] [(.double vx)]) := fun t k => K1 _ (st2 _ k)
  obtain ⟨fs, hr, hrun, hended, hW, hsame⟩ := X2.leave (v := some (.double vx)) (fun h => by rw [Bd.returns] at h; cases h)
  refine ⟨_, _, K2 _ ?_, hrun, hended, _, _, rfl, ?_, ⟨_, rfl⟩, hW, hsame.mono (by decide) (by decide)⟩
  · show Steps p.tables e below (T2.setTop (mkF m 4 #[.val (.ref r0)] [(.double vx)])) _
    jvm_step X2.here [X2.here.top, hx, (hb hby d26_4), X2.method', Bd.returns, narrow]
    first | (intro acts; rw [hr _ acts rfl rfl rfl]) | rw [hr _ _ rfl rfl rfl]
    exact Steps.refl _
  · show Qdd Z r0 vx h0 n0 _ T2.heap _
    rw [e2]
    exact ⟨rfl, N0, rfl⟩
theorem d19_0 : decode jdk_21_method_13_code 0 = .ok (.aload_n 1, 1) := by decide +kernel
theorem d19_1 : decode jdk_21_method_13_code 1 = .ok (.ifnonnull 11, 3) := by decide +kernel
theorem d19_12 : decode jdk_21_method_13_code 12 = .ok (.aload_n 0, 1) := by decide +kernel
theorem d19_13 : decode jdk_21_method_13_code 13 = .ok (.getfield 3, 3) := by decide +kernel
theorem d19_16 : decode jdk_21_method_13_code 16 = .ok (.astore_n 2, 1) := by decide +kernel
theorem d19_17 : decode jdk_21_method_13_code 17 = .ok (.aload_n 2, 1) := by decide +kernel
theorem d19_18 : decode jdk_21_method_13_code 18 = .ok (.aload_n 0, 1) := by decide +kernel
theorem d19_19 : decode jdk_21_method_13_code 19 = .ok (.getfield 20, 3) := by decide +kernel
theorem d19_22 : decode jdk_21_method_13_code 22 = .ok (.aload_n 1, 1) := by decide +kernel
theorem d19_23 : decode jdk_21_method_13_code 23 = .ok (.aastore, 1) := by decide +kernel
theorem d19_24 : decode jdk_21_method_13_code 24 = .ok (.aload_n 0, 1) := by decide +kernel
theorem d19_25 : decode jdk_21_method_13_code 25 = .ok (.getfield 24, 3) := by decide +kernel
theorem d19_28 : decode jdk_21_method_13_code 28 = .ok (.aload_n 0, 1) := by decide +kernel
theorem d19_29 : decode jdk_21_method_13_code 29 = .ok (.aload_n 0, 1) := by decide +kernel
theorem d19_30 : decode jdk_21_method_13_code 30 = .ok (.getfield 20, 3) := by decide +kernel
theorem d19_33 : decode jdk_21_method_13_code 33 = .ok (.aload_n 2, 1) := by decide +kernel
theorem d19_34 : decode jdk_21_method_13_code 34 = .ok (.arraylength, 1) := by decide +kernel
theorem d19_35 : decode jdk_21_method_13_code 35 = .ok (.invokestatic 74, 3) := by decide +kernel
theorem d19_38 : decode jdk_21_method_13_code 38 = .ok (.dup_x1, 1) := by decide +kernel
theorem d19_39 : decode jdk_21_method_13_code 39 = .ok (.putfield 20, 3) := by decide +kernel
theorem d19_42 : decode jdk_21_method_13_code 42 = .ok (.if_icmp .ne 8, 3) := by decide +kernel
theorem d19_50 : decode jdk_21_method_13_code 50 = .ok (.return_, 1) := by decide +kernel
theorem pd_al_0 : parseMethodDescriptor "(II)I" = some ⟨[.int, .int], some .int⟩ := by decide +kernel
theorem ef_al (m : MethodId) (r0 : Addr) (r1 : Addr) : entryFrame m #[(.ref r0), (.ref r1)] 3 = mkF m 0 #[.val (.ref r0), .val (.ref r1), .unset] [] := by first | (simp [entryFrame, mkF, argsToLocals, Value.category]; done) | rfl
def Qal (Z : State) (r0 : Addr) (r1 : Addr) (ea : Addr) (kE : ClassId) (h0 : Heap) (n0 : Nat) (v : Option Value) (h : Heap) (L : List Loc) : Prop := v = none ∧ Fr n0 L ∧ Keep h0 h [r0, ea] ∧ Exa Z h r0 "java/util/ArrayDeque" ∧ Fld Z h r0 "java/util/ArrayDeque" "head" "I" (.int (0 : Int32)) ∧ Fld Z h r0 "java/util/ArrayDeque" "tail" "I" (.int (1 : Int32)) ∧ Fld Z h r0 "java/util/ArrayDeque" "elements" "[Ljava/lang/Object;" (.ref ea) ∧ Arv Z h ea kE (.object "java/lang/Object") (6 : Int32) [(.ref r1), .null, .null, .null, .null, .null] .null
set_option maxRecDepth 65536 in
set_option maxHeartbeats 40000000 in
theorem rmal (l : Launch) (Z : State) (a0 : Array Value) (hw : ∀ d ∈ tables_1, d.before a0 Z = true) (ws : List Jvm.Cond) (r0 : Addr) (r1 : Addr) (ea : Addr) (kE : ClassId) (h0 : Heap) (n0 : Nat) (Z0 : n0 ≤ h0.size) (E_r0 : Exa Z h0 r0 "java/util/ArrayDeque") (E_r1 : Exa Z h0 r1 "java/lang/Double") (F_h : Fld Z h0 r0 "java/util/ArrayDeque" "head" "I" (.int (0 : Int32))) (F_t : Fld Z h0 r0 "java/util/ArrayDeque" "tail" "I" (.int (0 : Int32))) (F_e : Fld Z h0 r0 "java/util/ArrayDeque" "elements" "[Ljava/lang/Object;" (.ref ea)) (V_e : Arv Z h0 ea kE (.object "java/lang/Object") (6 : Int32) [.null, .null, .null, .null, .null, .null] .null) (Ov : Ovr Z kE "java/lang/Object") (g_r0 : n0 ≤ r0) (g_ea : n0 ≤ ea) (n1 : r0 ≠ ea) (n2 : r1 ≠ ea) (n3 : r0 ≠ r1) :
    MetFree l (⟨"java/util/ArrayDeque", "addLast", "(Ljava/lang/Object;)V"⟩ : MethodName) (head1 (Jvm.Cond.code (⟨"java/util/ArrayDeque", "addLast", "(Ljava/lang/Object;)V"⟩ : MethodName) jdk_21_method_13_code 3 none :: ws) ({ frames := 1, cells := 0, slots := 0, locals := 15 } : Room)) (fun a U => a = #[(.ref r0), (.ref r1)] ∧ Z.Warmed39 U.vm ∧ U.heap = h0) (fun _ _ _ _ _ => True) (fun _ U o U' => ∃ v L, o = .returned v ∧ Qal Z r0 r1 ea kE h0 n0 v U'.heap L ∧ FrameEnd U o U' L ({ frames := 1, cells := 0, slots := 0, locals := 15 } : Room).cells ({ frames := 1, cells := 0, slots := 0, locals := 15 } : Room).slots) := by
  refine MetFree.of_bodySF (plainFor_of_name pn_15) hisR ?_
  intro p e s m args below meth c s₁ Bd hml0 hP hK
  obtain ⟨rfl, hZ, hh⟩ := hP
  have hx := Bd.exec
  have hby := Bd.bytes
  have hml : c.maxLocals = 3 := hml0
  have hown : s.vm.findClass "java/util/ArrayDeque" = some m.cls := findClass_of_methodNamed Bd.named
  have hnm := (name_of_methodNamed Bd.named Bd.method).1
  have X0 : Stand p l e ({ frames := 1, cells := 0, slots := 0, locals := 15 } : Room) s m #[(.ref r0), (.ref r1)] below meth c s₁ [] 0 0 := Stand.of_body Bd
  have e0 : s₁.heap = h0 := by rw [← hh, Bd.state]; rfl
  have N0 := Fr.nil n0
  have K0 : ∀ t, Steps p.tables e below (s₁.setTop (mkF m 0 #[.val (.ref r0), .val (.ref r1), .unset] [])) t → Steps p.tables e below (s₁.setTop (entryFrame m #[(.ref r0), (.ref r1)] 3)) t := fun t k => castTop (ef_al m r0 r1) k
  generalize s₁.setTop (entryFrame m #[(.ref r0), (.ref r1)] 3) = SE at K0 ⊢
  have K1 : own_K p e below SE s₁ (mkF m 13 #[.val (.ref r0), .val (.ref r1), .unset] [(.ref r0)]) := by
    intro t k
    refine K0 _ ?_
    refine XS.aloadN X0.here hx rfl (hb hby d19_0) rfl rfl ?_
    show own_S p e below s₁ (mkF m 1 #[.val (.ref r0), .val (.ref r1), .unset] [(.ref r1)]) _
    refine XS.ifnonnullYes X0.here hx rfl (pc0 := 1) (pc' := 12) rfl (hb hby d19_1) rfl (by decide) (by decide) ?_
    show own_S p e below s₁ (mkF m 12 #[.val (.ref r0), .val (.ref r1), .unset] []) _
    refine XS.aloadN X0.here hx rfl (hb hby d19_12) rfl rfl ?_
    exact k
  obtain ⟨T2, X2, e2, st2⟩ := getF X0 hx hZ hown (host := "") (Or.inl (hw _ (List.mem_of_getElem? (i := 25) rfl))) Via.refl e0 F_e (g := (mkF m 13 #[.val (.ref r0), .val (.ref r1), .unset] [(.ref r0)])) rfl rfl (hb hby d19_13)
  have K2 : own_K p e below SE T2 (mkF m 16 #[.val (.ref r0), .val (.ref r1), .unset] [(.ref ea)]) := fun t k => K1 _ (st2 _ k)
  have K3 : own_K p e below SE T2 (mkF m 19 #[.val (.ref r0), .val (.ref r1), .val (.ref ea)] [(.ref r0), (.ref ea)]) := by
    intro t k
    refine K2 _ ?_
    refine XS.astoreN X2.here hx rfl (hb hby d19_16) rfl rfl (l' := #[.val (.ref r0), .val (.ref r1), .val (.ref ea)]) rfl ?_
    show own_S p e below T2 (mkF m 17 #[.val (.ref r0), .val (.ref r1), .val (.ref ea)] []) _
    refine XS.aloadN X2.here hx rfl (hb hby d19_17) rfl rfl ?_
    show own_S p e below T2 (mkF m 18 #[.val (.ref r0), .val (.ref r1), .val (.ref ea)] [(.ref ea)]) _
    refine XS.aloadN X2.here hx rfl (hb hby d19_18) rfl rfl ?_
    exact k
  obtain ⟨T4, X4, e4, st4⟩ := getF X2 hx hZ hown (host := "") (Or.inl (hw _ (List.mem_of_getElem? (i := 103) rfl))) Via.refl e2 F_t (g := (mkF m 19 #[.val (.ref r0), .val (.ref r1), .val (.ref ea)] [(.ref r0), (.ref ea)])) rfl rfl (hb hby d19_19)
  have K4 : own_K p e below SE T4 (mkF m 22 #[.val (.ref r0), .val (.ref r1), .val (.ref ea)] [(.int (0 : Int32)), (.ref ea)]) := fun t k => K3 _ (st4 _ k)
  have K5 : own_K p e below SE T4 (mkF m 23 #[.val (.ref r0), .val (.ref r1), .val (.ref ea)] [(.ref r1), (.int (0 : Int32)), (.ref ea)]) := by
    intro t k
    refine K4 _ ?_
    refine XS.aloadN X4.here hx rfl (hb hby d19_22) rfl rfl ?_
    exact k
  obtain ⟨cl6, Ar6, qk6, S6, Ng6, Hh6, Gg6⟩ := id V_e
  have hin6 : ¬ ((0 : Int32) < 0 ∨ cl6.slots.size ≤ ((0 : Int32)).toNatClampNeg) := inb_of S6 ⟨by decide, by decide⟩
  obtain ⟨T7, h7, X7, e7, W7, st7⟩ := stR X4 hx hZ e4 Ar6 (j := (0 : Int32)) hin6 rfl (Sto.ofV Ar6 qk6 Ov (Ins.of_exa E_r1 (hw _ (List.mem_of_getElem? (i := 137) rfl)))) (g := (mkF m 23 #[.val (.ref r0), .val (.ref r1), .val (.ref ea)] [(.ref r1), (.int (0 : Int32)), (.ref ea)])) rfl rfl (hb hby d19_23)
  have V7 : Arv Z h7 ea kE (.object "java/lang/Object") (6 : Int32) [(.ref r1), .null, .null, .null, .null, .null] .null := Arv.set Ar6 qk6 S6 Ng6 Hh6 Gg6 rfl W7 0 rfl (Nat.le_of_ble_eq_true rfl)
  have N7 := Fr.snoc X7 N0 g_ea
  have Kp7 : Keep h0 h7 [r0, ea] := Keep.wr (Keep.refl h0 [r0, ea]) W7 (Or.inl (List.mem_of_getElem? (i := 1) rfl))
  have K7 : own_K p e below SE T7 (mkF m 24 #[.val (.ref r0), .val (.ref r1), .val (.ref ea)] []) := fun t k => K5 _ (st7 _ k)
  have K8 : own_K p e below SE T7 (mkF m 25 #[.val (.ref r0), .val (.ref r1), .val (.ref ea)] [(.ref r0)]) := by
    intro t k
    refine K7 _ ?_
    refine XS.aloadN X7.here hx rfl (hb hby d19_24) rfl rfl ?_
    exact k
  obtain ⟨T9, X9, e9, st9⟩ := getF X7 hx hZ hown (host := "") (Or.inl (hw _ (List.mem_of_getElem? (i := 105) rfl))) Via.refl e7 (F_h.other W7 (Or.inl n1)) (g := (mkF m 25 #[.val (.ref r0), .val (.ref r1), .val (.ref ea)] [(.ref r0)])) rfl rfl (hb hby d19_25)
  have K9 : own_K p e below SE T9 (mkF m 28 #[.val (.ref r0), .val (.ref r1), .val (.ref ea)] [(.int (0 : Int32))]) := fun t k => K8 _ (st9 _ k)
  have K10 : own_K p e below SE T9 (mkF m 30 #[.val (.ref r0), .val (.ref r1), .val (.ref ea)] [(.ref r0), (.ref r0), (.int (0 : Int32))]) := by
    intro t k
    refine K9 _ ?_
    refine XS.aloadN X9.here hx rfl (hb hby d19_28) rfl rfl ?_
    show own_S p e below T9 (mkF m 29 #[.val (.ref r0), .val (.ref r1), .val (.ref ea)] [(.ref r0), (.int (0 : Int32))]) _
    refine XS.aloadN X9.here hx rfl (hb hby d19_29) rfl rfl ?_
    exact k
  obtain ⟨T11, X11, e11, st11⟩ := getF X9 hx hZ hown (host := "") (Or.inl (hw _ (List.mem_of_getElem? (i := 103) rfl))) Via.refl e9 (F_t.other W7 (Or.inl n1)) (g := (mkF m 30 #[.val (.ref r0), .val (.ref r1), .val (.ref ea)] [(.ref r0), (.ref r0), (.int (0 : Int32))])) rfl rfl (hb hby d19_30)
  have K11 : own_K p e below SE T11 (mkF m 33 #[.val (.ref r0), .val (.ref r1), .val (.ref ea)] [(.int (0 : Int32)), (.ref r0), (.int (0 : Int32))]) := fun t k => K10 _ (st11 _ k)
  have K12 : own_K p e below SE T11 (mkF m 34 #[.val (.ref r0), .val (.ref r1), .val (.ref ea)] [(.ref ea), (.int (0 : Int32)), (.ref r0), (.int (0 : Int32))]) := by
    intro t k
    refine K11 _ ?_
    refine XS.aloadN X11.here hx rfl (hb hby d19_33) rfl rfl ?_
    exact k
  obtain ⟨cl13, Ar13, -, S13, Ng13, -, -⟩ := id V7
  have K14 : own_K p e below SE T11 (mkF m 35 #[.val (.ref r0), .val (.ref r1), .val (.ref ea)] [(.int (6 : Int32)), (.int (0 : Int32)), (.ref r0), (.int (0 : Int32))]) := by
    intro t k
    refine K12 _ ?_
    refine X11.arraylength hx (by rw [e11]; exact Ar13.1) (State.isArrayOf_alike hZ.alike Ar13.2.1) (g := (mkF m 34 #[.val (.ref r0), .val (.ref r1), .val (.ref ea)] [(.ref ea), (.int (0 : Int32)), (.ref r0), (.int (0 : Int32))])) rfl rfl (hb hby d19_34) _ ?_
    rw [len_of S13 Ng13]
    exact k
  obtain ⟨_, _, ⟨T15, L15, k15, n15⟩, -, X15, ⟨Lc15, hQ15, l15, y15, z15⟩, st15⟩ := Jvm.LawKit.callS X11 hx (y := (⟨"java/util/ArrayDeque", "inc", "(II)I"⟩ : MethodName)) hown (mvT hZ (hw _ (List.mem_of_getElem? (i := 138) rfl))) (mvT hZ (hw _ (List.mem_of_getElem? (i := 139) rfl))) (mvT hZ (hw _ (List.mem_of_getElem? (i := 11) rfl))) (mvT hZ (hw _ (List.mem_of_getElem? (i := 140) rfl))) (by decide) (backOf (W := 2) (rminc l Z a0 hw [] h7 n0 (Nat.le_trans Z0 Kp7.1)) hZ (hw _ (List.mem_of_getElem? (i := 140) rfl)) (hw _ (List.mem_of_getElem? (i := 11) rfl)) (by decide) (by decide)) (g := (mkF m 35 #[.val (.ref r0), .val (.ref r1), .val (.ref ea)] [(.int (6 : Int32)), (.int (0 : Int32)), (.ref r0), (.int (0 : Int32))])) rfl (by rw [hml]; rfl) (argsL := [(.int (0 : Int32)), (.int (6 : Int32))]) (rest := [(.ref r0), (.int (0 : Int32))]) (lenOf pd_al_0 rfl) rfl (by show 2 * 0 + _ ≤ _; exact Nat.le_of_eq rfl) (hb hby d19_35) (fun _ _ => ⟨rfl, e11, (by decide : 0 + 0 ≤ _), (by decide : 0 + 0 ≤ _)⟩)
  dsimp only [Pt.U, Pt.locs, Pt.cells, Pt.slots] at X15 l15 y15 z15 st15 hQ15
  rw [y15, z15] at X15
  obtain ⟨rfl, Nq15, e15⟩ := hQ15
  have N15 : Fr n0 L15 := by rw [l15]; exact Fr.app N7 Nq15
  have K15 : own_K p e below SE T15 (mkF m 38 #[.val (.ref r0), .val (.ref r1), .val (.ref ea)] [(.int (1 : Int32)), (.ref r0), (.int (0 : Int32))]) := fun t k => K14 _ (st15 _ k)
  have K16 : own_K p e below SE T15 (mkF m 39 #[.val (.ref r0), .val (.ref r1), .val (.ref ea)] [(.int (1 : Int32)), (.ref r0), (.int (1 : Int32)), (.int (0 : Int32))]) := by
    intro t k
    refine K15 _ ?_
    refine XS.dupX1 X15.here hx rfl (hb hby d19_38) rfl rfl rfl ?_
    exact k
  obtain ⟨T17, h17, X17, e17, W17, st17⟩ := putF X15 hx hZ hown (host := "") (Or.inl (hw _ (List.mem_of_getElem? (i := 103) rfl))) Via.refl e15 (F_t.other W7 (Or.inl n1)) (E_r0.wr W7) (Or.inl (hw _ (List.mem_of_getElem? (i := 104) rfl))) (hw _ (List.mem_of_getElem? (i := 10) rfl)) (ty := .int) (by decide) rfl rfl (g := (mkF m 39 #[.val (.ref r0), .val (.ref r1), .val (.ref ea)] [(.int (1 : Int32)), (.ref r0), (.int (1 : Int32)), (.int (0 : Int32))])) rfl rfl (hb hby d19_39)
  have Fw17 := Fld.same W17 (F_t.other W7 (Or.inl n1))
  have N17 := Fr.snoc X17 N15 g_r0
  have Kp17 : Keep h0 h17 [r0, ea] := Keep.wr Kp7 W17 (Or.inl (List.mem_of_getElem? (i := 0) rfl))
  have K17 : own_K p e below SE T17 (mkF m 42 #[.val (.ref r0), .val (.ref r1), .val (.ref ea)] [(.int (1 : Int32)), (.int (0 : Int32))]) := fun t k => K16 _ (st17 _ k)
  have K18 : own_K p e below SE T17 (mkF m 50 #[.val (.ref r0), .val (.ref r1), .val (.ref ea)] []) := by
    intro t k
    refine K17 _ ?_
    refine XS.icmpYes X17.here hx rfl (pc0 := 42) (pc' := 50) rfl (hb hby d19_42) rfl (XT.ii_ne_t (by decide : ¬ ((0 : Int32) = (1 : Int32)))) (by decide) (by decide) ?_
    exact k
  obtain ⟨fs, hr, hrun, hended, hW, hsame⟩ := X17.leave (v := none) (fun _ => rfl)
  refine ⟨_, _, K18 _ ?_, hrun, hended, _, _, rfl, ?_, ⟨_, rfl⟩, hW, hsame.mono (by decide) (by decide)⟩
  · exact X17.returnOut hx Bd.returns (hb hby d19_50) hr
  · show Qal Z r0 r1 ea kE h0 n0 _ T17.heap _
    rw [e17]
    exact ⟨rfl, N17, Kp17, ((E_r0.wr W7).wr W17), ((F_h.other W7 (Or.inl n1)).other W17 (Or.inr (slot_ne (Or.inl (hw _ (List.mem_of_getElem? (i := 106) rfl))) (Or.inl (hw _ (List.mem_of_getElem? (i := 104) rfl))) (by decide) (t := .int) (t' := .int) (by decide) (by decide)))), Fw17, ((F_e.other W7 (Or.inl n1)).other W17 (Or.inr (slot_ne (Or.inl (hw _ (List.mem_of_getElem? (i := 26) rfl))) (Or.inl (hw _ (List.mem_of_getElem? (i := 104) rfl))) (by decide) (t := (.array (.object "java/lang/Object"))) (t' := .int) (by decide) (by decide)))), (V7.other W17 (Ne.symm n1))⟩
theorem d22_0 : decode jdk_54_method_1_code 0 = .ok (.aload_n 0, 1) := by decide +kernel
theorem d22_1 : decode jdk_54_method_1_code 1 = .ok (.aload_n 1, 1) := by decide +kernel
theorem d22_2 : decode jdk_54_method_1_code 2 = .ok (.putfield 1, 3) := by decide +kernel
theorem d22_5 : decode jdk_54_method_1_code 5 = .ok (.aload_n 0, 1) := by decide +kernel
theorem d22_6 : decode jdk_54_method_1_code 6 = .ok (.invokespecial 7, 3) := by decide +kernel
theorem d22_9 : decode jdk_54_method_1_code 9 = .ok (.aload_n 0, 1) := by decide +kernel
theorem d22_10 : decode jdk_54_method_1_code 10 = .ok (.aload_n 0, 1) := by decide +kernel
theorem d22_11 : decode jdk_54_method_1_code 11 = .ok (.getfield 1, 3) := by decide +kernel
theorem d22_14 : decode jdk_54_method_1_code 14 = .ok (.invokevirtual 13, 3) := by decide +kernel
theorem d22_17 : decode jdk_54_method_1_code 17 = .ok (.putfield 19, 3) := by decide +kernel
theorem d22_20 : decode jdk_54_method_1_code 20 = .ok (.aload_n 0, 1) := by decide +kernel
theorem d22_21 : decode jdk_54_method_1_code 21 = .ok (.iconst (-1), 1) := by decide +kernel
theorem d22_22 : decode jdk_54_method_1_code 22 = .ok (.putfield 23, 3) := by decide +kernel
theorem d22_25 : decode jdk_54_method_1_code 25 = .ok (.aload_n 0, 1) := by decide +kernel
theorem d22_26 : decode jdk_54_method_1_code 26 = .ok (.aload_n 1, 1) := by decide +kernel
theorem d22_27 : decode jdk_54_method_1_code 27 = .ok (.getfield 26, 3) := by decide +kernel
theorem d22_30 : decode jdk_54_method_1_code 30 = .ok (.putfield 29, 3) := by decide +kernel
theorem d22_33 : decode jdk_54_method_1_code 33 = .ok (.return_, 1) := by decide +kernel
theorem pn_22 : plainName "java/util/ArrayDeque$DeqIterator" = true := by first | (simp [plainName, overriddenIn]; done) | decide +kernel
theorem pd_ii_0 : parseMethodDescriptor "()I" = some ⟨[], some .int⟩ := by decide +kernel
theorem ef_ii (m : MethodId) (r0 : Addr) (r1 : Addr) : entryFrame m #[(.ref r0), (.ref r1)] 2 = mkF m 0 #[.val (.ref r0), .val (.ref r1)] [] := by first | (simp [entryFrame, mkF, argsToLocals, Value.category]; done) | rfl
def Qii (Z : State) (r0 : Addr) (r1 : Addr) (ea : Addr) (kE : ClassId) (w : Addr) (h0 : Heap) (n0 : Nat) (v : Option Value) (h : Heap) (L : List Loc) : Prop := v = none ∧ Fr n0 L ∧ Keep h0 h [r0] ∧ Exa Z h r0 "java/util/ArrayDeque$DeqIterator" ∧ Fld Z h r0 "java/util/ArrayDeque$DeqIterator" "this$0" "Ljava/util/ArrayDeque;" (.ref r1) ∧ Fld Z h r0 "java/util/ArrayDeque$DeqIterator" "remaining" "I" (.int (1 : Int32)) ∧ Fld Z h r0 "java/util/ArrayDeque$DeqIterator" "lastRet" "I" (.int (-1 : Int32)) ∧ Fld Z h r0 "java/util/ArrayDeque$DeqIterator" "cursor" "I" (.int (0 : Int32))
set_option maxRecDepth 65536 in
set_option maxHeartbeats 40000000 in
theorem rmii (l : Launch) (Z : State) (a0 : Array Value) (hw : ∀ d ∈ tables_1, d.before a0 Z = true) (ws : List Jvm.Cond) (r0 : Addr) (r1 : Addr) (ea : Addr) (kE : ClassId) (w : Addr) (h0 : Heap) (n0 : Nat) (Z0 : n0 ≤ h0.size) (E_r0 : Exa Z h0 r0 "java/util/ArrayDeque$DeqIterator") (I_0 : Fld Z h0 r0 "java/util/ArrayDeque$DeqIterator" "this$0" "Ljava/util/ArrayDeque;" .null) (I_1 : Fld Z h0 r0 "java/util/ArrayDeque$DeqIterator" "remaining" "I" (.int (0 : Int32))) (I_2 : Fld Z h0 r0 "java/util/ArrayDeque$DeqIterator" "lastRet" "I" (.int (0 : Int32))) (I_3 : Fld Z h0 r0 "java/util/ArrayDeque$DeqIterator" "cursor" "I" (.int (0 : Int32))) (E_d : Exa Z h0 r1 "java/util/ArrayDeque") (F_h : Fld Z h0 r1 "java/util/ArrayDeque" "head" "I" (.int (0 : Int32))) (F_t : Fld Z h0 r1 "java/util/ArrayDeque" "tail" "I" (.int (1 : Int32))) (F_e : Fld Z h0 r1 "java/util/ArrayDeque" "elements" "[Ljava/lang/Object;" (.ref ea)) (V_e : Arv Z h0 ea kE (.object "java/lang/Object") (6 : Int32) [(.ref w), .null, .null, .null, .null, .null] .null) (g_r0 : n0 ≤ r0) (n1 : r0 ≠ r1) (n2 : r0 ≠ ea) :
    MetFree l (⟨"java/util/ArrayDeque$DeqIterator", "<init>", "(Ljava/util/ArrayDeque;)V"⟩ : MethodName) (head1 (Jvm.Cond.code (⟨"java/util/ArrayDeque$DeqIterator", "<init>", "(Ljava/util/ArrayDeque;)V"⟩ : MethodName) jdk_54_method_1_code 2 none :: ws) ({ frames := 2, cells := 0, slots := 0, locals := 27 } : Room)) (fun a U => a = #[(.ref r0), (.ref r1)] ∧ Z.Warmed39 U.vm ∧ U.heap = h0) (fun _ _ _ _ _ => True) (fun _ U o U' => ∃ v L, o = .returned v ∧ Qii Z r0 r1 ea kE w h0 n0 v U'.heap L ∧ FrameEnd U o U' L ({ frames := 2, cells := 0, slots := 0, locals := 27 } : Room).cells ({ frames := 2, cells := 0, slots := 0, locals := 27 } : Room).slots) := by
  refine MetFree.of_bodySF (plainFor_of_name pn_22) hisR ?_
  intro p e s m args below meth c s₁ Bd hml0 hP hK
  obtain ⟨rfl, hZ, hh⟩ := hP
  have hx := Bd.exec
  have hby := Bd.bytes
  have hml : c.maxLocals = 2 := hml0
  have hown : s.vm.findClass "java/util/ArrayDeque$DeqIterator" = some m.cls := findClass_of_methodNamed Bd.named
  have hnm := (name_of_methodNamed Bd.named Bd.method).1
  have X0 : Stand p l e ({ frames := 2, cells := 0, slots := 0, locals := 27 } : Room) s m #[(.ref r0), (.ref r1)] below meth c s₁ [] 0 0 := Stand.of_body Bd
  have e0 : s₁.heap = h0 := by rw [← hh, Bd.state]; rfl
  have N0 := Fr.nil n0
  have K0 : ∀ t, Steps p.tables e below (s₁.setTop (mkF m 0 #[.val (.ref r0), .val (.ref r1)] [])) t → Steps p.tables e below (s₁.setTop (entryFrame m #[(.ref r0), (.ref r1)] 2)) t := fun t k => castTop (ef_ii m r0 r1) k
  generalize s₁.setTop (entryFrame m #[(.ref r0), (.ref r1)] 2) = SE at K0 ⊢
  have K1 : own_K p e below SE s₁ (mkF m 2 #[.val (.ref r0), .val (.ref r1)] [(.ref r1), (.ref r0)]) := by
    intro t k
    refine K0 _ ?_
    refine XS.aloadN X0.here hx rfl (hb hby d22_0) rfl rfl ?_
    show own_S p e below s₁ (mkF m 1 #[.val (.ref r0), .val (.ref r1)] [(.ref r0)]) _
    refine XS.aloadN X0.here hx rfl (hb hby d22_1) rfl rfl ?_
    exact k
  obtain ⟨T2, h2, X2, e2, W2, st2⟩ := putF X0 hx hZ hown (host := "") (Or.inl (hw _ (List.mem_of_getElem? (i := 156) rfl))) Via.refl e0 I_0 E_r0 (Or.inr ⟨(hw _ (List.mem_of_getElem? (i := 157) rfl)), rfl, hnm⟩) (hw _ (List.mem_of_getElem? (i := 150) rfl)) (ty := (.object "java/util/ArrayDeque")) (by decide) rfl rfl (g := (mkF m 2 #[.val (.ref r0), .val (.ref r1)] [(.ref r1), (.ref r0)])) rfl rfl (hb hby d22_2)
  have Fw2 := Fld.same W2 I_0
  have N2 := Fr.snoc X2 N0 g_r0
  have Kp2 : Keep h0 h2 [r0] := Keep.wr (Keep.refl h0 [r0]) W2 (Or.inl (List.mem_of_getElem? (i := 0) rfl))
  have K2 : own_K p e below SE T2 (mkF m 5 #[.val (.ref r0), .val (.ref r1)] []) := fun t k => K1 _ (st2 _ k)
  have K3 : own_K p e below SE T2 (mkF m 6 #[.val (.ref r0), .val (.ref r1)] [(.ref r0)]) := by
    intro t k
    refine K2 _ ?_
    refine XS.aloadN X2.here hx rfl (hb hby d22_5) rfl rfl ?_
    exact k
  obtain ⟨T4, X4, e4, st4⟩ := initO X2 hx hZ hown (hw _ (List.mem_of_getElem? (i := 158) rfl)) (hw _ (List.mem_of_getElem? (i := 7) rfl)) (hw _ (List.mem_of_getElem? (i := 8) rfl)) e2 (g := (mkF m 6 #[.val (.ref r0), .val (.ref r1)] [(.ref r0)])) rfl (by rw [hml]; rfl) rfl (hb hby d22_6) (by decide) (W := 0) (by show 2 * 0 + _ ≤ _; exact Nat.le_of_eq rfl) (by decide)
  have K4 : own_K p e below SE T4 (mkF m 9 #[.val (.ref r0), .val (.ref r1)] []) := fun t k => K3 _ (st4 _ k)
  have K5 : own_K p e below SE T4 (mkF m 11 #[.val (.ref r0), .val (.ref r1)] [(.ref r0), (.ref r0)]) := by
    intro t k
    refine K4 _ ?_
    refine XS.aloadN X4.here hx rfl (hb hby d22_9) rfl rfl ?_
    show own_S p e below T4 (mkF m 10 #[.val (.ref r0), .val (.ref r1)] [(.ref r0)]) _
    refine XS.aloadN X4.here hx rfl (hb hby d22_10) rfl rfl ?_
    exact k
  obtain ⟨T6, X6, e6, st6⟩ := getF X4 hx hZ hown (host := "") (Or.inl (hw _ (List.mem_of_getElem? (i := 156) rfl))) Via.refl e4 Fw2 (g := (mkF m 11 #[.val (.ref r0), .val (.ref r1)] [(.ref r0), (.ref r0)])) rfl rfl (hb hby d22_11)
  have K6 : own_K p e below SE T6 (mkF m 14 #[.val (.ref r0), .val (.ref r1)] [(.ref r1), (.ref r0)]) := fun t k => K5 _ (st6 _ k)
  obtain ⟨cq7, kq7, q7a, q7b, q7c⟩ := isOf hZ e6 (E_d.wr W2)
  obtain ⟨_, _, ⟨T7, L7, k7, n7⟩, -, X7, ⟨Lc7, hQ7, l7, y7, z7⟩, st7⟩ := X6.virtualBack hx (y := (⟨"java/util/ArrayDeque", "size", "()I"⟩ : MethodName)) (z := (⟨"java/util/ArrayDeque", "size", "()I"⟩ : MethodName)) hown (mvT hZ (hw _ (List.mem_of_getElem? (i := 159) rfl))) (mvT hZ (hw _ (List.mem_of_getElem? (i := 160) rfl))) (notFace_of_selects (args := #[]) (mvT hZ (hw _ (List.mem_of_getElem? (i := 161) rfl)))) (mvT hZ (hw _ (List.mem_of_getElem? (i := 161) rfl))) (mvT hZ (hw _ (List.mem_of_getElem? (i := 98) rfl))) (by decide) (backOf (W := 1) (rmsize1 l Z a0 hw [] r1 ea kE w h2 n0 (Nat.le_trans Z0 Kp2.1) (F_h.other W2 (Or.inl (Ne.symm n1))) (F_t.other W2 (Or.inl (Ne.symm n1))) (F_e.other W2 (Or.inl (Ne.symm n1))) (V_e.other W2 (Ne.symm n2))) hZ (hw _ (List.mem_of_getElem? (i := 102) rfl)) (hw _ (List.mem_of_getElem? (i := 11) rfl)) (by decide) (by decide)) q7a q7c (g := (mkF m 14 #[.val (.ref r0), .val (.ref r1)] [(.ref r1), (.ref r0)])) rfl (by rw [hml]; rfl) (Steps.refl _) (argsL := []) (rest := [(.ref r0)]) (lenOf pd_ii_0 rfl) rfl (by show 2 * 0 + _ ≤ _; exact Nat.le_of_eq rfl) (hb hby d22_14) (fun _ _ => ⟨rfl, e6, (by decide : 0 + 0 ≤ _), (by decide : 0 + 0 ≤ _)⟩)
  dsimp only [Pt.U, Pt.locs, Pt.cells, Pt.slots] at X7 l7 y7 z7 st7 hQ7
  rw [y7, z7] at X7
  obtain ⟨rfl, Nq7, e7⟩ := hQ7
  have N7 : Fr n0 L7 := by rw [l7]; exact Fr.app N2 Nq7
  have K7 : own_K p e below SE T7 (mkF m 17 #[.val (.ref r0), .val (.ref r1)] [(.int (1 : Int32)), (.ref r0)]) := fun t k => K6 _ (st7.trans k)
  obtain ⟨T8, h8, X8, e8, W8, st8⟩ := putF X7 hx hZ hown (host := "") (Or.inl (hw _ (List.mem_of_getElem? (i := 162) rfl))) Via.refl e7 (I_1.other W2 (Or.inr (slot_ne (Or.inl (hw _ (List.mem_of_getElem? (i := 163) rfl))) (Or.inr (hw _ (List.mem_of_getElem? (i := 157) rfl))) (by decide) (t := .int) (t' := (.object "java/util/ArrayDeque")) (by decide) (by decide)))) (E_r0.wr W2) (Or.inl (hw _ (List.mem_of_getElem? (i := 163) rfl))) (hw _ (List.mem_of_getElem? (i := 150) rfl)) (ty := .int) (by decide) rfl rfl (g := (mkF m 17 #[.val (.ref r0), .val (.ref r1)] [(.int (1 : Int32)), (.ref r0)])) rfl rfl (hb hby d22_17)
  have Fw8 := Fld.same W8 (I_1.other W2 (Or.inr (slot_ne (Or.inl (hw _ (List.mem_of_getElem? (i := 163) rfl))) (Or.inr (hw _ (List.mem_of_getElem? (i := 157) rfl))) (by decide) (t := .int) (t' := (.object "java/util/ArrayDeque")) (by decide) (by decide))))
  have N8 := Fr.snoc X8 N7 g_r0
  have Kp8 : Keep h0 h8 [r0] := Keep.wr Kp2 W8 (Or.inl (List.mem_of_getElem? (i := 0) rfl))
  have K8 : own_K p e below SE T8 (mkF m 20 #[.val (.ref r0), .val (.ref r1)] []) := fun t k => K7 _ (st8 _ k)
  have K9 : own_K p e below SE T8 (mkF m 22 #[.val (.ref r0), .val (.ref r1)] [(.int (-1 : Int32)), (.ref r0)]) := by
    intro t k
    refine K8 _ ?_
    refine XS.aloadN X8.here hx rfl (hb hby d22_20) rfl rfl ?_
    show own_S p e below T8 (mkF m 21 #[.val (.ref r0), .val (.ref r1)] [(.ref r0)]) _
    refine XS.iconst X8.here hx rfl (hb hby d22_21) ?_
    exact k
  obtain ⟨T10, h10, X10, e10, W10, st10⟩ := putF X8 hx hZ hown (host := "") (Or.inl (hw _ (List.mem_of_getElem? (i := 164) rfl))) Via.refl e8 ((I_2.other W2 (Or.inr (slot_ne (Or.inl (hw _ (List.mem_of_getElem? (i := 165) rfl))) (Or.inr (hw _ (List.mem_of_getElem? (i := 157) rfl))) (by decide) (t := .int) (t' := (.object "java/util/ArrayDeque")) (by decide) (by decide)))).other W8 (Or.inr (slot_ne (Or.inl (hw _ (List.mem_of_getElem? (i := 165) rfl))) (Or.inl (hw _ (List.mem_of_getElem? (i := 163) rfl))) (by decide) (t := .int) (t' := .int) (by decide) (by decide)))) ((E_r0.wr W2).wr W8) (Or.inl (hw _ (List.mem_of_getElem? (i := 165) rfl))) (hw _ (List.mem_of_getElem? (i := 150) rfl)) (ty := .int) (by decide) rfl rfl (g := (mkF m 22 #[.val (.ref r0), .val (.ref r1)] [(.int (-1 : Int32)), (.ref r0)])) rfl rfl (hb hby d22_22)
  have Fw10 := Fld.same W10 ((I_2.other W2 (Or.inr (slot_ne (Or.inl (hw _ (List.mem_of_getElem? (i := 165) rfl))) (Or.inr (hw _ (List.mem_of_getElem? (i := 157) rfl))) (by decide) (t := .int) (t' := (.object "java/util/ArrayDeque")) (by decide) (by decide)))).other W8 (Or.inr (slot_ne (Or.inl (hw _ (List.mem_of_getElem? (i := 165) rfl))) (Or.inl (hw _ (List.mem_of_getElem? (i := 163) rfl))) (by decide) (t := .int) (t' := .int) (by decide) (by decide))))
  have N10 := Fr.snoc X10 N8 g_r0
  have Kp10 : Keep h0 h10 [r0] := Keep.wr Kp8 W10 (Or.inl (List.mem_of_getElem? (i := 0) rfl))
  have K10 : own_K p e below SE T10 (mkF m 25 #[.val (.ref r0), .val (.ref r1)] []) := fun t k => K9 _ (st10 _ k)
  have K11 : own_K p e below SE T10 (mkF m 27 #[.val (.ref r0), .val (.ref r1)] [(.ref r1), (.ref r0)]) := by
    intro t k
    refine K10 _ ?_
    refine XS.aloadN X10.here hx rfl (hb hby d22_25) rfl rfl ?_
    show own_S p e below T10 (mkF m 26 #[.val (.ref r0), .val (.ref r1)] [(.ref r0)]) _
    refine XS.aloadN X10.here hx rfl (hb hby d22_26) rfl rfl ?_
    exact k
  obtain ⟨T12, X12, e12, st12⟩ := getF X10 hx hZ hown (host := "") (Or.inl (hw _ (List.mem_of_getElem? (i := 166) rfl))) Via.refl e10 (((F_h.other W2 (Or.inl (Ne.symm n1))).other W8 (Or.inl (Ne.symm n1))).other W10 (Or.inl (Ne.symm n1))) (g := (mkF m 27 #[.val (.ref r0), .val (.ref r1)] [(.ref r1), (.ref r0)])) rfl rfl (hb hby d22_27)
  have K12 : own_K p e below SE T12 (mkF m 30 #[.val (.ref r0), .val (.ref r1)] [(.int (0 : Int32)), (.ref r0)]) := fun t k => K11 _ (st12 _ k)
  obtain ⟨T13, h13, X13, e13, W13, st13⟩ := putF X12 hx hZ hown (host := "") (Or.inl (hw _ (List.mem_of_getElem? (i := 167) rfl))) Via.refl e12 (((I_3.other W2 (Or.inr (slot_ne (Or.inl (hw _ (List.mem_of_getElem? (i := 168) rfl))) (Or.inr (hw _ (List.mem_of_getElem? (i := 157) rfl))) (by decide) (t := .int) (t' := (.object "java/util/ArrayDeque")) (by decide) (by decide)))).other W8 (Or.inr (slot_ne (Or.inl (hw _ (List.mem_of_getElem? (i := 168) rfl))) (Or.inl (hw _ (List.mem_of_getElem? (i := 163) rfl))) (by decide) (t := .int) (t' := .int) (by decide) (by decide)))).other W10 (Or.inr (slot_ne (Or.inl (hw _ (List.mem_of_getElem? (i := 168) rfl))) (Or.inl (hw _ (List.mem_of_getElem? (i := 165) rfl))) (by decide) (t := .int) (t' := .int) (by decide) (by decide)))) (((E_r0.wr W2).wr W8).wr W10) (Or.inl (hw _ (List.mem_of_getElem? (i := 168) rfl))) (hw _ (List.mem_of_getElem? (i := 150) rfl)) (ty := .int) (by decide) rfl rfl (g := (mkF m 30 #[.val (.ref r0), .val (.ref r1)] [(.int (0 : Int32)), (.ref r0)])) rfl rfl (hb hby d22_30)
  have Fw13 := Fld.same W13 (((I_3.other W2 (Or.inr (slot_ne (Or.inl (hw _ (List.mem_of_getElem? (i := 168) rfl))) (Or.inr (hw _ (List.mem_of_getElem? (i := 157) rfl))) (by decide) (t := .int) (t' := (.object "java/util/ArrayDeque")) (by decide) (by decide)))).other W8 (Or.inr (slot_ne (Or.inl (hw _ (List.mem_of_getElem? (i := 168) rfl))) (Or.inl (hw _ (List.mem_of_getElem? (i := 163) rfl))) (by decide) (t := .int) (t' := .int) (by decide) (by decide)))).other W10 (Or.inr (slot_ne (Or.inl (hw _ (List.mem_of_getElem? (i := 168) rfl))) (Or.inl (hw _ (List.mem_of_getElem? (i := 165) rfl))) (by decide) (t := .int) (t' := .int) (by decide) (by decide))))
  have N13 := Fr.snoc X13 N10 g_r0
  have Kp13 : Keep h0 h13 [r0] := Keep.wr Kp10 W13 (Or.inl (List.mem_of_getElem? (i := 0) rfl))
  have K13 : own_K p e below SE T13 (mkF m 33 #[.val (.ref r0), .val (.ref r1)] []) := fun t k => K12 _ (st13 _ k)
  obtain ⟨fs, hr, hrun, hended, hW, hsame⟩ := X13.leave (v := none) (fun _ => rfl)
  refine ⟨_, _, K13 _ ?_, hrun, hended, _, _, rfl, ?_, ⟨_, rfl⟩, hW, hsame.mono (by decide) (by decide)⟩
  · exact X13.returnOut hx Bd.returns (hb hby d22_33) hr
  · show Qii Z r0 r1 ea kE w h0 n0 _ T13.heap _
    rw [e13]
    exact ⟨rfl, N13, Kp13, ((((E_r0.wr W2).wr W8).wr W10).wr W13), (((Fw2.other W8 (Or.inr (slot_ne (Or.inr (hw _ (List.mem_of_getElem? (i := 157) rfl))) (Or.inl (hw _ (List.mem_of_getElem? (i := 163) rfl))) (by decide) (t := (.object "java/util/ArrayDeque")) (t' := .int) (by decide) (by decide)))).other W10 (Or.inr (slot_ne (Or.inr (hw _ (List.mem_of_getElem? (i := 157) rfl))) (Or.inl (hw _ (List.mem_of_getElem? (i := 165) rfl))) (by decide) (t := (.object "java/util/ArrayDeque")) (t' := .int) (by decide) (by decide)))).other W13 (Or.inr (slot_ne (Or.inr (hw _ (List.mem_of_getElem? (i := 157) rfl))) (Or.inl (hw _ (List.mem_of_getElem? (i := 168) rfl))) (by decide) (t := (.object "java/util/ArrayDeque")) (t' := .int) (by decide) (by decide)))), ((Fw8.other W10 (Or.inr (slot_ne (Or.inl (hw _ (List.mem_of_getElem? (i := 163) rfl))) (Or.inl (hw _ (List.mem_of_getElem? (i := 165) rfl))) (by decide) (t := .int) (t' := .int) (by decide) (by decide)))).other W13 (Or.inr (slot_ne (Or.inl (hw _ (List.mem_of_getElem? (i := 163) rfl))) (Or.inl (hw _ (List.mem_of_getElem? (i := 168) rfl))) (by decide) (t := .int) (t' := .int) (by decide) (by decide)))), (Fw10.other W13 (Or.inr (slot_ne (Or.inl (hw _ (List.mem_of_getElem? (i := 165) rfl))) (Or.inl (hw _ (List.mem_of_getElem? (i := 168) rfl))) (by decide) (t := .int) (t' := .int) (by decide) (by decide)))), Fw13⟩
theorem d21_0 : decode jdk_21_method_39_code 0 = .ok (.new 131, 3) := by decide +kernel
theorem d21_3 : decode jdk_21_method_39_code 3 = .ok (.dup, 1) := by decide +kernel
theorem d21_4 : decode jdk_21_method_39_code 4 = .ok (.aload_n 0, 1) := by decide +kernel
theorem d21_5 : decode jdk_21_method_39_code 5 = .ok (.invokespecial 133, 3) := by decide +kernel
theorem d21_8 : decode jdk_21_method_39_code 8 = .ok (.areturn, 1) := by decide +kernel
theorem pd_it_0 : parseMethodDescriptor "(Ljava/util/ArrayDeque;)V" = some ⟨[(.object "java/util/ArrayDeque")], none⟩ := by decide +kernel
theorem ef_it (m : MethodId) (r0 : Addr) : entryFrame m #[(.ref r0)] 1 = mkF m 0 #[.val (.ref r0)] [] := by first | (simp [entryFrame, mkF, argsToLocals, Value.category]; done) | rfl
def Qit (Z : State) (r0 : Addr) (ea : Addr) (kE : ClassId) (w : Addr) (h0 : Heap) (n0 : Nat) (v : Option Value) (h : Heap) (L : List Loc) : Prop := v = some (.ref h0.size) ∧ Fr n0 L ∧ Keep h0 h [] ∧ Exa Z h h0.size "java/util/ArrayDeque$DeqIterator" ∧ Fld Z h h0.size "java/util/ArrayDeque$DeqIterator" "this$0" "Ljava/util/ArrayDeque;" (.ref r0) ∧ Fld Z h h0.size "java/util/ArrayDeque$DeqIterator" "remaining" "I" (.int (1 : Int32)) ∧ Fld Z h h0.size "java/util/ArrayDeque$DeqIterator" "lastRet" "I" (.int (-1 : Int32)) ∧ Fld Z h h0.size "java/util/ArrayDeque$DeqIterator" "cursor" "I" (.int (0 : Int32))
set_option maxRecDepth 65536 in
set_option maxHeartbeats 40000000 in
theorem rmit (l : Launch) (Z : State) (a0 : Array Value) (hw : ∀ d ∈ tables_1, d.before a0 Z = true) (ws : List Jvm.Cond) (r0 : Addr) (ea : Addr) (kE : ClassId) (w : Addr) (h0 : Heap) (n0 : Nat) (Z0 : n0 ≤ h0.size) (E_d : Exa Z h0 r0 "java/util/ArrayDeque") (F_h : Fld Z h0 r0 "java/util/ArrayDeque" "head" "I" (.int (0 : Int32))) (F_t : Fld Z h0 r0 "java/util/ArrayDeque" "tail" "I" (.int (1 : Int32))) (F_e : Fld Z h0 r0 "java/util/ArrayDeque" "elements" "[Ljava/lang/Object;" (.ref ea)) (V_e : Arv Z h0 ea kE (.object "java/lang/Object") (6 : Int32) [(.ref w), .null, .null, .null, .null, .null] .null) :
    MetFree l (⟨"java/util/ArrayDeque", "iterator", "()Ljava/util/Iterator;"⟩ : MethodName) (head1 (Jvm.Cond.code (⟨"java/util/ArrayDeque", "iterator", "()Ljava/util/Iterator;"⟩ : MethodName) jdk_21_method_39_code 1 (some (.object "java/util/Iterator")) :: ws) ({ frames := 3, cells := 1, slots := 4, locals := 41 } : Room)) (fun a U => a = #[(.ref r0)] ∧ Z.Warmed39 U.vm ∧ U.heap = h0) (fun _ _ _ _ _ => True) (fun _ U o U' => ∃ v L, o = .returned v ∧ Qit Z r0 ea kE w h0 n0 v U'.heap L ∧ FrameEnd U o U' L ({ frames := 3, cells := 1, slots := 4, locals := 41 } : Room).cells ({ frames := 3, cells := 1, slots := 4, locals := 41 } : Room).slots) := by
  refine MetFree.of_bodySF (plainFor_of_name pn_15) hisR ?_
  intro p e s m args below meth c s₁ Bd hml0 hP hK
  obtain ⟨rfl, hZ, hh⟩ := hP
  have hx := Bd.exec
  have hby := Bd.bytes
  have hml : c.maxLocals = 1 := hml0
  have hown : s.vm.findClass "java/util/ArrayDeque" = some m.cls := findClass_of_methodNamed Bd.named
  have hnm := (name_of_methodNamed Bd.named Bd.method).1
  have X0 : Stand p l e ({ frames := 3, cells := 1, slots := 4, locals := 41 } : Room) s m #[(.ref r0)] below meth c s₁ [] 0 0 := Stand.of_body Bd
  have e0 : s₁.heap = h0 := by rw [← hh, Bd.state]; rfl
  have N0 := Fr.nil n0
  have K0 : ∀ t, Steps p.tables e below (s₁.setTop (mkF m 0 #[.val (.ref r0)] [])) t → Steps p.tables e below (s₁.setTop (entryFrame m #[(.ref r0)] 1)) t := fun t k => castTop (ef_it m r0) k
  generalize s₁.setTop (entryFrame m #[(.ref r0)] 1) = SE at K0 ⊢
  obtain ⟨T1, h1, X1, e1, E1, A1, D1, -, st1⟩ := newO X0 hx hZ hown (hw _ (List.mem_of_getElem? (i := 149) rfl)) (hw _ (List.mem_of_getElem? (i := 150) rfl)) (hw _ (List.mem_of_getElem? (i := 151) rfl)) e0 (g := (mkF m 0 #[.val (.ref r0)] [])) rfl (hb hby d21_0) (by decide) (by decide)
  obtain ⟨b1, g1⟩ : ∃ z, z = h0.size := ⟨_, rfl⟩
  rw [← g1] at A1 D1 st1
  have g_b1 : n0 ≤ b1 := Nat.le_trans Z0 (Nat.le_of_eq g1.symm)
  have sz_b1 : h0.size ≤ b1 := Nat.le_trans (Nat.le_refl _) (Nat.le_of_eq g1.symm)
  have own_ne_r0_b1 : r0 ≠ b1 := Nat.ne_of_lt (Nat.lt_of_lt_of_le E_d.lt (Nat.le_of_eq g1.symm))
  have own_ne_ea_b1 : ea ≠ b1 := Nat.ne_of_lt (Nat.lt_of_lt_of_le V_e.lt (Nat.le_of_eq g1.symm))
  have Kp1 : Keep h0 h1 [] := Keep.ext (Keep.refl h0 []) E1
  have F_this_0_b1 : Fld Z h1 b1 "java/util/ArrayDeque$DeqIterator" "this$0" "Ljava/util/ArrayDeque;" .null := D1 (Or.inr (hw _ (List.mem_of_getElem? (i := 157) rfl))) (ty := (.object "java/util/ArrayDeque")) (by decide)
  have F_remaining_b1 : Fld Z h1 b1 "java/util/ArrayDeque$DeqIterator" "remaining" "I" (.int (0 : Int32)) := D1 (Or.inl (hw _ (List.mem_of_getElem? (i := 163) rfl))) (ty := .int) (by decide)
  have F_lastRet_b1 : Fld Z h1 b1 "java/util/ArrayDeque$DeqIterator" "lastRet" "I" (.int (0 : Int32)) := D1 (Or.inl (hw _ (List.mem_of_getElem? (i := 165) rfl))) (ty := .int) (by decide)
  have F_cursor_b1 : Fld Z h1 b1 "java/util/ArrayDeque$DeqIterator" "cursor" "I" (.int (0 : Int32)) := D1 (Or.inl (hw _ (List.mem_of_getElem? (i := 168) rfl))) (ty := .int) (by decide)
  have K1 : own_K p e below SE T1 (mkF m 3 #[.val (.ref r0)] [(.ref b1)]) := fun t k => K0 _ (st1 _ k)
  have K2 : own_K p e below SE T1 (mkF m 5 #[.val (.ref r0)] [(.ref r0), (.ref b1), (.ref b1)]) := by
    intro t k
    refine K1 _ ?_
    refine XS.dup X1.here hx rfl (hb hby d21_3) rfl rfl ?_
    show own_S p e below T1 (mkF m 4 #[.val (.ref r0)] [(.ref b1), (.ref b1)]) _
    refine XS.aloadN X1.here hx rfl (hb hby d21_4) rfl rfl ?_
    exact k
  obtain ⟨_, _, ⟨T3, L3, k3, n3⟩, -, X3, ⟨Lc3, hQ3, l3, y3, z3⟩, st3⟩ := X1.specialBack hx (y := (⟨"java/util/ArrayDeque$DeqIterator", "<init>", "(Ljava/util/ArrayDeque;)V"⟩ : MethodName)) rfl hown (mvT hZ (hw _ (List.mem_of_getElem? (i := 152) rfl))) (mvT hZ (hw _ (List.mem_of_getElem? (i := 153) rfl))) (mvT hZ (hw _ (List.mem_of_getElem? (i := 155) rfl))) (by decide) (backOf (W := 1) (rmii l Z a0 hw [] b1 r0 ea kE w h1 n0 (Nat.le_trans Z0 Kp1.1) A1 F_this_0_b1 F_remaining_b1 F_lastRet_b1 F_cursor_b1 (E_d.ext (own_ext Kp1)) (F_h.ext (own_ext Kp1)) (F_t.ext (own_ext Kp1)) (F_e.ext (own_ext Kp1)) (V_e.ext (own_ext Kp1)) g_b1 (Ne.symm own_ne_r0_b1) (Ne.symm own_ne_ea_b1)) hZ (hw _ (List.mem_of_getElem? (i := 155) rfl)) (hw _ (List.mem_of_getElem? (i := 151) rfl)) (by decide) (by decide)) (g := (mkF m 5 #[.val (.ref r0)] [(.ref r0), (.ref b1), (.ref b1)])) rfl (by rw [hml]; rfl) (Steps.refl _) (a := b1) (argsL := [(.ref r0)]) (rest := [(.ref b1)]) (lenOf pd_it_0 rfl) rfl (by show 2 * 0 + _ ≤ _; exact Nat.le_of_eq rfl) (hb hby d21_5) (fun _ _ => ⟨rfl, e1, (by decide : 1 + 0 ≤ _), (by decide : 4 + 0 ≤ _)⟩)
  dsimp only [Pt.U, Pt.locs, Pt.cells, Pt.slots] at X3 l3 y3 z3 st3 hQ3
  rw [y3, z3] at X3
  obtain ⟨rfl, Nq3, Kq3, Ex3, Fi0_3, Fi1_3, Fi2_3, Fi3_3⟩ := hQ3
  have N3 : Fr n0 L3 := by rw [l3]; exact Fr.app N0 Nq3
  have Kp3 : Keep h0 T3.heap [] := Keep.trans Kp1 Kq3 (allS (Or.inr sz_b1) all0)
  have K3 : own_K p e below SE T3 (mkF m 8 #[.val (.ref r0)] [(.ref b1)]) := fun t k => K2 _ (st3.trans k)
  obtain ⟨fs, hr, hrun, hended, hW, hsame⟩ := X3.leave (v := some (.ref b1)) (fun h => by rw [Bd.returns] at h; cases h)
  refine ⟨_, _, K3 _ ?_, hrun, hended, _, _, rfl, ?_, ⟨_, rfl⟩, hW, hsame.mono (by decide) (by decide)⟩
  · show Steps p.tables e below (T3.setTop (mkF m 8 #[.val (.ref r0)] [(.ref b1)])) _
    jvm_step X3.here [X3.here.top, hx, (hb hby d21_8), X3.method', Bd.returns, Value.isRef, FieldType.isReference]
    first | (intro acts; rw [hr _ acts rfl rfl rfl]) | rw [hr _ _ rfl rfl rfl]
    exact Steps.refl _
  · show Qit Z r0 ea kE w h0 n0 _ T3.heap _
    exact ⟨congrArg (fun z => some (Value.ref z)) g1, N3, Kp3, (g1 ▸ Ex3), (g1 ▸ Fi0_3), (g1 ▸ Fi1_3), (g1 ▸ Fi2_3), (g1 ▸ Fi3_3)⟩
theorem d23_0 : decode jdk_54_method_2_code 0 = .ok (.aload_n 0, 1) := by decide +kernel
theorem d23_1 : decode jdk_54_method_2_code 1 = .ok (.getfield 19, 3) := by decide +kernel
theorem d23_4 : decode jdk_54_method_2_code 4 = .ok (.ifCond .le 7, 3) := by decide +kernel
theorem d23_11 : decode jdk_54_method_2_code 11 = .ok (.iconst 0, 1) := by decide +kernel
theorem d23_12 : decode jdk_54_method_2_code 12 = .ok (.ireturn, 1) := by decide +kernel
theorem ef_hn0 (m : MethodId) (r0 : Addr) : entryFrame m #[(.ref r0)] 1 = mkF m 0 #[.val (.ref r0)] [] := by first | (simp [entryFrame, mkF, argsToLocals, Value.category]; done) | rfl
def Qhn0 (Z : State) (r0 : Addr) (h0 : Heap) (n0 : Nat) (v : Option Value) (h : Heap) (L : List Loc) : Prop := v = some (.int (0 : Int32)) ∧ Fr n0 L ∧ h = h0
set_option maxRecDepth 65536 in
set_option maxHeartbeats 40000000 in
theorem rmhn0 (l : Launch) (Z : State) (a0 : Array Value) (hw : ∀ d ∈ tables_1, d.before a0 Z = true) (ws : List Jvm.Cond) (r0 : Addr) (h0 : Heap) (n0 : Nat) (Z0 : n0 ≤ h0.size) (F_r : Fld Z h0 r0 "java/util/ArrayDeque$DeqIterator" "remaining" "I" (.int (0 : Int32))) :
    MetFree l (⟨"java/util/ArrayDeque$DeqIterator", "hasNext", "()Z"⟩ : MethodName) (head1 (Jvm.Cond.code (⟨"java/util/ArrayDeque$DeqIterator", "hasNext", "()Z"⟩ : MethodName) jdk_54_method_2_code 1 (some .boolean) :: ws) ({ frames := 0, cells := 0, slots := 0, locals := 0 } : Room)) (fun a U => a = #[(.ref r0)] ∧ Z.Warmed39 U.vm ∧ U.heap = h0) (fun _ _ _ _ _ => True) (fun _ U o U' => ∃ v L, o = .returned v ∧ Qhn0 Z r0 h0 n0 v U'.heap L ∧ FrameEnd U o U' L ({ frames := 0, cells := 0, slots := 0, locals := 0 } : Room).cells ({ frames := 0, cells := 0, slots := 0, locals := 0 } : Room).slots) := by
  refine MetFree.of_bodySF (plainFor_of_name pn_22) hisR ?_
  intro p e s m args below meth c s₁ Bd hml0 hP hK
  obtain ⟨rfl, hZ, hh⟩ := hP
  have hx := Bd.exec
  have hby := Bd.bytes
  have hml : c.maxLocals = 1 := hml0
  have hown : s.vm.findClass "java/util/ArrayDeque$DeqIterator" = some m.cls := findClass_of_methodNamed Bd.named
  have hnm := (name_of_methodNamed Bd.named Bd.method).1
  have X0 : Stand p l e ({ frames := 0, cells := 0, slots := 0, locals := 0 } : Room) s m #[(.ref r0)] below meth c s₁ [] 0 0 := Stand.of_body Bd
  have e0 : s₁.heap = h0 := by rw [← hh, Bd.state]; rfl
  have N0 := Fr.nil n0
  have K0 : ∀ t, Steps p.tables e below (s₁.setTop (mkF m 0 #[.val (.ref r0)] [])) t → Steps p.tables e below (s₁.setTop (entryFrame m #[(.ref r0)] 1)) t := fun t k => castTop (ef_hn0 m r0) k
  generalize s₁.setTop (entryFrame m #[(.ref r0)] 1) = SE at K0 ⊢
  have K1 : own_K p e below SE s₁ (mkF m 1 #[.val (.ref r0)] [(.ref r0)]) := by
    intro t k
    refine K0 _ ?_
    refine XS.aloadN X0.here hx rfl (hb hby d23_0) rfl rfl ?_
    exact k
  obtain ⟨T2, X2, e2, st2⟩ := getF X0 hx hZ hown (host := "") (Or.inl (hw _ (List.mem_of_getElem? (i := 162) rfl))) Via.refl e0 F_r (g := (mkF m 1 #[.val (.ref r0)] [(.ref r0)])) rfl rfl (hb hby d23_1)
  have K2 : own_K p e below SE T2 (mkF m 4 #[.val (.ref r0)] [(.int (0 : Int32))]) := fun t k => K1 _ (st2 _ k)
  have K3 : own_K p e below SE T2 (mkF m 12 #[.val (.ref r0)] [(.int (0 : Int32))]) := by
    intro t k
    refine K2 _ ?_
    refine XS.ifYes X2.here hx rfl (pc0 := 4) (pc' := 11) rfl (hb hby d23_4) rfl (XT.i0_le_t (by decide : ¬ (0 < (0 : Int32)))) (by decide) (by decide) ?_
    show own_S p e below T2 (mkF m 11 #[.val (.ref r0)] []) _
    refine XS.iconst X2.here hx rfl (hb hby d23_11) ?_
    exact k
  obtain ⟨fs, hr, hrun, hended, hW, hsame⟩ := X2.leave (v := some (.int (0 : Int32))) (fun h => by rw [Bd.returns] at h; cases h)
  refine ⟨_, _, K3 _ ?_, hrun, hended, _, _, rfl, ?_, ⟨_, rfl⟩, hW, hsame.mono (by decide) (by decide)⟩
  · exact retN X2 hx (t := .boolean) Bd.returns (by simp) (hb hby d23_12) hr
  · show Qhn0 Z r0 h0 n0 _ T2.heap _
    rw [e2]
    exact ⟨rfl, N0, rfl⟩
theorem d23_7 : decode jdk_54_method_2_code 7 = .ok (.iconst 1, 1) := by decide +kernel
theorem d23_8 : decode jdk_54_method_2_code 8 = .ok (.goto 4, 3) := by decide +kernel
theorem ef_hn1 (m : MethodId) (r0 : Addr) : entryFrame m #[(.ref r0)] 1 = mkF m 0 #[.val (.ref r0)] [] := by first | (simp [entryFrame, mkF, argsToLocals, Value.category]; done) | rfl
def Qhn1 (Z : State) (r0 : Addr) (h0 : Heap) (n0 : Nat) (v : Option Value) (h : Heap) (L : List Loc) : Prop := v = some (.int (1 : Int32)) ∧ Fr n0 L ∧ h = h0
set_option maxRecDepth 65536 in
set_option maxHeartbeats 40000000 in
theorem rmhn1 (l : Launch) (Z : State) (a0 : Array Value) (hw : ∀ d ∈ tables_1, d.before a0 Z = true) (ws : List Jvm.Cond) (r0 : Addr) (h0 : Heap) (n0 : Nat) (Z0 : n0 ≤ h0.size) (F_r : Fld Z h0 r0 "java/util/ArrayDeque$DeqIterator" "remaining" "I" (.int (1 : Int32))) :
    MetFree l (⟨"java/util/ArrayDeque$DeqIterator", "hasNext", "()Z"⟩ : MethodName) (head1 (Jvm.Cond.code (⟨"java/util/ArrayDeque$DeqIterator", "hasNext", "()Z"⟩ : MethodName) jdk_54_method_2_code 1 (some .boolean) :: ws) ({ frames := 0, cells := 0, slots := 0, locals := 0 } : Room)) (fun a U => a = #[(.ref r0)] ∧ Z.Warmed39 U.vm ∧ U.heap = h0) (fun _ _ _ _ _ => True) (fun _ U o U' => ∃ v L, o = .returned v ∧ Qhn1 Z r0 h0 n0 v U'.heap L ∧ FrameEnd U o U' L ({ frames := 0, cells := 0, slots := 0, locals := 0 } : Room).cells ({ frames := 0, cells := 0, slots := 0, locals := 0 } : Room).slots) := by
  refine MetFree.of_bodySF (plainFor_of_name pn_22) hisR ?_
  intro p e s m args below meth c s₁ Bd hml0 hP hK
  obtain ⟨rfl, hZ, hh⟩ := hP
  have hx := Bd.exec
  have hby := Bd.bytes
  have hml : c.maxLocals = 1 := hml0
  have hown : s.vm.findClass "java/util/ArrayDeque$DeqIterator" = some m.cls := findClass_of_methodNamed Bd.named
  have hnm := (name_of_methodNamed Bd.named Bd.method).1
  have X0 : Stand p l e ({ frames := 0, cells := 0, slots := 0, locals := 0 } : Room) s m #[(.ref r0)] below meth c s₁ [] 0 0 := Stand.of_body Bd
  have e0 : s₁.heap = h0 := by rw [← hh, Bd.state]; rfl
  have N0 := Fr.nil n0
  have K0 : ∀ t, Steps p.tables e below (s₁.setTop (mkF m 0 #[.val (.ref r0)] [])) t → Steps p.tables e below (s₁.setTop (entryFrame m #[(.ref r0)] 1)) t := fun t k => castTop (ef_hn1 m r0) k
  generalize s₁.setTop (entryFrame m #[(.ref r0)] 1) = SE at K0 ⊢
  have K1 : own_K p e below SE s₁ (mkF m 1 #[.val (.ref r0)] [(.ref r0)]) := by
    intro t k
    refine K0 _ ?_
    refine XS.aloadN X0.here hx rfl (hb hby d23_0) rfl rfl ?_
    exact k
  obtain ⟨T2, X2, e2, st2⟩ := getF X0 hx hZ hown (host := "") (Or.inl (hw _ (List.mem_of_getElem? (i := 162) rfl))) Via.refl e0 F_r (g := (mkF m 1 #[.val (.ref r0)] [(.ref r0)])) rfl rfl (hb hby d23_1)
  have K2 : own_K p e below SE T2 (mkF m 4 #[.val (.ref r0)] [(.int (1 : Int32))]) := fun t k => K1 _ (st2 _ k)
  have K3 : own_K p e below SE T2 (mkF m 12 #[.val (.ref r0)] [(.int (1 : Int32))]) := by
    intro t k
    refine K2 _ ?_
    refine XS.ifNo X2.here hx rfl (hb hby d23_4) rfl (XT.i0_le_f (by decide : 0 < (1 : Int32))) ?_
    show own_S p e below T2 (mkF m 7 #[.val (.ref r0)] []) _
    refine XS.iconst X2.here hx rfl (hb hby d23_7) ?_
    show own_S p e below T2 (mkF m 8 #[.val (.ref r0)] [(.int (1 : Int32))]) _
    refine XS.goto X2.here hx rfl (pc0 := 8) (pc' := 12) rfl (hb hby d23_8) (by decide) (by decide) ?_
    exact k
  obtain ⟨fs, hr, hrun, hended, hW, hsame⟩ := X2.leave (v := some (.int (1 : Int32))) (fun h => by rw [Bd.returns] at h; cases h)
  refine ⟨_, _, K3 _ ?_, hrun, hended, _, _, rfl, ?_, ⟨_, rfl⟩, hW, hsame.mono (by decide) (by decide)⟩
  · exact retN X2 hx (t := .boolean) Bd.returns (by simp) (hb hby d23_12) hr
  · show Qhn1 Z r0 h0 n0 _ T2.heap _
    rw [e2]
    exact ⟨rfl, N0, rfl⟩
theorem d25_0 : decode jdk_21_method_11_code 0 = .ok (.aload_n 0, 1) := by decide +kernel
theorem d25_1 : decode jdk_21_method_11_code 1 = .ok (.iload_n 1, 1) := by decide +kernel
theorem d25_2 : decode jdk_21_method_11_code 2 = .ok (.aaload, 1) := by decide +kernel
theorem d25_3 : decode jdk_21_method_11_code 3 = .ok (.astore_n 2, 1) := by decide +kernel
theorem d25_4 : decode jdk_21_method_11_code 4 = .ok (.aload_n 2, 1) := by decide +kernel
theorem d25_5 : decode jdk_21_method_11_code 5 = .ok (.ifnonnull 11, 3) := by decide +kernel
theorem d25_16 : decode jdk_21_method_11_code 16 = .ok (.aload_n 2, 1) := by decide +kernel
theorem d25_17 : decode jdk_21_method_11_code 17 = .ok (.areturn, 1) := by decide +kernel
theorem ef_ne (m : MethodId) (r0 : Addr) : entryFrame m #[(.ref r0), (.int (0 : Int32))] 3 = mkF m 0 #[.val (.ref r0), .val (.int (0 : Int32)), .unset] [] := by first | (simp [entryFrame, mkF, argsToLocals, Value.category]; done) | rfl
def Qne (Z : State) (r0 : Addr) (kE : ClassId) (w : Addr) (h0 : Heap) (n0 : Nat) (v : Option Value) (h : Heap) (L : List Loc) : Prop := v = some (.ref w) ∧ Fr n0 L ∧ h = h0
set_option maxRecDepth 65536 in
set_option maxHeartbeats 40000000 in
theorem rmne (l : Launch) (Z : State) (a0 : Array Value) (hw : ∀ d ∈ tables_1, d.before a0 Z = true) (ws : List Jvm.Cond) (r0 : Addr) (kE : ClassId) (w : Addr) (h0 : Heap) (n0 : Nat) (Z0 : n0 ≤ h0.size) (V_e : Arv Z h0 r0 kE (.object "java/lang/Object") (6 : Int32) [(.ref w), .null, .null, .null, .null, .null] .null) :
    MetFree l (⟨"java/util/ArrayDeque", "nonNullElementAt", "([Ljava/lang/Object;I)Ljava/lang/Object;"⟩ : MethodName) (head1 (Jvm.Cond.code (⟨"java/util/ArrayDeque", "nonNullElementAt", "([Ljava/lang/Object;I)Ljava/lang/Object;"⟩ : MethodName) jdk_21_method_11_code 3 (some (.object "java/lang/Object")) :: ws) ({ frames := 0, cells := 0, slots := 0, locals := 0 } : Room)) (fun a U => a = #[(.ref r0), (.int (0 : Int32))] ∧ Z.Warmed39 U.vm ∧ U.heap = h0) (fun _ _ _ _ _ => True) (fun _ U o U' => ∃ v L, o = .returned v ∧ Qne Z r0 kE w h0 n0 v U'.heap L ∧ FrameEnd U o U' L ({ frames := 0, cells := 0, slots := 0, locals := 0 } : Room).cells ({ frames := 0, cells := 0, slots := 0, locals := 0 } : Room).slots) := by
  refine MetFree.of_bodySF (plainFor_of_name pn_15) hisR ?_
  intro p e s m args below meth c s₁ Bd hml0 hP hK
  obtain ⟨rfl, hZ, hh⟩ := hP
  have hx := Bd.exec
  have hby := Bd.bytes
  have hml : c.maxLocals = 3 := hml0
  have hown : s.vm.findClass "java/util/ArrayDeque" = some m.cls := findClass_of_methodNamed Bd.named
  have hnm := (name_of_methodNamed Bd.named Bd.method).1
  have X0 : Stand p l e ({ frames := 0, cells := 0, slots := 0, locals := 0 } : Room) s m #[(.ref r0), (.int (0 : Int32))] below meth c s₁ [] 0 0 := Stand.of_body Bd
  have e0 : s₁.heap = h0 := by rw [← hh, Bd.state]; rfl
  have N0 := Fr.nil n0
  have K0 : ∀ t, Steps p.tables e below (s₁.setTop (mkF m 0 #[.val (.ref r0), .val (.int (0 : Int32)), .unset] [])) t → Steps p.tables e below (s₁.setTop (entryFrame m #[(.ref r0), (.int (0 : Int32))] 3)) t := fun t k => castTop (ef_ne m r0) k
  generalize s₁.setTop (entryFrame m #[(.ref r0), (.int (0 : Int32))] 3) = SE at K0 ⊢
  have K1 : own_K p e below SE s₁ (mkF m 2 #[.val (.ref r0), .val (.int (0 : Int32)), .unset] [(.int (0 : Int32)), (.ref r0)]) := by
    intro t k
    refine K0 _ ?_
    refine XS.aloadN X0.here hx rfl (hb hby d25_0) rfl rfl ?_
    show own_S p e below s₁ (mkF m 1 #[.val (.ref r0), .val (.int (0 : Int32)), .unset] [(.ref r0)]) _
    refine XS.iloadN X0.here hx rfl (hb hby d25_1) rfl ?_
    exact k
  obtain ⟨cl2, Ar2, qk2, S2, Ng2, Hh2, Gg2⟩ := id V_e
  have hin2 : ¬ ((0 : Int32) < 0 ∨ cl2.slots.size ≤ ((0 : Int32)).toNatClampNeg) := inb_of S2 ⟨by decide, by decide⟩
  have hat2 : cl2.slots[((0 : Int32)).toNatClampNeg]? = some (.ref w) := Has.at Hh2 hin2 rfl
  have K3 : own_K p e below SE s₁ (mkF m 17 #[.val (.ref r0), .val (.int (0 : Int32)), .val (.ref w)] [(.ref w)]) := by
    intro t k
    refine K1 _ ?_
    refine X0.aaload hx (j := (0 : Int32)) (v := (.ref w)) (by rw [e0]; exact Ar2.1) (State.isArrayOf_alike hZ.alike Ar2.2.1) rfl Ar2.2.2 hin2 hat2 (g := (mkF m 2 #[.val (.ref r0), .val (.int (0 : Int32)), .unset] [(.int (0 : Int32)), (.ref r0)])) rfl rfl (hb hby d25_2) _ ?_
    show own_S p e below s₁ (mkF m 3 #[.val (.ref r0), .val (.int (0 : Int32)), .unset] [(.ref w)]) _
    refine XS.astoreN X0.here hx rfl (hb hby d25_3) rfl rfl (l' := #[.val (.ref r0), .val (.int (0 : Int32)), .val (.ref w)]) rfl ?_
    show own_S p e below s₁ (mkF m 4 #[.val (.ref r0), .val (.int (0 : Int32)), .val (.ref w)] []) _
    refine XS.aloadN X0.here hx rfl (hb hby d25_4) rfl rfl ?_
    show own_S p e below s₁ (mkF m 5 #[.val (.ref r0), .val (.int (0 : Int32)), .val (.ref w)] [(.ref w)]) _
    refine XS.ifnonnullYes X0.here hx rfl (pc0 := 5) (pc' := 16) rfl (hb hby d25_5) rfl (by decide) (by decide) ?_
    show own_S p e below s₁ (mkF m 16 #[.val (.ref r0), .val (.int (0 : Int32)), .val (.ref w)] []) _
    refine XS.aloadN X0.here hx rfl (hb hby d25_16) rfl rfl ?_
    exact k
  obtain ⟨fs, hr, hrun, hended, hW, hsame⟩ := X0.leave (v := some (.ref w)) (fun h => by rw [Bd.returns] at h; cases h)
  refine ⟨_, _, K3 _ ?_, hrun, hended, _, _, rfl, ?_, ⟨_, rfl⟩, hW, hsame.mono (by decide) (by decide)⟩
  · show Steps p.tables e below (s₁.setTop (mkF m 17 #[.val (.ref r0), .val (.int (0 : Int32)), .val (.ref w)] [(.ref w)])) _
    jvm_step X0.here [X0.here.top, hx, (hb hby d25_17), X0.method', Bd.returns, Value.isRef, FieldType.isReference]
    first | (intro acts; rw [hr _ acts rfl rfl rfl]) | rw [hr _ _ rfl rfl rfl]
    exact Steps.refl _
  · show Qne Z r0 kE w h0 n0 _ s₁.heap _
    rw [e0]
    exact ⟨rfl, N0, rfl⟩
theorem d24_0 : decode jdk_54_method_3_code 0 = .ok (.aload_n 0, 1) := by decide +kernel
theorem d24_1 : decode jdk_54_method_3_code 1 = .ok (.getfield 19, 3) := by decide +kernel
theorem d24_4 : decode jdk_54_method_3_code 4 = .ok (.ifCond .gt 11, 3) := by decide +kernel
theorem d24_15 : decode jdk_54_method_3_code 15 = .ok (.aload_n 0, 1) := by decide +kernel
theorem d24_16 : decode jdk_54_method_3_code 16 = .ok (.getfield 1, 3) := by decide +kernel
theorem d24_19 : decode jdk_54_method_3_code 19 = .ok (.getfield 35, 3) := by decide +kernel
theorem d24_22 : decode jdk_54_method_3_code 22 = .ok (.astore_n 1, 1) := by decide +kernel
theorem d24_23 : decode jdk_54_method_3_code 23 = .ok (.aload_n 1, 1) := by decide +kernel
theorem d24_24 : decode jdk_54_method_3_code 24 = .ok (.aload_n 0, 1) := by decide +kernel
theorem d24_25 : decode jdk_54_method_3_code 25 = .ok (.getfield 29, 3) := by decide +kernel
theorem d24_28 : decode jdk_54_method_3_code 28 = .ok (.invokestatic 39, 3) := by decide +kernel
theorem d24_31 : decode jdk_54_method_3_code 31 = .ok (.astore_n 2, 1) := by decide +kernel
theorem d24_32 : decode jdk_54_method_3_code 32 = .ok (.aload_n 0, 1) := by decide +kernel
theorem d24_33 : decode jdk_54_method_3_code 33 = .ok (.aload_n 0, 1) := by decide +kernel
theorem d24_34 : decode jdk_54_method_3_code 34 = .ok (.aload_n 0, 1) := by decide +kernel
theorem d24_35 : decode jdk_54_method_3_code 35 = .ok (.getfield 29, 3) := by decide +kernel
theorem d24_38 : decode jdk_54_method_3_code 38 = .ok (.dup_x1, 1) := by decide +kernel
theorem d24_39 : decode jdk_54_method_3_code 39 = .ok (.putfield 23, 3) := by decide +kernel
theorem d24_42 : decode jdk_54_method_3_code 42 = .ok (.aload_n 1, 1) := by decide +kernel
theorem d24_43 : decode jdk_54_method_3_code 43 = .ok (.arraylength, 1) := by decide +kernel
theorem d24_44 : decode jdk_54_method_3_code 44 = .ok (.invokestatic 43, 3) := by decide +kernel
theorem d24_47 : decode jdk_54_method_3_code 47 = .ok (.putfield 29, 3) := by decide +kernel
theorem d24_50 : decode jdk_54_method_3_code 50 = .ok (.aload_n 0, 1) := by decide +kernel
theorem d24_51 : decode jdk_54_method_3_code 51 = .ok (.dup, 1) := by decide +kernel
theorem d24_52 : decode jdk_54_method_3_code 52 = .ok (.getfield 19, 3) := by decide +kernel
theorem d24_55 : decode jdk_54_method_3_code 55 = .ok (.iconst 1, 1) := by decide +kernel
theorem d24_56 : decode jdk_54_method_3_code 56 = .ok (.isub, 1) := by decide +kernel
theorem d24_57 : decode jdk_54_method_3_code 57 = .ok (.putfield 19, 3) := by decide +kernel
theorem d24_60 : decode jdk_54_method_3_code 60 = .ok (.aload_n 2, 1) := by decide +kernel
theorem d24_61 : decode jdk_54_method_3_code 61 = .ok (.areturn, 1) := by decide +kernel
theorem pd_nx_0 : parseMethodDescriptor "([Ljava/lang/Object;I)Ljava/lang/Object;" = some ⟨[(.array (.object "java/lang/Object")), .int], some (.object "java/lang/Object")⟩ := by decide +kernel
theorem pd_nx_1 : parseMethodDescriptor "(II)I" = some ⟨[.int, .int], some .int⟩ := by decide +kernel
theorem ef_nx (m : MethodId) (r0 : Addr) : entryFrame m #[(.ref r0)] 3 = mkF m 0 #[.val (.ref r0), .unset, .unset] [] := by first | (simp [entryFrame, mkF, argsToLocals, Value.category]; done) | rfl
def Qnx (Z : State) (r0 : Addr) (d : Addr) (ea : Addr) (kE : ClassId) (w : Addr) (h0 : Heap) (n0 : Nat) (v : Option Value) (h : Heap) (L : List Loc) : Prop := v = some (.ref w) ∧ Fr n0 L ∧ Keep h0 h [r0] ∧ Exa Z h r0 "java/util/ArrayDeque$DeqIterator" ∧ Fld Z h r0 "java/util/ArrayDeque$DeqIterator" "remaining" "I" (.int (0 : Int32))
set_option maxRecDepth 65536 in
set_option maxHeartbeats 40000000 in
theorem rmnx (l : Launch) (Z : State) (a0 : Array Value) (hw : ∀ d ∈ tables_1, d.before a0 Z = true) (ws : List Jvm.Cond) (r0 : Addr) (d : Addr) (ea : Addr) (kE : ClassId) (w : Addr) (h0 : Heap) (n0 : Nat) (Z0 : n0 ≤ h0.size) (E_r0 : Exa Z h0 r0 "java/util/ArrayDeque$DeqIterator") (I_0 : Fld Z h0 r0 "java/util/ArrayDeque$DeqIterator" "this$0" "Ljava/util/ArrayDeque;" (.ref d)) (I_1 : Fld Z h0 r0 "java/util/ArrayDeque$DeqIterator" "remaining" "I" (.int (1 : Int32))) (I_2 : Fld Z h0 r0 "java/util/ArrayDeque$DeqIterator" "lastRet" "I" (.int (-1 : Int32))) (I_3 : Fld Z h0 r0 "java/util/ArrayDeque$DeqIterator" "cursor" "I" (.int (0 : Int32))) (F_e : Fld Z h0 d "java/util/ArrayDeque" "elements" "[Ljava/lang/Object;" (.ref ea)) (V_e : Arv Z h0 ea kE (.object "java/lang/Object") (6 : Int32) [(.ref w), .null, .null, .null, .null, .null] .null) (g_r0 : n0 ≤ r0) (n1 : r0 ≠ d) (n2 : r0 ≠ ea) :
    MetFree l (⟨"java/util/ArrayDeque$DeqIterator", "next", "()Ljava/lang/Object;"⟩ : MethodName) (head1 (Jvm.Cond.code (⟨"java/util/ArrayDeque$DeqIterator", "next", "()Ljava/lang/Object;"⟩ : MethodName) jdk_54_method_3_code 3 (some (.object "java/lang/Object")) :: ws) ({ frames := 1, cells := 0, slots := 0, locals := 14 } : Room)) (fun a U => a = #[(.ref r0)] ∧ Z.Warmed39 U.vm ∧ U.heap = h0) (fun _ _ _ _ _ => True) (fun _ U o U' => ∃ v L, o = .returned v ∧ Qnx Z r0 d ea kE w h0 n0 v U'.heap L ∧ FrameEnd U o U' L ({ frames := 1, cells := 0, slots := 0, locals := 14 } : Room).cells ({ frames := 1, cells := 0, slots := 0, locals := 14 } : Room).slots) := by
  refine MetFree.of_bodySF (plainFor_of_name pn_22) hisR ?_
  intro p e s m args below meth c s₁ Bd hml0 hP hK
  obtain ⟨rfl, hZ, hh⟩ := hP
  have hx := Bd.exec
  have hby := Bd.bytes
  have hml : c.maxLocals = 3 := hml0
  have hown : s.vm.findClass "java/util/ArrayDeque$DeqIterator" = some m.cls := findClass_of_methodNamed Bd.named
  have hnm := (name_of_methodNamed Bd.named Bd.method).1
  have X0 : Stand p l e ({ frames := 1, cells := 0, slots := 0, locals := 14 } : Room) s m #[(.ref r0)] below meth c s₁ [] 0 0 := Stand.of_body Bd
  have e0 : s₁.heap = h0 := by rw [← hh, Bd.state]; rfl
  have N0 := Fr.nil n0
  have K0 : ∀ t, Steps p.tables e below (s₁.setTop (mkF m 0 #[.val (.ref r0), .unset, .unset] [])) t → Steps p.tables e below (s₁.setTop (entryFrame m #[(.ref r0)] 3)) t := fun t k => castTop (ef_nx m r0) k
  generalize s₁.setTop (entryFrame m #[(.ref r0)] 3) = SE at K0 ⊢
  have K1 : own_K p e below SE s₁ (mkF m 1 #[.val (.ref r0), .unset, .unset] [(.ref r0)]) := by
    intro t k
    refine K0 _ ?_
    refine XS.aloadN X0.here hx rfl (hb hby d24_0) rfl rfl ?_
    exact k
  obtain ⟨T2, X2, e2, st2⟩ := getF X0 hx hZ hown (host := "") (Or.inl (hw _ (List.mem_of_getElem? (i := 162) rfl))) Via.refl e0 I_1 (g := (mkF m 1 #[.val (.ref r0), .unset, .unset] [(.ref r0)])) rfl rfl (hb hby d24_1)
  have K2 : own_K p e below SE T2 (mkF m 4 #[.val (.ref r0), .unset, .unset] [(.int (1 : Int32))]) := fun t k => K1 _ (st2 _ k)
  have K3 : own_K p e below SE T2 (mkF m 16 #[.val (.ref r0), .unset, .unset] [(.ref r0)]) := by
    intro t k
    refine K2 _ ?_
    refine XS.ifYes X2.here hx rfl (pc0 := 4) (pc' := 15) rfl (hb hby d24_4) rfl (XT.i0_gt_t (by decide : 0 < (1 : Int32))) (by decide) (by decide) ?_
    show own_S p e below T2 (mkF m 15 #[.val (.ref r0), .unset, .unset] []) _
    refine XS.aloadN X2.here hx rfl (hb hby d24_15) rfl rfl ?_
    exact k
  obtain ⟨T4, X4, e4, st4⟩ := getF X2 hx hZ hown (host := "") (Or.inl (hw _ (List.mem_of_getElem? (i := 156) rfl))) Via.refl e2 I_0 (g := (mkF m 16 #[.val (.ref r0), .unset, .unset] [(.ref r0)])) rfl rfl (hb hby d24_16)
  have K4 : own_K p e below SE T4 (mkF m 19 #[.val (.ref r0), .unset, .unset] [(.ref d)]) := fun t k => K3 _ (st4 _ k)
  obtain ⟨T5, X5, e5, st5⟩ := getF X4 hx hZ hown (host := "") (Or.inl (hw _ (List.mem_of_getElem? (i := 186) rfl))) Via.refl e4 F_e (g := (mkF m 19 #[.val (.ref r0), .unset, .unset] [(.ref d)])) rfl rfl (hb hby d24_19)
  have K5 : own_K p e below SE T5 (mkF m 22 #[.val (.ref r0), .unset, .unset] [(.ref ea)]) := fun t k => K4 _ (st5 _ k)
  have K6 : own_K p e below SE T5 (mkF m 25 #[.val (.ref r0), .val (.ref ea), .unset] [(.ref r0), (.ref ea)]) := by
    intro t k
    refine K5 _ ?_
    refine XS.astoreN X5.here hx rfl (hb hby d24_22) rfl rfl (l' := #[.val (.ref r0), .val (.ref ea), .unset]) rfl ?_
    show own_S p e below T5 (mkF m 23 #[.val (.ref r0), .val (.ref ea), .unset] []) _
    refine XS.aloadN X5.here hx rfl (hb hby d24_23) rfl rfl ?_
    show own_S p e below T5 (mkF m 24 #[.val (.ref r0), .val (.ref ea), .unset] [(.ref ea)]) _
    refine XS.aloadN X5.here hx rfl (hb hby d24_24) rfl rfl ?_
    exact k
  obtain ⟨T7, X7, e7, st7⟩ := getF X5 hx hZ hown (host := "") (Or.inl (hw _ (List.mem_of_getElem? (i := 167) rfl))) Via.refl e5 I_3 (g := (mkF m 25 #[.val (.ref r0), .val (.ref ea), .unset] [(.ref r0), (.ref ea)])) rfl rfl (hb hby d24_25)
  have K7 : own_K p e below SE T7 (mkF m 28 #[.val (.ref r0), .val (.ref ea), .unset] [(.int (0 : Int32)), (.ref ea)]) := fun t k => K6 _ (st7 _ k)
  obtain ⟨_, _, ⟨T8, L8, k8, n8⟩, -, X8, ⟨Lc8, hQ8, l8, y8, z8⟩, st8⟩ := Jvm.LawKit.callS X7 hx (y := (⟨"java/util/ArrayDeque", "nonNullElementAt", "([Ljava/lang/Object;I)Ljava/lang/Object;"⟩ : MethodName)) hown (mvT hZ (hw _ (List.mem_of_getElem? (i := 187) rfl))) (mvT hZ (hw _ (List.mem_of_getElem? (i := 188) rfl))) (mvT hZ (hw _ (List.mem_of_getElem? (i := 11) rfl))) (mvT hZ (hw _ (List.mem_of_getElem? (i := 189) rfl))) (by decide) (backOf (W := 0) (rmne l Z a0 hw [] ea kE w h0 n0 Z0 V_e) hZ (hw _ (List.mem_of_getElem? (i := 189) rfl)) (hw _ (List.mem_of_getElem? (i := 11) rfl)) (by decide) (by decide)) (g := (mkF m 28 #[.val (.ref r0), .val (.ref ea), .unset] [(.int (0 : Int32)), (.ref ea)])) rfl (by rw [hml]; rfl) (argsL := [(.ref ea), (.int (0 : Int32))]) (rest := []) (lenOf pd_nx_0 rfl) rfl (by show 2 * 0 + _ ≤ _; exact Nat.le_of_eq rfl) (hb hby d24_28) (fun _ _ => ⟨rfl, e7, (by decide : 0 + 0 ≤ _), (by decide : 0 + 0 ≤ _)⟩)
  dsimp only [Pt.U, Pt.locs, Pt.cells, Pt.slots] at X8 l8 y8 z8 st8 hQ8
  rw [y8, z8] at X8
  obtain ⟨rfl, Nq8, e8⟩ := hQ8
  have N8 : Fr n0 L8 := by rw [l8]; exact Fr.app N0 Nq8
  have K8 : own_K p e below SE T8 (mkF m 31 #[.val (.ref r0), .val (.ref ea), .unset] [(.ref w)]) := fun t k => K7 _ (st8 _ k)
  have K9 : own_K p e below SE T8 (mkF m 35 #[.val (.ref r0), .val (.ref ea), .val (.ref w)] [(.ref r0), (.ref r0), (.ref r0)]) := by
    intro t k
    refine K8 _ ?_
    refine XS.astoreN X8.here hx rfl (hb hby d24_31) rfl rfl (l' := #[.val (.ref r0), .val (.ref ea), .val (.ref w)]) rfl ?_
    show own_S p e below T8 (mkF m 32 #[.val (.ref r0), .val (.ref ea), .val (.ref w)] []) _
    refine XS.aloadN X8.here hx rfl (hb hby d24_32) rfl rfl ?_
    show own_S p e below T8 (mkF m 33 #[.val (.ref r0), .val (.ref ea), .val (.ref w)] [(.ref r0)]) _
    refine XS.aloadN X8.here hx rfl (hb hby d24_33) rfl rfl ?_
    show own_S p e below T8 (mkF m 34 #[.val (.ref r0), .val (.ref ea), .val (.ref w)] [(.ref r0), (.ref r0)]) _
    refine XS.aloadN X8.here hx rfl (hb hby d24_34) rfl rfl ?_
    exact k
  obtain ⟨T10, X10, e10, st10⟩ := getF X8 hx hZ hown (host := "") (Or.inl (hw _ (List.mem_of_getElem? (i := 167) rfl))) Via.refl e8 I_3 (g := (mkF m 35 #[.val (.ref r0), .val (.ref ea), .val (.ref w)] [(.ref r0), (.ref r0), (.ref r0)])) rfl rfl (hb hby d24_35)
  have K10 : own_K p e below SE T10 (mkF m 38 #[.val (.ref r0), .val (.ref ea), .val (.ref w)] [(.int (0 : Int32)), (.ref r0), (.ref r0)]) := fun t k => K9 _ (st10 _ k)
  have K11 : own_K p e below SE T10 (mkF m 39 #[.val (.ref r0), .val (.ref ea), .val (.ref w)] [(.int (0 : Int32)), (.ref r0), (.int (0 : Int32)), (.ref r0)]) := by
    intro t k
    refine K10 _ ?_
    refine XS.dupX1 X10.here hx rfl (hb hby d24_38) rfl rfl rfl ?_
    exact k
  obtain ⟨T12, h12, X12, e12, W12, st12⟩ := putF X10 hx hZ hown (host := "") (Or.inl (hw _ (List.mem_of_getElem? (i := 164) rfl))) Via.refl e10 I_2 E_r0 (Or.inl (hw _ (List.mem_of_getElem? (i := 165) rfl))) (hw _ (List.mem_of_getElem? (i := 150) rfl)) (ty := .int) (by decide) rfl rfl (g := (mkF m 39 #[.val (.ref r0), .val (.ref ea), .val (.ref w)] [(.int (0 : Int32)), (.ref r0), (.int (0 : Int32)), (.ref r0)])) rfl rfl (hb hby d24_39)
  have Fw12 := Fld.same W12 I_2
  have N12 := Fr.snoc X12 N8 g_r0
  have Kp12 : Keep h0 h12 [r0] := Keep.wr (Keep.refl h0 [r0]) W12 (Or.inl (List.mem_of_getElem? (i := 0) rfl))
  have K12 : own_K p e below SE T12 (mkF m 42 #[.val (.ref r0), .val (.ref ea), .val (.ref w)] [(.int (0 : Int32)), (.ref r0)]) := fun t k => K11 _ (st12 _ k)
  have K13 : own_K p e below SE T12 (mkF m 43 #[.val (.ref r0), .val (.ref ea), .val (.ref w)] [(.ref ea), (.int (0 : Int32)), (.ref r0)]) := by
    intro t k
    refine K12 _ ?_
    refine XS.aloadN X12.here hx rfl (hb hby d24_42) rfl rfl ?_
    exact k
  obtain ⟨cl14, Ar14, -, S14, Ng14, -, -⟩ := id (V_e.other W12 (Ne.symm n2))
  have K15 : own_K p e below SE T12 (mkF m 44 #[.val (.ref r0), .val (.ref ea), .val (.ref w)] [(.int (6 : Int32)), (.int (0 : Int32)), (.ref r0)]) := by
    intro t k
    refine K13 _ ?_
    refine X12.arraylength hx (by rw [e12]; exact Ar14.1) (State.isArrayOf_alike hZ.alike Ar14.2.1) (g := (mkF m 43 #[.val (.ref r0), .val (.ref ea), .val (.ref w)] [(.ref ea), (.int (0 : Int32)), (.ref r0)])) rfl rfl (hb hby d24_43) _ ?_
    rw [len_of S14 Ng14]
    exact k
  obtain ⟨_, _, ⟨T16, L16, k16, n16⟩, -, X16, ⟨Lc16, hQ16, l16, y16, z16⟩, st16⟩ := Jvm.LawKit.callS X12 hx (y := (⟨"java/util/ArrayDeque", "inc", "(II)I"⟩ : MethodName)) hown (mvT hZ (hw _ (List.mem_of_getElem? (i := 190) rfl))) (mvT hZ (hw _ (List.mem_of_getElem? (i := 139) rfl))) (mvT hZ (hw _ (List.mem_of_getElem? (i := 11) rfl))) (mvT hZ (hw _ (List.mem_of_getElem? (i := 140) rfl))) (by decide) (backOf (W := 1) (rminc l Z a0 hw [] h12 n0 (Nat.le_trans Z0 Kp12.1)) hZ (hw _ (List.mem_of_getElem? (i := 140) rfl)) (hw _ (List.mem_of_getElem? (i := 11) rfl)) (by decide) (by decide)) (g := (mkF m 44 #[.val (.ref r0), .val (.ref ea), .val (.ref w)] [(.int (6 : Int32)), (.int (0 : Int32)), (.ref r0)])) rfl (by rw [hml]; rfl) (argsL := [(.int (0 : Int32)), (.int (6 : Int32))]) (rest := [(.ref r0)]) (lenOf pd_nx_1 rfl) rfl (by show 2 * 0 + _ ≤ _; exact Nat.le_of_eq rfl) (hb hby d24_44) (fun _ _ => ⟨rfl, e12, (by decide : 0 + 0 ≤ _), (by decide : 0 + 0 ≤ _)⟩)
  dsimp only [Pt.U, Pt.locs, Pt.cells, Pt.slots] at X16 l16 y16 z16 st16 hQ16
  rw [y16, z16] at X16
  obtain ⟨rfl, Nq16, e16⟩ := hQ16
  have N16 : Fr n0 L16 := by rw [l16]; exact Fr.app N12 Nq16
  have K16 : own_K p e below SE T16 (mkF m 47 #[.val (.ref r0), .val (.ref ea), .val (.ref w)] [(.int (1 : Int32)), (.ref r0)]) := fun t k => K15 _ (st16 _ k)
  obtain ⟨T17, h17, X17, e17, W17, st17⟩ := putF X16 hx hZ hown (host := "") (Or.inl (hw _ (List.mem_of_getElem? (i := 167) rfl))) Via.refl e16 (I_3.other W12 (Or.inr (slot_ne (Or.inl (hw _ (List.mem_of_getElem? (i := 168) rfl))) (Or.inl (hw _ (List.mem_of_getElem? (i := 165) rfl))) (by decide) (t := .int) (t' := .int) (by decide) (by decide)))) (E_r0.wr W12) (Or.inl (hw _ (List.mem_of_getElem? (i := 168) rfl))) (hw _ (List.mem_of_getElem? (i := 150) rfl)) (ty := .int) (by decide) rfl rfl (g := (mkF m 47 #[.val (.ref r0), .val (.ref ea), .val (.ref w)] [(.int (1 : Int32)), (.ref r0)])) rfl rfl (hb hby d24_47)
  have Fw17 := Fld.same W17 (I_3.other W12 (Or.inr (slot_ne (Or.inl (hw _ (List.mem_of_getElem? (i := 168) rfl))) (Or.inl (hw _ (List.mem_of_getElem? (i := 165) rfl))) (by decide) (t := .int) (t' := .int) (by decide) (by decide))))
  have N17 := Fr.snoc X17 N16 g_r0
  have Kp17 : Keep h0 h17 [r0] := Keep.wr Kp12 W17 (Or.inl (List.mem_of_getElem? (i := 0) rfl))
  have K17 : own_K p e below SE T17 (mkF m 50 #[.val (.ref r0), .val (.ref ea), .val (.ref w)] []) := fun t k => K16 _ (st17 _ k)
  have K18 : own_K p e below SE T17 (mkF m 52 #[.val (.ref r0), .val (.ref ea), .val (.ref w)] [(.ref r0), (.ref r0)]) := by
    intro t k
    refine K17 _ ?_
    refine XS.aloadN X17.here hx rfl (hb hby d24_50) rfl rfl ?_
    show own_S p e below T17 (mkF m 51 #[.val (.ref r0), .val (.ref ea), .val (.ref w)] [(.ref r0)]) _
    refine XS.dup X17.here hx rfl (hb hby d24_51) rfl rfl ?_
    exact k
  obtain ⟨T19, X19, e19, st19⟩ := getF X17 hx hZ hown (host := "") (Or.inl (hw _ (List.mem_of_getElem? (i := 162) rfl))) Via.refl e17 ((I_1.other W12 (Or.inr (slot_ne (Or.inl (hw _ (List.mem_of_getElem? (i := 163) rfl))) (Or.inl (hw _ (List.mem_of_getElem? (i := 165) rfl))) (by decide) (t := .int) (t' := .int) (by decide) (by decide)))).other W17 (Or.inr (slot_ne (Or.inl (hw _ (List.mem_of_getElem? (i := 163) rfl))) (Or.inl (hw _ (List.mem_of_getElem? (i := 168) rfl))) (by decide) (t := .int) (t' := .int) (by decide) (by decide)))) (g := (mkF m 52 #[.val (.ref r0), .val (.ref ea), .val (.ref w)] [(.ref r0), (.ref r0)])) rfl rfl (hb hby d24_52)
  have K19 : own_K p e below SE T19 (mkF m 55 #[.val (.ref r0), .val (.ref ea), .val (.ref w)] [(.int (1 : Int32)), (.ref r0)]) := fun t k => K18 _ (st19 _ k)
  have K20 : own_K p e below SE T19 (mkF m 57 #[.val (.ref r0), .val (.ref ea), .val (.ref w)] [(.int (0 : Int32)), (.ref r0)]) := by
    intro t k
    refine K19 _ ?_
    refine XS.iconst X19.here hx rfl (hb hby d24_55) ?_
    show own_S p e below T19 (mkF m 56 #[.val (.ref r0), .val (.ref ea), .val (.ref w)] [(.int (1 : Int32)), (.int (1 : Int32)), (.ref r0)]) _
    refine XS.isub X19.here hx rfl (hb hby d24_56) rfl ?_
    exact k
  obtain ⟨T21, h21, X21, e21, W21, st21⟩ := putF X19 hx hZ hown (host := "") (Or.inl (hw _ (List.mem_of_getElem? (i := 162) rfl))) Via.refl e19 ((I_1.other W12 (Or.inr (slot_ne (Or.inl (hw _ (List.mem_of_getElem? (i := 163) rfl))) (Or.inl (hw _ (List.mem_of_getElem? (i := 165) rfl))) (by decide) (t := .int) (t' := .int) (by decide) (by decide)))).other W17 (Or.inr (slot_ne (Or.inl (hw _ (List.mem_of_getElem? (i := 163) rfl))) (Or.inl (hw _ (List.mem_of_getElem? (i := 168) rfl))) (by decide) (t := .int) (t' := .int) (by decide) (by decide)))) ((E_r0.wr W12).wr W17) (Or.inl (hw _ (List.mem_of_getElem? (i := 163) rfl))) (hw _ (List.mem_of_getElem? (i := 150) rfl)) (ty := .int) (by decide) rfl rfl (g := (mkF m 57 #[.val (.ref r0), .val (.ref ea), .val (.ref w)] [(.int (0 : Int32)), (.ref r0)])) rfl rfl (hb hby d24_57)
  have Fw21 := Fld.same W21 ((I_1.other W12 (Or.inr (slot_ne (Or.inl (hw _ (List.mem_of_getElem? (i := 163) rfl))) (Or.inl (hw _ (List.mem_of_getElem? (i := 165) rfl))) (by decide) (t := .int) (t' := .int) (by decide) (by decide)))).other W17 (Or.inr (slot_ne (Or.inl (hw _ (List.mem_of_getElem? (i := 163) rfl))) (Or.inl (hw _ (List.mem_of_getElem? (i := 168) rfl))) (by decide) (t := .int) (t' := .int) (by decide) (by decide))))
  have N21 := Fr.snoc X21 N17 g_r0
  have Kp21 : Keep h0 h21 [r0] := Keep.wr Kp17 W21 (Or.inl (List.mem_of_getElem? (i := 0) rfl))
  have K21 : own_K p e below SE T21 (mkF m 60 #[.val (.ref r0), .val (.ref ea), .val (.ref w)] []) := fun t k => K20 _ (st21 _ k)
  have K22 : own_K p e below SE T21 (mkF m 61 #[.val (.ref r0), .val (.ref ea), .val (.ref w)] [(.ref w)]) := by
    intro t k
    refine K21 _ ?_
    refine XS.aloadN X21.here hx rfl (hb hby d24_60) rfl rfl ?_
    exact k
  obtain ⟨fs, hr, hrun, hended, hW, hsame⟩ := X21.leave (v := some (.ref w)) (fun h => by rw [Bd.returns] at h; cases h)
  refine ⟨_, _, K22 _ ?_, hrun, hended, _, _, rfl, ?_, ⟨_, rfl⟩, hW, hsame.mono (by decide) (by decide)⟩
  · show Steps p.tables e below (T21.setTop (mkF m 61 #[.val (.ref r0), .val (.ref ea), .val (.ref w)] [(.ref w)])) _
    jvm_step X21.here [X21.here.top, hx, (hb hby d24_61), X21.method', Bd.returns, Value.isRef, FieldType.isReference]
    first | (intro acts; rw [hr _ acts rfl rfl rfl]) | rw [hr _ _ rfl rfl rfl]
    exact Steps.refl _
  · show Qnx Z r0 d ea kE w h0 n0 _ T21.heap _
    rw [e21]
    exact ⟨rfl, N21, Kp21, (((E_r0.wr W12).wr W17).wr W21), Fw21⟩
theorem own_one : Fin64 (FP.i2d (1 : Int32)) ∧ Nz64 (FP.i2d (1 : Int32)) := by
  refine ⟨i2d_fin _, ?_⟩
  unfold Nz64
  decide +kernel
theorem own_zero : Fin64 FP.dconst0 := by
  unfold Fin64
  decide +kernel
theorem own_million : Fin64 (4696837146684686336 : UInt64) ∧ Nz64 (4696837146684686336 : UInt64) := by
  unfold Fin64 Nz64
  decide +kernel
theorem own_sum {x : UInt64} (h : NoNaN64 x) : NoNaN64 (FP.dadd FP.dconst0 (FP.ddiv x (FP.i2d (1 : Int32)))) := dadd_out' own_zero (ddiv_out h own_one.1 own_one.2)
theorem own_zz : NoNaN64 (0 : UInt64) := by
  unfold NoNaN64
  decide +kernel
theorem d6_0 : decode prog_44_method_16_code 0 = .ok (.aload_n 0, 1) := by decide +kernel
theorem d6_1 : decode prog_44_method_16_code 1 = .ok (.lload_n 1, 1) := by decide +kernel
theorem d6_2 : decode prog_44_method_16_code 2 = .ok (.putfield 41, 3) := by decide +kernel
theorem d6_5 : decode prog_44_method_16_code 5 = .ok (.dload_n 3, 1) := by decide +kernel
theorem d6_6 : decode prog_44_method_16_code 6 = .ok (.dconst 0, 1) := by decide +kernel
theorem d6_7 : decode prog_44_method_16_code 7 = .ok (.dcmp .l, 1) := by decide +kernel
theorem d6_8 : decode prog_44_method_16_code 8 = .ok (.ifCond .le 105, 3) := by decide +kernel
theorem d6_11 : decode prog_44_method_16_code 11 = .ok (.aload_n 0, 1) := by decide +kernel
theorem d6_12 : decode prog_44_method_16_code 12 = .ok (.getfield 14, 3) := by decide +kernel
theorem d6_15 : decode prog_44_method_16_code 15 = .ok (.invokeinterface 83 1, 5) := by decide +kernel
theorem d6_20 : decode prog_44_method_16_code 20 = .ok (.iconst 5, 1) := by decide +kernel
theorem d6_21 : decode prog_44_method_16_code 21 = .ok (.if_icmp .ne 13, 3) := by decide +kernel
theorem d6_34 : decode prog_44_method_16_code 34 = .ok (.aload_n 0, 1) := by decide +kernel
theorem d6_35 : decode prog_44_method_16_code 35 = .ok (.getfield 14, 3) := by decide +kernel
theorem d6_38 : decode prog_44_method_16_code 38 = .ok (.dload_n 3, 1) := by decide +kernel
theorem d6_39 : decode prog_44_method_16_code 39 = .ok (.invokestatic 91, 3) := by decide +kernel
theorem d6_42 : decode prog_44_method_16_code 42 = .ok (.invokeinterface 97 2, 5) := by decide +kernel
theorem d6_47 : decode prog_44_method_16_code 47 = .ok (.aload_n 0, 1) := by decide +kernel
theorem d6_48 : decode prog_44_method_16_code 48 = .ok (.dconst 0, 1) := by decide +kernel
theorem d6_49 : decode prog_44_method_16_code 49 = .ok (.putfield 44, 3) := by decide +kernel
theorem d6_52 : decode prog_44_method_16_code 52 = .ok (.aload_n 0, 1) := by decide +kernel
theorem d6_53 : decode prog_44_method_16_code 53 = .ok (.getfield 14, 3) := by decide +kernel
theorem d6_56 : decode prog_44_method_16_code 56 = .ok (.invokeinterface 101 1, 5) := by decide +kernel
theorem d6_61 : decode prog_44_method_16_code 61 = .ok (.astore 7, 2) := by decide +kernel
theorem d6_63 : decode prog_44_method_16_code 63 = .ok (.aload 7, 2) := by decide +kernel
theorem d6_65 : decode prog_44_method_16_code 65 = .ok (.invokeinterface 105 1, 5) := by decide +kernel
theorem d6_70 : decode prog_44_method_16_code 70 = .ok (.ifCond .eq 43, 3) := by decide +kernel
theorem d6_73 : decode prog_44_method_16_code 73 = .ok (.aload 7, 2) := by decide +kernel
theorem d6_75 : decode prog_44_method_16_code 75 = .ok (.invokeinterface 110 1, 5) := by decide +kernel
theorem d6_80 : decode prog_44_method_16_code 80 = .ok (.checkcast 92, 3) := by decide +kernel
theorem d6_83 : decode prog_44_method_16_code 83 = .ok (.invokevirtual 113, 3) := by decide +kernel
theorem d6_86 : decode prog_44_method_16_code 86 = .ok (.dstore 8, 2) := by decide +kernel
theorem d6_88 : decode prog_44_method_16_code 88 = .ok (.aload_n 0, 1) := by decide +kernel
theorem d6_89 : decode prog_44_method_16_code 89 = .ok (.dup, 1) := by decide +kernel
theorem d6_90 : decode prog_44_method_16_code 90 = .ok (.getfield 44, 3) := by decide +kernel
theorem d6_93 : decode prog_44_method_16_code 93 = .ok (.dload 8, 2) := by decide +kernel
theorem d6_95 : decode prog_44_method_16_code 95 = .ok (.aload_n 0, 1) := by decide +kernel
theorem d6_96 : decode prog_44_method_16_code 96 = .ok (.getfield 14, 3) := by decide +kernel
theorem d6_99 : decode prog_44_method_16_code 99 = .ok (.invokeinterface 83 1, 5) := by decide +kernel
theorem d6_104 : decode prog_44_method_16_code 104 = .ok (.i2d, 1) := by decide +kernel
theorem d6_105 : decode prog_44_method_16_code 105 = .ok (.ddiv, 1) := by decide +kernel
theorem d6_106 : decode prog_44_method_16_code 106 = .ok (.dadd, 1) := by decide +kernel
theorem d6_107 : decode prog_44_method_16_code 107 = .ok (.putfield 44, 3) := by decide +kernel
theorem d6_110 : decode prog_44_method_16_code 110 = .ok (.goto (-47), 3) := by decide +kernel
theorem d6_113 : decode prog_44_method_16_code 113 = .ok (.aload_n 0, 1) := by decide +kernel
theorem d6_114 : decode prog_44_method_16_code 114 = .ok (.lconst 0, 1) := by decide +kernel
theorem d6_115 : decode prog_44_method_16_code 115 = .ok (.putfield 54, 3) := by decide +kernel
theorem d6_118 : decode prog_44_method_16_code 118 = .ok (.aload_n 0, 1) := by decide +kernel
theorem d6_119 : decode prog_44_method_16_code 119 = .ok (.lload 5, 2) := by decide +kernel
theorem d6_121 : decode prog_44_method_16_code 121 = .ok (.putfield 26, 3) := by decide +kernel
theorem d6_124 : decode prog_44_method_16_code 124 = .ok (.return_, 1) := by decide +kernel
theorem pd_up_0 : parseMethodDescriptor "()I" = some ⟨[], some .int⟩ := by decide +kernel
theorem pd_up_1 : parseMethodDescriptor "(D)Ljava/lang/Double;" = some ⟨[.double], some (.object "java/lang/Double")⟩ := by decide +kernel
theorem pd_up_2 : parseMethodDescriptor "(Ljava/lang/Object;)V" = some ⟨[(.object "java/lang/Object")], none⟩ := by decide +kernel
theorem pd_up_3 : parseMethodDescriptor "()Ljava/util/Iterator;" = some ⟨[], some (.object "java/util/Iterator")⟩ := by decide +kernel
theorem pd_up_4 : parseMethodDescriptor "()Z" = some ⟨[], some .boolean⟩ := by decide +kernel
theorem pd_up_5 : parseMethodDescriptor "()Ljava/lang/Object;" = some ⟨[], some (.object "java/lang/Object")⟩ := by decide +kernel
theorem pd_up_6 : parseMethodDescriptor "()D" = some ⟨[], some .double⟩ := by decide +kernel
theorem ef_up (m : MethodId) (r0 : Addr) (q1 : Int64) (f2 : UInt64) (q3 : Int64) : entryFrame m #[(.ref r0), (.long q1), (.double f2), (.long q3)] 10 = mkF m 0 #[.val (.ref r0), .val (.long q1), .second, .val (.double f2), .second, .val (.long q3), .second, .unset, .unset, .unset] [] := by first | (simp [entryFrame, mkF, argsToLocals, Value.category]; done) | rfl
def Qup (Z : State) (r0 : Addr) (q1 : Int64) (f2 : UInt64) (q3 : Int64) (vp : Int64) (vm : UInt64) (vs : Int64) (vd : Int64) (vr : Int64) (vl : Int64) (d : Addr) (va : Int64) (ea : Addr) (kE : ClassId) (h0 : Heap) (n0 : Nat) (v : Option Value) (h : Heap) (L : List Loc) : Prop := v = none ∧ Fr n0 L ∧ Keep h0 h [r0, d, ea] ∧ Exa Z h r0 "com/example/headroom/headroom/model/Member" ∧ ∃ vz : UInt64, NoNaN64 vz ∧ Fld Z h r0 "com/example/headroom/headroom/model/Member" "processingMs" "D" (.double vz) ∧ Fld Z h r0 "com/example/headroom/headroom/model/Member" "pending" "J" (.long q1) ∧ Fld Z h r0 "com/example/headroom/headroom/model/Member" "sentSinceReport" "J" (.long (0 : Int64)) ∧ Fld Z h r0 "com/example/headroom/headroom/model/Member" "delivered" "J" (.long vd) ∧ Fld Z h r0 "com/example/headroom/headroom/model/Member" "lastReportNanos" "J" (.long q3) ∧ Fld Z h r0 "com/example/headroom/headroom/model/Member" "lastSentNanos" "J" (.long vl) ∧ Fld Z h r0 "com/example/headroom/headroom/model/Member" "processingTimes" "Ljava/util/Deque;" (.ref d) ∧ Fld Z h r0 "com/example/headroom/headroom/model/Member" "reported" "Z" (.int (0 : Int32)) ∧ Fld Z h r0 "com/example/headroom/headroom/model/Member" "lastAcknowledgedNanos" "J" (.long va)
set_option maxRecDepth 65536 in
set_option maxHeartbeats 40000000 in
theorem rmup (l : Launch) (Z : State) (a0 : Array Value) (hw : ∀ d ∈ tables_1, d.before a0 Z = true) (ws : List Jvm.Cond) (r0 : Addr) (q1 : Int64) (f2 : UInt64) (q3 : Int64) (vp : Int64) (vm : UInt64) (vs : Int64) (vd : Int64) (vr : Int64) (vl : Int64) (d : Addr) (va : Int64) (ea : Addr) (kE : ClassId) (h0 : Heap) (n0 : Nat) (Z0 : n0 ≤ h0.size) (hD : NoNaN64 f2) (hm : NoNaN64 vm) (E_r0 : Exa Z h0 r0 "com/example/headroom/headroom/model/Member") (M_pending : Fld Z h0 r0 "com/example/headroom/headroom/model/Member" "pending" "J" (.long vp)) (M_processingMs : Fld Z h0 r0 "com/example/headroom/headroom/model/Member" "processingMs" "D" (.double vm)) (M_sentSinceReport : Fld Z h0 r0 "com/example/headroom/headroom/model/Member" "sentSinceReport" "J" (.long vs)) (M_delivered : Fld Z h0 r0 "com/example/headroom/headroom/model/Member" "delivered" "J" (.long vd)) (M_lastReportNanos : Fld Z h0 r0 "com/example/headroom/headroom/model/Member" "lastReportNanos" "J" (.long vr)) (M_lastSentNanos : Fld Z h0 r0 "com/example/headroom/headroom/model/Member" "lastSentNanos" "J" (.long vl)) (M_processingTimes : Fld Z h0 r0 "com/example/headroom/headroom/model/Member" "processingTimes" "Ljava/util/Deque;" (.ref d)) (M_reported : Fld Z h0 r0 "com/example/headroom/headroom/model/Member" "reported" "Z" (.int (0 : Int32))) (M_lastAcknowledgedNanos : Fld Z h0 r0 "com/example/headroom/headroom/model/Member" "lastAcknowledgedNanos" "J" (.long va)) (E_d : Exa Z h0 d "java/util/ArrayDeque") (F_h : Fld Z h0 d "java/util/ArrayDeque" "head" "I" (.int (0 : Int32))) (F_t : Fld Z h0 d "java/util/ArrayDeque" "tail" "I" (.int (0 : Int32))) (F_e : Fld Z h0 d "java/util/ArrayDeque" "elements" "[Ljava/lang/Object;" (.ref ea)) (V_e : Arv Z h0 ea kE (.object "java/lang/Object") (6 : Int32) [.null, .null, .null, .null, .null, .null] .null) (Ov : Ovr Z kE "java/lang/Object") (g_r0 : n0 ≤ r0) (g_d : n0 ≤ d) (g_ea : n0 ≤ ea) (n1 : r0 ≠ d) (n2 : r0 ≠ ea) (n3 : d ≠ ea) :
    MetFree l (⟨"com/example/headroom/headroom/model/Member", "update", "(JDJ)V"⟩ : MethodName) (head1 (Jvm.Cond.code (⟨"com/example/headroom/headroom/model/Member", "update", "(JDJ)V"⟩ : MethodName) prog_44_method_16_code 10 none :: ws) ({ frames := 4, cells := 2, slots := 5, locals := 53 } : Room)) (fun a U => a = #[(.ref r0), (.long q1), (.double f2), (.long q3)] ∧ Z.Warmed39 U.vm ∧ U.heap = h0) (fun _ _ _ _ _ => True) (fun _ U o U' => ∃ v L, o = .returned v ∧ Qup Z r0 q1 f2 q3 vp vm vs vd vr vl d va ea kE h0 n0 v U'.heap L ∧ FrameEnd U o U' L ({ frames := 4, cells := 2, slots := 5, locals := 53 } : Room).cells ({ frames := 4, cells := 2, slots := 5, locals := 53 } : Room).slots) := by
  refine MetFree.of_bodySF (plainFor_of_name pn_1) hisR ?_
  intro p e s m args below meth c s₁ Bd hml0 hP hK
  obtain ⟨rfl, hZ, hh⟩ := hP
  have hx := Bd.exec
  have hby := Bd.bytes
  have hml : c.maxLocals = 10 := hml0
  have hown : s.vm.findClass "com/example/headroom/headroom/model/Member" = some m.cls := findClass_of_methodNamed Bd.named
  have hnm := (name_of_methodNamed Bd.named Bd.method).1
  have X0 : Stand p l e ({ frames := 4, cells := 2, slots := 5, locals := 53 } : Room) s m #[(.ref r0), (.long q1), (.double f2), (.long q3)] below meth c s₁ [] 0 0 := Stand.of_body Bd
  have e0 : s₁.heap = h0 := by rw [← hh, Bd.state]; rfl
  have N0 := Fr.nil n0
  have K0 : ∀ t, Steps p.tables e below (s₁.setTop (mkF m 0 #[.val (.ref r0), .val (.long q1), .second, .val (.double f2), .second, .val (.long q3), .second, .unset, .unset, .unset] [])) t → Steps p.tables e below (s₁.setTop (entryFrame m #[(.ref r0), (.long q1), (.double f2), (.long q3)] 10)) t := fun t k => castTop (ef_up m r0 q1 f2 q3) k
  generalize s₁.setTop (entryFrame m #[(.ref r0), (.long q1), (.double f2), (.long q3)] 10) = SE at K0 ⊢
  have K1 : own_K p e below SE s₁ (mkF m 2 #[.val (.ref r0), .val (.long q1), .second, .val (.double f2), .second, .val (.long q3), .second, .unset, .unset, .unset] [(.long q1), (.ref r0)]) := by
    intro t k
    refine K0 _ ?_
    refine XS.aloadN X0.here hx rfl (hb hby d6_0) rfl rfl ?_
    show own_S p e below s₁ (mkF m 1 #[.val (.ref r0), .val (.long q1), .second, .val (.double f2), .second, .val (.long q3), .second, .unset, .unset, .unset] [(.ref r0)]) _
    refine XS.lloadN X0.here hx rfl (hb hby d6_1) rfl ?_
    exact k
  obtain ⟨T2, h2, X2, e2, W2, st2⟩ := putF X0 hx hZ hown (host := "") (Or.inl (hw _ (List.mem_of_getElem? (i := 51) rfl))) Via.refl e0 M_pending E_r0 (Or.inl (hw _ (List.mem_of_getElem? (i := 52) rfl))) (hw _ (List.mem_of_getElem? (i := 1) rfl)) (ty := .long) (by decide) rfl rfl (g := (mkF m 2 #[.val (.ref r0), .val (.long q1), .second, .val (.double f2), .second, .val (.long q3), .second, .unset, .unset, .unset] [(.long q1), (.ref r0)])) rfl rfl (hb hby d6_2)
  have Fw2 := Fld.same W2 M_pending
  have N2 := Fr.snoc X2 N0 g_r0
  have Kp2 : Keep h0 h2 [r0, d, ea] := Keep.wr (Keep.refl h0 [r0, d, ea]) W2 (Or.inl (List.mem_of_getElem? (i := 0) rfl))
  have K2 : own_K p e below SE T2 (mkF m 5 #[.val (.ref r0), .val (.long q1), .second, .val (.double f2), .second, .val (.long q3), .second, .unset, .unset, .unset] []) := fun t k => K1 _ (st2 _ k)
  have K3 : own_K p e below SE T2 (mkF m 8 #[.val (.ref r0), .val (.long q1), .second, .val (.double f2), .second, .val (.long q3), .second, .unset, .unset, .unset] [(.int (cmpValue (FP.dcmp f2 FP.dconst0) CmpOp.l))]) := by
    intro t k
    refine K2 _ ?_
    refine XS.dloadN X2.here hx rfl (hb hby d6_5) rfl ?_
    show own_S p e below T2 (mkF m 6 #[.val (.ref r0), .val (.long q1), .second, .val (.double f2), .second, .val (.long q3), .second, .unset, .unset, .unset] [(.double f2)]) _
    refine XS.dconst0 X2.here hx rfl (hb hby d6_6) rfl ?_
    show own_S p e below T2 (mkF m 7 #[.val (.ref r0), .val (.long q1), .second, .val (.double f2), .second, .val (.long q3), .second, .unset, .unset, .unset] [(.double FP.dconst0), (.double f2)]) _
    refine XS.dcmpS X2.here hx rfl (hb hby d6_7) rfl rfl ?_
    exact k
  by_cases cpos : 0 < (cmpValue (FP.dcmp f2 FP.dconst0) CmpOp.l)
  · skip
    have K4 : own_K p e below SE T2 (mkF m 12 #[.val (.ref r0), .val (.long q1), .second, .val (.double f2), .second, .val (.long q3), .second, .unset, .unset, .unset] [(.ref r0)]) := by
      intro t k
      refine K3 _ ?_
      refine XS.ifNo X2.here hx rfl (hb hby d6_8) rfl (XT.i0_le_f cpos) ?_
      show own_S p e below T2 (mkF m 11 #[.val (.ref r0), .val (.long q1), .second, .val (.double f2), .second, .val (.long q3), .second, .unset, .unset, .unset] []) _
      refine XS.aloadN X2.here hx rfl (hb hby d6_11) rfl rfl ?_
      exact k
    obtain ⟨T5, X5, e5, st5⟩ := getF X2 hx hZ hown (host := "") (Or.inl (hw _ (List.mem_of_getElem? (i := 27) rfl))) Via.refl e2 (M_processingTimes.other W2 (Or.inr (slot_ne (Or.inr (hw _ (List.mem_of_getElem? (i := 28) rfl))) (Or.inl (hw _ (List.mem_of_getElem? (i := 52) rfl))) (by decide) (t := (.object "java/util/Deque")) (t' := .long) (by decide) (by decide)))) (g := (mkF m 12 #[.val (.ref r0), .val (.long q1), .second, .val (.double f2), .second, .val (.long q3), .second, .unset, .unset, .unset] [(.ref r0)])) rfl rfl (hb hby d6_12)
    have K5 : own_K p e below SE T5 (mkF m 15 #[.val (.ref r0), .val (.long q1), .second, .val (.double f2), .second, .val (.long q3), .second, .unset, .unset, .unset] [(.ref d)]) := fun t k => K4 _ (st5 _ k)
    obtain ⟨cq6, kq6, q6a, q6b, q6c⟩ := isOf hZ e5 (E_d.wr W2)
    obtain ⟨_, _, ⟨T6, L6, k6, n6⟩, -, X6, ⟨Lc6, hQ6, l6, y6, z6⟩, st6⟩ := X5.interfaceBack hx (xi := (⟨"java/util/Deque", "size", "()I"⟩ : MethodName)) (y := (⟨"java/util/ArrayDeque", "size", "()I"⟩ : MethodName)) hown (mvT hZ (hw _ (List.mem_of_getElem? (i := 94) rfl))) (mvT hZ (hw _ (List.mem_of_getElem? (i := 95) rfl))) (mvT hZ (hw _ (List.mem_of_getElem? (i := 96) rfl))) (mvT hZ (hw _ (List.mem_of_getElem? (i := 97) rfl))) (mvT hZ (hw _ (List.mem_of_getElem? (i := 98) rfl))) (mvT hZ (hw _ (List.mem_of_getElem? (i := 99) rfl))) (mvT hZ (hw _ (List.mem_of_getElem? (i := 100) rfl))) (mvT hZ (hw _ (List.mem_of_getElem? (i := 101) rfl))) (by decide) (backOf (W := 0) (rmsize0 l Z a0 hw [] d ea kE  h2 n0 (Nat.le_trans Z0 Kp2.1) (F_h.other W2 (Or.inl (Ne.symm n1))) (F_t.other W2 (Or.inl (Ne.symm n1))) (F_e.other W2 (Or.inl (Ne.symm n1))) (V_e.other W2 (Ne.symm n2))) hZ (hw _ (List.mem_of_getElem? (i := 102) rfl)) (hw _ (List.mem_of_getElem? (i := 11) rfl)) (by decide) (by decide)) q6a q6b q6c (g := (mkF m 15 #[.val (.ref r0), .val (.long q1), .second, .val (.double f2), .second, .val (.long q3), .second, .unset, .unset, .unset] [(.ref d)])) rfl (by rw [hml]; rfl) (Steps.refl _) (argsL := []) (rest := []) (lenOf pd_up_0 rfl) rfl (by show 2 * 0 + _ ≤ _; exact Nat.le_of_eq rfl) (hb hby d6_15) (fun _ _ => ⟨rfl, e5, (by decide : 0 + 0 ≤ _), (by decide : 0 + 0 ≤ _)⟩)
    dsimp only [Pt.U, Pt.locs, Pt.cells, Pt.slots] at X6 l6 y6 z6 st6 hQ6
    rw [y6, z6] at X6
    obtain ⟨rfl, Nq6, e6⟩ := hQ6
    have N6 : Fr n0 L6 := by rw [l6]; exact Fr.app N2 Nq6
    have K6 : own_K p e below SE T6 (mkF m 20 #[.val (.ref r0), .val (.long q1), .second, .val (.double f2), .second, .val (.long q3), .second, .unset, .unset, .unset] [(.int (0 : Int32))]) := fun t k => K5 _ (st6.trans k)
    have K7 : own_K p e below SE T6 (mkF m 35 #[.val (.ref r0), .val (.long q1), .second, .val (.double f2), .second, .val (.long q3), .second, .unset, .unset, .unset] [(.ref r0)]) := by
      intro t k
      refine K6 _ ?_
      refine XS.iconst X6.here hx rfl (hb hby d6_20) ?_
      show own_S p e below T6 (mkF m 21 #[.val (.ref r0), .val (.long q1), .second, .val (.double f2), .second, .val (.long q3), .second, .unset, .unset, .unset] [(.int (5 : Int32)), (.int (0 : Int32))]) _
      refine XS.icmpYes X6.here hx rfl (pc0 := 21) (pc' := 34) rfl (hb hby d6_21) rfl (XT.ii_ne_t (by decide : ¬ ((0 : Int32) = (5 : Int32)))) (by decide) (by decide) ?_
      show own_S p e below T6 (mkF m 34 #[.val (.ref r0), .val (.long q1), .second, .val (.double f2), .second, .val (.long q3), .second, .unset, .unset, .unset] []) _
      refine XS.aloadN X6.here hx rfl (hb hby d6_34) rfl rfl ?_
      exact k
    obtain ⟨T8, X8, e8, st8⟩ := getF X6 hx hZ hown (host := "") (Or.inl (hw _ (List.mem_of_getElem? (i := 27) rfl))) Via.refl e6 (M_processingTimes.other W2 (Or.inr (slot_ne (Or.inr (hw _ (List.mem_of_getElem? (i := 28) rfl))) (Or.inl (hw _ (List.mem_of_getElem? (i := 52) rfl))) (by decide) (t := (.object "java/util/Deque")) (t' := .long) (by decide) (by decide)))) (g := (mkF m 35 #[.val (.ref r0), .val (.long q1), .second, .val (.double f2), .second, .val (.long q3), .second, .unset, .unset, .unset] [(.ref r0)])) rfl rfl (hb hby d6_35)
    have K8 : own_K p e below SE T8 (mkF m 38 #[.val (.ref r0), .val (.long q1), .second, .val (.double f2), .second, .val (.long q3), .second, .unset, .unset, .unset] [(.ref d)]) := fun t k => K7 _ (st8 _ k)
    have K9 : own_K p e below SE T8 (mkF m 39 #[.val (.ref r0), .val (.long q1), .second, .val (.double f2), .second, .val (.long q3), .second, .unset, .unset, .unset] [(.double f2), (.ref d)]) := by
      intro t k
      refine K8 _ ?_
      refine XS.dloadN X8.here hx rfl (hb hby d6_38) rfl ?_
      exact k
    obtain ⟨_, _, ⟨T10, L10, k10, n10⟩, -, X10, ⟨Lc10, hQ10, l10, y10, z10⟩, st10⟩ := Jvm.LawKit.callS X8 hx (y := (⟨"java/lang/Double", "valueOf", "(D)Ljava/lang/Double;"⟩ : MethodName)) hown (mvT hZ (hw _ (List.mem_of_getElem? (i := 110) rfl))) (mvT hZ (hw _ (List.mem_of_getElem? (i := 111) rfl))) (mvT hZ (hw _ (List.mem_of_getElem? (i := 112) rfl))) (mvT hZ (hw _ (List.mem_of_getElem? (i := 113) rfl))) (by decide) (backOf (W := 1) (rmdv l Z a0 hw [] f2 h2 n0 (Nat.le_trans Z0 Kp2.1)) hZ (hw _ (List.mem_of_getElem? (i := 113) rfl)) (hw _ (List.mem_of_getElem? (i := 112) rfl)) (by decide) (by decide)) (g := (mkF m 39 #[.val (.ref r0), .val (.long q1), .second, .val (.double f2), .second, .val (.long q3), .second, .unset, .unset, .unset] [(.double f2), (.ref d)])) rfl (by rw [hml]; rfl) (argsL := [(.double f2)]) (rest := [(.ref d)]) (lenOf pd_up_1 rfl) rfl (by show 2 * 0 + _ ≤ _; exact Nat.le_of_eq rfl) (hb hby d6_39) (fun _ _ => ⟨rfl, e8, (by decide : 0 + 1 ≤ _), (by decide : 0 + 1 ≤ _)⟩)
    dsimp only [Pt.U, Pt.locs, Pt.cells, Pt.slots] at X10 l10 y10 z10 st10 hQ10
    rw [y10, z10] at X10
    obtain ⟨rfl, Nq10, Kq10, Ex10, Fv10⟩ := hQ10
    have N10 : Fr n0 L10 := by rw [l10]; exact Fr.app N6 Nq10
    have Kp10 : Keep h0 T10.heap [r0, d, ea] := Keep.trans Kp2 Kq10 all0
    have K10 : own_K p e below SE T10 (mkF m 42 #[.val (.ref r0), .val (.long q1), .second, .val (.double f2), .second, .val (.long q3), .second, .unset, .unset, .unset] [(.ref h2.size), (.ref d)]) := fun t k => K9 _ (st10 _ k)
    obtain ⟨w, gw⟩ : ∃ z, z = h2.size := ⟨_, rfl⟩
    rw [← gw] at K10 Ex10 Fv10
    have g_w : n0 ≤ w := Nat.le_trans (Nat.le_trans Z0 Kp2.1) (Nat.le_of_eq gw.symm)
    have sz_w : h0.size ≤ w := Nat.le_trans Kp2.1 (Nat.le_of_eq gw.symm)
    have own_ne_d_w : d ≠ w := Nat.ne_of_lt (Nat.lt_of_lt_of_le (E_d.wr W2).lt (Nat.le_of_eq gw.symm))
    have own_ne_ea_w : ea ≠ w := Nat.ne_of_lt (Nat.lt_of_lt_of_le (V_e.other W2 (Ne.symm n2)).lt (Nat.le_of_eq gw.symm))
    have own_ne_r0_w : r0 ≠ w := Nat.ne_of_lt (Nat.lt_of_lt_of_le (E_r0.wr W2).lt (Nat.le_of_eq gw.symm))
    obtain ⟨cq11, kq11, q11a, q11b, q11c⟩ := isOf hZ rfl ((E_d.wr W2).keep Kq10)
    obtain ⟨_, _, ⟨T11, L11, k11, n11⟩, -, X11, ⟨Lc11, hQ11, l11, y11, z11⟩, st11⟩ := X10.interfaceBack hx (xi := (⟨"java/util/Deque", "addLast", "(Ljava/lang/Object;)V"⟩ : MethodName)) (y := (⟨"java/util/ArrayDeque", "addLast", "(Ljava/lang/Object;)V"⟩ : MethodName)) hown (mvT hZ (hw _ (List.mem_of_getElem? (i := 129) rfl))) (mvT hZ (hw _ (List.mem_of_getElem? (i := 130) rfl))) (mvT hZ (hw _ (List.mem_of_getElem? (i := 131) rfl))) (mvT hZ (hw _ (List.mem_of_getElem? (i := 132) rfl))) (mvT hZ (hw _ (List.mem_of_getElem? (i := 133) rfl))) (mvT hZ (hw _ (List.mem_of_getElem? (i := 134) rfl))) (mvT hZ (hw _ (List.mem_of_getElem? (i := 135) rfl))) (mvT hZ (hw _ (List.mem_of_getElem? (i := 101) rfl))) (by decide) (backOf (W := 0) (rmal l Z a0 hw [] d w ea kE T10.heap n0 (Nat.le_trans Z0 Kp10.1) ((E_d.wr W2).keep Kq10) Ex10 ((F_h.other W2 (Or.inl (Ne.symm n1))).keep Kq10 nin0) ((F_t.other W2 (Or.inl (Ne.symm n1))).keep Kq10 nin0) ((F_e.other W2 (Or.inl (Ne.symm n1))).keep Kq10 nin0) ((V_e.other W2 (Ne.symm n2)).keep Kq10 nin0) Ov g_d g_ea n3 (Ne.symm own_ne_ea_w) own_ne_d_w) hZ (hw _ (List.mem_of_getElem? (i := 136) rfl)) (hw _ (List.mem_of_getElem? (i := 11) rfl)) (by decide) (by decide)) q11a q11b q11c (g := (mkF m 42 #[.val (.ref r0), .val (.long q1), .second, .val (.double f2), .second, .val (.long q3), .second, .unset, .unset, .unset] [(.ref w), (.ref d)])) rfl (by rw [hml]; rfl) (Steps.refl _) (argsL := [(.ref w)]) (rest := []) (lenOf pd_up_2 rfl) rfl (by show 2 * 0 + _ ≤ _; exact Nat.le_of_eq rfl) (hb hby d6_42) (fun _ _ => ⟨rfl, rfl, (by decide : 1 + 0 ≤ _), (by decide : 1 + 0 ≤ _)⟩)
    dsimp only [Pt.U, Pt.locs, Pt.cells, Pt.slots] at X11 l11 y11 z11 st11 hQ11
    rw [y11, z11] at X11
    obtain ⟨rfl, Nq11, Kq11, Ed11, Fh11, Ft11, Fe11, Va11⟩ := hQ11
    have N11 : Fr n0 L11 := by rw [l11]; exact Fr.app N10 Nq11
    have Kp11 : Keep h0 T11.heap [r0, d, ea] := Keep.trans Kp10 Kq11 (allS (Or.inl (List.mem_of_getElem? (i := 1) rfl)) (allS (Or.inl (List.mem_of_getElem? (i := 2) rfl)) all0))
    have K11 : own_K p e below SE T11 (mkF m 47 #[.val (.ref r0), .val (.long q1), .second, .val (.double f2), .second, .val (.long q3), .second, .unset, .unset, .unset] []) := fun t k => K10 _ (st11.trans k)
    have K12 : own_K p e below SE T11 (mkF m 49 #[.val (.ref r0), .val (.long q1), .second, .val (.double f2), .second, .val (.long q3), .second, .unset, .unset, .unset] [(.double FP.dconst0), (.ref r0)]) := by
      intro t k
      refine K11 _ ?_
      refine XS.aloadN X11.here hx rfl (hb hby d6_47) rfl rfl ?_
      show own_S p e below T11 (mkF m 48 #[.val (.ref r0), .val (.long q1), .second, .val (.double f2), .second, .val (.long q3), .second, .unset, .unset, .unset] [(.ref r0)]) _
      refine XS.dconst0 X11.here hx rfl (hb hby d6_48) rfl ?_
      exact k
    obtain ⟨T13, h13, X13, e13, W13, st13⟩ := putF X11 hx hZ hown (host := "") (Or.inl (hw _ (List.mem_of_getElem? (i := 60) rfl))) Via.refl rfl (((M_processingMs.other W2 (Or.inr (slot_ne (Or.inl (hw _ (List.mem_of_getElem? (i := 61) rfl))) (Or.inl (hw _ (List.mem_of_getElem? (i := 52) rfl))) (by decide) (t := .double) (t' := .long) (by decide) (by decide)))).keep Kq10 nin0).keep Kq11 (ninS n1 (ninS n2 nin0))) (((E_r0.wr W2).keep Kq10).keep Kq11) (Or.inl (hw _ (List.mem_of_getElem? (i := 61) rfl))) (hw _ (List.mem_of_getElem? (i := 1) rfl)) (ty := .double) (by decide) rfl rfl (g := (mkF m 49 #[.val (.ref r0), .val (.long q1), .second, .val (.double f2), .second, .val (.long q3), .second, .unset, .unset, .unset] [(.double FP.dconst0), (.ref r0)])) rfl rfl (hb hby d6_49)
    have Fw13 := Fld.same W13 (((M_processingMs.other W2 (Or.inr (slot_ne (Or.inl (hw _ (List.mem_of_getElem? (i := 61) rfl))) (Or.inl (hw _ (List.mem_of_getElem? (i := 52) rfl))) (by decide) (t := .double) (t' := .long) (by decide) (by decide)))).keep Kq10 nin0).keep Kq11 (ninS n1 (ninS n2 nin0)))
    have N13 := Fr.snoc X13 N11 g_r0
    have Kp13 : Keep h0 h13 [r0, d, ea] := Keep.wr Kp11 W13 (Or.inl (List.mem_of_getElem? (i := 0) rfl))
    have K13 : own_K p e below SE T13 (mkF m 52 #[.val (.ref r0), .val (.long q1), .second, .val (.double f2), .second, .val (.long q3), .second, .unset, .unset, .unset] []) := fun t k => K12 _ (st13 _ k)
    have K14 : own_K p e below SE T13 (mkF m 53 #[.val (.ref r0), .val (.long q1), .second, .val (.double f2), .second, .val (.long q3), .second, .unset, .unset, .unset] [(.ref r0)]) := by
      intro t k
      refine K13 _ ?_
      refine XS.aloadN X13.here hx rfl (hb hby d6_52) rfl rfl ?_
      exact k
    obtain ⟨T15, X15, e15, st15⟩ := getF X13 hx hZ hown (host := "") (Or.inl (hw _ (List.mem_of_getElem? (i := 27) rfl))) Via.refl e13 ((((M_processingTimes.other W2 (Or.inr (slot_ne (Or.inr (hw _ (List.mem_of_getElem? (i := 28) rfl))) (Or.inl (hw _ (List.mem_of_getElem? (i := 52) rfl))) (by decide) (t := (.object "java/util/Deque")) (t' := .long) (by decide) (by decide)))).keep Kq10 nin0).keep Kq11 (ninS n1 (ninS n2 nin0))).other W13 (Or.inr (slot_ne (Or.inr (hw _ (List.mem_of_getElem? (i := 28) rfl))) (Or.inl (hw _ (List.mem_of_getElem? (i := 61) rfl))) (by decide) (t := (.object "java/util/Deque")) (t' := .double) (by decide) (by decide)))) (g := (mkF m 53 #[.val (.ref r0), .val (.long q1), .second, .val (.double f2), .second, .val (.long q3), .second, .unset, .unset, .unset] [(.ref r0)])) rfl rfl (hb hby d6_53)
    have K15 : own_K p e below SE T15 (mkF m 56 #[.val (.ref r0), .val (.long q1), .second, .val (.double f2), .second, .val (.long q3), .second, .unset, .unset, .unset] [(.ref d)]) := fun t k => K14 _ (st15 _ k)
    obtain ⟨cq16, kq16, q16a, q16b, q16c⟩ := isOf hZ e15 (Ed11.wr W13)
    obtain ⟨_, _, ⟨T16, L16, k16, n16⟩, -, X16, ⟨Lc16, hQ16, l16, y16, z16⟩, st16⟩ := X15.interfaceBack hx (xi := (⟨"java/util/Deque", "iterator", "()Ljava/util/Iterator;"⟩ : MethodName)) (y := (⟨"java/util/ArrayDeque", "iterator", "()Ljava/util/Iterator;"⟩ : MethodName)) hown (mvT hZ (hw _ (List.mem_of_getElem? (i := 141) rfl))) (mvT hZ (hw _ (List.mem_of_getElem? (i := 142) rfl))) (mvT hZ (hw _ (List.mem_of_getElem? (i := 143) rfl))) (mvT hZ (hw _ (List.mem_of_getElem? (i := 144) rfl))) (mvT hZ (hw _ (List.mem_of_getElem? (i := 145) rfl))) (mvT hZ (hw _ (List.mem_of_getElem? (i := 146) rfl))) (mvT hZ (hw _ (List.mem_of_getElem? (i := 147) rfl))) (mvT hZ (hw _ (List.mem_of_getElem? (i := 101) rfl))) (by decide) (backOf (W := 0) (rmit l Z a0 hw [] d ea kE w h13 n0 (Nat.le_trans Z0 Kp13.1) (Ed11.wr W13) (Fh11.other W13 (Or.inl (Ne.symm n1))) (Ft11.other W13 (Or.inl (Ne.symm n1))) (Fe11.other W13 (Or.inl (Ne.symm n1))) (Va11.other W13 (Ne.symm n2))) hZ (hw _ (List.mem_of_getElem? (i := 148) rfl)) (hw _ (List.mem_of_getElem? (i := 11) rfl)) (by decide) (by decide)) q16a q16b q16c (g := (mkF m 56 #[.val (.ref r0), .val (.long q1), .second, .val (.double f2), .second, .val (.long q3), .second, .unset, .unset, .unset] [(.ref d)])) rfl (by rw [hml]; rfl) (Steps.refl _) (argsL := []) (rest := []) (lenOf pd_up_3 rfl) rfl (by show 2 * 0 + _ ≤ _; exact Nat.le_of_eq rfl) (hb hby d6_56) (fun _ _ => ⟨rfl, e15, (by decide : 1 + 1 ≤ _), (by decide : 1 + 4 ≤ _)⟩)
    dsimp only [Pt.U, Pt.locs, Pt.cells, Pt.slots] at X16 l16 y16 z16 st16 hQ16
    rw [y16, z16] at X16
    obtain ⟨rfl, Nq16, Kq16, Ex16, Fi0_16, Fi1_16, Fi2_16, Fi3_16⟩ := hQ16
    have N16 : Fr n0 L16 := by rw [l16]; exact Fr.app N13 Nq16
    have Kp16 : Keep h0 T16.heap [r0, d, ea] := Keep.trans Kp13 Kq16 all0
    have K16 : own_K p e below SE T16 (mkF m 61 #[.val (.ref r0), .val (.long q1), .second, .val (.double f2), .second, .val (.long q3), .second, .unset, .unset, .unset] [(.ref h13.size)]) := fun t k => K15 _ (st16.trans k)
    obtain ⟨tt, gtt⟩ : ∃ z, z = h13.size := ⟨_, rfl⟩
    rw [← gtt] at K16 Ex16 Fi0_16 Fi1_16 Fi2_16 Fi3_16
    have g_tt : n0 ≤ tt := Nat.le_trans (Nat.le_trans Z0 Kp13.1) (Nat.le_of_eq gtt.symm)
    have sz_tt : h0.size ≤ tt := Nat.le_trans Kp13.1 (Nat.le_of_eq gtt.symm)
    have own_ne_w_tt : w ≠ tt := Nat.ne_of_lt (Nat.lt_of_lt_of_le ((Ex10.keep Kq11).wr W13).lt (Nat.le_of_eq gtt.symm))
    have own_ne_d_tt : d ≠ tt := Nat.ne_of_lt (Nat.lt_of_lt_of_le (Ed11.wr W13).lt (Nat.le_of_eq gtt.symm))
    have own_ne_ea_tt : ea ≠ tt := Nat.ne_of_lt (Nat.lt_of_lt_of_le (Va11.other W13 (Ne.symm n2)).lt (Nat.le_of_eq gtt.symm))
    have own_ne_r0_tt : r0 ≠ tt := Nat.ne_of_lt (Nat.lt_of_lt_of_le ((((E_r0.wr W2).keep Kq10).keep Kq11).wr W13).lt (Nat.le_of_eq gtt.symm))
    have K17 : own_K p e below SE T16 (mkF m 65 #[.val (.ref r0), .val (.long q1), .second, .val (.double f2), .second, .val (.long q3), .second, .val (.ref tt), .unset, .unset] [(.ref tt)]) := by
      intro t k
      refine K16 _ ?_
      refine XS.astore X16.here hx rfl (hb hby d6_61) rfl rfl (l' := #[.val (.ref r0), .val (.long q1), .second, .val (.double f2), .second, .val (.long q3), .second, .val (.ref tt), .unset, .unset]) rfl ?_
      show own_S p e below T16 (mkF m 63 #[.val (.ref r0), .val (.long q1), .second, .val (.double f2), .second, .val (.long q3), .second, .val (.ref tt), .unset, .unset] []) _
      refine XS.aload X16.here hx rfl (hb hby d6_63) rfl rfl ?_
      exact k
    obtain ⟨cq18, kq18, q18a, q18b, q18c⟩ := isOf hZ rfl Ex16
    obtain ⟨_, _, ⟨T18, L18, k18, n18⟩, -, X18, ⟨Lc18, hQ18, l18, y18, z18⟩, st18⟩ := X16.interfaceBack hx (xi := (⟨"java/util/Iterator", "hasNext", "()Z"⟩ : MethodName)) (y := (⟨"java/util/ArrayDeque$DeqIterator", "hasNext", "()Z"⟩ : MethodName)) hown (mvT hZ (hw _ (List.mem_of_getElem? (i := 169) rfl))) (mvT hZ (hw _ (List.mem_of_getElem? (i := 170) rfl))) (mvT hZ (hw _ (List.mem_of_getElem? (i := 171) rfl))) (mvT hZ (hw _ (List.mem_of_getElem? (i := 172) rfl))) (mvT hZ (hw _ (List.mem_of_getElem? (i := 173) rfl))) (mvT hZ (hw _ (List.mem_of_getElem? (i := 174) rfl))) (mvT hZ (hw _ (List.mem_of_getElem? (i := 175) rfl))) (mvT hZ (hw _ (List.mem_of_getElem? (i := 176) rfl))) (by decide) (backOf (W := 0) (rmhn1 l Z a0 hw [] tt T16.heap n0 (Nat.le_trans Z0 Kp16.1) Fi1_16) hZ (hw _ (List.mem_of_getElem? (i := 177) rfl)) (hw _ (List.mem_of_getElem? (i := 151) rfl)) (by decide) (by decide)) q18a q18b q18c (g := (mkF m 65 #[.val (.ref r0), .val (.long q1), .second, .val (.double f2), .second, .val (.long q3), .second, .val (.ref tt), .unset, .unset] [(.ref tt)])) rfl (by rw [hml]; rfl) (Steps.refl _) (argsL := []) (rest := []) (lenOf pd_up_4 rfl) rfl (by show 2 * 0 + _ ≤ _; exact Nat.le_of_eq rfl) (hb hby d6_65) (fun _ _ => ⟨rfl, rfl, (by decide : 2 + 0 ≤ _), (by decide : 5 + 0 ≤ _)⟩)
    dsimp only [Pt.U, Pt.locs, Pt.cells, Pt.slots] at X18 l18 y18 z18 st18 hQ18
    rw [y18, z18] at X18
    obtain ⟨rfl, Nq18, e18⟩ := hQ18
    have N18 : Fr n0 L18 := by rw [l18]; exact Fr.app N16 Nq18
    have K18 : own_K p e below SE T18 (mkF m 70 #[.val (.ref r0), .val (.long q1), .second, .val (.double f2), .second, .val (.long q3), .second, .val (.ref tt), .unset, .unset] [(.int (1 : Int32))]) := fun t k => K17 _ (st18.trans k)
    have K19 : own_K p e below SE T18 (mkF m 75 #[.val (.ref r0), .val (.long q1), .second, .val (.double f2), .second, .val (.long q3), .second, .val (.ref tt), .unset, .unset] [(.ref tt)]) := by
      intro t k
      refine K18 _ ?_
      refine XS.ifNo X18.here hx rfl (hb hby d6_70) rfl (XT.i0_eq_f (by decide : ¬ ((1 : Int32) = 0))) ?_
      show own_S p e below T18 (mkF m 73 #[.val (.ref r0), .val (.long q1), .second, .val (.double f2), .second, .val (.long q3), .second, .val (.ref tt), .unset, .unset] []) _
      refine XS.aload X18.here hx rfl (hb hby d6_73) rfl rfl ?_
      exact k
    obtain ⟨cq20, kq20, q20a, q20b, q20c⟩ := isOf hZ e18 Ex16
    obtain ⟨_, _, ⟨T20, L20, k20, n20⟩, -, X20, ⟨Lc20, hQ20, l20, y20, z20⟩, st20⟩ := X18.interfaceBack hx (xi := (⟨"java/util/Iterator", "next", "()Ljava/lang/Object;"⟩ : MethodName)) (y := (⟨"java/util/ArrayDeque$DeqIterator", "next", "()Ljava/lang/Object;"⟩ : MethodName)) hown (mvT hZ (hw _ (List.mem_of_getElem? (i := 178) rfl))) (mvT hZ (hw _ (List.mem_of_getElem? (i := 179) rfl))) (mvT hZ (hw _ (List.mem_of_getElem? (i := 180) rfl))) (mvT hZ (hw _ (List.mem_of_getElem? (i := 181) rfl))) (mvT hZ (hw _ (List.mem_of_getElem? (i := 182) rfl))) (mvT hZ (hw _ (List.mem_of_getElem? (i := 183) rfl))) (mvT hZ (hw _ (List.mem_of_getElem? (i := 184) rfl))) (mvT hZ (hw _ (List.mem_of_getElem? (i := 176) rfl))) (by decide) (backOf (W := 0) (rmnx l Z a0 hw [] tt d ea kE w T16.heap n0 (Nat.le_trans Z0 Kp16.1) Ex16 Fi0_16 Fi1_16 Fi2_16 Fi3_16 ((Fe11.other W13 (Or.inl (Ne.symm n1))).keep Kq16 nin0) ((Va11.other W13 (Ne.symm n2)).keep Kq16 nin0) g_tt (Ne.symm own_ne_d_tt) (Ne.symm own_ne_ea_tt)) hZ (hw _ (List.mem_of_getElem? (i := 185) rfl)) (hw _ (List.mem_of_getElem? (i := 151) rfl)) (by decide) (by decide)) q20a q20b q20c (g := (mkF m 75 #[.val (.ref r0), .val (.long q1), .second, .val (.double f2), .second, .val (.long q3), .second, .val (.ref tt), .unset, .unset] [(.ref tt)])) rfl (by rw [hml]; rfl) (Steps.refl _) (argsL := []) (rest := []) (lenOf pd_up_5 rfl) rfl (by show 2 * 0 + _ ≤ _; exact Nat.le_of_eq rfl) (hb hby d6_75) (fun _ _ => ⟨rfl, e18, (by decide : 2 + 0 ≤ _), (by decide : 5 + 0 ≤ _)⟩)
    dsimp only [Pt.U, Pt.locs, Pt.cells, Pt.slots] at X20 l20 y20 z20 st20 hQ20
    rw [y20, z20] at X20
    obtain ⟨rfl, Nq20, Kq20, Ex20, Fr20⟩ := hQ20
    have N20 : Fr n0 L20 := by rw [l20]; exact Fr.app N18 Nq20
    have Kp20 : Keep h0 T20.heap [r0, d, ea] := Keep.trans Kp16 Kq20 (allS (Or.inr sz_tt) all0)
    have K20 : own_K p e below SE T20 (mkF m 80 #[.val (.ref r0), .val (.long q1), .second, .val (.double f2), .second, .val (.long q3), .second, .val (.ref tt), .unset, .unset] [(.ref w)]) := fun t k => K19 _ (st20.trans k)
    obtain ⟨T21, X21, e21, st21⟩ := castY X20 hx hZ hown (hw _ (List.mem_of_getElem? (i := 191) rfl)) rfl (Ins.self ((((Ex10.keep Kq11).wr W13).keep Kq16).keep Kq20)) (g := (mkF m 80 #[.val (.ref r0), .val (.long q1), .second, .val (.double f2), .second, .val (.long q3), .second, .val (.ref tt), .unset, .unset] [(.ref w)])) rfl rfl (hb hby d6_80)
    have K21 : own_K p e below SE T21 (mkF m 83 #[.val (.ref r0), .val (.long q1), .second, .val (.double f2), .second, .val (.long q3), .second, .val (.ref tt), .unset, .unset] [(.ref w)]) := fun t k => K20 _ (st21 _ k)
    obtain ⟨cq22, kq22, q22a, q22b, q22c⟩ := isOf hZ e21 ((((Ex10.keep Kq11).wr W13).keep Kq16).keep Kq20)
    obtain ⟨_, _, ⟨T22, L22, k22, n22⟩, -, X22, ⟨Lc22, hQ22, l22, y22, z22⟩, st22⟩ := X21.virtualBack hx (y := (⟨"java/lang/Double", "doubleValue", "()D"⟩ : MethodName)) (z := (⟨"java/lang/Double", "doubleValue", "()D"⟩ : MethodName)) hown (mvT hZ (hw _ (List.mem_of_getElem? (i := 192) rfl))) (mvT hZ (hw _ (List.mem_of_getElem? (i := 193) rfl))) (notFace_of_selects (args := #[]) (mvT hZ (hw _ (List.mem_of_getElem? (i := 195) rfl)))) (mvT hZ (hw _ (List.mem_of_getElem? (i := 195) rfl))) (mvT hZ (hw _ (List.mem_of_getElem? (i := 194) rfl))) (by decide) (backOf (W := 0) (rmdd l Z a0 hw [] w f2 T20.heap n0 (Nat.le_trans Z0 Kp20.1) ((((Fv10.keep Kq11 (ninS (Ne.symm (own_ne_d_w)) (ninS (Ne.symm (own_ne_ea_w)) nin0))).other W13 (Or.inl (Ne.symm (own_ne_r0_w)))).keep Kq16 nin0).keep Kq20 (ninS (own_ne_w_tt) nin0))) hZ (hw _ (List.mem_of_getElem? (i := 196) rfl)) (hw _ (List.mem_of_getElem? (i := 112) rfl)) (by decide) (by decide)) q22a q22c (g := (mkF m 83 #[.val (.ref r0), .val (.long q1), .second, .val (.double f2), .second, .val (.long q3), .second, .val (.ref tt), .unset, .unset] [(.ref w)])) rfl (by rw [hml]; rfl) (Steps.refl _) (argsL := []) (rest := []) (lenOf pd_up_6 rfl) rfl (by show 2 * 0 + _ ≤ _; exact Nat.le_of_eq rfl) (hb hby d6_83) (fun _ _ => ⟨rfl, e21, (by decide : 2 + 0 ≤ _), (by decide : 5 + 0 ≤ _)⟩)
    dsimp only [Pt.U, Pt.locs, Pt.cells, Pt.slots] at X22 l22 y22 z22 st22 hQ22
    rw [y22, z22] at X22
    obtain ⟨rfl, Nq22, e22⟩ := hQ22
    have N22 : Fr n0 L22 := by rw [l22]; exact Fr.app N20 Nq22
    have K22 : own_K p e below SE T22 (mkF m 86 #[.val (.ref r0), .val (.long q1), .second, .val (.double f2), .second, .val (.long q3), .second, .val (.ref tt), .unset, .unset] [(.double f2)]) := fun t k => K21 _ (st22.trans k)
    have K23 : own_K p e below SE T22 (mkF m 90 #[.val (.ref r0), .val (.long q1), .second, .val (.double f2), .second, .val (.long q3), .second, .val (.ref tt), .val (.double f2), .second] [(.ref r0), (.ref r0)]) := by
      intro t k
      refine K22 _ ?_
      refine XS.dstore X22.here hx rfl (hb hby d6_86) rfl (l' := #[.val (.ref r0), .val (.long q1), .second, .val (.double f2), .second, .val (.long q3), .second, .val (.ref tt), .val (.double f2), .second]) rfl ?_
      show own_S p e below T22 (mkF m 88 #[.val (.ref r0), .val (.long q1), .second, .val (.double f2), .second, .val (.long q3), .second, .val (.ref tt), .val (.double f2), .second] []) _
      refine XS.aloadN X22.here hx rfl (hb hby d6_88) rfl rfl ?_
      show own_S p e below T22 (mkF m 89 #[.val (.ref r0), .val (.long q1), .second, .val (.double f2), .second, .val (.long q3), .second, .val (.ref tt), .val (.double f2), .second] [(.ref r0)]) _
      refine XS.dup X22.here hx rfl (hb hby d6_89) rfl rfl ?_
      exact k
    obtain ⟨T24, X24, e24, st24⟩ := getF X22 hx hZ hown (host := "") (Or.inl (hw _ (List.mem_of_getElem? (i := 60) rfl))) Via.refl e22 ((Fw13.keep Kq16 nin0).keep Kq20 (ninS (own_ne_r0_tt) nin0)) (g := (mkF m 90 #[.val (.ref r0), .val (.long q1), .second, .val (.double f2), .second, .val (.long q3), .second, .val (.ref tt), .val (.double f2), .second] [(.ref r0), (.ref r0)])) rfl rfl (hb hby d6_90)
    have K24 : own_K p e below SE T24 (mkF m 93 #[.val (.ref r0), .val (.long q1), .second, .val (.double f2), .second, .val (.long q3), .second, .val (.ref tt), .val (.double f2), .second] [(.double FP.dconst0), (.ref r0)]) := fun t k => K23 _ (st24 _ k)
    have K25 : own_K p e below SE T24 (mkF m 96 #[.val (.ref r0), .val (.long q1), .second, .val (.double f2), .second, .val (.long q3), .second, .val (.ref tt), .val (.double f2), .second] [(.ref r0), (.double f2), (.double FP.dconst0), (.ref r0)]) := by
      intro t k
      refine K24 _ ?_
      refine XS.dload X24.here hx rfl (hb hby d6_93) rfl ?_
      show own_S p e below T24 (mkF m 95 #[.val (.ref r0), .val (.long q1), .second, .val (.double f2), .second, .val (.long q3), .second, .val (.ref tt), .val (.double f2), .second] [(.double f2), (.double FP.dconst0), (.ref r0)]) _
      refine XS.aloadN X24.here hx rfl (hb hby d6_95) rfl rfl ?_
      exact k
    obtain ⟨T26, X26, e26, st26⟩ := getF X24 hx hZ hown (host := "") (Or.inl (hw _ (List.mem_of_getElem? (i := 27) rfl))) Via.refl e24 ((((((M_processingTimes.other W2 (Or.inr (slot_ne (Or.inr (hw _ (List.mem_of_getElem? (i := 28) rfl))) (Or.inl (hw _ (List.mem_of_getElem? (i := 52) rfl))) (by decide) (t := (.object "java/util/Deque")) (t' := .long) (by decide) (by decide)))).keep Kq10 nin0).keep Kq11 (ninS n1 (ninS n2 nin0))).other W13 (Or.inr (slot_ne (Or.inr (hw _ (List.mem_of_getElem? (i := 28) rfl))) (Or.inl (hw _ (List.mem_of_getElem? (i := 61) rfl))) (by decide) (t := (.object "java/util/Deque")) (t' := .double) (by decide) (by decide)))).keep Kq16 nin0).keep Kq20 (ninS (own_ne_r0_tt) nin0)) (g := (mkF m 96 #[.val (.ref r0), .val (.long q1), .second, .val (.double f2), .second, .val (.long q3), .second, .val (.ref tt), .val (.double f2), .second] [(.ref r0), (.double f2), (.double FP.dconst0), (.ref r0)])) rfl rfl (hb hby d6_96)
    have K26 : own_K p e below SE T26 (mkF m 99 #[.val (.ref r0), .val (.long q1), .second, .val (.double f2), .second, .val (.long q3), .second, .val (.ref tt), .val (.double f2), .second] [(.ref d), (.double f2), (.double FP.dconst0), (.ref r0)]) := fun t k => K25 _ (st26 _ k)
    obtain ⟨cq27, kq27, q27a, q27b, q27c⟩ := isOf hZ e26 (((Ed11.wr W13).keep Kq16).keep Kq20)
    obtain ⟨_, _, ⟨T27, L27, k27, n27⟩, -, X27, ⟨Lc27, hQ27, l27, y27, z27⟩, st27⟩ := X26.interfaceBack hx (xi := (⟨"java/util/Deque", "size", "()I"⟩ : MethodName)) (y := (⟨"java/util/ArrayDeque", "size", "()I"⟩ : MethodName)) hown (mvT hZ (hw _ (List.mem_of_getElem? (i := 94) rfl))) (mvT hZ (hw _ (List.mem_of_getElem? (i := 95) rfl))) (mvT hZ (hw _ (List.mem_of_getElem? (i := 96) rfl))) (mvT hZ (hw _ (List.mem_of_getElem? (i := 97) rfl))) (mvT hZ (hw _ (List.mem_of_getElem? (i := 98) rfl))) (mvT hZ (hw _ (List.mem_of_getElem? (i := 99) rfl))) (mvT hZ (hw _ (List.mem_of_getElem? (i := 100) rfl))) (mvT hZ (hw _ (List.mem_of_getElem? (i := 101) rfl))) (by decide) (backOf (W := 5) (rmsize1 l Z a0 hw [] d ea kE w T20.heap n0 (Nat.le_trans Z0 Kp20.1) (((Fh11.other W13 (Or.inl (Ne.symm n1))).keep Kq16 nin0).keep Kq20 (ninS (own_ne_d_tt) nin0)) (((Ft11.other W13 (Or.inl (Ne.symm n1))).keep Kq16 nin0).keep Kq20 (ninS (own_ne_d_tt) nin0)) (((Fe11.other W13 (Or.inl (Ne.symm n1))).keep Kq16 nin0).keep Kq20 (ninS (own_ne_d_tt) nin0)) (((Va11.other W13 (Ne.symm n2)).keep Kq16 nin0).keep Kq20 (ninS (own_ne_ea_tt) nin0))) hZ (hw _ (List.mem_of_getElem? (i := 102) rfl)) (hw _ (List.mem_of_getElem? (i := 11) rfl)) (by decide) (by decide)) q27a q27b q27c (g := (mkF m 99 #[.val (.ref r0), .val (.long q1), .second, .val (.double f2), .second, .val (.long q3), .second, .val (.ref tt), .val (.double f2), .second] [(.ref d), (.double f2), (.double FP.dconst0), (.ref r0)])) rfl (by rw [hml]; rfl) (Steps.refl _) (argsL := []) (rest := [(.double f2), (.double FP.dconst0), (.ref r0)]) (lenOf pd_up_0 rfl) rfl (by show 2 * 0 + _ ≤ _; exact Nat.le_of_eq rfl) (hb hby d6_99) (fun _ _ => ⟨rfl, e26, (by decide : 2 + 0 ≤ _), (by decide : 5 + 0 ≤ _)⟩)
    dsimp only [Pt.U, Pt.locs, Pt.cells, Pt.slots] at X27 l27 y27 z27 st27 hQ27
    rw [y27, z27] at X27
    obtain ⟨rfl, Nq27, e27⟩ := hQ27
    have N27 : Fr n0 L27 := by rw [l27]; exact Fr.app N22 Nq27
    have K27 : own_K p e below SE T27 (mkF m 104 #[.val (.ref r0), .val (.long q1), .second, .val (.double f2), .second, .val (.long q3), .second, .val (.ref tt), .val (.double f2), .second] [(.int (1 : Int32)), (.double f2), (.double FP.dconst0), (.ref r0)]) := fun t k => K26 _ (st27.trans k)
    have K28 : own_K p e below SE T27 (mkF m 107 #[.val (.ref r0), .val (.long q1), .second, .val (.double f2), .second, .val (.long q3), .second, .val (.ref tt), .val (.double f2), .second] [(.double (FP.dadd FP.dconst0 (FP.ddiv f2 (FP.i2d (1 : Int32))))), (.ref r0)]) := by
      intro t k
      refine K27 _ ?_
      show Steps p.tables e below (T27.setTop (mkF m 104 #[.val (.ref r0), .val (.long q1), .second, .val (.double f2), .second, .val (.long q3), .second, .val (.ref tt), .val (.double f2), .second] [(.int (1 : Int32)), (.double f2), (.double FP.dconst0), (.ref r0)])) _
      jvm_step X27.here [X27.here.top, hx, (hb hby d6_104), i2d.wp_sem]
      show own_S p e below T27 (mkF m 105 #[.val (.ref r0), .val (.long q1), .second, .val (.double f2), .second, .val (.long q3), .second, .val (.ref tt), .val (.double f2), .second] [(.double (FP.i2d (1 : Int32))), (.double f2), (.double FP.dconst0), (.ref r0)]) _
      refine XS.ddivS X27.here hx rfl (hb hby d6_105) rfl (ddiv_out hD own_one.1 own_one.2) rfl ?_
      show own_S p e below T27 (mkF m 106 #[.val (.ref r0), .val (.long q1), .second, .val (.double f2), .second, .val (.long q3), .second, .val (.ref tt), .val (.double f2), .second] [(.double (FP.ddiv f2 (FP.i2d (1 : Int32)))), (.double FP.dconst0), (.ref r0)]) _
      refine XS.daddS X27.here hx rfl (hb hby d6_106) rfl (own_sum hD) rfl ?_
      exact k
    obtain ⟨T29, h29, X29, e29, W29, st29⟩ := putF X27 hx hZ hown (host := "") (Or.inl (hw _ (List.mem_of_getElem? (i := 60) rfl))) Via.refl e27 ((Fw13.keep Kq16 nin0).keep Kq20 (ninS (own_ne_r0_tt) nin0)) ((((((E_r0.wr W2).keep Kq10).keep Kq11).wr W13).keep Kq16).keep Kq20) (Or.inl (hw _ (List.mem_of_getElem? (i := 61) rfl))) (hw _ (List.mem_of_getElem? (i := 1) rfl)) (ty := .double) (by decide) rfl rfl (g := (mkF m 107 #[.val (.ref r0), .val (.long q1), .second, .val (.double f2), .second, .val (.long q3), .second, .val (.ref tt), .val (.double f2), .second] [(.double (FP.dadd FP.dconst0 (FP.ddiv f2 (FP.i2d (1 : Int32))))), (.ref r0)])) rfl rfl (hb hby d6_107)
    have Fw29 := Fld.same W29 ((Fw13.keep Kq16 nin0).keep Kq20 (ninS (own_ne_r0_tt) nin0))
    have N29 := Fr.snoc X29 N27 g_r0
    have Kp29 : Keep h0 h29 [r0, d, ea] := Keep.wr Kp20 W29 (Or.inl (List.mem_of_getElem? (i := 0) rfl))
    have K29 : own_K p e below SE T29 (mkF m 110 #[.val (.ref r0), .val (.long q1), .second, .val (.double f2), .second, .val (.long q3), .second, .val (.ref tt), .val (.double f2), .second] []) := fun t k => K28 _ (st29 _ k)
    have K30 : own_K p e below SE T29 (mkF m 65 #[.val (.ref r0), .val (.long q1), .second, .val (.double f2), .second, .val (.long q3), .second, .val (.ref tt), .val (.double f2), .second] [(.ref tt)]) := by
      intro t k
      refine K29 _ ?_
      refine XS.goto X29.here hx rfl (pc0 := 110) (pc' := 63) rfl (hb hby d6_110) (by decide) (by decide) ?_
      show own_S p e below T29 (mkF m 63 #[.val (.ref r0), .val (.long q1), .second, .val (.double f2), .second, .val (.long q3), .second, .val (.ref tt), .val (.double f2), .second] []) _
      refine XS.aload X29.here hx rfl (hb hby d6_63) rfl rfl ?_
      exact k
    obtain ⟨cq31, kq31, q31a, q31b, q31c⟩ := isOf hZ e29 (Ex20.wr W29)
    obtain ⟨_, _, ⟨T31, L31, k31, n31⟩, -, X31, ⟨Lc31, hQ31, l31, y31, z31⟩, st31⟩ := X29.interfaceBack hx (xi := (⟨"java/util/Iterator", "hasNext", "()Z"⟩ : MethodName)) (y := (⟨"java/util/ArrayDeque$DeqIterator", "hasNext", "()Z"⟩ : MethodName)) hown (mvT hZ (hw _ (List.mem_of_getElem? (i := 169) rfl))) (mvT hZ (hw _ (List.mem_of_getElem? (i := 170) rfl))) (mvT hZ (hw _ (List.mem_of_getElem? (i := 171) rfl))) (mvT hZ (hw _ (List.mem_of_getElem? (i := 172) rfl))) (mvT hZ (hw _ (List.mem_of_getElem? (i := 173) rfl))) (mvT hZ (hw _ (List.mem_of_getElem? (i := 174) rfl))) (mvT hZ (hw _ (List.mem_of_getElem? (i := 175) rfl))) (mvT hZ (hw _ (List.mem_of_getElem? (i := 176) rfl))) (by decide) (backOf (W := 0) (rmhn0 l Z a0 hw [] tt h29 n0 (Nat.le_trans Z0 Kp29.1) (Fr20.other W29 (Or.inl (Ne.symm (own_ne_r0_tt))))) hZ (hw _ (List.mem_of_getElem? (i := 177) rfl)) (hw _ (List.mem_of_getElem? (i := 151) rfl)) (by decide) (by decide)) q31a q31b q31c (g := (mkF m 65 #[.val (.ref r0), .val (.long q1), .second, .val (.double f2), .second, .val (.long q3), .second, .val (.ref tt), .val (.double f2), .second] [(.ref tt)])) rfl (by rw [hml]; rfl) (Steps.refl _) (argsL := []) (rest := []) (lenOf pd_up_4 rfl) rfl (by show 2 * 0 + _ ≤ _; exact Nat.le_of_eq rfl) (hb hby d6_65) (fun _ _ => ⟨rfl, e29, (by decide : 2 + 0 ≤ _), (by decide : 5 + 0 ≤ _)⟩)
    dsimp only [Pt.U, Pt.locs, Pt.cells, Pt.slots] at X31 l31 y31 z31 st31 hQ31
    rw [y31, z31] at X31
    obtain ⟨rfl, Nq31, e31⟩ := hQ31
    have N31 : Fr n0 L31 := by rw [l31]; exact Fr.app N29 Nq31
    have K31 : own_K p e below SE T31 (mkF m 70 #[.val (.ref r0), .val (.long q1), .second, .val (.double f2), .second, .val (.long q3), .second, .val (.ref tt), .val (.double f2), .second] [(.int (0 : Int32))]) := fun t k => K30 _ (st31.trans k)
    have K32 : own_K p e below SE T31 (mkF m 115 #[.val (.ref r0), .val (.long q1), .second, .val (.double f2), .second, .val (.long q3), .second, .val (.ref tt), .val (.double f2), .second] [(.long (0 : Int64)), (.ref r0)]) := by
      intro t k
      refine K31 _ ?_
      refine XS.ifYes X31.here hx rfl (pc0 := 70) (pc' := 113) rfl (hb hby d6_70) rfl (XT.i0_eq_t (by decide : (0 : Int32) = 0)) (by decide) (by decide) ?_
      show own_S p e below T31 (mkF m 113 #[.val (.ref r0), .val (.long q1), .second, .val (.double f2), .second, .val (.long q3), .second, .val (.ref tt), .val (.double f2), .second] []) _
      refine XS.aloadN X31.here hx rfl (hb hby d6_113) rfl rfl ?_
      show own_S p e below T31 (mkF m 114 #[.val (.ref r0), .val (.long q1), .second, .val (.double f2), .second, .val (.long q3), .second, .val (.ref tt), .val (.double f2), .second] [(.ref r0)]) _
      refine XS.lconst X31.here hx rfl (hb hby d6_114) ?_
      exact k
    obtain ⟨T33, h33, X33, e33, W33, st33⟩ := putF X31 hx hZ hown (host := "") (Or.inl (hw _ (List.mem_of_getElem? (i := 53) rfl))) Via.refl e31 (((((((M_sentSinceReport.other W2 (Or.inr (slot_ne (Or.inl (hw _ (List.mem_of_getElem? (i := 54) rfl))) (Or.inl (hw _ (List.mem_of_getElem? (i := 52) rfl))) (by decide) (t := .long) (t' := .long) (by decide) (by decide)))).keep Kq10 nin0).keep Kq11 (ninS n1 (ninS n2 nin0))).other W13 (Or.inr (slot_ne (Or.inl (hw _ (List.mem_of_getElem? (i := 54) rfl))) (Or.inl (hw _ (List.mem_of_getElem? (i := 61) rfl))) (by decide) (t := .long) (t' := .double) (by decide) (by decide)))).keep Kq16 nin0).keep Kq20 (ninS (own_ne_r0_tt) nin0)).other W29 (Or.inr (slot_ne (Or.inl (hw _ (List.mem_of_getElem? (i := 54) rfl))) (Or.inl (hw _ (List.mem_of_getElem? (i := 61) rfl))) (by decide) (t := .long) (t' := .double) (by decide) (by decide)))) (((((((E_r0.wr W2).keep Kq10).keep Kq11).wr W13).keep Kq16).keep Kq20).wr W29) (Or.inl (hw _ (List.mem_of_getElem? (i := 54) rfl))) (hw _ (List.mem_of_getElem? (i := 1) rfl)) (ty := .long) (by decide) rfl rfl (g := (mkF m 115 #[.val (.ref r0), .val (.long q1), .second, .val (.double f2), .second, .val (.long q3), .second, .val (.ref tt), .val (.double f2), .second] [(.long (0 : Int64)), (.ref r0)])) rfl rfl (hb hby d6_115)
    have Fw33 := Fld.same W33 (((((((M_sentSinceReport.other W2 (Or.inr (slot_ne (Or.inl (hw _ (List.mem_of_getElem? (i := 54) rfl))) (Or.inl (hw _ (List.mem_of_getElem? (i := 52) rfl))) (by decide) (t := .long) (t' := .long) (by decide) (by decide)))).keep Kq10 nin0).keep Kq11 (ninS n1 (ninS n2 nin0))).other W13 (Or.inr (slot_ne (Or.inl (hw _ (List.mem_of_getElem? (i := 54) rfl))) (Or.inl (hw _ (List.mem_of_getElem? (i := 61) rfl))) (by decide) (t := .long) (t' := .double) (by decide) (by decide)))).keep Kq16 nin0).keep Kq20 (ninS (own_ne_r0_tt) nin0)).other W29 (Or.inr (slot_ne (Or.inl (hw _ (List.mem_of_getElem? (i := 54) rfl))) (Or.inl (hw _ (List.mem_of_getElem? (i := 61) rfl))) (by decide) (t := .long) (t' := .double) (by decide) (by decide))))
    have N33 := Fr.snoc X33 N31 g_r0
    have Kp33 : Keep h0 h33 [r0, d, ea] := Keep.wr Kp29 W33 (Or.inl (List.mem_of_getElem? (i := 0) rfl))
    have K33 : own_K p e below SE T33 (mkF m 118 #[.val (.ref r0), .val (.long q1), .second, .val (.double f2), .second, .val (.long q3), .second, .val (.ref tt), .val (.double f2), .second] []) := fun t k => K32 _ (st33 _ k)
    have K34 : own_K p e below SE T33 (mkF m 121 #[.val (.ref r0), .val (.long q1), .second, .val (.double f2), .second, .val (.long q3), .second, .val (.ref tt), .val (.double f2), .second] [(.long q3), (.ref r0)]) := by
      intro t k
      refine K33 _ ?_
      refine XS.aloadN X33.here hx rfl (hb hby d6_118) rfl rfl ?_
      show own_S p e below T33 (mkF m 119 #[.val (.ref r0), .val (.long q1), .second, .val (.double f2), .second, .val (.long q3), .second, .val (.ref tt), .val (.double f2), .second] [(.ref r0)]) _
      refine XS.lload X33.here hx rfl (hb hby d6_119) rfl ?_
      exact k
    obtain ⟨T35, h35, X35, e35, W35, st35⟩ := putF X33 hx hZ hown (host := "") (Or.inl (hw _ (List.mem_of_getElem? (i := 33) rfl))) Via.refl e33 ((((((((M_lastReportNanos.other W2 (Or.inr (slot_ne (Or.inl (hw _ (List.mem_of_getElem? (i := 34) rfl))) (Or.inl (hw _ (List.mem_of_getElem? (i := 52) rfl))) (by decide) (t := .long) (t' := .long) (by decide) (by decide)))).keep Kq10 nin0).keep Kq11 (ninS n1 (ninS n2 nin0))).other W13 (Or.inr (slot_ne (Or.inl (hw _ (List.mem_of_getElem? (i := 34) rfl))) (Or.inl (hw _ (List.mem_of_getElem? (i := 61) rfl))) (by decide) (t := .long) (t' := .double) (by decide) (by decide)))).keep Kq16 nin0).keep Kq20 (ninS (own_ne_r0_tt) nin0)).other W29 (Or.inr (slot_ne (Or.inl (hw _ (List.mem_of_getElem? (i := 34) rfl))) (Or.inl (hw _ (List.mem_of_getElem? (i := 61) rfl))) (by decide) (t := .long) (t' := .double) (by decide) (by decide)))).other W33 (Or.inr (slot_ne (Or.inl (hw _ (List.mem_of_getElem? (i := 34) rfl))) (Or.inl (hw _ (List.mem_of_getElem? (i := 54) rfl))) (by decide) (t := .long) (t' := .long) (by decide) (by decide)))) ((((((((E_r0.wr W2).keep Kq10).keep Kq11).wr W13).keep Kq16).keep Kq20).wr W29).wr W33) (Or.inl (hw _ (List.mem_of_getElem? (i := 34) rfl))) (hw _ (List.mem_of_getElem? (i := 1) rfl)) (ty := .long) (by decide) rfl rfl (g := (mkF m 121 #[.val (.ref r0), .val (.long q1), .second, .val (.double f2), .second, .val (.long q3), .second, .val (.ref tt), .val (.double f2), .second] [(.long q3), (.ref r0)])) rfl rfl (hb hby d6_121)
    have Fw35 := Fld.same W35 ((((((((M_lastReportNanos.other W2 (Or.inr (slot_ne (Or.inl (hw _ (List.mem_of_getElem? (i := 34) rfl))) (Or.inl (hw _ (List.mem_of_getElem? (i := 52) rfl))) (by decide) (t := .long) (t' := .long) (by decide) (by decide)))).keep Kq10 nin0).keep Kq11 (ninS n1 (ninS n2 nin0))).other W13 (Or.inr (slot_ne (Or.inl (hw _ (List.mem_of_getElem? (i := 34) rfl))) (Or.inl (hw _ (List.mem_of_getElem? (i := 61) rfl))) (by decide) (t := .long) (t' := .double) (by decide) (by decide)))).keep Kq16 nin0).keep Kq20 (ninS (own_ne_r0_tt) nin0)).other W29 (Or.inr (slot_ne (Or.inl (hw _ (List.mem_of_getElem? (i := 34) rfl))) (Or.inl (hw _ (List.mem_of_getElem? (i := 61) rfl))) (by decide) (t := .long) (t' := .double) (by decide) (by decide)))).other W33 (Or.inr (slot_ne (Or.inl (hw _ (List.mem_of_getElem? (i := 34) rfl))) (Or.inl (hw _ (List.mem_of_getElem? (i := 54) rfl))) (by decide) (t := .long) (t' := .long) (by decide) (by decide))))
    have N35 := Fr.snoc X35 N33 g_r0
    have Kp35 : Keep h0 h35 [r0, d, ea] := Keep.wr Kp33 W35 (Or.inl (List.mem_of_getElem? (i := 0) rfl))
    have K35 : own_K p e below SE T35 (mkF m 124 #[.val (.ref r0), .val (.long q1), .second, .val (.double f2), .second, .val (.long q3), .second, .val (.ref tt), .val (.double f2), .second] []) := fun t k => K34 _ (st35 _ k)
    obtain ⟨fs, hr, hrun, hended, hW, hsame⟩ := X35.leave (v := none) (fun _ => rfl)
    refine ⟨_, _, K35 _ ?_, hrun, hended, _, _, rfl, ?_, ⟨_, rfl⟩, hW, hsame.mono (by decide) (by decide)⟩
    · exact X35.returnOut hx Bd.returns (hb hby d6_124) hr
    · show Qup Z r0 q1 f2 q3 vp vm vs vd vr vl d va ea kE h0 n0 _ T35.heap _
      rw [e35]
      exact ⟨rfl, N35, Kp35, (((((((((E_r0.wr W2).keep Kq10).keep Kq11).wr W13).keep Kq16).keep Kq20).wr W29).wr W33).wr W35), (FP.dadd FP.dconst0 (FP.ddiv f2 (FP.i2d (1 : Int32)))), (own_sum hD), ((Fw29.other W33 (Or.inr (slot_ne (Or.inl (hw _ (List.mem_of_getElem? (i := 61) rfl))) (Or.inl (hw _ (List.mem_of_getElem? (i := 54) rfl))) (by decide) (t := .double) (t' := .long) (by decide) (by decide)))).other W35 (Or.inr (slot_ne (Or.inl (hw _ (List.mem_of_getElem? (i := 61) rfl))) (Or.inl (hw _ (List.mem_of_getElem? (i := 34) rfl))) (by decide) (t := .double) (t' := .long) (by decide) (by decide)))), ((((((((Fw2.keep Kq10 nin0).keep Kq11 (ninS n1 (ninS n2 nin0))).other W13 (Or.inr (slot_ne (Or.inl (hw _ (List.mem_of_getElem? (i := 52) rfl))) (Or.inl (hw _ (List.mem_of_getElem? (i := 61) rfl))) (by decide) (t := .long) (t' := .double) (by decide) (by decide)))).keep Kq16 nin0).keep Kq20 (ninS (own_ne_r0_tt) nin0)).other W29 (Or.inr (slot_ne (Or.inl (hw _ (List.mem_of_getElem? (i := 52) rfl))) (Or.inl (hw _ (List.mem_of_getElem? (i := 61) rfl))) (by decide) (t := .long) (t' := .double) (by decide) (by decide)))).other W33 (Or.inr (slot_ne (Or.inl (hw _ (List.mem_of_getElem? (i := 52) rfl))) (Or.inl (hw _ (List.mem_of_getElem? (i := 54) rfl))) (by decide) (t := .long) (t' := .long) (by decide) (by decide)))).other W35 (Or.inr (slot_ne (Or.inl (hw _ (List.mem_of_getElem? (i := 52) rfl))) (Or.inl (hw _ (List.mem_of_getElem? (i := 34) rfl))) (by decide) (t := .long) (t' := .long) (by decide) (by decide)))), (Fw33.other W35 (Or.inr (slot_ne (Or.inl (hw _ (List.mem_of_getElem? (i := 54) rfl))) (Or.inl (hw _ (List.mem_of_getElem? (i := 34) rfl))) (by decide) (t := .long) (t' := .long) (by decide) (by decide)))), (((((((((M_delivered.other W2 (Or.inr (slot_ne (Or.inl (hw _ (List.mem_of_getElem? (i := 68) rfl))) (Or.inl (hw _ (List.mem_of_getElem? (i := 52) rfl))) (by decide) (t := .long) (t' := .long) (by decide) (by decide)))).keep Kq10 nin0).keep Kq11 (ninS n1 (ninS n2 nin0))).other W13 (Or.inr (slot_ne (Or.inl (hw _ (List.mem_of_getElem? (i := 68) rfl))) (Or.inl (hw _ (List.mem_of_getElem? (i := 61) rfl))) (by decide) (t := .long) (t' := .double) (by decide) (by decide)))).keep Kq16 nin0).keep Kq20 (ninS (own_ne_r0_tt) nin0)).other W29 (Or.inr (slot_ne (Or.inl (hw _ (List.mem_of_getElem? (i := 68) rfl))) (Or.inl (hw _ (List.mem_of_getElem? (i := 61) rfl))) (by decide) (t := .long) (t' := .double) (by decide) (by decide)))).other W33 (Or.inr (slot_ne (Or.inl (hw _ (List.mem_of_getElem? (i := 68) rfl))) (Or.inl (hw _ (List.mem_of_getElem? (i := 54) rfl))) (by decide) (t := .long) (t' := .long) (by decide) (by decide)))).other W35 (Or.inr (slot_ne (Or.inl (hw _ (List.mem_of_getElem? (i := 68) rfl))) (Or.inl (hw _ (List.mem_of_getElem? (i := 34) rfl))) (by decide) (t := .long) (t' := .long) (by decide) (by decide)))), Fw35, (((((((((M_lastSentNanos.other W2 (Or.inr (slot_ne (Or.inl (hw _ (List.mem_of_getElem? (i := 36) rfl))) (Or.inl (hw _ (List.mem_of_getElem? (i := 52) rfl))) (by decide) (t := .long) (t' := .long) (by decide) (by decide)))).keep Kq10 nin0).keep Kq11 (ninS n1 (ninS n2 nin0))).other W13 (Or.inr (slot_ne (Or.inl (hw _ (List.mem_of_getElem? (i := 36) rfl))) (Or.inl (hw _ (List.mem_of_getElem? (i := 61) rfl))) (by decide) (t := .long) (t' := .double) (by decide) (by decide)))).keep Kq16 nin0).keep Kq20 (ninS (own_ne_r0_tt) nin0)).other W29 (Or.inr (slot_ne (Or.inl (hw _ (List.mem_of_getElem? (i := 36) rfl))) (Or.inl (hw _ (List.mem_of_getElem? (i := 61) rfl))) (by decide) (t := .long) (t' := .double) (by decide) (by decide)))).other W33 (Or.inr (slot_ne (Or.inl (hw _ (List.mem_of_getElem? (i := 36) rfl))) (Or.inl (hw _ (List.mem_of_getElem? (i := 54) rfl))) (by decide) (t := .long) (t' := .long) (by decide) (by decide)))).other W35 (Or.inr (slot_ne (Or.inl (hw _ (List.mem_of_getElem? (i := 36) rfl))) (Or.inl (hw _ (List.mem_of_getElem? (i := 34) rfl))) (by decide) (t := .long) (t' := .long) (by decide) (by decide)))), (((((((((M_processingTimes.other W2 (Or.inr (slot_ne (Or.inr (hw _ (List.mem_of_getElem? (i := 28) rfl))) (Or.inl (hw _ (List.mem_of_getElem? (i := 52) rfl))) (by decide) (t := (.object "java/util/Deque")) (t' := .long) (by decide) (by decide)))).keep Kq10 nin0).keep Kq11 (ninS n1 (ninS n2 nin0))).other W13 (Or.inr (slot_ne (Or.inr (hw _ (List.mem_of_getElem? (i := 28) rfl))) (Or.inl (hw _ (List.mem_of_getElem? (i := 61) rfl))) (by decide) (t := (.object "java/util/Deque")) (t' := .double) (by decide) (by decide)))).keep Kq16 nin0).keep Kq20 (ninS (own_ne_r0_tt) nin0)).other W29 (Or.inr (slot_ne (Or.inr (hw _ (List.mem_of_getElem? (i := 28) rfl))) (Or.inl (hw _ (List.mem_of_getElem? (i := 61) rfl))) (by decide) (t := (.object "java/util/Deque")) (t' := .double) (by decide) (by decide)))).other W33 (Or.inr (slot_ne (Or.inr (hw _ (List.mem_of_getElem? (i := 28) rfl))) (Or.inl (hw _ (List.mem_of_getElem? (i := 54) rfl))) (by decide) (t := (.object "java/util/Deque")) (t' := .long) (by decide) (by decide)))).other W35 (Or.inr (slot_ne (Or.inr (hw _ (List.mem_of_getElem? (i := 28) rfl))) (Or.inl (hw _ (List.mem_of_getElem? (i := 34) rfl))) (by decide) (t := (.object "java/util/Deque")) (t' := .long) (by decide) (by decide)))), (((((((((M_reported.other W2 (Or.inr (slot_ne (Or.inl (hw _ (List.mem_of_getElem? (i := 45) rfl))) (Or.inl (hw _ (List.mem_of_getElem? (i := 52) rfl))) (by decide) (t := .boolean) (t' := .long) (by decide) (by decide)))).keep Kq10 nin0).keep Kq11 (ninS n1 (ninS n2 nin0))).other W13 (Or.inr (slot_ne (Or.inl (hw _ (List.mem_of_getElem? (i := 45) rfl))) (Or.inl (hw _ (List.mem_of_getElem? (i := 61) rfl))) (by decide) (t := .boolean) (t' := .double) (by decide) (by decide)))).keep Kq16 nin0).keep Kq20 (ninS (own_ne_r0_tt) nin0)).other W29 (Or.inr (slot_ne (Or.inl (hw _ (List.mem_of_getElem? (i := 45) rfl))) (Or.inl (hw _ (List.mem_of_getElem? (i := 61) rfl))) (by decide) (t := .boolean) (t' := .double) (by decide) (by decide)))).other W33 (Or.inr (slot_ne (Or.inl (hw _ (List.mem_of_getElem? (i := 45) rfl))) (Or.inl (hw _ (List.mem_of_getElem? (i := 54) rfl))) (by decide) (t := .boolean) (t' := .long) (by decide) (by decide)))).other W35 (Or.inr (slot_ne (Or.inl (hw _ (List.mem_of_getElem? (i := 45) rfl))) (Or.inl (hw _ (List.mem_of_getElem? (i := 34) rfl))) (by decide) (t := .boolean) (t' := .long) (by decide) (by decide)))), (((((((((M_lastAcknowledgedNanos.other W2 (Or.inr (slot_ne (Or.inl (hw _ (List.mem_of_getElem? (i := 38) rfl))) (Or.inl (hw _ (List.mem_of_getElem? (i := 52) rfl))) (by decide) (t := .long) (t' := .long) (by decide) (by decide)))).keep Kq10 nin0).keep Kq11 (ninS n1 (ninS n2 nin0))).other W13 (Or.inr (slot_ne (Or.inl (hw _ (List.mem_of_getElem? (i := 38) rfl))) (Or.inl (hw _ (List.mem_of_getElem? (i := 61) rfl))) (by decide) (t := .long) (t' := .double) (by decide) (by decide)))).keep Kq16 nin0).keep Kq20 (ninS (own_ne_r0_tt) nin0)).other W29 (Or.inr (slot_ne (Or.inl (hw _ (List.mem_of_getElem? (i := 38) rfl))) (Or.inl (hw _ (List.mem_of_getElem? (i := 61) rfl))) (by decide) (t := .long) (t' := .double) (by decide) (by decide)))).other W33 (Or.inr (slot_ne (Or.inl (hw _ (List.mem_of_getElem? (i := 38) rfl))) (Or.inl (hw _ (List.mem_of_getElem? (i := 54) rfl))) (by decide) (t := .long) (t' := .long) (by decide) (by decide)))).other W35 (Or.inr (slot_ne (Or.inl (hw _ (List.mem_of_getElem? (i := 38) rfl))) (Or.inl (hw _ (List.mem_of_getElem? (i := 34) rfl))) (by decide) (t := .long) (t' := .long) (by decide) (by decide))))⟩
  · skip
    have K36 : own_K p e below SE T2 (mkF m 115 #[.val (.ref r0), .val (.long q1), .second, .val (.double f2), .second, .val (.long q3), .second, .unset, .unset, .unset] [(.long (0 : Int64)), (.ref r0)]) := by
      intro t k
      refine K3 _ ?_
      refine XS.ifYes X2.here hx rfl (pc0 := 8) (pc' := 113) rfl (hb hby d6_8) rfl (XT.i0_le_t cpos) (by decide) (by decide) ?_
      show own_S p e below T2 (mkF m 113 #[.val (.ref r0), .val (.long q1), .second, .val (.double f2), .second, .val (.long q3), .second, .unset, .unset, .unset] []) _
      refine XS.aloadN X2.here hx rfl (hb hby d6_113) rfl rfl ?_
      show own_S p e below T2 (mkF m 114 #[.val (.ref r0), .val (.long q1), .second, .val (.double f2), .second, .val (.long q3), .second, .unset, .unset, .unset] [(.ref r0)]) _
      refine XS.lconst X2.here hx rfl (hb hby d6_114) ?_
      exact k
    obtain ⟨T37, h37, X37, e37, W37, st37⟩ := putF X2 hx hZ hown (host := "") (Or.inl (hw _ (List.mem_of_getElem? (i := 53) rfl))) Via.refl e2 (M_sentSinceReport.other W2 (Or.inr (slot_ne (Or.inl (hw _ (List.mem_of_getElem? (i := 54) rfl))) (Or.inl (hw _ (List.mem_of_getElem? (i := 52) rfl))) (by decide) (t := .long) (t' := .long) (by decide) (by decide)))) (E_r0.wr W2) (Or.inl (hw _ (List.mem_of_getElem? (i := 54) rfl))) (hw _ (List.mem_of_getElem? (i := 1) rfl)) (ty := .long) (by decide) rfl rfl (g := (mkF m 115 #[.val (.ref r0), .val (.long q1), .second, .val (.double f2), .second, .val (.long q3), .second, .unset, .unset, .unset] [(.long (0 : Int64)), (.ref r0)])) rfl rfl (hb hby d6_115)
    have Fw37 := Fld.same W37 (M_sentSinceReport.other W2 (Or.inr (slot_ne (Or.inl (hw _ (List.mem_of_getElem? (i := 54) rfl))) (Or.inl (hw _ (List.mem_of_getElem? (i := 52) rfl))) (by decide) (t := .long) (t' := .long) (by decide) (by decide))))
    have N37 := Fr.snoc X37 N2 g_r0
    have Kp37 : Keep h0 h37 [r0, d, ea] := Keep.wr Kp2 W37 (Or.inl (List.mem_of_getElem? (i := 0) rfl))
    have K37 : own_K p e below SE T37 (mkF m 118 #[.val (.ref r0), .val (.long q1), .second, .val (.double f2), .second, .val (.long q3), .second, .unset, .unset, .unset] []) := fun t k => K36 _ (st37 _ k)
    have K38 : own_K p e below SE T37 (mkF m 121 #[.val (.ref r0), .val (.long q1), .second, .val (.double f2), .second, .val (.long q3), .second, .unset, .unset, .unset] [(.long q3), (.ref r0)]) := by
      intro t k
      refine K37 _ ?_
      refine XS.aloadN X37.here hx rfl (hb hby d6_118) rfl rfl ?_
      show own_S p e below T37 (mkF m 119 #[.val (.ref r0), .val (.long q1), .second, .val (.double f2), .second, .val (.long q3), .second, .unset, .unset, .unset] [(.ref r0)]) _
      refine XS.lload X37.here hx rfl (hb hby d6_119) rfl ?_
      exact k
    obtain ⟨T39, h39, X39, e39, W39, st39⟩ := putF X37 hx hZ hown (host := "") (Or.inl (hw _ (List.mem_of_getElem? (i := 33) rfl))) Via.refl e37 ((M_lastReportNanos.other W2 (Or.inr (slot_ne (Or.inl (hw _ (List.mem_of_getElem? (i := 34) rfl))) (Or.inl (hw _ (List.mem_of_getElem? (i := 52) rfl))) (by decide) (t := .long) (t' := .long) (by decide) (by decide)))).other W37 (Or.inr (slot_ne (Or.inl (hw _ (List.mem_of_getElem? (i := 34) rfl))) (Or.inl (hw _ (List.mem_of_getElem? (i := 54) rfl))) (by decide) (t := .long) (t' := .long) (by decide) (by decide)))) ((E_r0.wr W2).wr W37) (Or.inl (hw _ (List.mem_of_getElem? (i := 34) rfl))) (hw _ (List.mem_of_getElem? (i := 1) rfl)) (ty := .long) (by decide) rfl rfl (g := (mkF m 121 #[.val (.ref r0), .val (.long q1), .second, .val (.double f2), .second, .val (.long q3), .second, .unset, .unset, .unset] [(.long q3), (.ref r0)])) rfl rfl (hb hby d6_121)
    have Fw39 := Fld.same W39 ((M_lastReportNanos.other W2 (Or.inr (slot_ne (Or.inl (hw _ (List.mem_of_getElem? (i := 34) rfl))) (Or.inl (hw _ (List.mem_of_getElem? (i := 52) rfl))) (by decide) (t := .long) (t' := .long) (by decide) (by decide)))).other W37 (Or.inr (slot_ne (Or.inl (hw _ (List.mem_of_getElem? (i := 34) rfl))) (Or.inl (hw _ (List.mem_of_getElem? (i := 54) rfl))) (by decide) (t := .long) (t' := .long) (by decide) (by decide))))
    have N39 := Fr.snoc X39 N37 g_r0
    have Kp39 : Keep h0 h39 [r0, d, ea] := Keep.wr Kp37 W39 (Or.inl (List.mem_of_getElem? (i := 0) rfl))
    have K39 : own_K p e below SE T39 (mkF m 124 #[.val (.ref r0), .val (.long q1), .second, .val (.double f2), .second, .val (.long q3), .second, .unset, .unset, .unset] []) := fun t k => K38 _ (st39 _ k)
    obtain ⟨fs, hr, hrun, hended, hW, hsame⟩ := X39.leave (v := none) (fun _ => rfl)
    refine ⟨_, _, K39 _ ?_, hrun, hended, _, _, rfl, ?_, ⟨_, rfl⟩, hW, hsame.mono (by decide) (by decide)⟩
    · exact X39.returnOut hx Bd.returns (hb hby d6_124) hr
    · show Qup Z r0 q1 f2 q3 vp vm vs vd vr vl d va ea kE h0 n0 _ T39.heap _
      rw [e39]
      exact ⟨rfl, N39, Kp39, (((E_r0.wr W2).wr W37).wr W39), vm, hm, (((M_processingMs.other W2 (Or.inr (slot_ne (Or.inl (hw _ (List.mem_of_getElem? (i := 61) rfl))) (Or.inl (hw _ (List.mem_of_getElem? (i := 52) rfl))) (by decide) (t := .double) (t' := .long) (by decide) (by decide)))).other W37 (Or.inr (slot_ne (Or.inl (hw _ (List.mem_of_getElem? (i := 61) rfl))) (Or.inl (hw _ (List.mem_of_getElem? (i := 54) rfl))) (by decide) (t := .double) (t' := .long) (by decide) (by decide)))).other W39 (Or.inr (slot_ne (Or.inl (hw _ (List.mem_of_getElem? (i := 61) rfl))) (Or.inl (hw _ (List.mem_of_getElem? (i := 34) rfl))) (by decide) (t := .double) (t' := .long) (by decide) (by decide)))), ((Fw2.other W37 (Or.inr (slot_ne (Or.inl (hw _ (List.mem_of_getElem? (i := 52) rfl))) (Or.inl (hw _ (List.mem_of_getElem? (i := 54) rfl))) (by decide) (t := .long) (t' := .long) (by decide) (by decide)))).other W39 (Or.inr (slot_ne (Or.inl (hw _ (List.mem_of_getElem? (i := 52) rfl))) (Or.inl (hw _ (List.mem_of_getElem? (i := 34) rfl))) (by decide) (t := .long) (t' := .long) (by decide) (by decide)))), (Fw37.other W39 (Or.inr (slot_ne (Or.inl (hw _ (List.mem_of_getElem? (i := 54) rfl))) (Or.inl (hw _ (List.mem_of_getElem? (i := 34) rfl))) (by decide) (t := .long) (t' := .long) (by decide) (by decide)))), (((M_delivered.other W2 (Or.inr (slot_ne (Or.inl (hw _ (List.mem_of_getElem? (i := 68) rfl))) (Or.inl (hw _ (List.mem_of_getElem? (i := 52) rfl))) (by decide) (t := .long) (t' := .long) (by decide) (by decide)))).other W37 (Or.inr (slot_ne (Or.inl (hw _ (List.mem_of_getElem? (i := 68) rfl))) (Or.inl (hw _ (List.mem_of_getElem? (i := 54) rfl))) (by decide) (t := .long) (t' := .long) (by decide) (by decide)))).other W39 (Or.inr (slot_ne (Or.inl (hw _ (List.mem_of_getElem? (i := 68) rfl))) (Or.inl (hw _ (List.mem_of_getElem? (i := 34) rfl))) (by decide) (t := .long) (t' := .long) (by decide) (by decide)))), Fw39, (((M_lastSentNanos.other W2 (Or.inr (slot_ne (Or.inl (hw _ (List.mem_of_getElem? (i := 36) rfl))) (Or.inl (hw _ (List.mem_of_getElem? (i := 52) rfl))) (by decide) (t := .long) (t' := .long) (by decide) (by decide)))).other W37 (Or.inr (slot_ne (Or.inl (hw _ (List.mem_of_getElem? (i := 36) rfl))) (Or.inl (hw _ (List.mem_of_getElem? (i := 54) rfl))) (by decide) (t := .long) (t' := .long) (by decide) (by decide)))).other W39 (Or.inr (slot_ne (Or.inl (hw _ (List.mem_of_getElem? (i := 36) rfl))) (Or.inl (hw _ (List.mem_of_getElem? (i := 34) rfl))) (by decide) (t := .long) (t' := .long) (by decide) (by decide)))), (((M_processingTimes.other W2 (Or.inr (slot_ne (Or.inr (hw _ (List.mem_of_getElem? (i := 28) rfl))) (Or.inl (hw _ (List.mem_of_getElem? (i := 52) rfl))) (by decide) (t := (.object "java/util/Deque")) (t' := .long) (by decide) (by decide)))).other W37 (Or.inr (slot_ne (Or.inr (hw _ (List.mem_of_getElem? (i := 28) rfl))) (Or.inl (hw _ (List.mem_of_getElem? (i := 54) rfl))) (by decide) (t := (.object "java/util/Deque")) (t' := .long) (by decide) (by decide)))).other W39 (Or.inr (slot_ne (Or.inr (hw _ (List.mem_of_getElem? (i := 28) rfl))) (Or.inl (hw _ (List.mem_of_getElem? (i := 34) rfl))) (by decide) (t := (.object "java/util/Deque")) (t' := .long) (by decide) (by decide)))), (((M_reported.other W2 (Or.inr (slot_ne (Or.inl (hw _ (List.mem_of_getElem? (i := 45) rfl))) (Or.inl (hw _ (List.mem_of_getElem? (i := 52) rfl))) (by decide) (t := .boolean) (t' := .long) (by decide) (by decide)))).other W37 (Or.inr (slot_ne (Or.inl (hw _ (List.mem_of_getElem? (i := 45) rfl))) (Or.inl (hw _ (List.mem_of_getElem? (i := 54) rfl))) (by decide) (t := .boolean) (t' := .long) (by decide) (by decide)))).other W39 (Or.inr (slot_ne (Or.inl (hw _ (List.mem_of_getElem? (i := 45) rfl))) (Or.inl (hw _ (List.mem_of_getElem? (i := 34) rfl))) (by decide) (t := .boolean) (t' := .long) (by decide) (by decide)))), (((M_lastAcknowledgedNanos.other W2 (Or.inr (slot_ne (Or.inl (hw _ (List.mem_of_getElem? (i := 38) rfl))) (Or.inl (hw _ (List.mem_of_getElem? (i := 52) rfl))) (by decide) (t := .long) (t' := .long) (by decide) (by decide)))).other W37 (Or.inr (slot_ne (Or.inl (hw _ (List.mem_of_getElem? (i := 38) rfl))) (Or.inl (hw _ (List.mem_of_getElem? (i := 54) rfl))) (by decide) (t := .long) (t' := .long) (by decide) (by decide)))).other W39 (Or.inr (slot_ne (Or.inl (hw _ (List.mem_of_getElem? (i := 38) rfl))) (Or.inl (hw _ (List.mem_of_getElem? (i := 34) rfl))) (by decide) (t := .long) (t' := .long) (by decide) (by decide))))⟩
theorem d5_0 : decode prog_44_method_13_code 0 = .ok (.aload_n 0, 1) := by decide +kernel
theorem d5_1 : decode prog_44_method_13_code 1 = .ok (.getfield 60, 3) := by decide +kernel
theorem d5_4 : decode prog_44_method_13_code 4 = .ok (.ifCond .eq 4, 3) := by decide +kernel
theorem d5_8 : decode prog_44_method_13_code 8 = .ok (.lload_n 1, 1) := by decide +kernel
theorem d5_9 : decode prog_44_method_13_code 9 = .ok (.aload_n 0, 1) := by decide +kernel
theorem d5_10 : decode prog_44_method_13_code 10 = .ok (.getfield 32, 3) := by decide +kernel
theorem d5_13 : decode prog_44_method_13_code 13 = .ok (.lsub, 1) := by decide +kernel
theorem d5_14 : decode prog_44_method_13_code 14 = .ok (.lconst 0, 1) := by decide +kernel
theorem d5_15 : decode prog_44_method_13_code 15 = .ok (.lcmp, 1) := by decide +kernel
theorem d5_16 : decode prog_44_method_13_code 16 = .ok (.ifCond .le 7, 3) := by decide +kernel
theorem d5_19 : decode prog_44_method_13_code 19 = .ok (.lload_n 1, 1) := by decide +kernel
theorem d5_20 : decode prog_44_method_13_code 20 = .ok (.goto 7, 3) := by decide +kernel
theorem d5_23 : decode prog_44_method_13_code 23 = .ok (.aload_n 0, 1) := by decide +kernel
theorem d5_24 : decode prog_44_method_13_code 24 = .ok (.getfield 32, 3) := by decide +kernel
theorem d5_27 : decode prog_44_method_13_code 27 = .ok (.lstore 7, 2) := by decide +kernel
theorem d5_29 : decode prog_44_method_13_code 29 = .ok (.aload_n 0, 1) := by decide +kernel
theorem d5_30 : decode prog_44_method_13_code 30 = .ok (.lload 5, 2) := by decide +kernel
theorem d5_32 : decode prog_44_method_13_code 32 = .ok (.putfield 32, 3) := by decide +kernel
theorem d5_35 : decode prog_44_method_13_code 35 = .ok (.aload_n 0, 1) := by decide +kernel
theorem d5_36 : decode prog_44_method_13_code 36 = .ok (.lload_n 3, 1) := by decide +kernel
theorem d5_37 : decode prog_44_method_13_code 37 = .ok (.lload 5, 2) := by decide +kernel
theorem d5_39 : decode prog_44_method_13_code 39 = .ok (.lload 7, 2) := by decide +kernel
theorem d5_41 : decode prog_44_method_13_code 41 = .ok (.lsub, 1) := by decide +kernel
theorem d5_42 : decode prog_44_method_13_code 42 = .ok (.l2d, 1) := by decide +kernel
theorem d5_43 : decode prog_44_method_13_code 43 = .ok (.ldc2_w 81, 3) := by decide +kernel
theorem d5_46 : decode prog_44_method_13_code 46 = .ok (.ddiv, 1) := by decide +kernel
theorem d5_47 : decode prog_44_method_13_code 47 = .ok (.lload 5, 2) := by decide +kernel
theorem d5_49 : decode prog_44_method_13_code 49 = .ok (.invokevirtual 77, 3) := by decide +kernel
theorem d5_52 : decode prog_44_method_13_code 52 = .ok (.return_, 1) := by decide +kernel
theorem pd_ak_0 : parseMethodDescriptor "(JDJ)V" = some ⟨[.long, .double, .long], none⟩ := by decide +kernel
theorem ef_ak (m : MethodId) (r0 : Addr) (q1 : Int64) (q2 : Int64) (q3 : Int64) : entryFrame m #[(.ref r0), (.long q1), (.long q2), (.long q3)] 9 = mkF m 0 #[.val (.ref r0), .val (.long q1), .second, .val (.long q2), .second, .val (.long q3), .second, .unset, .unset] [] := by first | (simp [entryFrame, mkF, argsToLocals, Value.category]; done) | rfl
def Qak (Z : State) (r0 : Addr) (q1 : Int64) (q2 : Int64) (q3 : Int64) (vp : Int64) (vm : UInt64) (vs : Int64) (vd : Int64) (vr : Int64) (vl : Int64) (d : Addr) (va : Int64) (ea : Addr) (kE : ClassId) (h0 : Heap) (n0 : Nat) (v : Option Value) (h : Heap) (L : List Loc) : Prop := v = none ∧ Fr n0 L ∧ Keep h0 h [r0, d, ea] ∧ Exa Z h r0 "com/example/headroom/headroom/model/Member" ∧ ∃ vz : UInt64, NoNaN64 vz ∧ Fld Z h r0 "com/example/headroom/headroom/model/Member" "processingMs" "D" (.double vz) ∧ Fld Z h r0 "com/example/headroom/headroom/model/Member" "pending" "J" (.long q2) ∧ Fld Z h r0 "com/example/headroom/headroom/model/Member" "sentSinceReport" "J" (.long (0 : Int64)) ∧ Fld Z h r0 "com/example/headroom/headroom/model/Member" "delivered" "J" (.long vd) ∧ Fld Z h r0 "com/example/headroom/headroom/model/Member" "lastReportNanos" "J" (.long q3) ∧ Fld Z h r0 "com/example/headroom/headroom/model/Member" "lastSentNanos" "J" (.long vl) ∧ Fld Z h r0 "com/example/headroom/headroom/model/Member" "processingTimes" "Ljava/util/Deque;" (.ref d) ∧ Fld Z h r0 "com/example/headroom/headroom/model/Member" "reported" "Z" (.int (0 : Int32)) ∧ Fld Z h r0 "com/example/headroom/headroom/model/Member" "lastAcknowledgedNanos" "J" (.long q3)
set_option maxRecDepth 65536 in
set_option maxHeartbeats 40000000 in
theorem rmak (l : Launch) (Z : State) (a0 : Array Value) (hw : ∀ d ∈ tables_1, d.before a0 Z = true) (ws : List Jvm.Cond) (r0 : Addr) (q1 : Int64) (q2 : Int64) (q3 : Int64) (vp : Int64) (vm : UInt64) (vs : Int64) (vd : Int64) (vr : Int64) (vl : Int64) (d : Addr) (va : Int64) (ea : Addr) (kE : ClassId) (h0 : Heap) (n0 : Nat) (Z0 : n0 ≤ h0.size) (hm : NoNaN64 vm) (E_r0 : Exa Z h0 r0 "com/example/headroom/headroom/model/Member") (M_pending : Fld Z h0 r0 "com/example/headroom/headroom/model/Member" "pending" "J" (.long vp)) (M_processingMs : Fld Z h0 r0 "com/example/headroom/headroom/model/Member" "processingMs" "D" (.double vm)) (M_sentSinceReport : Fld Z h0 r0 "com/example/headroom/headroom/model/Member" "sentSinceReport" "J" (.long vs)) (M_delivered : Fld Z h0 r0 "com/example/headroom/headroom/model/Member" "delivered" "J" (.long vd)) (M_lastReportNanos : Fld Z h0 r0 "com/example/headroom/headroom/model/Member" "lastReportNanos" "J" (.long vr)) (M_lastSentNanos : Fld Z h0 r0 "com/example/headroom/headroom/model/Member" "lastSentNanos" "J" (.long vl)) (M_processingTimes : Fld Z h0 r0 "com/example/headroom/headroom/model/Member" "processingTimes" "Ljava/util/Deque;" (.ref d)) (M_reported : Fld Z h0 r0 "com/example/headroom/headroom/model/Member" "reported" "Z" (.int (0 : Int32))) (M_lastAcknowledgedNanos : Fld Z h0 r0 "com/example/headroom/headroom/model/Member" "lastAcknowledgedNanos" "J" (.long va)) (E_d : Exa Z h0 d "java/util/ArrayDeque") (F_h : Fld Z h0 d "java/util/ArrayDeque" "head" "I" (.int (0 : Int32))) (F_t : Fld Z h0 d "java/util/ArrayDeque" "tail" "I" (.int (0 : Int32))) (F_e : Fld Z h0 d "java/util/ArrayDeque" "elements" "[Ljava/lang/Object;" (.ref ea)) (V_e : Arv Z h0 ea kE (.object "java/lang/Object") (6 : Int32) [.null, .null, .null, .null, .null, .null] .null) (Ov : Ovr Z kE "java/lang/Object") (g_r0 : n0 ≤ r0) (g_d : n0 ≤ d) (g_ea : n0 ≤ ea) (n1 : r0 ≠ d) (n2 : r0 ≠ ea) (n3 : d ≠ ea) :
    MetFree l (⟨"com/example/headroom/headroom/model/Member", "acknowledged", "(JJJ)V"⟩ : MethodName) (head1 (Jvm.Cond.code (⟨"com/example/headroom/headroom/model/Member", "acknowledged", "(JJJ)V"⟩ : MethodName) prog_44_method_13_code 9 none :: ws) ({ frames := 5, cells := 2, slots := 5, locals := 74 } : Room)) (fun a U => a = #[(.ref r0), (.long q1), (.long q2), (.long q3)] ∧ Z.Warmed39 U.vm ∧ U.heap = h0) (fun _ _ _ _ _ => True) (fun _ U o U' => ∃ v L, o = .returned v ∧ Qak Z r0 q1 q2 q3 vp vm vs vd vr vl d va ea kE h0 n0 v U'.heap L ∧ FrameEnd U o U' L ({ frames := 5, cells := 2, slots := 5, locals := 74 } : Room).cells ({ frames := 5, cells := 2, slots := 5, locals := 74 } : Room).slots) := by
  refine MetFree.of_bodySF (plainFor_of_name pn_1) hisR ?_
  intro p e s m args below meth c s₁ Bd hml0 hP hK
  obtain ⟨rfl, hZ, hh⟩ := hP
  have hx := Bd.exec
  have hby := Bd.bytes
  have hml : c.maxLocals = 9 := hml0
  have hown : s.vm.findClass "com/example/headroom/headroom/model/Member" = some m.cls := findClass_of_methodNamed Bd.named
  have hnm := (name_of_methodNamed Bd.named Bd.method).1
  have X0 : Stand p l e ({ frames := 5, cells := 2, slots := 5, locals := 74 } : Room) s m #[(.ref r0), (.long q1), (.long q2), (.long q3)] below meth c s₁ [] 0 0 := Stand.of_body Bd
  have e0 : s₁.heap = h0 := by rw [← hh, Bd.state]; rfl
  have N0 := Fr.nil n0
  have K0 : ∀ t, Steps p.tables e below (s₁.setTop (mkF m 0 #[.val (.ref r0), .val (.long q1), .second, .val (.long q2), .second, .val (.long q3), .second, .unset, .unset] [])) t → Steps p.tables e below (s₁.setTop (entryFrame m #[(.ref r0), (.long q1), (.long q2), (.long q3)] 9)) t := fun t k => castTop (ef_ak m r0 q1 q2 q3) k
  generalize s₁.setTop (entryFrame m #[(.ref r0), (.long q1), (.long q2), (.long q3)] 9) = SE at K0 ⊢
  have K1 : own_K p e below SE s₁ (mkF m 1 #[.val (.ref r0), .val (.long q1), .second, .val (.long q2), .second, .val (.long q3), .second, .unset, .unset] [(.ref r0)]) := by
    intro t k
    refine K0 _ ?_
    refine XS.aloadN X0.here hx rfl (hb hby d5_0) rfl rfl ?_
    exact k
  obtain ⟨T2, X2, e2, st2⟩ := getF X0 hx hZ hown (host := "") (Or.inl (hw _ (List.mem_of_getElem? (i := 44) rfl))) Via.refl e0 M_reported (g := (mkF m 1 #[.val (.ref r0), .val (.long q1), .second, .val (.long q2), .second, .val (.long q3), .second, .unset, .unset] [(.ref r0)])) rfl rfl (hb hby d5_1)
  have K2 : own_K p e below SE T2 (mkF m 4 #[.val (.ref r0), .val (.long q1), .second, .val (.long q2), .second, .val (.long q3), .second, .unset, .unset] [(.int (0 : Int32))]) := fun t k => K1 _ (st2 _ k)
  have K3 : own_K p e below SE T2 (mkF m 10 #[.val (.ref r0), .val (.long q1), .second, .val (.long q2), .second, .val (.long q3), .second, .unset, .unset] [(.ref r0), (.long q1)]) := by
    intro t k
    refine K2 _ ?_
    refine XS.ifYes X2.here hx rfl (pc0 := 4) (pc' := 8) rfl (hb hby d5_4) rfl (XT.i0_eq_t (by decide : (0 : Int32) = 0)) (by decide) (by decide) ?_
    show own_S p e below T2 (mkF m 8 #[.val (.ref r0), .val (.long q1), .second, .val (.long q2), .second, .val (.long q3), .second, .unset, .unset] []) _
    refine XS.lloadN X2.here hx rfl (hb hby d5_8) rfl ?_
    show own_S p e below T2 (mkF m 9 #[.val (.ref r0), .val (.long q1), .second, .val (.long q2), .second, .val (.long q3), .second, .unset, .unset] [(.long q1)]) _
    refine XS.aloadN X2.here hx rfl (hb hby d5_9) rfl rfl ?_
    exact k
  obtain ⟨T4, X4, e4, st4⟩ := getF X2 hx hZ hown (host := "") (Or.inl (hw _ (List.mem_of_getElem? (i := 37) rfl))) Via.refl e2 M_lastAcknowledgedNanos (g := (mkF m 10 #[.val (.ref r0), .val (.long q1), .second, .val (.long q2), .second, .val (.long q3), .second, .unset, .unset] [(.ref r0), (.long q1)])) rfl rfl (hb hby d5_10)
  have K4 : own_K p e below SE T4 (mkF m 13 #[.val (.ref r0), .val (.long q1), .second, .val (.long q2), .second, .val (.long q3), .second, .unset, .unset] [(.long va), (.long q1)]) := fun t k => K3 _ (st4 _ k)
  have K5 : own_K p e below SE T4 (mkF m 16 #[.val (.ref r0), .val (.long q1), .second, .val (.long q2), .second, .val (.long q3), .second, .unset, .unset] [(.int (XT.cmpL (q1 - va) (0 : Int64)))]) := by
    intro t k
    refine K4 _ ?_
    refine XS.lsub X4.here hx rfl (hb hby d5_13) rfl ?_
    show own_S p e below T4 (mkF m 14 #[.val (.ref r0), .val (.long q1), .second, .val (.long q2), .second, .val (.long q3), .second, .unset, .unset] [(.long (q1 - va))]) _
    refine XS.lconst X4.here hx rfl (hb hby d5_14) ?_
    show own_S p e below T4 (mkF m 15 #[.val (.ref r0), .val (.long q1), .second, .val (.long q2), .second, .val (.long q3), .second, .unset, .unset] [(.long (0 : Int64)), (.long (q1 - va))]) _
    refine XT.lcmp X4.here hx rfl (hb hby d5_15) rfl ?_
    exact k
  by_cases cst : (0 : Int64) < (q1 - va)
  · skip
    have K6 : own_K p e below SE T4 (mkF m 32 #[.val (.ref r0), .val (.long q1), .second, .val (.long q2), .second, .val (.long q3), .second, .val (.long q1), .second] [(.long q3), (.ref r0)]) := by
      intro t k
      refine K5 _ ?_
      refine XS.ifNo X4.here hx rfl (hb hby d5_16) rfl (XT.ll_le_f cst) ?_
      show own_S p e below T4 (mkF m 19 #[.val (.ref r0), .val (.long q1), .second, .val (.long q2), .second, .val (.long q3), .second, .unset, .unset] []) _
      refine XS.lloadN X4.here hx rfl (hb hby d5_19) rfl ?_
      show own_S p e below T4 (mkF m 20 #[.val (.ref r0), .val (.long q1), .second, .val (.long q2), .second, .val (.long q3), .second, .unset, .unset] [(.long q1)]) _
      refine XS.goto X4.here hx rfl (pc0 := 20) (pc' := 27) rfl (hb hby d5_20) (by decide) (by decide) ?_
      show own_S p e below T4 (mkF m 27 #[.val (.ref r0), .val (.long q1), .second, .val (.long q2), .second, .val (.long q3), .second, .unset, .unset] [(.long q1)]) _
      refine XS.lstore X4.here hx rfl (hb hby d5_27) rfl (l' := #[.val (.ref r0), .val (.long q1), .second, .val (.long q2), .second, .val (.long q3), .second, .val (.long q1), .second]) rfl ?_
      show own_S p e below T4 (mkF m 29 #[.val (.ref r0), .val (.long q1), .second, .val (.long q2), .second, .val (.long q3), .second, .val (.long q1), .second] []) _
      refine XS.aloadN X4.here hx rfl (hb hby d5_29) rfl rfl ?_
      show own_S p e below T4 (mkF m 30 #[.val (.ref r0), .val (.long q1), .second, .val (.long q2), .second, .val (.long q3), .second, .val (.long q1), .second] [(.ref r0)]) _
      refine XS.lload X4.here hx rfl (hb hby d5_30) rfl ?_
      exact k
    obtain ⟨T7, h7, X7, e7, W7, st7⟩ := putF X4 hx hZ hown (host := "") (Or.inl (hw _ (List.mem_of_getElem? (i := 37) rfl))) Via.refl e4 M_lastAcknowledgedNanos E_r0 (Or.inl (hw _ (List.mem_of_getElem? (i := 38) rfl))) (hw _ (List.mem_of_getElem? (i := 1) rfl)) (ty := .long) (by decide) rfl rfl (g := (mkF m 32 #[.val (.ref r0), .val (.long q1), .second, .val (.long q2), .second, .val (.long q3), .second, .val (.long q1), .second] [(.long q3), (.ref r0)])) rfl rfl (hb hby d5_32)
    have Fw7 := Fld.same W7 M_lastAcknowledgedNanos
    have N7 := Fr.snoc X7 N0 g_r0
    have Kp7 : Keep h0 h7 [r0, d, ea] := Keep.wr (Keep.refl h0 [r0, d, ea]) W7 (Or.inl (List.mem_of_getElem? (i := 0) rfl))
    have K7 : own_K p e below SE T7 (mkF m 35 #[.val (.ref r0), .val (.long q1), .second, .val (.long q2), .second, .val (.long q3), .second, .val (.long q1), .second] []) := fun t k => K6 _ (st7 _ k)
    have K8 : own_K p e below SE T7 (mkF m 47 #[.val (.ref r0), .val (.long q1), .second, .val (.long q2), .second, .val (.long q3), .second, .val (.long q1), .second] [(.double (FP.ddiv (FP.l2d (q3 - q1)) (4696837146684686336 : UInt64))), (.long q2), (.ref r0)]) := by
      intro t k
      refine K7 _ ?_
      refine XS.aloadN X7.here hx rfl (hb hby d5_35) rfl rfl ?_
      show own_S p e below T7 (mkF m 36 #[.val (.ref r0), .val (.long q1), .second, .val (.long q2), .second, .val (.long q3), .second, .val (.long q1), .second] [(.ref r0)]) _
      refine XS.lloadN X7.here hx rfl (hb hby d5_36) rfl ?_
      show own_S p e below T7 (mkF m 37 #[.val (.ref r0), .val (.long q1), .second, .val (.long q2), .second, .val (.long q3), .second, .val (.long q1), .second] [(.long q2), (.ref r0)]) _
      refine XS.lload X7.here hx rfl (hb hby d5_37) rfl ?_
      show own_S p e below T7 (mkF m 39 #[.val (.ref r0), .val (.long q1), .second, .val (.long q2), .second, .val (.long q3), .second, .val (.long q1), .second] [(.long q3), (.long q2), (.ref r0)]) _
      refine XS.lload X7.here hx rfl (hb hby d5_39) rfl ?_
      show own_S p e below T7 (mkF m 41 #[.val (.ref r0), .val (.long q1), .second, .val (.long q2), .second, .val (.long q3), .second, .val (.long q1), .second] [(.long q1), (.long q3), (.long q2), (.ref r0)]) _
      refine XS.lsub X7.here hx rfl (hb hby d5_41) rfl ?_
      show own_S p e below T7 (mkF m 42 #[.val (.ref r0), .val (.long q1), .second, .val (.long q2), .second, .val (.long q3), .second, .val (.long q1), .second] [(.long (q3 - q1)), (.long q2), (.ref r0)]) _
      refine XS.l2dS X7.here hx rfl (hb hby d5_42) rfl rfl ?_
      show own_S p e below T7 (mkF m 43 #[.val (.ref r0), .val (.long q1), .second, .val (.long q2), .second, .val (.long q3), .second, .val (.long q1), .second] [(.double (FP.l2d (q3 - q1))), (.long q2), (.ref r0)]) _
      refine X7.ldc2DoubleC hx hown (mvT hZ (hw _ (List.mem_of_getElem? (i := 46) rfl))) (g := (mkF m 43 #[.val (.ref r0), .val (.long q1), .second, .val (.long q2), .second, .val (.long q3), .second, .val (.long q1), .second] [(.double (FP.l2d (q3 - q1))), (.long q2), (.ref r0)])) rfl (hb hby d5_43) _ ?_
      show own_S p e below T7 (mkF m 46 #[.val (.ref r0), .val (.long q1), .second, .val (.long q2), .second, .val (.long q3), .second, .val (.long q1), .second] [(.double (4696837146684686336 : UInt64)), (.double (FP.l2d (q3 - q1))), (.long q2), (.ref r0)]) _
      refine XS.ddivS X7.here hx rfl (hb hby d5_46) rfl (ddiv_out (l2d_fin _).noNaN own_million.1 own_million.2) rfl ?_
      exact k
    obtain ⟨dval, hdval⟩ : ∃ z : UInt64, z = (FP.ddiv (FP.l2d (q3 - q1)) (4696837146684686336 : UInt64)) := ⟨_, rfl⟩
    rw [← hdval] at K8
    have hDv : NoNaN64 dval := by rw [hdval]; exact ddiv_out (l2d_fin _).noNaN own_million.1 own_million.2
    have K9 : own_K p e below SE T7 (mkF m 49 #[.val (.ref r0), .val (.long q1), .second, .val (.long q2), .second, .val (.long q3), .second, .val (.long q1), .second] [(.long q3), (.double dval), (.long q2), (.ref r0)]) := by
      intro t k
      refine K8 _ ?_
      refine XS.lload X7.here hx rfl (hb hby d5_47) rfl ?_
      exact k
    obtain ⟨cq10, q10, q10'⟩ := (E_r0.wr W7).cell
    obtain ⟨_, _, ⟨T10, L10, k10, n10⟩, -, X10, ⟨Lc10, hQ10, l10, y10, z10⟩, st10⟩ := X7.privateBack hx (y := (⟨"com/example/headroom/headroom/model/Member", "update", "(JDJ)V"⟩ : MethodName)) hown (mvT hZ (hw _ (List.mem_of_getElem? (i := 47) rfl))) (mvT hZ (hw _ (List.mem_of_getElem? (i := 48) rfl))) (own_ss (own_ni (mvT hZ (hw _ (List.mem_of_getElem? (i := 1) rfl)) (args := #[]))) (Cond.privateMethod_at (mvP hZ (hw _ (List.mem_of_getElem? (i := 49) rfl)) (args := #[]))) (mvT hZ (hw _ (List.mem_of_getElem? (i := 48) rfl))) (by decide)) (Cond.privateMethod_at (mvP hZ (hw _ (List.mem_of_getElem? (i := 49) rfl)) (args := #[]))) (mvT hZ (hw _ (List.mem_of_getElem? (i := 50) rfl))) (by decide) (backOf (W := 0) (rmup l Z a0 hw [] r0 q2 dval q3 vp vm vs vd vr vl d q3 ea kE h7 n0 (Nat.le_trans Z0 Kp7.1) hDv hm (E_r0.wr W7) (M_pending.other W7 (Or.inr (slot_ne (Or.inl (hw _ (List.mem_of_getElem? (i := 52) rfl))) (Or.inl (hw _ (List.mem_of_getElem? (i := 38) rfl))) (by decide) (t := .long) (t' := .long) (by decide) (by decide)))) (M_processingMs.other W7 (Or.inr (slot_ne (Or.inl (hw _ (List.mem_of_getElem? (i := 61) rfl))) (Or.inl (hw _ (List.mem_of_getElem? (i := 38) rfl))) (by decide) (t := .double) (t' := .long) (by decide) (by decide)))) (M_sentSinceReport.other W7 (Or.inr (slot_ne (Or.inl (hw _ (List.mem_of_getElem? (i := 54) rfl))) (Or.inl (hw _ (List.mem_of_getElem? (i := 38) rfl))) (by decide) (t := .long) (t' := .long) (by decide) (by decide)))) (M_delivered.other W7 (Or.inr (slot_ne (Or.inl (hw _ (List.mem_of_getElem? (i := 68) rfl))) (Or.inl (hw _ (List.mem_of_getElem? (i := 38) rfl))) (by decide) (t := .long) (t' := .long) (by decide) (by decide)))) (M_lastReportNanos.other W7 (Or.inr (slot_ne (Or.inl (hw _ (List.mem_of_getElem? (i := 34) rfl))) (Or.inl (hw _ (List.mem_of_getElem? (i := 38) rfl))) (by decide) (t := .long) (t' := .long) (by decide) (by decide)))) (M_lastSentNanos.other W7 (Or.inr (slot_ne (Or.inl (hw _ (List.mem_of_getElem? (i := 36) rfl))) (Or.inl (hw _ (List.mem_of_getElem? (i := 38) rfl))) (by decide) (t := .long) (t' := .long) (by decide) (by decide)))) (M_processingTimes.other W7 (Or.inr (slot_ne (Or.inr (hw _ (List.mem_of_getElem? (i := 28) rfl))) (Or.inl (hw _ (List.mem_of_getElem? (i := 38) rfl))) (by decide) (t := (.object "java/util/Deque")) (t' := .long) (by decide) (by decide)))) (M_reported.other W7 (Or.inr (slot_ne (Or.inl (hw _ (List.mem_of_getElem? (i := 45) rfl))) (Or.inl (hw _ (List.mem_of_getElem? (i := 38) rfl))) (by decide) (t := .boolean) (t' := .long) (by decide) (by decide)))) Fw7 (E_d.wr W7) (F_h.other W7 (Or.inl (Ne.symm n1))) (F_t.other W7 (Or.inl (Ne.symm n1))) (F_e.other W7 (Or.inl (Ne.symm n1))) (V_e.other W7 (Ne.symm n2)) Ov g_r0 g_d g_ea n1 n2 n3) hZ (hw _ (List.mem_of_getElem? (i := 50) rfl)) (hw _ (List.mem_of_getElem? (i := 2) rfl)) (by decide) (by decide)) (g := (mkF m 49 #[.val (.ref r0), .val (.long q1), .second, .val (.long q2), .second, .val (.long q3), .second, .val (.long q1), .second] [(.long q3), (.double dval), (.long q2), (.ref r0)])) rfl (by rw [hml]; rfl) (Steps.refl _) (a := r0) (by rw [e7]; exact q10) q10' (argsL := [(.long q2), (.double dval), (.long q3)]) (rest := []) (lenOf pd_ak_0 rfl) rfl (by show 2 * 0 + _ ≤ _; exact Nat.le_of_eq rfl) (hb hby d5_49) (fun _ _ => ⟨rfl, e7, (by decide : 0 + 2 ≤ _), (by decide : 0 + 5 ≤ _)⟩)
    dsimp only [Pt.U, Pt.locs, Pt.cells, Pt.slots] at X10 l10 y10 z10 st10 hQ10
    rw [y10, z10] at X10
    obtain ⟨rfl, Nq10, Kq10, Ex10, vz, hvz, Fz10, M10_pending, M10_sentSinceReport, M10_delivered, M10_lastReportNanos, M10_lastSentNanos, M10_processingTimes, M10_reported, M10_lastAcknowledgedNanos⟩ := hQ10
    have N10 : Fr n0 L10 := by rw [l10]; exact Fr.app N7 Nq10
    have Kp10 : Keep h0 T10.heap [r0, d, ea] := Keep.trans Kp7 Kq10 (allS (Or.inl (List.mem_of_getElem? (i := 0) rfl)) (allS (Or.inl (List.mem_of_getElem? (i := 1) rfl)) (allS (Or.inl (List.mem_of_getElem? (i := 2) rfl)) all0)))
    have K10 : own_K p e below SE T10 (mkF m 52 #[.val (.ref r0), .val (.long q1), .second, .val (.long q2), .second, .val (.long q3), .second, .val (.long q1), .second] []) := fun t k => K9 _ (st10.trans k)
    obtain ⟨fs, hr, hrun, hended, hW, hsame⟩ := X10.leave (v := none) (fun _ => rfl)
    refine ⟨_, _, K10 _ ?_, hrun, hended, _, _, rfl, ?_, ⟨_, rfl⟩, hW, hsame.mono (by decide) (by decide)⟩
    · exact X10.returnOut hx Bd.returns (hb hby d5_52) hr
    · show Qak Z r0 q1 q2 q3 vp vm vs vd vr vl d va ea kE h0 n0 _ T10.heap _
      exact ⟨rfl, N10, Kp10, Ex10, vz, hvz, Fz10, M10_pending, M10_sentSinceReport, M10_delivered, M10_lastReportNanos, M10_lastSentNanos, M10_processingTimes, M10_reported, M10_lastAcknowledgedNanos⟩
  · skip
    have K11 : own_K p e below SE T4 (mkF m 24 #[.val (.ref r0), .val (.long q1), .second, .val (.long q2), .second, .val (.long q3), .second, .unset, .unset] [(.ref r0)]) := by
      intro t k
      refine K5 _ ?_
      refine XS.ifYes X4.here hx rfl (pc0 := 16) (pc' := 23) rfl (hb hby d5_16) rfl (XT.ll_le_t cst) (by decide) (by decide) ?_
      show own_S p e below T4 (mkF m 23 #[.val (.ref r0), .val (.long q1), .second, .val (.long q2), .second, .val (.long q3), .second, .unset, .unset] []) _
      refine XS.aloadN X4.here hx rfl (hb hby d5_23) rfl rfl ?_
      exact k
    obtain ⟨T12, X12, e12, st12⟩ := getF X4 hx hZ hown (host := "") (Or.inl (hw _ (List.mem_of_getElem? (i := 37) rfl))) Via.refl e4 M_lastAcknowledgedNanos (g := (mkF m 24 #[.val (.ref r0), .val (.long q1), .second, .val (.long q2), .second, .val (.long q3), .second, .unset, .unset] [(.ref r0)])) rfl rfl (hb hby d5_24)
    have K12 : own_K p e below SE T12 (mkF m 27 #[.val (.ref r0), .val (.long q1), .second, .val (.long q2), .second, .val (.long q3), .second, .unset, .unset] [(.long va)]) := fun t k => K11 _ (st12 _ k)
    have K13 : own_K p e below SE T12 (mkF m 32 #[.val (.ref r0), .val (.long q1), .second, .val (.long q2), .second, .val (.long q3), .second, .val (.long va), .second] [(.long q3), (.ref r0)]) := by
      intro t k
      refine K12 _ ?_
      refine XS.lstore X12.here hx rfl (hb hby d5_27) rfl (l' := #[.val (.ref r0), .val (.long q1), .second, .val (.long q2), .second, .val (.long q3), .second, .val (.long va), .second]) rfl ?_
      show own_S p e below T12 (mkF m 29 #[.val (.ref r0), .val (.long q1), .second, .val (.long q2), .second, .val (.long q3), .second, .val (.long va), .second] []) _
      refine XS.aloadN X12.here hx rfl (hb hby d5_29) rfl rfl ?_
      show own_S p e below T12 (mkF m 30 #[.val (.ref r0), .val (.long q1), .second, .val (.long q2), .second, .val (.long q3), .second, .val (.long va), .second] [(.ref r0)]) _
      refine XS.lload X12.here hx rfl (hb hby d5_30) rfl ?_
      exact k
    obtain ⟨T14, h14, X14, e14, W14, st14⟩ := putF X12 hx hZ hown (host := "") (Or.inl (hw _ (List.mem_of_getElem? (i := 37) rfl))) Via.refl e12 M_lastAcknowledgedNanos E_r0 (Or.inl (hw _ (List.mem_of_getElem? (i := 38) rfl))) (hw _ (List.mem_of_getElem? (i := 1) rfl)) (ty := .long) (by decide) rfl rfl (g := (mkF m 32 #[.val (.ref r0), .val (.long q1), .second, .val (.long q2), .second, .val (.long q3), .second, .val (.long va), .second] [(.long q3), (.ref r0)])) rfl rfl (hb hby d5_32)
    have Fw14 := Fld.same W14 M_lastAcknowledgedNanos
    have N14 := Fr.snoc X14 N0 g_r0
    have Kp14 : Keep h0 h14 [r0, d, ea] := Keep.wr (Keep.refl h0 [r0, d, ea]) W14 (Or.inl (List.mem_of_getElem? (i := 0) rfl))
    have K14 : own_K p e below SE T14 (mkF m 35 #[.val (.ref r0), .val (.long q1), .second, .val (.long q2), .second, .val (.long q3), .second, .val (.long va), .second] []) := fun t k => K13 _ (st14 _ k)
    have K15 : own_K p e below SE T14 (mkF m 47 #[.val (.ref r0), .val (.long q1), .second, .val (.long q2), .second, .val (.long q3), .second, .val (.long va), .second] [(.double (FP.ddiv (FP.l2d (q3 - va)) (4696837146684686336 : UInt64))), (.long q2), (.ref r0)]) := by
      intro t k
      refine K14 _ ?_
      refine XS.aloadN X14.here hx rfl (hb hby d5_35) rfl rfl ?_
      show own_S p e below T14 (mkF m 36 #[.val (.ref r0), .val (.long q1), .second, .val (.long q2), .second, .val (.long q3), .second, .val (.long va), .second] [(.ref r0)]) _
      refine XS.lloadN X14.here hx rfl (hb hby d5_36) rfl ?_
      show own_S p e below T14 (mkF m 37 #[.val (.ref r0), .val (.long q1), .second, .val (.long q2), .second, .val (.long q3), .second, .val (.long va), .second] [(.long q2), (.ref r0)]) _
      refine XS.lload X14.here hx rfl (hb hby d5_37) rfl ?_
      show own_S p e below T14 (mkF m 39 #[.val (.ref r0), .val (.long q1), .second, .val (.long q2), .second, .val (.long q3), .second, .val (.long va), .second] [(.long q3), (.long q2), (.ref r0)]) _
      refine XS.lload X14.here hx rfl (hb hby d5_39) rfl ?_
      show own_S p e below T14 (mkF m 41 #[.val (.ref r0), .val (.long q1), .second, .val (.long q2), .second, .val (.long q3), .second, .val (.long va), .second] [(.long va), (.long q3), (.long q2), (.ref r0)]) _
      refine XS.lsub X14.here hx rfl (hb hby d5_41) rfl ?_
      show own_S p e below T14 (mkF m 42 #[.val (.ref r0), .val (.long q1), .second, .val (.long q2), .second, .val (.long q3), .second, .val (.long va), .second] [(.long (q3 - va)), (.long q2), (.ref r0)]) _
      refine XS.l2dS X14.here hx rfl (hb hby d5_42) rfl rfl ?_
      show own_S p e below T14 (mkF m 43 #[.val (.ref r0), .val (.long q1), .second, .val (.long q2), .second, .val (.long q3), .second, .val (.long va), .second] [(.double (FP.l2d (q3 - va))), (.long q2), (.ref r0)]) _
      refine X14.ldc2DoubleC hx hown (mvT hZ (hw _ (List.mem_of_getElem? (i := 46) rfl))) (g := (mkF m 43 #[.val (.ref r0), .val (.long q1), .second, .val (.long q2), .second, .val (.long q3), .second, .val (.long va), .second] [(.double (FP.l2d (q3 - va))), (.long q2), (.ref r0)])) rfl (hb hby d5_43) _ ?_
      show own_S p e below T14 (mkF m 46 #[.val (.ref r0), .val (.long q1), .second, .val (.long q2), .second, .val (.long q3), .second, .val (.long va), .second] [(.double (4696837146684686336 : UInt64)), (.double (FP.l2d (q3 - va))), (.long q2), (.ref r0)]) _
      refine XS.ddivS X14.here hx rfl (hb hby d5_46) rfl (ddiv_out (l2d_fin _).noNaN own_million.1 own_million.2) rfl ?_
      exact k
    obtain ⟨dval, hdval⟩ : ∃ z : UInt64, z = (FP.ddiv (FP.l2d (q3 - va)) (4696837146684686336 : UInt64)) := ⟨_, rfl⟩
    rw [← hdval] at K15
    have hDv : NoNaN64 dval := by rw [hdval]; exact ddiv_out (l2d_fin _).noNaN own_million.1 own_million.2
    have K16 : own_K p e below SE T14 (mkF m 49 #[.val (.ref r0), .val (.long q1), .second, .val (.long q2), .second, .val (.long q3), .second, .val (.long va), .second] [(.long q3), (.double dval), (.long q2), (.ref r0)]) := by
      intro t k
      refine K15 _ ?_
      refine XS.lload X14.here hx rfl (hb hby d5_47) rfl ?_
      exact k
    obtain ⟨cq17, q17, q17'⟩ := (E_r0.wr W14).cell
    obtain ⟨_, _, ⟨T17, L17, k17, n17⟩, -, X17, ⟨Lc17, hQ17, l17, y17, z17⟩, st17⟩ := X14.privateBack hx (y := (⟨"com/example/headroom/headroom/model/Member", "update", "(JDJ)V"⟩ : MethodName)) hown (mvT hZ (hw _ (List.mem_of_getElem? (i := 47) rfl))) (mvT hZ (hw _ (List.mem_of_getElem? (i := 48) rfl))) (own_ss (own_ni (mvT hZ (hw _ (List.mem_of_getElem? (i := 1) rfl)) (args := #[]))) (Cond.privateMethod_at (mvP hZ (hw _ (List.mem_of_getElem? (i := 49) rfl)) (args := #[]))) (mvT hZ (hw _ (List.mem_of_getElem? (i := 48) rfl))) (by decide)) (Cond.privateMethod_at (mvP hZ (hw _ (List.mem_of_getElem? (i := 49) rfl)) (args := #[]))) (mvT hZ (hw _ (List.mem_of_getElem? (i := 50) rfl))) (by decide) (backOf (W := 0) (rmup l Z a0 hw [] r0 q2 dval q3 vp vm vs vd vr vl d q3 ea kE h14 n0 (Nat.le_trans Z0 Kp14.1) hDv hm (E_r0.wr W14) (M_pending.other W14 (Or.inr (slot_ne (Or.inl (hw _ (List.mem_of_getElem? (i := 52) rfl))) (Or.inl (hw _ (List.mem_of_getElem? (i := 38) rfl))) (by decide) (t := .long) (t' := .long) (by decide) (by decide)))) (M_processingMs.other W14 (Or.inr (slot_ne (Or.inl (hw _ (List.mem_of_getElem? (i := 61) rfl))) (Or.inl (hw _ (List.mem_of_getElem? (i := 38) rfl))) (by decide) (t := .double) (t' := .long) (by decide) (by decide)))) (M_sentSinceReport.other W14 (Or.inr (slot_ne (Or.inl (hw _ (List.mem_of_getElem? (i := 54) rfl))) (Or.inl (hw _ (List.mem_of_getElem? (i := 38) rfl))) (by decide) (t := .long) (t' := .long) (by decide) (by decide)))) (M_delivered.other W14 (Or.inr (slot_ne (Or.inl (hw _ (List.mem_of_getElem? (i := 68) rfl))) (Or.inl (hw _ (List.mem_of_getElem? (i := 38) rfl))) (by decide) (t := .long) (t' := .long) (by decide) (by decide)))) (M_lastReportNanos.other W14 (Or.inr (slot_ne (Or.inl (hw _ (List.mem_of_getElem? (i := 34) rfl))) (Or.inl (hw _ (List.mem_of_getElem? (i := 38) rfl))) (by decide) (t := .long) (t' := .long) (by decide) (by decide)))) (M_lastSentNanos.other W14 (Or.inr (slot_ne (Or.inl (hw _ (List.mem_of_getElem? (i := 36) rfl))) (Or.inl (hw _ (List.mem_of_getElem? (i := 38) rfl))) (by decide) (t := .long) (t' := .long) (by decide) (by decide)))) (M_processingTimes.other W14 (Or.inr (slot_ne (Or.inr (hw _ (List.mem_of_getElem? (i := 28) rfl))) (Or.inl (hw _ (List.mem_of_getElem? (i := 38) rfl))) (by decide) (t := (.object "java/util/Deque")) (t' := .long) (by decide) (by decide)))) (M_reported.other W14 (Or.inr (slot_ne (Or.inl (hw _ (List.mem_of_getElem? (i := 45) rfl))) (Or.inl (hw _ (List.mem_of_getElem? (i := 38) rfl))) (by decide) (t := .boolean) (t' := .long) (by decide) (by decide)))) Fw14 (E_d.wr W14) (F_h.other W14 (Or.inl (Ne.symm n1))) (F_t.other W14 (Or.inl (Ne.symm n1))) (F_e.other W14 (Or.inl (Ne.symm n1))) (V_e.other W14 (Ne.symm n2)) Ov g_r0 g_d g_ea n1 n2 n3) hZ (hw _ (List.mem_of_getElem? (i := 50) rfl)) (hw _ (List.mem_of_getElem? (i := 2) rfl)) (by decide) (by decide)) (g := (mkF m 49 #[.val (.ref r0), .val (.long q1), .second, .val (.long q2), .second, .val (.long q3), .second, .val (.long va), .second] [(.long q3), (.double dval), (.long q2), (.ref r0)])) rfl (by rw [hml]; rfl) (Steps.refl _) (a := r0) (by rw [e14]; exact q17) q17' (argsL := [(.long q2), (.double dval), (.long q3)]) (rest := []) (lenOf pd_ak_0 rfl) rfl (by show 2 * 0 + _ ≤ _; exact Nat.le_of_eq rfl) (hb hby d5_49) (fun _ _ => ⟨rfl, e14, (by decide : 0 + 2 ≤ _), (by decide : 0 + 5 ≤ _)⟩)
    dsimp only [Pt.U, Pt.locs, Pt.cells, Pt.slots] at X17 l17 y17 z17 st17 hQ17
    rw [y17, z17] at X17
    obtain ⟨rfl, Nq17, Kq17, Ex17, vz, hvz, Fz17, M17_pending, M17_sentSinceReport, M17_delivered, M17_lastReportNanos, M17_lastSentNanos, M17_processingTimes, M17_reported, M17_lastAcknowledgedNanos⟩ := hQ17
    have N17 : Fr n0 L17 := by rw [l17]; exact Fr.app N14 Nq17
    have Kp17 : Keep h0 T17.heap [r0, d, ea] := Keep.trans Kp14 Kq17 (allS (Or.inl (List.mem_of_getElem? (i := 0) rfl)) (allS (Or.inl (List.mem_of_getElem? (i := 1) rfl)) (allS (Or.inl (List.mem_of_getElem? (i := 2) rfl)) all0)))
    have K17 : own_K p e below SE T17 (mkF m 52 #[.val (.ref r0), .val (.long q1), .second, .val (.long q2), .second, .val (.long q3), .second, .val (.long va), .second] []) := fun t k => K16 _ (st17.trans k)
    obtain ⟨fs, hr, hrun, hended, hW, hsame⟩ := X17.leave (v := none) (fun _ => rfl)
    refine ⟨_, _, K17 _ ?_, hrun, hended, _, _, rfl, ?_, ⟨_, rfl⟩, hW, hsame.mono (by decide) (by decide)⟩
    · exact X17.returnOut hx Bd.returns (hb hby d5_52) hr
    · show Qak Z r0 q1 q2 q3 vp vm vs vd vr vl d va ea kE h0 n0 _ T17.heap _
      exact ⟨rfl, N17, Kp17, Ex17, vz, hvz, Fz17, M17_pending, M17_sentSinceReport, M17_delivered, M17_lastReportNanos, M17_lastSentNanos, M17_processingTimes, M17_reported, M17_lastAcknowledgedNanos⟩
theorem pn_0 : plainName "com/example/headroom/headroom/model/MemberSentPinLaw" = true := by first | (simp [plainName, overriddenIn]; done) | decide +kernel
theorem pd_0_0 : parseMethodDescriptor "(Lcom/example/headroom/headroom/model/Subscription;JJ)V" = some ⟨[(.object "com/example/headroom/headroom/model/Subscription"), .long, .long], none⟩ := by decide +kernel
theorem pd_0_1 : parseMethodDescriptor "()D" = some ⟨[], some .double⟩ := by decide +kernel
theorem pd_0_2 : parseMethodDescriptor "(J)V" = some ⟨[.long], none⟩ := by decide +kernel
theorem pd_0_3 : parseMethodDescriptor "()J" = some ⟨[], some .long⟩ := by decide +kernel
theorem pd_0_4 : parseMethodDescriptor "(JJJ)V" = some ⟨[.long, .long, .long], none⟩ := by decide +kernel
theorem ef_0 (m : MethodId) (q0 : Int64) (q1 : Int64) (q2 : Int64) (q3 : Int64) (q4 : Int64) (p5 : Int32) : entryFrame m #[(.long q0), (.long q1), (.long q2), (.long q3), (.long q4), (.int p5)] maxLocals = mkF m 0 #[.val (.long q0), .second, .val (.long q1), .second, .val (.long q2), .second, .val (.long q3), .second, .val (.long q4), .second, .val (.int p5), .unset, .unset, .unset, .unset, .unset, .unset, .unset, .unset, .unset, .unset, .unset, .unset, .unset] [] := by first | (simp [entryFrame, mkF, argsToLocals, Value.category, maxLocals]; done) | rfl
def Q0 (Z : State) (q0 : Int64) (q1 : Int64) (q2 : Int64) (q3 : Int64) (q4 : Int64) (p5 : Int32) (h0 : Heap) (n0 : Nat) (v : Option Value) (h : Heap) (L : List Loc) : Prop := v = some (.int 1) ∧ Fr n0 L
set_option maxRecDepth 65536 in
set_option maxHeartbeats 40000000 in
theorem rm0 (l : Launch) (Z : State) (a0 : Array Value) (hw : ∀ d ∈ tables_1, d.before a0 Z = true) (ws : List Jvm.Cond) (q0 : Int64) (q1 : Int64) (q2 : Int64) (q3 : Int64) (q4 : Int64) (p5 : Int32) (h0 : Heap) (n0 : Nat) (Z0 : n0 ≤ h0.size) :
    MetFree l x (head1 (Jvm.Cond.code x code maxLocals ret :: ws) room_1) (fun a U => a = #[(.long q0), (.long q1), (.long q2), (.long q3), (.long q4), (.int p5)] ∧ Z.Warmed39 U.vm ∧ U.heap = h0) (fun _ _ _ _ _ => True) (fun _ U o U' => ∃ v L, o = .returned v ∧ Q0 Z q0 q1 q2 q3 q4 p5 h0 n0 v U'.heap L ∧ FrameEnd U o U' L room_1.cells room_1.slots) := by
  refine MetFree.of_bodySF (plainFor_of_name pn_0) hisR ?_
  intro p e s m args below meth c s₁ Bd hml0 hP hK
  obtain ⟨rfl, hZ, hh⟩ := hP
  have hx := Bd.exec
  have hby := Bd.bytes
  have hml : c.maxLocals = 24 := hml0
  have hown : s.vm.findClass "com/example/headroom/headroom/model/MemberSentPinLaw" = some m.cls := findClass_of_methodNamed Bd.named
  have hnm := (name_of_methodNamed Bd.named Bd.method).1
  have X0 : Stand p l e room_1 s m #[(.long q0), (.long q1), (.long q2), (.long q3), (.long q4), (.int p5)] below meth c s₁ [] 0 0 := Stand.of_body Bd
  have e0 : s₁.heap = h0 := by rw [← hh, Bd.state]; rfl
  have N0 := Fr.nil n0
  have K0 : ∀ t, Steps p.tables e below (s₁.setTop (mkF m 0 #[.val (.long q0), .second, .val (.long q1), .second, .val (.long q2), .second, .val (.long q3), .second, .val (.long q4), .second, .val (.int p5), .unset, .unset, .unset, .unset, .unset, .unset, .unset, .unset, .unset, .unset, .unset, .unset, .unset] [])) t → Steps p.tables e below (s₁.setTop (entryFrame m #[(.long q0), (.long q1), (.long q2), (.long q3), (.long q4), (.int p5)] maxLocals)) t := fun t k => castTop (ef_0 m q0 q1 q2 q3 q4 p5) k
  generalize s₁.setTop (entryFrame m #[(.long q0), (.long q1), (.long q2), (.long q3), (.long q4), (.int p5)] maxLocals) = SE at K0 ⊢
  have K2 : own_K p e below SE s₁ (mkF m 4 #[.val (.long q0), .second, .val (.long q1), .second, .val (.long q2), .second, .val (.long q3), .second, .val (.long q4), .second, .val (.int p5), .unset, .unset, .unset, .unset, .unset, .unset, .unset, .unset, .unset, .unset, .unset, .unset, .unset] [(.int (p5 &&& (1 : Int32)))]) := by
    intro t k
    refine K0 _ ?_
    refine XS.iload X0.here hx rfl (hb hby at_0) rfl ?_
    show own_S p e below s₁ (mkF m 2 #[.val (.long q0), .second, .val (.long q1), .second, .val (.long q2), .second, .val (.long q3), .second, .val (.long q4), .second, .val (.int p5), .unset, .unset, .unset, .unset, .unset, .unset, .unset, .unset, .unset, .unset, .unset, .unset, .unset] [(.int p5)]) _
    refine XS.iconst X0.here hx rfl (hb hby at_2) ?_
    show own_S p e below s₁ (mkF m 3 #[.val (.long q0), .second, .val (.long q1), .second, .val (.long q2), .second, .val (.long q3), .second, .val (.long q4), .second, .val (.int p5), .unset, .unset, .unset, .unset, .unset, .unset, .unset, .unset, .unset, .unset, .unset, .unset, .unset] [(.int (1 : Int32)), (.int p5)]) _
    refine XS.iand X0.here hx rfl (hb hby at_3) rfl ?_
    exact k
  by_cases c4_1 : (p5 &&& (1 : Int32)) = 0
  · skip
    have K4 : own_K p e below SE s₁ (mkF m 18 #[.val (.long q0), .second, .val (.long q1), .second, .val (.long q2), .second, .val (.long q3), .second, .val (.long q4), .second, .val (.int p5), .val (.int (0 : Int32)), .unset, .unset, .unset, .unset, .unset, .unset, .unset, .unset, .unset, .unset, .unset, .unset] [(.int (p5 &&& (2 : Int32)))]) := by
      intro t k
      refine K2 _ ?_
      refine XS.ifYes X0.here hx rfl (pc0 := 4) (pc' := 11) rfl (hb hby at_4) rfl (XT.i0_eq_t c4_1) (by decide) (by decide) ?_
      show own_S p e below s₁ (mkF m 11 #[.val (.long q0), .second, .val (.long q1), .second, .val (.long q2), .second, .val (.long q3), .second, .val (.long q4), .second, .val (.int p5), .unset, .unset, .unset, .unset, .unset, .unset, .unset, .unset, .unset, .unset, .unset, .unset, .unset] []) _
      refine XS.iconst X0.here hx rfl (hb hby at_11) ?_
      show own_S p e below s₁ (mkF m 12 #[.val (.long q0), .second, .val (.long q1), .second, .val (.long q2), .second, .val (.long q3), .second, .val (.long q4), .second, .val (.int p5), .unset, .unset, .unset, .unset, .unset, .unset, .unset, .unset, .unset, .unset, .unset, .unset, .unset] [(.int (0 : Int32))]) _
      refine XS.istore X0.here hx rfl (hb hby at_12) rfl (l' := #[.val (.long q0), .second, .val (.long q1), .second, .val (.long q2), .second, .val (.long q3), .second, .val (.long q4), .second, .val (.int p5), .val (.int (0 : Int32)), .unset, .unset, .unset, .unset, .unset, .unset, .unset, .unset, .unset, .unset, .unset, .unset]) rfl ?_
      show own_S p e below s₁ (mkF m 14 #[.val (.long q0), .second, .val (.long q1), .second, .val (.long q2), .second, .val (.long q3), .second, .val (.long q4), .second, .val (.int p5), .val (.int (0 : Int32)), .unset, .unset, .unset, .unset, .unset, .unset, .unset, .unset, .unset, .unset, .unset, .unset] []) _
      refine XS.iload X0.here hx rfl (hb hby at_14) rfl ?_
      show own_S p e below s₁ (mkF m 16 #[.val (.long q0), .second, .val (.long q1), .second, .val (.long q2), .second, .val (.long q3), .second, .val (.long q4), .second, .val (.int p5), .val (.int (0 : Int32)), .unset, .unset, .unset, .unset, .unset, .unset, .unset, .unset, .unset, .unset, .unset, .unset] [(.int p5)]) _
      refine XS.iconst X0.here hx rfl (hb hby at_16) ?_
      show own_S p e below s₁ (mkF m 17 #[.val (.long q0), .second, .val (.long q1), .second, .val (.long q2), .second, .val (.long q3), .second, .val (.long q4), .second, .val (.int p5), .val (.int (0 : Int32)), .unset, .unset, .unset, .unset, .unset, .unset, .unset, .unset, .unset, .unset, .unset, .unset] [(.int (2 : Int32)), (.int p5)]) _
      refine XS.iand X0.here hx rfl (hb hby at_17) rfl ?_
      exact k
    by_cases c18_3 : (p5 &&& (2 : Int32)) = 0
    · skip
      have K5 : own_K p e below SE s₁ (mkF m 28 #[.val (.long q0), .second, .val (.long q1), .second, .val (.long q2), .second, .val (.long q3), .second, .val (.long q4), .second, .val (.int p5), .val (.int (0 : Int32)), .val (.int (0 : Int32)), .unset, .unset, .unset, .unset, .unset, .unset, .unset, .unset, .unset, .unset, .unset] []) := by
        intro t k
        refine K4 _ ?_
        refine XS.ifYes X0.here hx rfl (pc0 := 18) (pc' := 25) rfl (hb hby at_18) rfl (XT.i0_eq_t c18_3) (by decide) (by decide) ?_
        show own_S p e below s₁ (mkF m 25 #[.val (.long q0), .second, .val (.long q1), .second, .val (.long q2), .second, .val (.long q3), .second, .val (.long q4), .second, .val (.int p5), .val (.int (0 : Int32)), .unset, .unset, .unset, .unset, .unset, .unset, .unset, .unset, .unset, .unset, .unset, .unset] []) _
        refine XS.iconst X0.here hx rfl (hb hby at_25) ?_
        show own_S p e below s₁ (mkF m 26 #[.val (.long q0), .second, .val (.long q1), .second, .val (.long q2), .second, .val (.long q3), .second, .val (.long q4), .second, .val (.int p5), .val (.int (0 : Int32)), .unset, .unset, .unset, .unset, .unset, .unset, .unset, .unset, .unset, .unset, .unset, .unset] [(.int (0 : Int32))]) _
        refine XS.istore X0.here hx rfl (hb hby at_26) rfl (l' := #[.val (.long q0), .second, .val (.long q1), .second, .val (.long q2), .second, .val (.long q3), .second, .val (.long q4), .second, .val (.int p5), .val (.int (0 : Int32)), .val (.int (0 : Int32)), .unset, .unset, .unset, .unset, .unset, .unset, .unset, .unset, .unset, .unset, .unset]) rfl ?_
        exact k
      obtain ⟨T6, h6, X6, e6, E6, A6, D6, -, st6⟩ := newO X0 hx hZ hown (hw _ (List.mem_of_getElem? (i := 0) rfl)) (hw _ (List.mem_of_getElem? (i := 1) rfl)) (hw _ (List.mem_of_getElem? (i := 2) rfl)) e0 (g := (mkF m 28 #[.val (.long q0), .second, .val (.long q1), .second, .val (.long q2), .second, .val (.long q3), .second, .val (.long q4), .second, .val (.int p5), .val (.int (0 : Int32)), .val (.int (0 : Int32)), .unset, .unset, .unset, .unset, .unset, .unset, .unset, .unset, .unset, .unset, .unset] [])) rfl (hb hby at_28) (by decide) (by decide)
      obtain ⟨b6, g6⟩ : ∃ z, z = h0.size := ⟨_, rfl⟩
      rw [← g6] at A6 D6 st6
      have g_b6 : n0 ≤ b6 := Nat.le_trans Z0 (Nat.le_of_eq g6.symm)
      have sz_b6 : h0.size ≤ b6 := Nat.le_trans (Nat.le_refl _) (Nat.le_of_eq g6.symm)
      have Kp6 : Keep h0 h6 [] := Keep.ext (Keep.refl h0 []) E6
      have F_processingTimes_b6 : Fld Z h6 b6 "com/example/headroom/headroom/model/Member" "processingTimes" "Ljava/util/Deque;" .null := D6 (Or.inr (hw _ (List.mem_of_getElem? (i := 28) rfl))) (ty := (.object "java/util/Deque")) (by decide)
      have F_subscription_b6 : Fld Z h6 b6 "com/example/headroom/headroom/model/Member" "subscription" "Lcom/example/headroom/headroom/model/Subscription;" .null := D6 (Or.inl (hw _ (List.mem_of_getElem? (i := 30) rfl))) (ty := (.object "com/example/headroom/headroom/model/Subscription")) (by decide)
      have F_joinOrder_b6 : Fld Z h6 b6 "com/example/headroom/headroom/model/Member" "joinOrder" "J" (.long (0 : Int64)) := D6 (Or.inr (hw _ (List.mem_of_getElem? (i := 32) rfl))) (ty := .long) (by decide)
      have F_lastReportNanos_b6 : Fld Z h6 b6 "com/example/headroom/headroom/model/Member" "lastReportNanos" "J" (.long (0 : Int64)) := D6 (Or.inl (hw _ (List.mem_of_getElem? (i := 34) rfl))) (ty := .long) (by decide)
      have F_lastSentNanos_b6 : Fld Z h6 b6 "com/example/headroom/headroom/model/Member" "lastSentNanos" "J" (.long (0 : Int64)) := D6 (Or.inl (hw _ (List.mem_of_getElem? (i := 36) rfl))) (ty := .long) (by decide)
      have F_lastAcknowledgedNanos_b6 : Fld Z h6 b6 "com/example/headroom/headroom/model/Member" "lastAcknowledgedNanos" "J" (.long (0 : Int64)) := D6 (Or.inl (hw _ (List.mem_of_getElem? (i := 38) rfl))) (ty := .long) (by decide)
      have F_reported_b6 : Fld Z h6 b6 "com/example/headroom/headroom/model/Member" "reported" "Z" (.int (0 : Int32)) := D6 (Or.inl (hw _ (List.mem_of_getElem? (i := 45) rfl))) (ty := .boolean) (by decide)
      have F_pending_b6 : Fld Z h6 b6 "com/example/headroom/headroom/model/Member" "pending" "J" (.long (0 : Int64)) := D6 (Or.inl (hw _ (List.mem_of_getElem? (i := 52) rfl))) (ty := .long) (by decide)
      have F_sentSinceReport_b6 : Fld Z h6 b6 "com/example/headroom/headroom/model/Member" "sentSinceReport" "J" (.long (0 : Int64)) := D6 (Or.inl (hw _ (List.mem_of_getElem? (i := 54) rfl))) (ty := .long) (by decide)
      have F_processingMs_b6 : Fld Z h6 b6 "com/example/headroom/headroom/model/Member" "processingMs" "D" (.double (0 : UInt64)) := D6 (Or.inl (hw _ (List.mem_of_getElem? (i := 61) rfl))) (ty := .double) (by decide)
      have F_delivered_b6 : Fld Z h6 b6 "com/example/headroom/headroom/model/Member" "delivered" "J" (.long (0 : Int64)) := D6 (Or.inl (hw _ (List.mem_of_getElem? (i := 68) rfl))) (ty := .long) (by decide)
      have K6 : own_K p e below SE T6 (mkF m 31 #[.val (.long q0), .second, .val (.long q1), .second, .val (.long q2), .second, .val (.long q3), .second, .val (.long q4), .second, .val (.int p5), .val (.int (0 : Int32)), .val (.int (0 : Int32)), .unset, .unset, .unset, .unset, .unset, .unset, .unset, .unset, .unset, .unset, .unset] [(.ref b6)]) := fun t k => K5 _ (st6 _ k)
      have K7 : own_K p e below SE T6 (mkF m 35 #[.val (.long q0), .second, .val (.long q1), .second, .val (.long q2), .second, .val (.long q3), .second, .val (.long q4), .second, .val (.int p5), .val (.int (0 : Int32)), .val (.int (0 : Int32)), .unset, .unset, .unset, .unset, .unset, .unset, .unset, .unset, .unset, .unset, .unset] [(.long q1), (.long q0), .null, (.ref b6), (.ref b6)]) := by
        intro t k
        refine K6 _ ?_
        refine XS.dup X6.here hx rfl (hb hby at_31) rfl rfl ?_
        show own_S p e below T6 (mkF m 32 #[.val (.long q0), .second, .val (.long q1), .second, .val (.long q2), .second, .val (.long q3), .second, .val (.long q4), .second, .val (.int p5), .val (.int (0 : Int32)), .val (.int (0 : Int32)), .unset, .unset, .unset, .unset, .unset, .unset, .unset, .unset, .unset, .unset, .unset] [(.ref b6), (.ref b6)]) _
        refine XS.aconstNull X6.here hx rfl (hb hby at_32) ?_
        show own_S p e below T6 (mkF m 33 #[.val (.long q0), .second, .val (.long q1), .second, .val (.long q2), .second, .val (.long q3), .second, .val (.long q4), .second, .val (.int p5), .val (.int (0 : Int32)), .val (.int (0 : Int32)), .unset, .unset, .unset, .unset, .unset, .unset, .unset, .unset, .unset, .unset, .unset] [.null, (.ref b6), (.ref b6)]) _
        refine XS.lloadN X6.here hx rfl (hb hby at_33) rfl ?_
        show own_S p e below T6 (mkF m 34 #[.val (.long q0), .second, .val (.long q1), .second, .val (.long q2), .second, .val (.long q3), .second, .val (.long q4), .second, .val (.int p5), .val (.int (0 : Int32)), .val (.int (0 : Int32)), .unset, .unset, .unset, .unset, .unset, .unset, .unset, .unset, .unset, .unset, .unset] [(.long q0), .null, (.ref b6), (.ref b6)]) _
        refine XS.lloadN X6.here hx rfl (hb hby at_34) rfl ?_
        exact k
      obtain ⟨_, _, ⟨T8, L8, k8, n8⟩, -, X8, ⟨Lc8, hQ8, l8, y8, z8⟩, st8⟩ := X6.specialBack hx (y := (⟨"com/example/headroom/headroom/model/Member", "<init>", "(Lcom/example/headroom/headroom/model/Subscription;JJ)V"⟩ : MethodName)) rfl hown (mvT hZ (hw _ (List.mem_of_getElem? (i := 3) rfl))) (mvT hZ (hw _ (List.mem_of_getElem? (i := 4) rfl))) (mvT hZ (hw _ (List.mem_of_getElem? (i := 5) rfl))) (by decide) (backOf (W := 1) (rmmi l Z a0 hw [] b6 q0 q1 h6 n0 (Nat.le_trans Z0 Kp6.1) A6 F_processingTimes_b6 F_subscription_b6 F_joinOrder_b6 F_pending_b6 F_processingMs_b6 F_sentSinceReport_b6 F_delivered_b6 F_lastReportNanos_b6 F_lastSentNanos_b6 F_reported_b6 F_lastAcknowledgedNanos_b6 g_b6) hZ (hw _ (List.mem_of_getElem? (i := 5) rfl)) (hw _ (List.mem_of_getElem? (i := 2) rfl)) (by decide) (by decide)) (g := (mkF m 35 #[.val (.long q0), .second, .val (.long q1), .second, .val (.long q2), .second, .val (.long q3), .second, .val (.long q4), .second, .val (.int p5), .val (.int (0 : Int32)), .val (.int (0 : Int32)), .unset, .unset, .unset, .unset, .unset, .unset, .unset, .unset, .unset, .unset, .unset] [(.long q1), (.long q0), .null, (.ref b6), (.ref b6)])) rfl (by rw [hml]; rfl) (Steps.refl _) (a := b6) (argsL := [.null, (.long q0), (.long q1)]) (rest := [(.ref b6)]) (lenOf pd_0_0 rfl) rfl (by show 2 * 0 + _ ≤ _; exact Nat.le_of_eq rfl) (hb hby at_35) (fun _ _ => ⟨rfl, e6, (by decide : 1 + 2 ≤ _), (by decide : 11 + 9 ≤ _)⟩)
      dsimp only [Pt.U, Pt.locs, Pt.cells, Pt.slots] at X8 l8 y8 z8 st8 hQ8
      rw [y8, z8] at X8
      obtain ⟨rfl, Nq8, Kq8, Ex8, d, ea, kE, hs_d, hs_ea, own_ne_d_ea, Ov, M8_processingTimes, M8_pending, M8_processingMs, M8_sentSinceReport, M8_delivered, M8_lastReportNanos, M8_lastSentNanos, M8_reported, M8_lastAcknowledgedNanos, Ed8, Fh8, Ft8, Fe8, Va8⟩ := hQ8
      have N8 : Fr n0 L8 := by rw [l8]; exact Fr.app N0 Nq8
      have Kp8 : Keep h0 T8.heap [] := Keep.trans Kp6 Kq8 (allS (Or.inr sz_b6) all0)
      have K8 : own_K p e below SE T8 (mkF m 38 #[.val (.long q0), .second, .val (.long q1), .second, .val (.long q2), .second, .val (.long q3), .second, .val (.long q4), .second, .val (.int p5), .val (.int (0 : Int32)), .val (.int (0 : Int32)), .unset, .unset, .unset, .unset, .unset, .unset, .unset, .unset, .unset, .unset, .unset] [(.ref b6)]) := fun t k => K7 _ (st8.trans k)
      have own_ne_b6_d : b6 ≠ d := Nat.ne_of_lt (Nat.lt_of_lt_of_le A6.lt hs_d)
      have g_d : n0 ≤ d := Nat.le_trans (Nat.le_trans Z0 Kp6.1) hs_d
      have sz_d : h0.size ≤ d := Nat.le_trans Kp6.1 hs_d
      have own_ne_b6_ea : b6 ≠ ea := Nat.ne_of_lt (Nat.lt_of_lt_of_le A6.lt hs_ea)
      have g_ea : n0 ≤ ea := Nat.le_trans (Nat.le_trans Z0 Kp6.1) hs_ea
      have sz_ea : h0.size ≤ ea := Nat.le_trans Kp6.1 hs_ea
      have hvm : NoNaN64 (0 : UInt64) := own_zz
      have K9 : own_K p e below SE T8 (mkF m 120 #[.val (.long q0), .second, .val (.long q1), .second, .val (.long q2), .second, .val (.long q3), .second, .val (.long q4), .second, .val (.int p5), .val (.int (0 : Int32)), .val (.int (0 : Int32)), .val (.ref b6), .val (.long (0 : Int64)), .second, .val (.long (0 : Int64)), .second, .val (.long (0 : Int64)), .second, .val (.long q1), .second, .unset, .unset] [(.ref b6)]) := by
        intro t k
        refine K8 _ ?_
        refine XS.astore X8.here hx rfl (hb hby at_38) rfl rfl (l' := #[.val (.long q0), .second, .val (.long q1), .second, .val (.long q2), .second, .val (.long q3), .second, .val (.long q4), .second, .val (.int p5), .val (.int (0 : Int32)), .val (.int (0 : Int32)), .val (.ref b6), .unset, .unset, .unset, .unset, .unset, .unset, .unset, .unset, .unset, .unset]) rfl ?_
        show own_S p e below T8 (mkF m 40 #[.val (.long q0), .second, .val (.long q1), .second, .val (.long q2), .second, .val (.long q3), .second, .val (.long q4), .second, .val (.int p5), .val (.int (0 : Int32)), .val (.int (0 : Int32)), .val (.ref b6), .unset, .unset, .unset, .unset, .unset, .unset, .unset, .unset, .unset, .unset] []) _
        refine XS.iload X8.here hx rfl (hb hby at_40) rfl ?_
        show own_S p e below T8 (mkF m 42 #[.val (.long q0), .second, .val (.long q1), .second, .val (.long q2), .second, .val (.long q3), .second, .val (.long q4), .second, .val (.int p5), .val (.int (0 : Int32)), .val (.int (0 : Int32)), .val (.ref b6), .unset, .unset, .unset, .unset, .unset, .unset, .unset, .unset, .unset, .unset] [(.int (0 : Int32))]) _
        refine XS.ifYes X8.here hx rfl (pc0 := 42) (pc' := 52) rfl (hb hby at_42) rfl (XT.i0_eq_t (by decide : (0 : Int32) = 0)) (by decide) (by decide) ?_
        show own_S p e below T8 (mkF m 52 #[.val (.long q0), .second, .val (.long q1), .second, .val (.long q2), .second, .val (.long q3), .second, .val (.long q4), .second, .val (.int p5), .val (.int (0 : Int32)), .val (.int (0 : Int32)), .val (.ref b6), .unset, .unset, .unset, .unset, .unset, .unset, .unset, .unset, .unset, .unset] []) _
        refine XS.iload X8.here hx rfl (hb hby at_52) rfl ?_
        show own_S p e below T8 (mkF m 54 #[.val (.long q0), .second, .val (.long q1), .second, .val (.long q2), .second, .val (.long q3), .second, .val (.long q4), .second, .val (.int p5), .val (.int (0 : Int32)), .val (.int (0 : Int32)), .val (.ref b6), .unset, .unset, .unset, .unset, .unset, .unset, .unset, .unset, .unset, .unset] [(.int (0 : Int32))]) _
        refine XS.ifYes X8.here hx rfl (pc0 := 54) (pc' := 67) rfl (hb hby at_54) rfl (XT.i0_eq_t (by decide : (0 : Int32) = 0)) (by decide) (by decide) ?_
        show own_S p e below T8 (mkF m 67 #[.val (.long q0), .second, .val (.long q1), .second, .val (.long q2), .second, .val (.long q3), .second, .val (.long q4), .second, .val (.int p5), .val (.int (0 : Int32)), .val (.int (0 : Int32)), .val (.ref b6), .unset, .unset, .unset, .unset, .unset, .unset, .unset, .unset, .unset, .unset] []) _
        refine XS.iload X8.here hx rfl (hb hby at_67) rfl ?_
        show own_S p e below T8 (mkF m 69 #[.val (.long q0), .second, .val (.long q1), .second, .val (.long q2), .second, .val (.long q3), .second, .val (.long q4), .second, .val (.int p5), .val (.int (0 : Int32)), .val (.int (0 : Int32)), .val (.ref b6), .unset, .unset, .unset, .unset, .unset, .unset, .unset, .unset, .unset, .unset] [(.int (0 : Int32))]) _
        refine XS.ifYes X8.here hx rfl (pc0 := 69) (pc' := 76) rfl (hb hby at_69) rfl (XT.i0_eq_t (by decide : (0 : Int32) = 0)) (by decide) (by decide) ?_
        show own_S p e below T8 (mkF m 76 #[.val (.long q0), .second, .val (.long q1), .second, .val (.long q2), .second, .val (.long q3), .second, .val (.long q4), .second, .val (.int p5), .val (.int (0 : Int32)), .val (.int (0 : Int32)), .val (.ref b6), .unset, .unset, .unset, .unset, .unset, .unset, .unset, .unset, .unset, .unset] []) _
        refine XS.lconst X8.here hx rfl (hb hby at_76) ?_
        show own_S p e below T8 (mkF m 77 #[.val (.long q0), .second, .val (.long q1), .second, .val (.long q2), .second, .val (.long q3), .second, .val (.long q4), .second, .val (.int p5), .val (.int (0 : Int32)), .val (.int (0 : Int32)), .val (.ref b6), .unset, .unset, .unset, .unset, .unset, .unset, .unset, .unset, .unset, .unset] [(.long (0 : Int64))]) _
        refine XS.lstore X8.here hx rfl (hb hby at_77) rfl (l' := #[.val (.long q0), .second, .val (.long q1), .second, .val (.long q2), .second, .val (.long q3), .second, .val (.long q4), .second, .val (.int p5), .val (.int (0 : Int32)), .val (.int (0 : Int32)), .val (.ref b6), .val (.long (0 : Int64)), .second, .unset, .unset, .unset, .unset, .unset, .unset, .unset, .unset]) rfl ?_
        show own_S p e below T8 (mkF m 79 #[.val (.long q0), .second, .val (.long q1), .second, .val (.long q2), .second, .val (.long q3), .second, .val (.long q4), .second, .val (.int p5), .val (.int (0 : Int32)), .val (.int (0 : Int32)), .val (.ref b6), .val (.long (0 : Int64)), .second, .unset, .unset, .unset, .unset, .unset, .unset, .unset, .unset] []) _
        refine XS.iload X8.here hx rfl (hb hby at_79) rfl ?_
        show own_S p e below T8 (mkF m 81 #[.val (.long q0), .second, .val (.long q1), .second, .val (.long q2), .second, .val (.long q3), .second, .val (.long q4), .second, .val (.int p5), .val (.int (0 : Int32)), .val (.int (0 : Int32)), .val (.ref b6), .val (.long (0 : Int64)), .second, .unset, .unset, .unset, .unset, .unset, .unset, .unset, .unset] [(.int (0 : Int32))]) _
        refine XS.ifYes X8.here hx rfl (pc0 := 81) (pc' := 88) rfl (hb hby at_81) rfl (XT.i0_eq_t (by decide : (0 : Int32) = 0)) (by decide) (by decide) ?_
        show own_S p e below T8 (mkF m 88 #[.val (.long q0), .second, .val (.long q1), .second, .val (.long q2), .second, .val (.long q3), .second, .val (.long q4), .second, .val (.int p5), .val (.int (0 : Int32)), .val (.int (0 : Int32)), .val (.ref b6), .val (.long (0 : Int64)), .second, .unset, .unset, .unset, .unset, .unset, .unset, .unset, .unset] []) _
        refine XS.lload X8.here hx rfl (hb hby at_88) rfl ?_
        show own_S p e below T8 (mkF m 90 #[.val (.long q0), .second, .val (.long q1), .second, .val (.long q2), .second, .val (.long q3), .second, .val (.long q4), .second, .val (.int p5), .val (.int (0 : Int32)), .val (.int (0 : Int32)), .val (.ref b6), .val (.long (0 : Int64)), .second, .unset, .unset, .unset, .unset, .unset, .unset, .unset, .unset] [(.long (0 : Int64))]) _
        refine XS.lstore X8.here hx rfl (hb hby at_90) rfl (l' := #[.val (.long q0), .second, .val (.long q1), .second, .val (.long q2), .second, .val (.long q3), .second, .val (.long q4), .second, .val (.int p5), .val (.int (0 : Int32)), .val (.int (0 : Int32)), .val (.ref b6), .val (.long (0 : Int64)), .second, .val (.long (0 : Int64)), .second, .unset, .unset, .unset, .unset, .unset, .unset]) rfl ?_
        show own_S p e below T8 (mkF m 92 #[.val (.long q0), .second, .val (.long q1), .second, .val (.long q2), .second, .val (.long q3), .second, .val (.long q4), .second, .val (.int p5), .val (.int (0 : Int32)), .val (.int (0 : Int32)), .val (.ref b6), .val (.long (0 : Int64)), .second, .val (.long (0 : Int64)), .second, .unset, .unset, .unset, .unset, .unset, .unset] []) _
        refine XS.iload X8.here hx rfl (hb hby at_92) rfl ?_
        show own_S p e below T8 (mkF m 94 #[.val (.long q0), .second, .val (.long q1), .second, .val (.long q2), .second, .val (.long q3), .second, .val (.long q4), .second, .val (.int p5), .val (.int (0 : Int32)), .val (.int (0 : Int32)), .val (.ref b6), .val (.long (0 : Int64)), .second, .val (.long (0 : Int64)), .second, .unset, .unset, .unset, .unset, .unset, .unset] [(.int (0 : Int32))]) _
        refine XS.ifYes X8.here hx rfl (pc0 := 94) (pc' := 102) rfl (hb hby at_94) rfl (XT.i0_eq_t (by decide : (0 : Int32) = 0)) (by decide) (by decide) ?_
        show own_S p e below T8 (mkF m 102 #[.val (.long q0), .second, .val (.long q1), .second, .val (.long q2), .second, .val (.long q3), .second, .val (.long q4), .second, .val (.int p5), .val (.int (0 : Int32)), .val (.int (0 : Int32)), .val (.ref b6), .val (.long (0 : Int64)), .second, .val (.long (0 : Int64)), .second, .unset, .unset, .unset, .unset, .unset, .unset] []) _
        refine XS.lconst X8.here hx rfl (hb hby at_102) ?_
        show own_S p e below T8 (mkF m 103 #[.val (.long q0), .second, .val (.long q1), .second, .val (.long q2), .second, .val (.long q3), .second, .val (.long q4), .second, .val (.int p5), .val (.int (0 : Int32)), .val (.int (0 : Int32)), .val (.ref b6), .val (.long (0 : Int64)), .second, .val (.long (0 : Int64)), .second, .unset, .unset, .unset, .unset, .unset, .unset] [(.long (0 : Int64))]) _
        refine XS.lstore X8.here hx rfl (hb hby at_103) rfl (l' := #[.val (.long q0), .second, .val (.long q1), .second, .val (.long q2), .second, .val (.long q3), .second, .val (.long q4), .second, .val (.int p5), .val (.int (0 : Int32)), .val (.int (0 : Int32)), .val (.ref b6), .val (.long (0 : Int64)), .second, .val (.long (0 : Int64)), .second, .val (.long (0 : Int64)), .second, .unset, .unset, .unset, .unset]) rfl ?_
        show own_S p e below T8 (mkF m 105 #[.val (.long q0), .second, .val (.long q1), .second, .val (.long q2), .second, .val (.long q3), .second, .val (.long q4), .second, .val (.int p5), .val (.int (0 : Int32)), .val (.int (0 : Int32)), .val (.ref b6), .val (.long (0 : Int64)), .second, .val (.long (0 : Int64)), .second, .val (.long (0 : Int64)), .second, .unset, .unset, .unset, .unset] []) _
        refine XS.iload X8.here hx rfl (hb hby at_105) rfl ?_
        show own_S p e below T8 (mkF m 107 #[.val (.long q0), .second, .val (.long q1), .second, .val (.long q2), .second, .val (.long q3), .second, .val (.long q4), .second, .val (.int p5), .val (.int (0 : Int32)), .val (.int (0 : Int32)), .val (.ref b6), .val (.long (0 : Int64)), .second, .val (.long (0 : Int64)), .second, .val (.long (0 : Int64)), .second, .unset, .unset, .unset, .unset] [(.int (0 : Int32))]) _
        refine XS.ifYes X8.here hx rfl (pc0 := 107) (pc' := 115) rfl (hb hby at_107) rfl (XT.i0_eq_t (by decide : (0 : Int32) = 0)) (by decide) (by decide) ?_
        show own_S p e below T8 (mkF m 115 #[.val (.long q0), .second, .val (.long q1), .second, .val (.long q2), .second, .val (.long q3), .second, .val (.long q4), .second, .val (.int p5), .val (.int (0 : Int32)), .val (.int (0 : Int32)), .val (.ref b6), .val (.long (0 : Int64)), .second, .val (.long (0 : Int64)), .second, .val (.long (0 : Int64)), .second, .unset, .unset, .unset, .unset] []) _
        refine XS.lloadN X8.here hx rfl (hb hby at_115) rfl ?_
        show own_S p e below T8 (mkF m 116 #[.val (.long q0), .second, .val (.long q1), .second, .val (.long q2), .second, .val (.long q3), .second, .val (.long q4), .second, .val (.int p5), .val (.int (0 : Int32)), .val (.int (0 : Int32)), .val (.ref b6), .val (.long (0 : Int64)), .second, .val (.long (0 : Int64)), .second, .val (.long (0 : Int64)), .second, .unset, .unset, .unset, .unset] [(.long q1)]) _
        refine XS.lstore X8.here hx rfl (hb hby at_116) rfl (l' := #[.val (.long q0), .second, .val (.long q1), .second, .val (.long q2), .second, .val (.long q3), .second, .val (.long q4), .second, .val (.int p5), .val (.int (0 : Int32)), .val (.int (0 : Int32)), .val (.ref b6), .val (.long (0 : Int64)), .second, .val (.long (0 : Int64)), .second, .val (.long (0 : Int64)), .second, .val (.long q1), .second, .unset, .unset]) rfl ?_
        show own_S p e below T8 (mkF m 118 #[.val (.long q0), .second, .val (.long q1), .second, .val (.long q2), .second, .val (.long q3), .second, .val (.long q4), .second, .val (.int p5), .val (.int (0 : Int32)), .val (.int (0 : Int32)), .val (.ref b6), .val (.long (0 : Int64)), .second, .val (.long (0 : Int64)), .second, .val (.long (0 : Int64)), .second, .val (.long q1), .second, .unset, .unset] []) _
        refine XS.aload X8.here hx rfl (hb hby at_118) rfl rfl ?_
        exact k
      obtain ⟨cq10, kq10, q10a, q10b, q10c⟩ := isOf hZ rfl Ex8
      obtain ⟨_, _, ⟨T10, L10, k10, n10⟩, -, X10, ⟨Lc10, hQ10, l10, y10, z10⟩, st10⟩ := X8.virtualBack hx (y := (⟨"com/example/headroom/headroom/model/Member", "processingMs", "()D"⟩ : MethodName)) (z := (⟨"com/example/headroom/headroom/model/Member", "processingMs", "()D"⟩ : MethodName)) hown (mvT hZ (hw _ (List.mem_of_getElem? (i := 55) rfl))) (mvT hZ (hw _ (List.mem_of_getElem? (i := 56) rfl))) (notFace_of_selects (args := #[]) (mvT hZ (hw _ (List.mem_of_getElem? (i := 58) rfl)))) (mvT hZ (hw _ (List.mem_of_getElem? (i := 58) rfl))) (mvT hZ (hw _ (List.mem_of_getElem? (i := 57) rfl))) (by decide) (backOf (W := 0) (rmgprocessingMs l Z a0 hw [] b6 (0 : UInt64) T8.heap n0 (Nat.le_trans Z0 Kp8.1) M8_processingMs) hZ (hw _ (List.mem_of_getElem? (i := 59) rfl)) (hw _ (List.mem_of_getElem? (i := 2) rfl)) (by decide) (by decide)) q10a q10c (g := (mkF m 120 #[.val (.long q0), .second, .val (.long q1), .second, .val (.long q2), .second, .val (.long q3), .second, .val (.long q4), .second, .val (.int p5), .val (.int (0 : Int32)), .val (.int (0 : Int32)), .val (.ref b6), .val (.long (0 : Int64)), .second, .val (.long (0 : Int64)), .second, .val (.long (0 : Int64)), .second, .val (.long q1), .second, .unset, .unset] [(.ref b6)])) rfl (by rw [hml]; rfl) (Steps.refl _) (argsL := []) (rest := []) (lenOf pd_0_1 rfl) rfl (by show 2 * 0 + _ ≤ _; exact Nat.le_of_eq rfl) (hb hby at_120) (fun _ _ => ⟨rfl, rfl, (by decide : 3 + 0 ≤ _), (by decide : 20 + 0 ≤ _)⟩)
      dsimp only [Pt.U, Pt.locs, Pt.cells, Pt.slots] at X10 l10 y10 z10 st10 hQ10
      rw [y10, z10] at X10
      obtain ⟨rfl, Nq10, e10⟩ := hQ10
      have N10 : Fr n0 L10 := by rw [l10]; exact Fr.app N8 Nq10
      have K10 : own_K p e below SE T10 (mkF m 123 #[.val (.long q0), .second, .val (.long q1), .second, .val (.long q2), .second, .val (.long q3), .second, .val (.long q4), .second, .val (.int p5), .val (.int (0 : Int32)), .val (.int (0 : Int32)), .val (.ref b6), .val (.long (0 : Int64)), .second, .val (.long (0 : Int64)), .second, .val (.long (0 : Int64)), .second, .val (.long q1), .second, .unset, .unset] [(.double (0 : UInt64))]) := fun t k => K9 _ (st10.trans k)
      have K11 : own_K p e below SE T10 (mkF m 129 #[.val (.long q0), .second, .val (.long q1), .second, .val (.long q2), .second, .val (.long q3), .second, .val (.long q4), .second, .val (.int p5), .val (.int (0 : Int32)), .val (.int (0 : Int32)), .val (.ref b6), .val (.long (0 : Int64)), .second, .val (.long (0 : Int64)), .second, .val (.long (0 : Int64)), .second, .val (.long q1), .second, .val (.double (0 : UInt64)), .second] [(.long q3), (.ref b6)]) := by
        intro t k
        refine K10 _ ?_
        refine XS.dstore X10.here hx rfl (hb hby at_123) rfl (l' := #[.val (.long q0), .second, .val (.long q1), .second, .val (.long q2), .second, .val (.long q3), .second, .val (.long q4), .second, .val (.int p5), .val (.int (0 : Int32)), .val (.int (0 : Int32)), .val (.ref b6), .val (.long (0 : Int64)), .second, .val (.long (0 : Int64)), .second, .val (.long (0 : Int64)), .second, .val (.long q1), .second, .val (.double (0 : UInt64)), .second]) rfl ?_
        show own_S p e below T10 (mkF m 125 #[.val (.long q0), .second, .val (.long q1), .second, .val (.long q2), .second, .val (.long q3), .second, .val (.long q4), .second, .val (.int p5), .val (.int (0 : Int32)), .val (.int (0 : Int32)), .val (.ref b6), .val (.long (0 : Int64)), .second, .val (.long (0 : Int64)), .second, .val (.long (0 : Int64)), .second, .val (.long q1), .second, .val (.double (0 : UInt64)), .second] []) _
        refine XS.aload X10.here hx rfl (hb hby at_125) rfl rfl ?_
        show own_S p e below T10 (mkF m 127 #[.val (.long q0), .second, .val (.long q1), .second, .val (.long q2), .second, .val (.long q3), .second, .val (.long q4), .second, .val (.int p5), .val (.int (0 : Int32)), .val (.int (0 : Int32)), .val (.ref b6), .val (.long (0 : Int64)), .second, .val (.long (0 : Int64)), .second, .val (.long (0 : Int64)), .second, .val (.long q1), .second, .val (.double (0 : UInt64)), .second] [(.ref b6)]) _
        refine XS.lload X10.here hx rfl (hb hby at_127) rfl ?_
        exact k
      obtain ⟨cq12, kq12, q12a, q12b, q12c⟩ := isOf hZ e10 Ex8
      obtain ⟨_, _, ⟨T12, L12, k12, n12⟩, -, X12, ⟨Lc12, hQ12, l12, y12, z12⟩, st12⟩ := X10.virtualBack hx (y := (⟨"com/example/headroom/headroom/model/Member", "sent", "(J)V"⟩ : MethodName)) (z := (⟨"com/example/headroom/headroom/model/Member", "sent", "(J)V"⟩ : MethodName)) hown (mvT hZ (hw _ (List.mem_of_getElem? (i := 62) rfl))) (mvT hZ (hw _ (List.mem_of_getElem? (i := 63) rfl))) (notFace_of_selects (args := #[]) (mvT hZ (hw _ (List.mem_of_getElem? (i := 65) rfl)))) (mvT hZ (hw _ (List.mem_of_getElem? (i := 65) rfl))) (mvT hZ (hw _ (List.mem_of_getElem? (i := 64) rfl))) (by decide) (backOf (W := 0) (rmse l Z a0 hw [] b6 q3 (0 : Int64) (0 : UInt64) (0 : Int64) (0 : Int64) q1 q1 d q1 T8.heap n0 (Nat.le_trans Z0 Kp8.1) Ex8 M8_pending M8_processingMs M8_sentSinceReport M8_delivered M8_lastReportNanos M8_lastSentNanos M8_processingTimes M8_reported M8_lastAcknowledgedNanos g_b6) hZ (hw _ (List.mem_of_getElem? (i := 66) rfl)) (hw _ (List.mem_of_getElem? (i := 2) rfl)) (by decide) (by decide)) q12a q12c (g := (mkF m 129 #[.val (.long q0), .second, .val (.long q1), .second, .val (.long q2), .second, .val (.long q3), .second, .val (.long q4), .second, .val (.int p5), .val (.int (0 : Int32)), .val (.int (0 : Int32)), .val (.ref b6), .val (.long (0 : Int64)), .second, .val (.long (0 : Int64)), .second, .val (.long (0 : Int64)), .second, .val (.long q1), .second, .val (.double (0 : UInt64)), .second] [(.long q3), (.ref b6)])) rfl (by rw [hml]; rfl) (Steps.refl _) (argsL := [(.long q3)]) (rest := []) (lenOf pd_0_2 rfl) rfl (by show 2 * 0 + _ ≤ _; exact Nat.le_of_eq rfl) (hb hby at_129) (fun _ _ => ⟨rfl, e10, (by decide : 3 + 0 ≤ _), (by decide : 20 + 0 ≤ _)⟩)
      dsimp only [Pt.U, Pt.locs, Pt.cells, Pt.slots] at X12 l12 y12 z12 st12 hQ12
      rw [y12, z12] at X12
      obtain ⟨rfl, Nq12, Kq12, Ex12, M12_pending, M12_processingMs, M12_sentSinceReport, M12_delivered, M12_lastReportNanos, M12_lastSentNanos, M12_processingTimes, M12_reported, M12_lastAcknowledgedNanos⟩ := hQ12
      have N12 : Fr n0 L12 := by rw [l12]; exact Fr.app N10 Nq12
      have Kp12 : Keep h0 T12.heap [] := Keep.trans Kp8 Kq12 (allS (Or.inr sz_b6) all0)
      have K12 : own_K p e below SE T12 (mkF m 132 #[.val (.long q0), .second, .val (.long q1), .second, .val (.long q2), .second, .val (.long q3), .second, .val (.long q4), .second, .val (.int p5), .val (.int (0 : Int32)), .val (.int (0 : Int32)), .val (.ref b6), .val (.long (0 : Int64)), .second, .val (.long (0 : Int64)), .second, .val (.long (0 : Int64)), .second, .val (.long q1), .second, .val (.double (0 : UInt64)), .second] []) := fun t k => K11 _ (st12.trans k)
      have N12_sentSinceReport : Fld Z T12.heap b6 "com/example/headroom/headroom/model/Member" "sentSinceReport" "J" (.long (1 : Int64)) := by
        have w := M12_sentSinceReport
        rw [show ((0 : Int64) + (1 : Int64)) = (1 : Int64) from by decide] at w
        exact w
      have N12_delivered : Fld Z T12.heap b6 "com/example/headroom/headroom/model/Member" "delivered" "J" (.long (1 : Int64)) := by
        have w := M12_delivered
        rw [show ((0 : Int64) + (1 : Int64)) = (1 : Int64) from by decide] at w
        exact w
      have K13 : own_K p e below SE T12 (mkF m 134 #[.val (.long q0), .second, .val (.long q1), .second, .val (.long q2), .second, .val (.long q3), .second, .val (.long q4), .second, .val (.int p5), .val (.int (0 : Int32)), .val (.int (0 : Int32)), .val (.ref b6), .val (.long (0 : Int64)), .second, .val (.long (0 : Int64)), .second, .val (.long (0 : Int64)), .second, .val (.long q1), .second, .val (.double (0 : UInt64)), .second] [(.ref b6)]) := by
        intro t k
        refine K12 _ ?_
        refine XS.aload X12.here hx rfl (hb hby at_132) rfl rfl ?_
        exact k
      obtain ⟨cq14, kq14, q14a, q14b, q14c⟩ := isOf hZ rfl Ex12
      obtain ⟨_, _, ⟨T14, L14, k14, n14⟩, -, X14, ⟨Lc14, hQ14, l14, y14, z14⟩, st14⟩ := X12.virtualBack hx (y := (⟨"com/example/headroom/headroom/model/Member", "sentSinceReport", "()J"⟩ : MethodName)) (z := (⟨"com/example/headroom/headroom/model/Member", "sentSinceReport", "()J"⟩ : MethodName)) hown (mvT hZ (hw _ (List.mem_of_getElem? (i := 69) rfl))) (mvT hZ (hw _ (List.mem_of_getElem? (i := 70) rfl))) (notFace_of_selects (args := #[]) (mvT hZ (hw _ (List.mem_of_getElem? (i := 72) rfl)))) (mvT hZ (hw _ (List.mem_of_getElem? (i := 72) rfl))) (mvT hZ (hw _ (List.mem_of_getElem? (i := 71) rfl))) (by decide) (backOf (W := 0) (rmgsentSinceReport l Z a0 hw [] b6 (1 : Int64) T12.heap n0 (Nat.le_trans Z0 Kp12.1) N12_sentSinceReport) hZ (hw _ (List.mem_of_getElem? (i := 73) rfl)) (hw _ (List.mem_of_getElem? (i := 2) rfl)) (by decide) (by decide)) q14a q14c (g := (mkF m 134 #[.val (.long q0), .second, .val (.long q1), .second, .val (.long q2), .second, .val (.long q3), .second, .val (.long q4), .second, .val (.int p5), .val (.int (0 : Int32)), .val (.int (0 : Int32)), .val (.ref b6), .val (.long (0 : Int64)), .second, .val (.long (0 : Int64)), .second, .val (.long (0 : Int64)), .second, .val (.long q1), .second, .val (.double (0 : UInt64)), .second] [(.ref b6)])) rfl (by rw [hml]; rfl) (Steps.refl _) (argsL := []) (rest := []) (lenOf pd_0_3 rfl) rfl (by show 2 * 0 + _ ≤ _; exact Nat.le_of_eq rfl) (hb hby at_134) (fun _ _ => ⟨rfl, rfl, (by decide : 3 + 0 ≤ _), (by decide : 20 + 0 ≤ _)⟩)
      dsimp only [Pt.U, Pt.locs, Pt.cells, Pt.slots] at X14 l14 y14 z14 st14 hQ14
      rw [y14, z14] at X14
      obtain ⟨rfl, Nq14, e14⟩ := hQ14
      have N14 : Fr n0 L14 := by rw [l14]; exact Fr.app N12 Nq14
      have K14 : own_K p e below SE T14 (mkF m 137 #[.val (.long q0), .second, .val (.long q1), .second, .val (.long q2), .second, .val (.long q3), .second, .val (.long q4), .second, .val (.int p5), .val (.int (0 : Int32)), .val (.int (0 : Int32)), .val (.ref b6), .val (.long (0 : Int64)), .second, .val (.long (0 : Int64)), .second, .val (.long (0 : Int64)), .second, .val (.long q1), .second, .val (.double (0 : UInt64)), .second] [(.long (1 : Int64))]) := fun t k => K13 _ (st14.trans k)
      have K15 : own_K p e below SE T14 (mkF m 147 #[.val (.long q0), .second, .val (.long q1), .second, .val (.long q2), .second, .val (.long q3), .second, .val (.long q4), .second, .val (.int p5), .val (.int (0 : Int32)), .val (.int (0 : Int32)), .val (.ref b6), .val (.long (0 : Int64)), .second, .val (.long (0 : Int64)), .second, .val (.long (0 : Int64)), .second, .val (.long q1), .second, .val (.double (0 : UInt64)), .second] [(.ref b6)]) := by
        intro t k
        refine K14 _ ?_
        refine XS.lload X14.here hx rfl (hb hby at_137) rfl ?_
        show own_S p e below T14 (mkF m 139 #[.val (.long q0), .second, .val (.long q1), .second, .val (.long q2), .second, .val (.long q3), .second, .val (.long q4), .second, .val (.int p5), .val (.int (0 : Int32)), .val (.int (0 : Int32)), .val (.ref b6), .val (.long (0 : Int64)), .second, .val (.long (0 : Int64)), .second, .val (.long (0 : Int64)), .second, .val (.long q1), .second, .val (.double (0 : UInt64)), .second] [(.long (0 : Int64)), (.long (1 : Int64))]) _
        refine XS.lconst X14.here hx rfl (hb hby at_139) ?_
        show own_S p e below T14 (mkF m 140 #[.val (.long q0), .second, .val (.long q1), .second, .val (.long q2), .second, .val (.long q3), .second, .val (.long q4), .second, .val (.int p5), .val (.int (0 : Int32)), .val (.int (0 : Int32)), .val (.ref b6), .val (.long (0 : Int64)), .second, .val (.long (0 : Int64)), .second, .val (.long (0 : Int64)), .second, .val (.long q1), .second, .val (.double (0 : UInt64)), .second] [(.long (1 : Int64)), (.long (0 : Int64)), (.long (1 : Int64))]) _
        refine XS.ladd X14.here hx rfl (hb hby at_140) rfl ?_
        show own_S p e below T14 (mkF m 141 #[.val (.long q0), .second, .val (.long q1), .second, .val (.long q2), .second, .val (.long q3), .second, .val (.long q4), .second, .val (.int p5), .val (.int (0 : Int32)), .val (.int (0 : Int32)), .val (.ref b6), .val (.long (0 : Int64)), .second, .val (.long (0 : Int64)), .second, .val (.long (0 : Int64)), .second, .val (.long q1), .second, .val (.double (0 : UInt64)), .second] [(.long (1 : Int64)), (.long (1 : Int64))]) _
        refine XT.lcmp X14.here hx rfl (hb hby at_141) rfl ?_
        show own_S p e below T14 (mkF m 142 #[.val (.long q0), .second, .val (.long q1), .second, .val (.long q2), .second, .val (.long q3), .second, .val (.long q4), .second, .val (.int p5), .val (.int (0 : Int32)), .val (.int (0 : Int32)), .val (.ref b6), .val (.long (0 : Int64)), .second, .val (.long (0 : Int64)), .second, .val (.long (0 : Int64)), .second, .val (.long q1), .second, .val (.double (0 : UInt64)), .second] [(.int (XT.cmpL (1 : Int64) (1 : Int64)))]) _
        refine XS.ifNo X14.here hx rfl (hb hby at_142) rfl (XT.ll_ne_f (by decide : (1 : Int64) = (1 : Int64))) ?_
        show own_S p e below T14 (mkF m 145 #[.val (.long q0), .second, .val (.long q1), .second, .val (.long q2), .second, .val (.long q3), .second, .val (.long q4), .second, .val (.int p5), .val (.int (0 : Int32)), .val (.int (0 : Int32)), .val (.ref b6), .val (.long (0 : Int64)), .second, .val (.long (0 : Int64)), .second, .val (.long (0 : Int64)), .second, .val (.long q1), .second, .val (.double (0 : UInt64)), .second] []) _
        refine XS.aload X14.here hx rfl (hb hby at_145) rfl rfl ?_
        exact k
      obtain ⟨cq16, kq16, q16a, q16b, q16c⟩ := isOf hZ e14 Ex12
      obtain ⟨_, _, ⟨T16, L16, k16, n16⟩, -, X16, ⟨Lc16, hQ16, l16, y16, z16⟩, st16⟩ := X14.virtualBack hx (y := (⟨"com/example/headroom/headroom/model/Member", "delivered", "()J"⟩ : MethodName)) (z := (⟨"com/example/headroom/headroom/model/Member", "delivered", "()J"⟩ : MethodName)) hown (mvT hZ (hw _ (List.mem_of_getElem? (i := 74) rfl))) (mvT hZ (hw _ (List.mem_of_getElem? (i := 75) rfl))) (notFace_of_selects (args := #[]) (mvT hZ (hw _ (List.mem_of_getElem? (i := 77) rfl)))) (mvT hZ (hw _ (List.mem_of_getElem? (i := 77) rfl))) (mvT hZ (hw _ (List.mem_of_getElem? (i := 76) rfl))) (by decide) (backOf (W := 0) (rmgdelivered l Z a0 hw [] b6 (1 : Int64) T12.heap n0 (Nat.le_trans Z0 Kp12.1) N12_delivered) hZ (hw _ (List.mem_of_getElem? (i := 78) rfl)) (hw _ (List.mem_of_getElem? (i := 2) rfl)) (by decide) (by decide)) q16a q16c (g := (mkF m 147 #[.val (.long q0), .second, .val (.long q1), .second, .val (.long q2), .second, .val (.long q3), .second, .val (.long q4), .second, .val (.int p5), .val (.int (0 : Int32)), .val (.int (0 : Int32)), .val (.ref b6), .val (.long (0 : Int64)), .second, .val (.long (0 : Int64)), .second, .val (.long (0 : Int64)), .second, .val (.long q1), .second, .val (.double (0 : UInt64)), .second] [(.ref b6)])) rfl (by rw [hml]; rfl) (Steps.refl _) (argsL := []) (rest := []) (lenOf pd_0_3 rfl) rfl (by show 2 * 0 + _ ≤ _; exact Nat.le_of_eq rfl) (hb hby at_147) (fun _ _ => ⟨rfl, e14, (by decide : 3 + 0 ≤ _), (by decide : 20 + 0 ≤ _)⟩)
      dsimp only [Pt.U, Pt.locs, Pt.cells, Pt.slots] at X16 l16 y16 z16 st16 hQ16
      rw [y16, z16] at X16
      obtain ⟨rfl, Nq16, e16⟩ := hQ16
      have N16 : Fr n0 L16 := by rw [l16]; exact Fr.app N14 Nq16
      have K16 : own_K p e below SE T16 (mkF m 150 #[.val (.long q0), .second, .val (.long q1), .second, .val (.long q2), .second, .val (.long q3), .second, .val (.long q4), .second, .val (.int p5), .val (.int (0 : Int32)), .val (.int (0 : Int32)), .val (.ref b6), .val (.long (0 : Int64)), .second, .val (.long (0 : Int64)), .second, .val (.long (0 : Int64)), .second, .val (.long q1), .second, .val (.double (0 : UInt64)), .second] [(.long (1 : Int64))]) := fun t k => K15 _ (st16.trans k)
      have K17 : own_K p e below SE T16 (mkF m 160 #[.val (.long q0), .second, .val (.long q1), .second, .val (.long q2), .second, .val (.long q3), .second, .val (.long q4), .second, .val (.int p5), .val (.int (0 : Int32)), .val (.int (0 : Int32)), .val (.ref b6), .val (.long (0 : Int64)), .second, .val (.long (0 : Int64)), .second, .val (.long (0 : Int64)), .second, .val (.long q1), .second, .val (.double (0 : UInt64)), .second] [(.ref b6)]) := by
        intro t k
        refine K16 _ ?_
        refine XS.lload X16.here hx rfl (hb hby at_150) rfl ?_
        show own_S p e below T16 (mkF m 152 #[.val (.long q0), .second, .val (.long q1), .second, .val (.long q2), .second, .val (.long q3), .second, .val (.long q4), .second, .val (.int p5), .val (.int (0 : Int32)), .val (.int (0 : Int32)), .val (.ref b6), .val (.long (0 : Int64)), .second, .val (.long (0 : Int64)), .second, .val (.long (0 : Int64)), .second, .val (.long q1), .second, .val (.double (0 : UInt64)), .second] [(.long (0 : Int64)), (.long (1 : Int64))]) _
        refine XS.lconst X16.here hx rfl (hb hby at_152) ?_
        show own_S p e below T16 (mkF m 153 #[.val (.long q0), .second, .val (.long q1), .second, .val (.long q2), .second, .val (.long q3), .second, .val (.long q4), .second, .val (.int p5), .val (.int (0 : Int32)), .val (.int (0 : Int32)), .val (.ref b6), .val (.long (0 : Int64)), .second, .val (.long (0 : Int64)), .second, .val (.long (0 : Int64)), .second, .val (.long q1), .second, .val (.double (0 : UInt64)), .second] [(.long (1 : Int64)), (.long (0 : Int64)), (.long (1 : Int64))]) _
        refine XS.ladd X16.here hx rfl (hb hby at_153) rfl ?_
        show own_S p e below T16 (mkF m 154 #[.val (.long q0), .second, .val (.long q1), .second, .val (.long q2), .second, .val (.long q3), .second, .val (.long q4), .second, .val (.int p5), .val (.int (0 : Int32)), .val (.int (0 : Int32)), .val (.ref b6), .val (.long (0 : Int64)), .second, .val (.long (0 : Int64)), .second, .val (.long (0 : Int64)), .second, .val (.long q1), .second, .val (.double (0 : UInt64)), .second] [(.long (1 : Int64)), (.long (1 : Int64))]) _
        refine XT.lcmp X16.here hx rfl (hb hby at_154) rfl ?_
        show own_S p e below T16 (mkF m 155 #[.val (.long q0), .second, .val (.long q1), .second, .val (.long q2), .second, .val (.long q3), .second, .val (.long q4), .second, .val (.int p5), .val (.int (0 : Int32)), .val (.int (0 : Int32)), .val (.ref b6), .val (.long (0 : Int64)), .second, .val (.long (0 : Int64)), .second, .val (.long (0 : Int64)), .second, .val (.long q1), .second, .val (.double (0 : UInt64)), .second] [(.int (XT.cmpL (1 : Int64) (1 : Int64)))]) _
        refine XS.ifNo X16.here hx rfl (hb hby at_155) rfl (XT.ll_ne_f (by decide : (1 : Int64) = (1 : Int64))) ?_
        show own_S p e below T16 (mkF m 158 #[.val (.long q0), .second, .val (.long q1), .second, .val (.long q2), .second, .val (.long q3), .second, .val (.long q4), .second, .val (.int p5), .val (.int (0 : Int32)), .val (.int (0 : Int32)), .val (.ref b6), .val (.long (0 : Int64)), .second, .val (.long (0 : Int64)), .second, .val (.long (0 : Int64)), .second, .val (.long q1), .second, .val (.double (0 : UInt64)), .second] []) _
        refine XS.aload X16.here hx rfl (hb hby at_158) rfl rfl ?_
        exact k
      obtain ⟨cq18, kq18, q18a, q18b, q18c⟩ := isOf hZ e16 Ex12
      obtain ⟨_, _, ⟨T18, L18, k18, n18⟩, -, X18, ⟨Lc18, hQ18, l18, y18, z18⟩, st18⟩ := X16.virtualBack hx (y := (⟨"com/example/headroom/headroom/model/Member", "lastSentNanos", "()J"⟩ : MethodName)) (z := (⟨"com/example/headroom/headroom/model/Member", "lastSentNanos", "()J"⟩ : MethodName)) hown (mvT hZ (hw _ (List.mem_of_getElem? (i := 79) rfl))) (mvT hZ (hw _ (List.mem_of_getElem? (i := 80) rfl))) (notFace_of_selects (args := #[]) (mvT hZ (hw _ (List.mem_of_getElem? (i := 82) rfl)))) (mvT hZ (hw _ (List.mem_of_getElem? (i := 82) rfl))) (mvT hZ (hw _ (List.mem_of_getElem? (i := 81) rfl))) (by decide) (backOf (W := 0) (rmglastSentNanos l Z a0 hw [] b6 q3 T12.heap n0 (Nat.le_trans Z0 Kp12.1) M12_lastSentNanos) hZ (hw _ (List.mem_of_getElem? (i := 83) rfl)) (hw _ (List.mem_of_getElem? (i := 2) rfl)) (by decide) (by decide)) q18a q18c (g := (mkF m 160 #[.val (.long q0), .second, .val (.long q1), .second, .val (.long q2), .second, .val (.long q3), .second, .val (.long q4), .second, .val (.int p5), .val (.int (0 : Int32)), .val (.int (0 : Int32)), .val (.ref b6), .val (.long (0 : Int64)), .second, .val (.long (0 : Int64)), .second, .val (.long (0 : Int64)), .second, .val (.long q1), .second, .val (.double (0 : UInt64)), .second] [(.ref b6)])) rfl (by rw [hml]; rfl) (Steps.refl _) (argsL := []) (rest := []) (lenOf pd_0_3 rfl) rfl (by show 2 * 0 + _ ≤ _; exact Nat.le_of_eq rfl) (hb hby at_160) (fun _ _ => ⟨rfl, e16, (by decide : 3 + 0 ≤ _), (by decide : 20 + 0 ≤ _)⟩)
      dsimp only [Pt.U, Pt.locs, Pt.cells, Pt.slots] at X18 l18 y18 z18 st18 hQ18
      rw [y18, z18] at X18
      obtain ⟨rfl, Nq18, e18⟩ := hQ18
      have N18 : Fr n0 L18 := by rw [l18]; exact Fr.app N16 Nq18
      have K18 : own_K p e below SE T18 (mkF m 163 #[.val (.long q0), .second, .val (.long q1), .second, .val (.long q2), .second, .val (.long q3), .second, .val (.long q4), .second, .val (.int p5), .val (.int (0 : Int32)), .val (.int (0 : Int32)), .val (.ref b6), .val (.long (0 : Int64)), .second, .val (.long (0 : Int64)), .second, .val (.long (0 : Int64)), .second, .val (.long q1), .second, .val (.double (0 : UInt64)), .second] [(.long q3)]) := fun t k => K17 _ (st18.trans k)
      have K19 : own_K p e below SE T18 (mkF m 171 #[.val (.long q0), .second, .val (.long q1), .second, .val (.long q2), .second, .val (.long q3), .second, .val (.long q4), .second, .val (.int p5), .val (.int (0 : Int32)), .val (.int (0 : Int32)), .val (.ref b6), .val (.long (0 : Int64)), .second, .val (.long (0 : Int64)), .second, .val (.long (0 : Int64)), .second, .val (.long q1), .second, .val (.double (0 : UInt64)), .second] [(.ref b6)]) := by
        intro t k
        refine K18 _ ?_
        refine XS.lload X18.here hx rfl (hb hby at_163) rfl ?_
        show own_S p e below T18 (mkF m 165 #[.val (.long q0), .second, .val (.long q1), .second, .val (.long q2), .second, .val (.long q3), .second, .val (.long q4), .second, .val (.int p5), .val (.int (0 : Int32)), .val (.int (0 : Int32)), .val (.ref b6), .val (.long (0 : Int64)), .second, .val (.long (0 : Int64)), .second, .val (.long (0 : Int64)), .second, .val (.long q1), .second, .val (.double (0 : UInt64)), .second] [(.long q3), (.long q3)]) _
        refine XT.lcmp X18.here hx rfl (hb hby at_165) rfl ?_
        show own_S p e below T18 (mkF m 166 #[.val (.long q0), .second, .val (.long q1), .second, .val (.long q2), .second, .val (.long q3), .second, .val (.long q4), .second, .val (.int p5), .val (.int (0 : Int32)), .val (.int (0 : Int32)), .val (.ref b6), .val (.long (0 : Int64)), .second, .val (.long (0 : Int64)), .second, .val (.long (0 : Int64)), .second, .val (.long q1), .second, .val (.double (0 : UInt64)), .second] [(.int (XT.cmpL q3 q3))]) _
        refine XS.ifNo X18.here hx rfl (hb hby at_166) rfl (XT.ll_ne_f rfl) ?_
        show own_S p e below T18 (mkF m 169 #[.val (.long q0), .second, .val (.long q1), .second, .val (.long q2), .second, .val (.long q3), .second, .val (.long q4), .second, .val (.int p5), .val (.int (0 : Int32)), .val (.int (0 : Int32)), .val (.ref b6), .val (.long (0 : Int64)), .second, .val (.long (0 : Int64)), .second, .val (.long (0 : Int64)), .second, .val (.long q1), .second, .val (.double (0 : UInt64)), .second] []) _
        refine XS.aload X18.here hx rfl (hb hby at_169) rfl rfl ?_
        exact k
      obtain ⟨cq20, kq20, q20a, q20b, q20c⟩ := isOf hZ e18 Ex12
      obtain ⟨_, _, ⟨T20, L20, k20, n20⟩, -, X20, ⟨Lc20, hQ20, l20, y20, z20⟩, st20⟩ := X18.virtualBack hx (y := (⟨"com/example/headroom/headroom/model/Member", "pending", "()J"⟩ : MethodName)) (z := (⟨"com/example/headroom/headroom/model/Member", "pending", "()J"⟩ : MethodName)) hown (mvT hZ (hw _ (List.mem_of_getElem? (i := 84) rfl))) (mvT hZ (hw _ (List.mem_of_getElem? (i := 85) rfl))) (notFace_of_selects (args := #[]) (mvT hZ (hw _ (List.mem_of_getElem? (i := 87) rfl)))) (mvT hZ (hw _ (List.mem_of_getElem? (i := 87) rfl))) (mvT hZ (hw _ (List.mem_of_getElem? (i := 86) rfl))) (by decide) (backOf (W := 0) (rmgpending l Z a0 hw [] b6 (0 : Int64) T12.heap n0 (Nat.le_trans Z0 Kp12.1) M12_pending) hZ (hw _ (List.mem_of_getElem? (i := 88) rfl)) (hw _ (List.mem_of_getElem? (i := 2) rfl)) (by decide) (by decide)) q20a q20c (g := (mkF m 171 #[.val (.long q0), .second, .val (.long q1), .second, .val (.long q2), .second, .val (.long q3), .second, .val (.long q4), .second, .val (.int p5), .val (.int (0 : Int32)), .val (.int (0 : Int32)), .val (.ref b6), .val (.long (0 : Int64)), .second, .val (.long (0 : Int64)), .second, .val (.long (0 : Int64)), .second, .val (.long q1), .second, .val (.double (0 : UInt64)), .second] [(.ref b6)])) rfl (by rw [hml]; rfl) (Steps.refl _) (argsL := []) (rest := []) (lenOf pd_0_3 rfl) rfl (by show 2 * 0 + _ ≤ _; exact Nat.le_of_eq rfl) (hb hby at_171) (fun _ _ => ⟨rfl, e18, (by decide : 3 + 0 ≤ _), (by decide : 20 + 0 ≤ _)⟩)
      dsimp only [Pt.U, Pt.locs, Pt.cells, Pt.slots] at X20 l20 y20 z20 st20 hQ20
      rw [y20, z20] at X20
      obtain ⟨rfl, Nq20, e20⟩ := hQ20
      have N20 : Fr n0 L20 := by rw [l20]; exact Fr.app N18 Nq20
      have K20 : own_K p e below SE T20 (mkF m 174 #[.val (.long q0), .second, .val (.long q1), .second, .val (.long q2), .second, .val (.long q3), .second, .val (.long q4), .second, .val (.int p5), .val (.int (0 : Int32)), .val (.int (0 : Int32)), .val (.ref b6), .val (.long (0 : Int64)), .second, .val (.long (0 : Int64)), .second, .val (.long (0 : Int64)), .second, .val (.long q1), .second, .val (.double (0 : UInt64)), .second] [(.long (0 : Int64))]) := fun t k => K19 _ (st20.trans k)
      have K21 : own_K p e below SE T20 (mkF m 182 #[.val (.long q0), .second, .val (.long q1), .second, .val (.long q2), .second, .val (.long q3), .second, .val (.long q4), .second, .val (.int p5), .val (.int (0 : Int32)), .val (.int (0 : Int32)), .val (.ref b6), .val (.long (0 : Int64)), .second, .val (.long (0 : Int64)), .second, .val (.long (0 : Int64)), .second, .val (.long q1), .second, .val (.double (0 : UInt64)), .second] [(.ref b6)]) := by
        intro t k
        refine K20 _ ?_
        refine XS.lload X20.here hx rfl (hb hby at_174) rfl ?_
        show own_S p e below T20 (mkF m 176 #[.val (.long q0), .second, .val (.long q1), .second, .val (.long q2), .second, .val (.long q3), .second, .val (.long q4), .second, .val (.int p5), .val (.int (0 : Int32)), .val (.int (0 : Int32)), .val (.ref b6), .val (.long (0 : Int64)), .second, .val (.long (0 : Int64)), .second, .val (.long (0 : Int64)), .second, .val (.long q1), .second, .val (.double (0 : UInt64)), .second] [(.long (0 : Int64)), (.long (0 : Int64))]) _
        refine XT.lcmp X20.here hx rfl (hb hby at_176) rfl ?_
        show own_S p e below T20 (mkF m 177 #[.val (.long q0), .second, .val (.long q1), .second, .val (.long q2), .second, .val (.long q3), .second, .val (.long q4), .second, .val (.int p5), .val (.int (0 : Int32)), .val (.int (0 : Int32)), .val (.ref b6), .val (.long (0 : Int64)), .second, .val (.long (0 : Int64)), .second, .val (.long (0 : Int64)), .second, .val (.long q1), .second, .val (.double (0 : UInt64)), .second] [(.int (XT.cmpL (0 : Int64) (0 : Int64)))]) _
        refine XS.ifNo X20.here hx rfl (hb hby at_177) rfl (XT.ll_ne_f (by decide : (0 : Int64) = (0 : Int64))) ?_
        show own_S p e below T20 (mkF m 180 #[.val (.long q0), .second, .val (.long q1), .second, .val (.long q2), .second, .val (.long q3), .second, .val (.long q4), .second, .val (.int p5), .val (.int (0 : Int32)), .val (.int (0 : Int32)), .val (.ref b6), .val (.long (0 : Int64)), .second, .val (.long (0 : Int64)), .second, .val (.long (0 : Int64)), .second, .val (.long q1), .second, .val (.double (0 : UInt64)), .second] []) _
        refine XS.aload X20.here hx rfl (hb hby at_180) rfl rfl ?_
        exact k
      obtain ⟨cq22, kq22, q22a, q22b, q22c⟩ := isOf hZ e20 Ex12
      obtain ⟨_, _, ⟨T22, L22, k22, n22⟩, -, X22, ⟨Lc22, hQ22, l22, y22, z22⟩, st22⟩ := X20.virtualBack hx (y := (⟨"com/example/headroom/headroom/model/Member", "lastReportNanos", "()J"⟩ : MethodName)) (z := (⟨"com/example/headroom/headroom/model/Member", "lastReportNanos", "()J"⟩ : MethodName)) hown (mvT hZ (hw _ (List.mem_of_getElem? (i := 89) rfl))) (mvT hZ (hw _ (List.mem_of_getElem? (i := 90) rfl))) (notFace_of_selects (args := #[]) (mvT hZ (hw _ (List.mem_of_getElem? (i := 92) rfl)))) (mvT hZ (hw _ (List.mem_of_getElem? (i := 92) rfl))) (mvT hZ (hw _ (List.mem_of_getElem? (i := 91) rfl))) (by decide) (backOf (W := 0) (rmglastReportNanos l Z a0 hw [] b6 q1 T12.heap n0 (Nat.le_trans Z0 Kp12.1) M12_lastReportNanos) hZ (hw _ (List.mem_of_getElem? (i := 93) rfl)) (hw _ (List.mem_of_getElem? (i := 2) rfl)) (by decide) (by decide)) q22a q22c (g := (mkF m 182 #[.val (.long q0), .second, .val (.long q1), .second, .val (.long q2), .second, .val (.long q3), .second, .val (.long q4), .second, .val (.int p5), .val (.int (0 : Int32)), .val (.int (0 : Int32)), .val (.ref b6), .val (.long (0 : Int64)), .second, .val (.long (0 : Int64)), .second, .val (.long (0 : Int64)), .second, .val (.long q1), .second, .val (.double (0 : UInt64)), .second] [(.ref b6)])) rfl (by rw [hml]; rfl) (Steps.refl _) (argsL := []) (rest := []) (lenOf pd_0_3 rfl) rfl (by show 2 * 0 + _ ≤ _; exact Nat.le_of_eq rfl) (hb hby at_182) (fun _ _ => ⟨rfl, e20, (by decide : 3 + 0 ≤ _), (by decide : 20 + 0 ≤ _)⟩)
      dsimp only [Pt.U, Pt.locs, Pt.cells, Pt.slots] at X22 l22 y22 z22 st22 hQ22
      rw [y22, z22] at X22
      obtain ⟨rfl, Nq22, e22⟩ := hQ22
      have N22 : Fr n0 L22 := by rw [l22]; exact Fr.app N20 Nq22
      have K22 : own_K p e below SE T22 (mkF m 185 #[.val (.long q0), .second, .val (.long q1), .second, .val (.long q2), .second, .val (.long q3), .second, .val (.long q4), .second, .val (.int p5), .val (.int (0 : Int32)), .val (.int (0 : Int32)), .val (.ref b6), .val (.long (0 : Int64)), .second, .val (.long (0 : Int64)), .second, .val (.long (0 : Int64)), .second, .val (.long q1), .second, .val (.double (0 : UInt64)), .second] [(.long q1)]) := fun t k => K21 _ (st22.trans k)
      have K23 : own_K p e below SE T22 (mkF m 193 #[.val (.long q0), .second, .val (.long q1), .second, .val (.long q2), .second, .val (.long q3), .second, .val (.long q4), .second, .val (.int p5), .val (.int (0 : Int32)), .val (.int (0 : Int32)), .val (.ref b6), .val (.long (0 : Int64)), .second, .val (.long (0 : Int64)), .second, .val (.long (0 : Int64)), .second, .val (.long q1), .second, .val (.double (0 : UInt64)), .second] [(.ref b6)]) := by
        intro t k
        refine K22 _ ?_
        refine XS.lload X22.here hx rfl (hb hby at_185) rfl ?_
        show own_S p e below T22 (mkF m 187 #[.val (.long q0), .second, .val (.long q1), .second, .val (.long q2), .second, .val (.long q3), .second, .val (.long q4), .second, .val (.int p5), .val (.int (0 : Int32)), .val (.int (0 : Int32)), .val (.ref b6), .val (.long (0 : Int64)), .second, .val (.long (0 : Int64)), .second, .val (.long (0 : Int64)), .second, .val (.long q1), .second, .val (.double (0 : UInt64)), .second] [(.long q1), (.long q1)]) _
        refine XT.lcmp X22.here hx rfl (hb hby at_187) rfl ?_
        show own_S p e below T22 (mkF m 188 #[.val (.long q0), .second, .val (.long q1), .second, .val (.long q2), .second, .val (.long q3), .second, .val (.long q4), .second, .val (.int p5), .val (.int (0 : Int32)), .val (.int (0 : Int32)), .val (.ref b6), .val (.long (0 : Int64)), .second, .val (.long (0 : Int64)), .second, .val (.long (0 : Int64)), .second, .val (.long q1), .second, .val (.double (0 : UInt64)), .second] [(.int (XT.cmpL q1 q1))]) _
        refine XS.ifNo X22.here hx rfl (hb hby at_188) rfl (XT.ll_ne_f rfl) ?_
        show own_S p e below T22 (mkF m 191 #[.val (.long q0), .second, .val (.long q1), .second, .val (.long q2), .second, .val (.long q3), .second, .val (.long q4), .second, .val (.int p5), .val (.int (0 : Int32)), .val (.int (0 : Int32)), .val (.ref b6), .val (.long (0 : Int64)), .second, .val (.long (0 : Int64)), .second, .val (.long (0 : Int64)), .second, .val (.long q1), .second, .val (.double (0 : UInt64)), .second] []) _
        refine XS.aload X22.here hx rfl (hb hby at_191) rfl rfl ?_
        exact k
      obtain ⟨cq24, kq24, q24a, q24b, q24c⟩ := isOf hZ e22 Ex12
      obtain ⟨_, _, ⟨T24, L24, k24, n24⟩, -, X24, ⟨Lc24, hQ24, l24, y24, z24⟩, st24⟩ := X22.virtualBack hx (y := (⟨"com/example/headroom/headroom/model/Member", "processingMs", "()D"⟩ : MethodName)) (z := (⟨"com/example/headroom/headroom/model/Member", "processingMs", "()D"⟩ : MethodName)) hown (mvT hZ (hw _ (List.mem_of_getElem? (i := 55) rfl))) (mvT hZ (hw _ (List.mem_of_getElem? (i := 56) rfl))) (notFace_of_selects (args := #[]) (mvT hZ (hw _ (List.mem_of_getElem? (i := 58) rfl)))) (mvT hZ (hw _ (List.mem_of_getElem? (i := 58) rfl))) (mvT hZ (hw _ (List.mem_of_getElem? (i := 57) rfl))) (by decide) (backOf (W := 0) (rmgprocessingMs l Z a0 hw [] b6 (0 : UInt64) T12.heap n0 (Nat.le_trans Z0 Kp12.1) M12_processingMs) hZ (hw _ (List.mem_of_getElem? (i := 59) rfl)) (hw _ (List.mem_of_getElem? (i := 2) rfl)) (by decide) (by decide)) q24a q24c (g := (mkF m 193 #[.val (.long q0), .second, .val (.long q1), .second, .val (.long q2), .second, .val (.long q3), .second, .val (.long q4), .second, .val (.int p5), .val (.int (0 : Int32)), .val (.int (0 : Int32)), .val (.ref b6), .val (.long (0 : Int64)), .second, .val (.long (0 : Int64)), .second, .val (.long (0 : Int64)), .second, .val (.long q1), .second, .val (.double (0 : UInt64)), .second] [(.ref b6)])) rfl (by rw [hml]; rfl) (Steps.refl _) (argsL := []) (rest := []) (lenOf pd_0_1 rfl) rfl (by show 2 * 0 + _ ≤ _; exact Nat.le_of_eq rfl) (hb hby at_193) (fun _ _ => ⟨rfl, e22, (by decide : 3 + 0 ≤ _), (by decide : 20 + 0 ≤ _)⟩)
      dsimp only [Pt.U, Pt.locs, Pt.cells, Pt.slots] at X24 l24 y24 z24 st24 hQ24
      rw [y24, z24] at X24
      obtain ⟨rfl, Nq24, e24⟩ := hQ24
      have N24 : Fr n0 L24 := by rw [l24]; exact Fr.app N22 Nq24
      have K24 : own_K p e below SE T24 (mkF m 196 #[.val (.long q0), .second, .val (.long q1), .second, .val (.long q2), .second, .val (.long q3), .second, .val (.long q4), .second, .val (.int p5), .val (.int (0 : Int32)), .val (.int (0 : Int32)), .val (.ref b6), .val (.long (0 : Int64)), .second, .val (.long (0 : Int64)), .second, .val (.long (0 : Int64)), .second, .val (.long q1), .second, .val (.double (0 : UInt64)), .second] [(.double (0 : UInt64))]) := fun t k => K23 _ (st24.trans k)
      have K25 : own_K p e below SE T24 (mkF m 199 #[.val (.long q0), .second, .val (.long q1), .second, .val (.long q2), .second, .val (.long q3), .second, .val (.long q4), .second, .val (.int p5), .val (.int (0 : Int32)), .val (.int (0 : Int32)), .val (.ref b6), .val (.long (0 : Int64)), .second, .val (.long (0 : Int64)), .second, .val (.long (0 : Int64)), .second, .val (.long q1), .second, .val (.double (0 : UInt64)), .second] [(.int (cmpValue (FP.dcmp (0 : UInt64) (0 : UInt64)) CmpOp.l))]) := by
        intro t k
        refine K24 _ ?_
        refine XS.dload X24.here hx rfl (hb hby at_196) rfl ?_
        show own_S p e below T24 (mkF m 198 #[.val (.long q0), .second, .val (.long q1), .second, .val (.long q2), .second, .val (.long q3), .second, .val (.long q4), .second, .val (.int p5), .val (.int (0 : Int32)), .val (.int (0 : Int32)), .val (.ref b6), .val (.long (0 : Int64)), .second, .val (.long (0 : Int64)), .second, .val (.long (0 : Int64)), .second, .val (.long q1), .second, .val (.double (0 : UInt64)), .second] [(.double (0 : UInt64)), (.double (0 : UInt64))]) _
        refine XS.dcmpS X24.here hx rfl (hb hby at_198) rfl rfl ?_
        exact k
      rw [dcmpV_self own_zz CmpOp.l] at K25
      have K26 : own_K p e below SE T24 (mkF m 207 #[.val (.long q0), .second, .val (.long q1), .second, .val (.long q2), .second, .val (.long q3), .second, .val (.long q4), .second, .val (.int p5), .val (.int (0 : Int32)), .val (.int (0 : Int32)), .val (.ref b6), .val (.long (0 : Int64)), .second, .val (.long (0 : Int64)), .second, .val (.long (0 : Int64)), .second, .val (.long q1), .second, .val (.double (0 : UInt64)), .second] [(.int (1 : Int32))]) := by
        intro t k
        refine K25 _ ?_
        refine XS.ifNo X24.here hx rfl (hb hby at_199) rfl (XT.i0_ne_f (by decide : (0 : Int32) = 0)) ?_
        show own_S p e below T24 (mkF m 202 #[.val (.long q0), .second, .val (.long q1), .second, .val (.long q2), .second, .val (.long q3), .second, .val (.long q4), .second, .val (.int p5), .val (.int (0 : Int32)), .val (.int (0 : Int32)), .val (.ref b6), .val (.long (0 : Int64)), .second, .val (.long (0 : Int64)), .second, .val (.long (0 : Int64)), .second, .val (.long q1), .second, .val (.double (0 : UInt64)), .second] []) _
        refine XS.iconst X24.here hx rfl (hb hby at_202) ?_
        show own_S p e below T24 (mkF m 203 #[.val (.long q0), .second, .val (.long q1), .second, .val (.long q2), .second, .val (.long q3), .second, .val (.long q4), .second, .val (.int p5), .val (.int (0 : Int32)), .val (.int (0 : Int32)), .val (.ref b6), .val (.long (0 : Int64)), .second, .val (.long (0 : Int64)), .second, .val (.long (0 : Int64)), .second, .val (.long q1), .second, .val (.double (0 : UInt64)), .second] [(.int (1 : Int32))]) _
        refine XS.goto X24.here hx rfl (pc0 := 203) (pc' := 207) rfl (hb hby at_203) (by decide) (by decide) ?_
        exact k
      obtain ⟨fs, hr, hrun, hended, hW, hsame⟩ := X24.leave (v := some (.int (1 : Int32))) (fun h => by rw [Bd.returns] at h; cases h)
      refine ⟨_, _, K26 _ ?_, hrun, hended, _, _, rfl, ?_, ⟨_, rfl⟩, hW, hsame.mono (by decide) (by decide)⟩
      · exact retN X24 hx (t := .boolean) Bd.returns (by simp) (hb hby at_207) hr
      · show Q0 Z q0 q1 q2 q3 q4 p5 h0 n0 _ T24.heap _
        rw [e24]
        exact ⟨rfl, N24⟩
    · skip
      have K27 : own_K p e below SE s₁ (mkF m 28 #[.val (.long q0), .second, .val (.long q1), .second, .val (.long q2), .second, .val (.long q3), .second, .val (.long q4), .second, .val (.int p5), .val (.int (0 : Int32)), .val (.int (1 : Int32)), .unset, .unset, .unset, .unset, .unset, .unset, .unset, .unset, .unset, .unset, .unset] []) := by
        intro t k
        refine K4 _ ?_
        refine XS.ifNo X0.here hx rfl (hb hby at_18) rfl (XT.i0_eq_f c18_3) ?_
        show own_S p e below s₁ (mkF m 21 #[.val (.long q0), .second, .val (.long q1), .second, .val (.long q2), .second, .val (.long q3), .second, .val (.long q4), .second, .val (.int p5), .val (.int (0 : Int32)), .unset, .unset, .unset, .unset, .unset, .unset, .unset, .unset, .unset, .unset, .unset, .unset] []) _
        refine XS.iconst X0.here hx rfl (hb hby at_21) ?_
        show own_S p e below s₁ (mkF m 22 #[.val (.long q0), .second, .val (.long q1), .second, .val (.long q2), .second, .val (.long q3), .second, .val (.long q4), .second, .val (.int p5), .val (.int (0 : Int32)), .unset, .unset, .unset, .unset, .unset, .unset, .unset, .unset, .unset, .unset, .unset, .unset] [(.int (1 : Int32))]) _
        refine XS.goto X0.here hx rfl (pc0 := 22) (pc' := 26) rfl (hb hby at_22) (by decide) (by decide) ?_
        show own_S p e below s₁ (mkF m 26 #[.val (.long q0), .second, .val (.long q1), .second, .val (.long q2), .second, .val (.long q3), .second, .val (.long q4), .second, .val (.int p5), .val (.int (0 : Int32)), .unset, .unset, .unset, .unset, .unset, .unset, .unset, .unset, .unset, .unset, .unset, .unset] [(.int (1 : Int32))]) _
        refine XS.istore X0.here hx rfl (hb hby at_26) rfl (l' := #[.val (.long q0), .second, .val (.long q1), .second, .val (.long q2), .second, .val (.long q3), .second, .val (.long q4), .second, .val (.int p5), .val (.int (0 : Int32)), .val (.int (1 : Int32)), .unset, .unset, .unset, .unset, .unset, .unset, .unset, .unset, .unset, .unset, .unset]) rfl ?_
        exact k
      obtain ⟨T28, h28, X28, e28, E28, A28, D28, -, st28⟩ := newO X0 hx hZ hown (hw _ (List.mem_of_getElem? (i := 0) rfl)) (hw _ (List.mem_of_getElem? (i := 1) rfl)) (hw _ (List.mem_of_getElem? (i := 2) rfl)) e0 (g := (mkF m 28 #[.val (.long q0), .second, .val (.long q1), .second, .val (.long q2), .second, .val (.long q3), .second, .val (.long q4), .second, .val (.int p5), .val (.int (0 : Int32)), .val (.int (1 : Int32)), .unset, .unset, .unset, .unset, .unset, .unset, .unset, .unset, .unset, .unset, .unset] [])) rfl (hb hby at_28) (by decide) (by decide)
      obtain ⟨b28, g28⟩ : ∃ z, z = h0.size := ⟨_, rfl⟩
      rw [← g28] at A28 D28 st28
      have g_b28 : n0 ≤ b28 := Nat.le_trans Z0 (Nat.le_of_eq g28.symm)
      have sz_b28 : h0.size ≤ b28 := Nat.le_trans (Nat.le_refl _) (Nat.le_of_eq g28.symm)
      have Kp28 : Keep h0 h28 [] := Keep.ext (Keep.refl h0 []) E28
      have F_processingTimes_b28 : Fld Z h28 b28 "com/example/headroom/headroom/model/Member" "processingTimes" "Ljava/util/Deque;" .null := D28 (Or.inr (hw _ (List.mem_of_getElem? (i := 28) rfl))) (ty := (.object "java/util/Deque")) (by decide)
      have F_subscription_b28 : Fld Z h28 b28 "com/example/headroom/headroom/model/Member" "subscription" "Lcom/example/headroom/headroom/model/Subscription;" .null := D28 (Or.inl (hw _ (List.mem_of_getElem? (i := 30) rfl))) (ty := (.object "com/example/headroom/headroom/model/Subscription")) (by decide)
      have F_joinOrder_b28 : Fld Z h28 b28 "com/example/headroom/headroom/model/Member" "joinOrder" "J" (.long (0 : Int64)) := D28 (Or.inr (hw _ (List.mem_of_getElem? (i := 32) rfl))) (ty := .long) (by decide)
      have F_lastReportNanos_b28 : Fld Z h28 b28 "com/example/headroom/headroom/model/Member" "lastReportNanos" "J" (.long (0 : Int64)) := D28 (Or.inl (hw _ (List.mem_of_getElem? (i := 34) rfl))) (ty := .long) (by decide)
      have F_lastSentNanos_b28 : Fld Z h28 b28 "com/example/headroom/headroom/model/Member" "lastSentNanos" "J" (.long (0 : Int64)) := D28 (Or.inl (hw _ (List.mem_of_getElem? (i := 36) rfl))) (ty := .long) (by decide)
      have F_lastAcknowledgedNanos_b28 : Fld Z h28 b28 "com/example/headroom/headroom/model/Member" "lastAcknowledgedNanos" "J" (.long (0 : Int64)) := D28 (Or.inl (hw _ (List.mem_of_getElem? (i := 38) rfl))) (ty := .long) (by decide)
      have F_reported_b28 : Fld Z h28 b28 "com/example/headroom/headroom/model/Member" "reported" "Z" (.int (0 : Int32)) := D28 (Or.inl (hw _ (List.mem_of_getElem? (i := 45) rfl))) (ty := .boolean) (by decide)
      have F_pending_b28 : Fld Z h28 b28 "com/example/headroom/headroom/model/Member" "pending" "J" (.long (0 : Int64)) := D28 (Or.inl (hw _ (List.mem_of_getElem? (i := 52) rfl))) (ty := .long) (by decide)
      have F_sentSinceReport_b28 : Fld Z h28 b28 "com/example/headroom/headroom/model/Member" "sentSinceReport" "J" (.long (0 : Int64)) := D28 (Or.inl (hw _ (List.mem_of_getElem? (i := 54) rfl))) (ty := .long) (by decide)
      have F_processingMs_b28 : Fld Z h28 b28 "com/example/headroom/headroom/model/Member" "processingMs" "D" (.double (0 : UInt64)) := D28 (Or.inl (hw _ (List.mem_of_getElem? (i := 61) rfl))) (ty := .double) (by decide)
      have F_delivered_b28 : Fld Z h28 b28 "com/example/headroom/headroom/model/Member" "delivered" "J" (.long (0 : Int64)) := D28 (Or.inl (hw _ (List.mem_of_getElem? (i := 68) rfl))) (ty := .long) (by decide)
      have K28 : own_K p e below SE T28 (mkF m 31 #[.val (.long q0), .second, .val (.long q1), .second, .val (.long q2), .second, .val (.long q3), .second, .val (.long q4), .second, .val (.int p5), .val (.int (0 : Int32)), .val (.int (1 : Int32)), .unset, .unset, .unset, .unset, .unset, .unset, .unset, .unset, .unset, .unset, .unset] [(.ref b28)]) := fun t k => K27 _ (st28 _ k)
      have K29 : own_K p e below SE T28 (mkF m 35 #[.val (.long q0), .second, .val (.long q1), .second, .val (.long q2), .second, .val (.long q3), .second, .val (.long q4), .second, .val (.int p5), .val (.int (0 : Int32)), .val (.int (1 : Int32)), .unset, .unset, .unset, .unset, .unset, .unset, .unset, .unset, .unset, .unset, .unset] [(.long q1), (.long q0), .null, (.ref b28), (.ref b28)]) := by
        intro t k
        refine K28 _ ?_
        refine XS.dup X28.here hx rfl (hb hby at_31) rfl rfl ?_
        show own_S p e below T28 (mkF m 32 #[.val (.long q0), .second, .val (.long q1), .second, .val (.long q2), .second, .val (.long q3), .second, .val (.long q4), .second, .val (.int p5), .val (.int (0 : Int32)), .val (.int (1 : Int32)), .unset, .unset, .unset, .unset, .unset, .unset, .unset, .unset, .unset, .unset, .unset] [(.ref b28), (.ref b28)]) _
        refine XS.aconstNull X28.here hx rfl (hb hby at_32) ?_
        show own_S p e below T28 (mkF m 33 #[.val (.long q0), .second, .val (.long q1), .second, .val (.long q2), .second, .val (.long q3), .second, .val (.long q4), .second, .val (.int p5), .val (.int (0 : Int32)), .val (.int (1 : Int32)), .unset, .unset, .unset, .unset, .unset, .unset, .unset, .unset, .unset, .unset, .unset] [.null, (.ref b28), (.ref b28)]) _
        refine XS.lloadN X28.here hx rfl (hb hby at_33) rfl ?_
        show own_S p e below T28 (mkF m 34 #[.val (.long q0), .second, .val (.long q1), .second, .val (.long q2), .second, .val (.long q3), .second, .val (.long q4), .second, .val (.int p5), .val (.int (0 : Int32)), .val (.int (1 : Int32)), .unset, .unset, .unset, .unset, .unset, .unset, .unset, .unset, .unset, .unset, .unset] [(.long q0), .null, (.ref b28), (.ref b28)]) _
        refine XS.lloadN X28.here hx rfl (hb hby at_34) rfl ?_
        exact k
      obtain ⟨_, _, ⟨T30, L30, k30, n30⟩, -, X30, ⟨Lc30, hQ30, l30, y30, z30⟩, st30⟩ := X28.specialBack hx (y := (⟨"com/example/headroom/headroom/model/Member", "<init>", "(Lcom/example/headroom/headroom/model/Subscription;JJ)V"⟩ : MethodName)) rfl hown (mvT hZ (hw _ (List.mem_of_getElem? (i := 3) rfl))) (mvT hZ (hw _ (List.mem_of_getElem? (i := 4) rfl))) (mvT hZ (hw _ (List.mem_of_getElem? (i := 5) rfl))) (by decide) (backOf (W := 1) (rmmi l Z a0 hw [] b28 q0 q1 h28 n0 (Nat.le_trans Z0 Kp28.1) A28 F_processingTimes_b28 F_subscription_b28 F_joinOrder_b28 F_pending_b28 F_processingMs_b28 F_sentSinceReport_b28 F_delivered_b28 F_lastReportNanos_b28 F_lastSentNanos_b28 F_reported_b28 F_lastAcknowledgedNanos_b28 g_b28) hZ (hw _ (List.mem_of_getElem? (i := 5) rfl)) (hw _ (List.mem_of_getElem? (i := 2) rfl)) (by decide) (by decide)) (g := (mkF m 35 #[.val (.long q0), .second, .val (.long q1), .second, .val (.long q2), .second, .val (.long q3), .second, .val (.long q4), .second, .val (.int p5), .val (.int (0 : Int32)), .val (.int (1 : Int32)), .unset, .unset, .unset, .unset, .unset, .unset, .unset, .unset, .unset, .unset, .unset] [(.long q1), (.long q0), .null, (.ref b28), (.ref b28)])) rfl (by rw [hml]; rfl) (Steps.refl _) (a := b28) (argsL := [.null, (.long q0), (.long q1)]) (rest := [(.ref b28)]) (lenOf pd_0_0 rfl) rfl (by show 2 * 0 + _ ≤ _; exact Nat.le_of_eq rfl) (hb hby at_35) (fun _ _ => ⟨rfl, e28, (by decide : 1 + 2 ≤ _), (by decide : 11 + 9 ≤ _)⟩)
      dsimp only [Pt.U, Pt.locs, Pt.cells, Pt.slots] at X30 l30 y30 z30 st30 hQ30
      rw [y30, z30] at X30
      obtain ⟨rfl, Nq30, Kq30, Ex30, d, ea, kE, hs_d, hs_ea, own_ne_d_ea, Ov, M30_processingTimes, M30_pending, M30_processingMs, M30_sentSinceReport, M30_delivered, M30_lastReportNanos, M30_lastSentNanos, M30_reported, M30_lastAcknowledgedNanos, Ed30, Fh30, Ft30, Fe30, Va30⟩ := hQ30
      have N30 : Fr n0 L30 := by rw [l30]; exact Fr.app N0 Nq30
      have Kp30 : Keep h0 T30.heap [] := Keep.trans Kp28 Kq30 (allS (Or.inr sz_b28) all0)
      have K30 : own_K p e below SE T30 (mkF m 38 #[.val (.long q0), .second, .val (.long q1), .second, .val (.long q2), .second, .val (.long q3), .second, .val (.long q4), .second, .val (.int p5), .val (.int (0 : Int32)), .val (.int (1 : Int32)), .unset, .unset, .unset, .unset, .unset, .unset, .unset, .unset, .unset, .unset, .unset] [(.ref b28)]) := fun t k => K29 _ (st30.trans k)
      have own_ne_b28_d : b28 ≠ d := Nat.ne_of_lt (Nat.lt_of_lt_of_le A28.lt hs_d)
      have g_d : n0 ≤ d := Nat.le_trans (Nat.le_trans Z0 Kp28.1) hs_d
      have sz_d : h0.size ≤ d := Nat.le_trans Kp28.1 hs_d
      have own_ne_b28_ea : b28 ≠ ea := Nat.ne_of_lt (Nat.lt_of_lt_of_le A28.lt hs_ea)
      have g_ea : n0 ≤ ea := Nat.le_trans (Nat.le_trans Z0 Kp28.1) hs_ea
      have sz_ea : h0.size ≤ ea := Nat.le_trans Kp28.1 hs_ea
      have hvm : NoNaN64 (0 : UInt64) := own_zz
      have K31 : own_K p e below SE T30 (mkF m 64 #[.val (.long q0), .second, .val (.long q1), .second, .val (.long q2), .second, .val (.long q3), .second, .val (.long q4), .second, .val (.int p5), .val (.int (0 : Int32)), .val (.int (1 : Int32)), .val (.ref b28), .unset, .unset, .unset, .unset, .unset, .unset, .unset, .unset, .unset, .unset] [(.long q2), (.long q4), (.long q1), (.ref b28)]) := by
        intro t k
        refine K30 _ ?_
        refine XS.astore X30.here hx rfl (hb hby at_38) rfl rfl (l' := #[.val (.long q0), .second, .val (.long q1), .second, .val (.long q2), .second, .val (.long q3), .second, .val (.long q4), .second, .val (.int p5), .val (.int (0 : Int32)), .val (.int (1 : Int32)), .val (.ref b28), .unset, .unset, .unset, .unset, .unset, .unset, .unset, .unset, .unset, .unset]) rfl ?_
        show own_S p e below T30 (mkF m 40 #[.val (.long q0), .second, .val (.long q1), .second, .val (.long q2), .second, .val (.long q3), .second, .val (.long q4), .second, .val (.int p5), .val (.int (0 : Int32)), .val (.int (1 : Int32)), .val (.ref b28), .unset, .unset, .unset, .unset, .unset, .unset, .unset, .unset, .unset, .unset] []) _
        refine XS.iload X30.here hx rfl (hb hby at_40) rfl ?_
        show own_S p e below T30 (mkF m 42 #[.val (.long q0), .second, .val (.long q1), .second, .val (.long q2), .second, .val (.long q3), .second, .val (.long q4), .second, .val (.int p5), .val (.int (0 : Int32)), .val (.int (1 : Int32)), .val (.ref b28), .unset, .unset, .unset, .unset, .unset, .unset, .unset, .unset, .unset, .unset] [(.int (0 : Int32))]) _
        refine XS.ifYes X30.here hx rfl (pc0 := 42) (pc' := 52) rfl (hb hby at_42) rfl (XT.i0_eq_t (by decide : (0 : Int32) = 0)) (by decide) (by decide) ?_
        show own_S p e below T30 (mkF m 52 #[.val (.long q0), .second, .val (.long q1), .second, .val (.long q2), .second, .val (.long q3), .second, .val (.long q4), .second, .val (.int p5), .val (.int (0 : Int32)), .val (.int (1 : Int32)), .val (.ref b28), .unset, .unset, .unset, .unset, .unset, .unset, .unset, .unset, .unset, .unset] []) _
        refine XS.iload X30.here hx rfl (hb hby at_52) rfl ?_
        show own_S p e below T30 (mkF m 54 #[.val (.long q0), .second, .val (.long q1), .second, .val (.long q2), .second, .val (.long q3), .second, .val (.long q4), .second, .val (.int p5), .val (.int (0 : Int32)), .val (.int (1 : Int32)), .val (.ref b28), .unset, .unset, .unset, .unset, .unset, .unset, .unset, .unset, .unset, .unset] [(.int (1 : Int32))]) _
        refine XS.ifNo X30.here hx rfl (hb hby at_54) rfl (XT.i0_eq_f (by decide : ¬ ((1 : Int32) = 0))) ?_
        show own_S p e below T30 (mkF m 57 #[.val (.long q0), .second, .val (.long q1), .second, .val (.long q2), .second, .val (.long q3), .second, .val (.long q4), .second, .val (.int p5), .val (.int (0 : Int32)), .val (.int (1 : Int32)), .val (.ref b28), .unset, .unset, .unset, .unset, .unset, .unset, .unset, .unset, .unset, .unset] []) _
        refine XS.aload X30.here hx rfl (hb hby at_57) rfl rfl ?_
        show own_S p e below T30 (mkF m 59 #[.val (.long q0), .second, .val (.long q1), .second, .val (.long q2), .second, .val (.long q3), .second, .val (.long q4), .second, .val (.int p5), .val (.int (0 : Int32)), .val (.int (1 : Int32)), .val (.ref b28), .unset, .unset, .unset, .unset, .unset, .unset, .unset, .unset, .unset, .unset] [(.ref b28)]) _
        refine XS.lloadN X30.here hx rfl (hb hby at_59) rfl ?_
        show own_S p e below T30 (mkF m 60 #[.val (.long q0), .second, .val (.long q1), .second, .val (.long q2), .second, .val (.long q3), .second, .val (.long q4), .second, .val (.int p5), .val (.int (0 : Int32)), .val (.int (1 : Int32)), .val (.ref b28), .unset, .unset, .unset, .unset, .unset, .unset, .unset, .unset, .unset, .unset] [(.long q1), (.ref b28)]) _
        refine XS.lload X30.here hx rfl (hb hby at_60) rfl ?_
        show own_S p e below T30 (mkF m 62 #[.val (.long q0), .second, .val (.long q1), .second, .val (.long q2), .second, .val (.long q3), .second, .val (.long q4), .second, .val (.int p5), .val (.int (0 : Int32)), .val (.int (1 : Int32)), .val (.ref b28), .unset, .unset, .unset, .unset, .unset, .unset, .unset, .unset, .unset, .unset] [(.long q4), (.long q1), (.ref b28)]) _
        refine XS.lload X30.here hx rfl (hb hby at_62) rfl ?_
        exact k
      obtain ⟨cq32, kq32, q32a, q32b, q32c⟩ := isOf hZ rfl Ex30
      obtain ⟨_, _, ⟨T32, L32, k32, n32⟩, -, X32, ⟨Lc32, hQ32, l32, y32, z32⟩, st32⟩ := X30.virtualBack hx (y := (⟨"com/example/headroom/headroom/model/Member", "acknowledged", "(JJJ)V"⟩ : MethodName)) (z := (⟨"com/example/headroom/headroom/model/Member", "acknowledged", "(JJJ)V"⟩ : MethodName)) hown (mvT hZ (hw _ (List.mem_of_getElem? (i := 39) rfl))) (mvT hZ (hw _ (List.mem_of_getElem? (i := 40) rfl))) (notFace_of_selects (args := #[]) (mvT hZ (hw _ (List.mem_of_getElem? (i := 42) rfl)))) (mvT hZ (hw _ (List.mem_of_getElem? (i := 42) rfl))) (mvT hZ (hw _ (List.mem_of_getElem? (i := 41) rfl))) (by decide) (backOf (W := 0) (rmak l Z a0 hw [] b28 q1 q4 q2 (0 : Int64) (0 : UInt64) (0 : Int64) (0 : Int64) q1 q1 d q1 ea kE T30.heap n0 (Nat.le_trans Z0 Kp30.1) hvm Ex30 M30_pending M30_processingMs M30_sentSinceReport M30_delivered M30_lastReportNanos M30_lastSentNanos M30_processingTimes M30_reported M30_lastAcknowledgedNanos Ed30 Fh30 Ft30 Fe30 Va30 Ov g_b28 g_d g_ea own_ne_b28_d own_ne_b28_ea own_ne_d_ea) hZ (hw _ (List.mem_of_getElem? (i := 43) rfl)) (hw _ (List.mem_of_getElem? (i := 2) rfl)) (by decide) (by decide)) q32a q32c (g := (mkF m 64 #[.val (.long q0), .second, .val (.long q1), .second, .val (.long q2), .second, .val (.long q3), .second, .val (.long q4), .second, .val (.int p5), .val (.int (0 : Int32)), .val (.int (1 : Int32)), .val (.ref b28), .unset, .unset, .unset, .unset, .unset, .unset, .unset, .unset, .unset, .unset] [(.long q2), (.long q4), (.long q1), (.ref b28)])) rfl (by rw [hml]; rfl) (Steps.refl _) (argsL := [(.long q1), (.long q4), (.long q2)]) (rest := []) (lenOf pd_0_4 rfl) rfl (by show 2 * 0 + _ ≤ _; exact Nat.le_of_eq rfl) (hb hby at_64) (fun _ _ => ⟨rfl, rfl, (by decide : 3 + 2 ≤ _), (by decide : 20 + 5 ≤ _)⟩)
      dsimp only [Pt.U, Pt.locs, Pt.cells, Pt.slots] at X32 l32 y32 z32 st32 hQ32
      rw [y32, z32] at X32
      obtain ⟨rfl, Nq32, Kq32, Ex32, vz, hvz, Fz32, M32_pending, M32_sentSinceReport, M32_delivered, M32_lastReportNanos, M32_lastSentNanos, M32_processingTimes, M32_reported, M32_lastAcknowledgedNanos⟩ := hQ32
      have N32 : Fr n0 L32 := by rw [l32]; exact Fr.app N30 Nq32
      have Kp32 : Keep h0 T32.heap [] := Keep.trans Kp30 Kq32 (allS (Or.inr sz_b28) (allS (Or.inr sz_d) (allS (Or.inr sz_ea) all0)))
      have K32 : own_K p e below SE T32 (mkF m 67 #[.val (.long q0), .second, .val (.long q1), .second, .val (.long q2), .second, .val (.long q3), .second, .val (.long q4), .second, .val (.int p5), .val (.int (0 : Int32)), .val (.int (1 : Int32)), .val (.ref b28), .unset, .unset, .unset, .unset, .unset, .unset, .unset, .unset, .unset, .unset] []) := fun t k => K31 _ (st32.trans k)
      have K33 : own_K p e below SE T32 (mkF m 120 #[.val (.long q0), .second, .val (.long q1), .second, .val (.long q2), .second, .val (.long q3), .second, .val (.long q4), .second, .val (.int p5), .val (.int (0 : Int32)), .val (.int (1 : Int32)), .val (.ref b28), .val (.long (0 : Int64)), .second, .val (.long (0 : Int64)), .second, .val (.long q4), .second, .val (.long q2), .second, .unset, .unset] [(.ref b28)]) := by
        intro t k
        refine K32 _ ?_
        refine XS.iload X32.here hx rfl (hb hby at_67) rfl ?_
        show own_S p e below T32 (mkF m 69 #[.val (.long q0), .second, .val (.long q1), .second, .val (.long q2), .second, .val (.long q3), .second, .val (.long q4), .second, .val (.int p5), .val (.int (0 : Int32)), .val (.int (1 : Int32)), .val (.ref b28), .unset, .unset, .unset, .unset, .unset, .unset, .unset, .unset, .unset, .unset] [(.int (0 : Int32))]) _
        refine XS.ifYes X32.here hx rfl (pc0 := 69) (pc' := 76) rfl (hb hby at_69) rfl (XT.i0_eq_t (by decide : (0 : Int32) = 0)) (by decide) (by decide) ?_
        show own_S p e below T32 (mkF m 76 #[.val (.long q0), .second, .val (.long q1), .second, .val (.long q2), .second, .val (.long q3), .second, .val (.long q4), .second, .val (.int p5), .val (.int (0 : Int32)), .val (.int (1 : Int32)), .val (.ref b28), .unset, .unset, .unset, .unset, .unset, .unset, .unset, .unset, .unset, .unset] []) _
        refine XS.lconst X32.here hx rfl (hb hby at_76) ?_
        show own_S p e below T32 (mkF m 77 #[.val (.long q0), .second, .val (.long q1), .second, .val (.long q2), .second, .val (.long q3), .second, .val (.long q4), .second, .val (.int p5), .val (.int (0 : Int32)), .val (.int (1 : Int32)), .val (.ref b28), .unset, .unset, .unset, .unset, .unset, .unset, .unset, .unset, .unset, .unset] [(.long (0 : Int64))]) _
        refine XS.lstore X32.here hx rfl (hb hby at_77) rfl (l' := #[.val (.long q0), .second, .val (.long q1), .second, .val (.long q2), .second, .val (.long q3), .second, .val (.long q4), .second, .val (.int p5), .val (.int (0 : Int32)), .val (.int (1 : Int32)), .val (.ref b28), .val (.long (0 : Int64)), .second, .unset, .unset, .unset, .unset, .unset, .unset, .unset, .unset]) rfl ?_
        show own_S p e below T32 (mkF m 79 #[.val (.long q0), .second, .val (.long q1), .second, .val (.long q2), .second, .val (.long q3), .second, .val (.long q4), .second, .val (.int p5), .val (.int (0 : Int32)), .val (.int (1 : Int32)), .val (.ref b28), .val (.long (0 : Int64)), .second, .unset, .unset, .unset, .unset, .unset, .unset, .unset, .unset] []) _
        refine XS.iload X32.here hx rfl (hb hby at_79) rfl ?_
        show own_S p e below T32 (mkF m 81 #[.val (.long q0), .second, .val (.long q1), .second, .val (.long q2), .second, .val (.long q3), .second, .val (.long q4), .second, .val (.int p5), .val (.int (0 : Int32)), .val (.int (1 : Int32)), .val (.ref b28), .val (.long (0 : Int64)), .second, .unset, .unset, .unset, .unset, .unset, .unset, .unset, .unset] [(.int (1 : Int32))]) _
        refine XS.ifNo X32.here hx rfl (hb hby at_81) rfl (XT.i0_eq_f (by decide : ¬ ((1 : Int32) = 0))) ?_
        show own_S p e below T32 (mkF m 84 #[.val (.long q0), .second, .val (.long q1), .second, .val (.long q2), .second, .val (.long q3), .second, .val (.long q4), .second, .val (.int p5), .val (.int (0 : Int32)), .val (.int (1 : Int32)), .val (.ref b28), .val (.long (0 : Int64)), .second, .unset, .unset, .unset, .unset, .unset, .unset, .unset, .unset] []) _
        refine XS.lconst X32.here hx rfl (hb hby at_84) ?_
        show own_S p e below T32 (mkF m 85 #[.val (.long q0), .second, .val (.long q1), .second, .val (.long q2), .second, .val (.long q3), .second, .val (.long q4), .second, .val (.int p5), .val (.int (0 : Int32)), .val (.int (1 : Int32)), .val (.ref b28), .val (.long (0 : Int64)), .second, .unset, .unset, .unset, .unset, .unset, .unset, .unset, .unset] [(.long (0 : Int64))]) _
        refine XS.goto X32.here hx rfl (pc0 := 85) (pc' := 90) rfl (hb hby at_85) (by decide) (by decide) ?_
        show own_S p e below T32 (mkF m 90 #[.val (.long q0), .second, .val (.long q1), .second, .val (.long q2), .second, .val (.long q3), .second, .val (.long q4), .second, .val (.int p5), .val (.int (0 : Int32)), .val (.int (1 : Int32)), .val (.ref b28), .val (.long (0 : Int64)), .second, .unset, .unset, .unset, .unset, .unset, .unset, .unset, .unset] [(.long (0 : Int64))]) _
        refine XS.lstore X32.here hx rfl (hb hby at_90) rfl (l' := #[.val (.long q0), .second, .val (.long q1), .second, .val (.long q2), .second, .val (.long q3), .second, .val (.long q4), .second, .val (.int p5), .val (.int (0 : Int32)), .val (.int (1 : Int32)), .val (.ref b28), .val (.long (0 : Int64)), .second, .val (.long (0 : Int64)), .second, .unset, .unset, .unset, .unset, .unset, .unset]) rfl ?_
        show own_S p e below T32 (mkF m 92 #[.val (.long q0), .second, .val (.long q1), .second, .val (.long q2), .second, .val (.long q3), .second, .val (.long q4), .second, .val (.int p5), .val (.int (0 : Int32)), .val (.int (1 : Int32)), .val (.ref b28), .val (.long (0 : Int64)), .second, .val (.long (0 : Int64)), .second, .unset, .unset, .unset, .unset, .unset, .unset] []) _
        refine XS.iload X32.here hx rfl (hb hby at_92) rfl ?_
        show own_S p e below T32 (mkF m 94 #[.val (.long q0), .second, .val (.long q1), .second, .val (.long q2), .second, .val (.long q3), .second, .val (.long q4), .second, .val (.int p5), .val (.int (0 : Int32)), .val (.int (1 : Int32)), .val (.ref b28), .val (.long (0 : Int64)), .second, .val (.long (0 : Int64)), .second, .unset, .unset, .unset, .unset, .unset, .unset] [(.int (1 : Int32))]) _
        refine XS.ifNo X32.here hx rfl (hb hby at_94) rfl (XT.i0_eq_f (by decide : ¬ ((1 : Int32) = 0))) ?_
        show own_S p e below T32 (mkF m 97 #[.val (.long q0), .second, .val (.long q1), .second, .val (.long q2), .second, .val (.long q3), .second, .val (.long q4), .second, .val (.int p5), .val (.int (0 : Int32)), .val (.int (1 : Int32)), .val (.ref b28), .val (.long (0 : Int64)), .second, .val (.long (0 : Int64)), .second, .unset, .unset, .unset, .unset, .unset, .unset] []) _
        refine XS.lload X32.here hx rfl (hb hby at_97) rfl ?_
        show own_S p e below T32 (mkF m 99 #[.val (.long q0), .second, .val (.long q1), .second, .val (.long q2), .second, .val (.long q3), .second, .val (.long q4), .second, .val (.int p5), .val (.int (0 : Int32)), .val (.int (1 : Int32)), .val (.ref b28), .val (.long (0 : Int64)), .second, .val (.long (0 : Int64)), .second, .unset, .unset, .unset, .unset, .unset, .unset] [(.long q4)]) _
        refine XS.goto X32.here hx rfl (pc0 := 99) (pc' := 103) rfl (hb hby at_99) (by decide) (by decide) ?_
        show own_S p e below T32 (mkF m 103 #[.val (.long q0), .second, .val (.long q1), .second, .val (.long q2), .second, .val (.long q3), .second, .val (.long q4), .second, .val (.int p5), .val (.int (0 : Int32)), .val (.int (1 : Int32)), .val (.ref b28), .val (.long (0 : Int64)), .second, .val (.long (0 : Int64)), .second, .unset, .unset, .unset, .unset, .unset, .unset] [(.long q4)]) _
        refine XS.lstore X32.here hx rfl (hb hby at_103) rfl (l' := #[.val (.long q0), .second, .val (.long q1), .second, .val (.long q2), .second, .val (.long q3), .second, .val (.long q4), .second, .val (.int p5), .val (.int (0 : Int32)), .val (.int (1 : Int32)), .val (.ref b28), .val (.long (0 : Int64)), .second, .val (.long (0 : Int64)), .second, .val (.long q4), .second, .unset, .unset, .unset, .unset]) rfl ?_
        show own_S p e below T32 (mkF m 105 #[.val (.long q0), .second, .val (.long q1), .second, .val (.long q2), .second, .val (.long q3), .second, .val (.long q4), .second, .val (.int p5), .val (.int (0 : Int32)), .val (.int (1 : Int32)), .val (.ref b28), .val (.long (0 : Int64)), .second, .val (.long (0 : Int64)), .second, .val (.long q4), .second, .unset, .unset, .unset, .unset] []) _
        refine XS.iload X32.here hx rfl (hb hby at_105) rfl ?_
        show own_S p e below T32 (mkF m 107 #[.val (.long q0), .second, .val (.long q1), .second, .val (.long q2), .second, .val (.long q3), .second, .val (.long q4), .second, .val (.int p5), .val (.int (0 : Int32)), .val (.int (1 : Int32)), .val (.ref b28), .val (.long (0 : Int64)), .second, .val (.long (0 : Int64)), .second, .val (.long q4), .second, .unset, .unset, .unset, .unset] [(.int (1 : Int32))]) _
        refine XS.ifNo X32.here hx rfl (hb hby at_107) rfl (XT.i0_eq_f (by decide : ¬ ((1 : Int32) = 0))) ?_
        show own_S p e below T32 (mkF m 110 #[.val (.long q0), .second, .val (.long q1), .second, .val (.long q2), .second, .val (.long q3), .second, .val (.long q4), .second, .val (.int p5), .val (.int (0 : Int32)), .val (.int (1 : Int32)), .val (.ref b28), .val (.long (0 : Int64)), .second, .val (.long (0 : Int64)), .second, .val (.long q4), .second, .unset, .unset, .unset, .unset] []) _
        refine XS.lload X32.here hx rfl (hb hby at_110) rfl ?_
        show own_S p e below T32 (mkF m 112 #[.val (.long q0), .second, .val (.long q1), .second, .val (.long q2), .second, .val (.long q3), .second, .val (.long q4), .second, .val (.int p5), .val (.int (0 : Int32)), .val (.int (1 : Int32)), .val (.ref b28), .val (.long (0 : Int64)), .second, .val (.long (0 : Int64)), .second, .val (.long q4), .second, .unset, .unset, .unset, .unset] [(.long q2)]) _
        refine XS.goto X32.here hx rfl (pc0 := 112) (pc' := 116) rfl (hb hby at_112) (by decide) (by decide) ?_
        show own_S p e below T32 (mkF m 116 #[.val (.long q0), .second, .val (.long q1), .second, .val (.long q2), .second, .val (.long q3), .second, .val (.long q4), .second, .val (.int p5), .val (.int (0 : Int32)), .val (.int (1 : Int32)), .val (.ref b28), .val (.long (0 : Int64)), .second, .val (.long (0 : Int64)), .second, .val (.long q4), .second, .unset, .unset, .unset, .unset] [(.long q2)]) _
        refine XS.lstore X32.here hx rfl (hb hby at_116) rfl (l' := #[.val (.long q0), .second, .val (.long q1), .second, .val (.long q2), .second, .val (.long q3), .second, .val (.long q4), .second, .val (.int p5), .val (.int (0 : Int32)), .val (.int (1 : Int32)), .val (.ref b28), .val (.long (0 : Int64)), .second, .val (.long (0 : Int64)), .second, .val (.long q4), .second, .val (.long q2), .second, .unset, .unset]) rfl ?_
        show own_S p e below T32 (mkF m 118 #[.val (.long q0), .second, .val (.long q1), .second, .val (.long q2), .second, .val (.long q3), .second, .val (.long q4), .second, .val (.int p5), .val (.int (0 : Int32)), .val (.int (1 : Int32)), .val (.ref b28), .val (.long (0 : Int64)), .second, .val (.long (0 : Int64)), .second, .val (.long q4), .second, .val (.long q2), .second, .unset, .unset] []) _
        refine XS.aload X32.here hx rfl (hb hby at_118) rfl rfl ?_
        exact k
      obtain ⟨cq34, kq34, q34a, q34b, q34c⟩ := isOf hZ rfl Ex32
      obtain ⟨_, _, ⟨T34, L34, k34, n34⟩, -, X34, ⟨Lc34, hQ34, l34, y34, z34⟩, st34⟩ := X32.virtualBack hx (y := (⟨"com/example/headroom/headroom/model/Member", "processingMs", "()D"⟩ : MethodName)) (z := (⟨"com/example/headroom/headroom/model/Member", "processingMs", "()D"⟩ : MethodName)) hown (mvT hZ (hw _ (List.mem_of_getElem? (i := 55) rfl))) (mvT hZ (hw _ (List.mem_of_getElem? (i := 56) rfl))) (notFace_of_selects (args := #[]) (mvT hZ (hw _ (List.mem_of_getElem? (i := 58) rfl)))) (mvT hZ (hw _ (List.mem_of_getElem? (i := 58) rfl))) (mvT hZ (hw _ (List.mem_of_getElem? (i := 57) rfl))) (by decide) (backOf (W := 0) (rmgprocessingMs l Z a0 hw [] b28 vz T32.heap n0 (Nat.le_trans Z0 Kp32.1) Fz32) hZ (hw _ (List.mem_of_getElem? (i := 59) rfl)) (hw _ (List.mem_of_getElem? (i := 2) rfl)) (by decide) (by decide)) q34a q34c (g := (mkF m 120 #[.val (.long q0), .second, .val (.long q1), .second, .val (.long q2), .second, .val (.long q3), .second, .val (.long q4), .second, .val (.int p5), .val (.int (0 : Int32)), .val (.int (1 : Int32)), .val (.ref b28), .val (.long (0 : Int64)), .second, .val (.long (0 : Int64)), .second, .val (.long q4), .second, .val (.long q2), .second, .unset, .unset] [(.ref b28)])) rfl (by rw [hml]; rfl) (Steps.refl _) (argsL := []) (rest := []) (lenOf pd_0_1 rfl) rfl (by show 2 * 0 + _ ≤ _; exact Nat.le_of_eq rfl) (hb hby at_120) (fun _ _ => ⟨rfl, rfl, (by decide : 5 + 0 ≤ _), (by decide : 25 + 0 ≤ _)⟩)
      dsimp only [Pt.U, Pt.locs, Pt.cells, Pt.slots] at X34 l34 y34 z34 st34 hQ34
      rw [y34, z34] at X34
      obtain ⟨rfl, Nq34, e34⟩ := hQ34
      have N34 : Fr n0 L34 := by rw [l34]; exact Fr.app N32 Nq34
      have K34 : own_K p e below SE T34 (mkF m 123 #[.val (.long q0), .second, .val (.long q1), .second, .val (.long q2), .second, .val (.long q3), .second, .val (.long q4), .second, .val (.int p5), .val (.int (0 : Int32)), .val (.int (1 : Int32)), .val (.ref b28), .val (.long (0 : Int64)), .second, .val (.long (0 : Int64)), .second, .val (.long q4), .second, .val (.long q2), .second, .unset, .unset] [(.double vz)]) := fun t k => K33 _ (st34.trans k)
      have K35 : own_K p e below SE T34 (mkF m 129 #[.val (.long q0), .second, .val (.long q1), .second, .val (.long q2), .second, .val (.long q3), .second, .val (.long q4), .second, .val (.int p5), .val (.int (0 : Int32)), .val (.int (1 : Int32)), .val (.ref b28), .val (.long (0 : Int64)), .second, .val (.long (0 : Int64)), .second, .val (.long q4), .second, .val (.long q2), .second, .val (.double vz), .second] [(.long q3), (.ref b28)]) := by
        intro t k
        refine K34 _ ?_
        refine XS.dstore X34.here hx rfl (hb hby at_123) rfl (l' := #[.val (.long q0), .second, .val (.long q1), .second, .val (.long q2), .second, .val (.long q3), .second, .val (.long q4), .second, .val (.int p5), .val (.int (0 : Int32)), .val (.int (1 : Int32)), .val (.ref b28), .val (.long (0 : Int64)), .second, .val (.long (0 : Int64)), .second, .val (.long q4), .second, .val (.long q2), .second, .val (.double vz), .second]) rfl ?_
        show own_S p e below T34 (mkF m 125 #[.val (.long q0), .second, .val (.long q1), .second, .val (.long q2), .second, .val (.long q3), .second, .val (.long q4), .second, .val (.int p5), .val (.int (0 : Int32)), .val (.int (1 : Int32)), .val (.ref b28), .val (.long (0 : Int64)), .second, .val (.long (0 : Int64)), .second, .val (.long q4), .second, .val (.long q2), .second, .val (.double vz), .second] []) _
        refine XS.aload X34.here hx rfl (hb hby at_125) rfl rfl ?_
        show own_S p e below T34 (mkF m 127 #[.val (.long q0), .second, .val (.long q1), .second, .val (.long q2), .second, .val (.long q3), .second, .val (.long q4), .second, .val (.int p5), .val (.int (0 : Int32)), .val (.int (1 : Int32)), .val (.ref b28), .val (.long (0 : Int64)), .second, .val (.long (0 : Int64)), .second, .val (.long q4), .second, .val (.long q2), .second, .val (.double vz), .second] [(.ref b28)]) _
        refine XS.lload X34.here hx rfl (hb hby at_127) rfl ?_
        exact k
      obtain ⟨cq36, kq36, q36a, q36b, q36c⟩ := isOf hZ e34 Ex32
      obtain ⟨_, _, ⟨T36, L36, k36, n36⟩, -, X36, ⟨Lc36, hQ36, l36, y36, z36⟩, st36⟩ := X34.virtualBack hx (y := (⟨"com/example/headroom/headroom/model/Member", "sent", "(J)V"⟩ : MethodName)) (z := (⟨"com/example/headroom/headroom/model/Member", "sent", "(J)V"⟩ : MethodName)) hown (mvT hZ (hw _ (List.mem_of_getElem? (i := 62) rfl))) (mvT hZ (hw _ (List.mem_of_getElem? (i := 63) rfl))) (notFace_of_selects (args := #[]) (mvT hZ (hw _ (List.mem_of_getElem? (i := 65) rfl)))) (mvT hZ (hw _ (List.mem_of_getElem? (i := 65) rfl))) (mvT hZ (hw _ (List.mem_of_getElem? (i := 64) rfl))) (by decide) (backOf (W := 0) (rmse l Z a0 hw [] b28 q3 q4 vz (0 : Int64) (0 : Int64) q2 q1 d q2 T32.heap n0 (Nat.le_trans Z0 Kp32.1) Ex32 M32_pending Fz32 M32_sentSinceReport M32_delivered M32_lastReportNanos M32_lastSentNanos M32_processingTimes M32_reported M32_lastAcknowledgedNanos g_b28) hZ (hw _ (List.mem_of_getElem? (i := 66) rfl)) (hw _ (List.mem_of_getElem? (i := 2) rfl)) (by decide) (by decide)) q36a q36c (g := (mkF m 129 #[.val (.long q0), .second, .val (.long q1), .second, .val (.long q2), .second, .val (.long q3), .second, .val (.long q4), .second, .val (.int p5), .val (.int (0 : Int32)), .val (.int (1 : Int32)), .val (.ref b28), .val (.long (0 : Int64)), .second, .val (.long (0 : Int64)), .second, .val (.long q4), .second, .val (.long q2), .second, .val (.double vz), .second] [(.long q3), (.ref b28)])) rfl (by rw [hml]; rfl) (Steps.refl _) (argsL := [(.long q3)]) (rest := []) (lenOf pd_0_2 rfl) rfl (by show 2 * 0 + _ ≤ _; exact Nat.le_of_eq rfl) (hb hby at_129) (fun _ _ => ⟨rfl, e34, (by decide : 5 + 0 ≤ _), (by decide : 25 + 0 ≤ _)⟩)
      dsimp only [Pt.U, Pt.locs, Pt.cells, Pt.slots] at X36 l36 y36 z36 st36 hQ36
      rw [y36, z36] at X36
      obtain ⟨rfl, Nq36, Kq36, Ex36, M36_pending, M36_processingMs, M36_sentSinceReport, M36_delivered, M36_lastReportNanos, M36_lastSentNanos, M36_processingTimes, M36_reported, M36_lastAcknowledgedNanos⟩ := hQ36
      have N36 : Fr n0 L36 := by rw [l36]; exact Fr.app N34 Nq36
      have Kp36 : Keep h0 T36.heap [] := Keep.trans Kp32 Kq36 (allS (Or.inr sz_b28) all0)
      have K36 : own_K p e below SE T36 (mkF m 132 #[.val (.long q0), .second, .val (.long q1), .second, .val (.long q2), .second, .val (.long q3), .second, .val (.long q4), .second, .val (.int p5), .val (.int (0 : Int32)), .val (.int (1 : Int32)), .val (.ref b28), .val (.long (0 : Int64)), .second, .val (.long (0 : Int64)), .second, .val (.long q4), .second, .val (.long q2), .second, .val (.double vz), .second] []) := fun t k => K35 _ (st36.trans k)
      have N36_sentSinceReport : Fld Z T36.heap b28 "com/example/headroom/headroom/model/Member" "sentSinceReport" "J" (.long (1 : Int64)) := by
        have w := M36_sentSinceReport
        rw [show ((0 : Int64) + (1 : Int64)) = (1 : Int64) from by decide] at w
        exact w
      have N36_delivered : Fld Z T36.heap b28 "com/example/headroom/headroom/model/Member" "delivered" "J" (.long (1 : Int64)) := by
        have w := M36_delivered
        rw [show ((0 : Int64) + (1 : Int64)) = (1 : Int64) from by decide] at w
        exact w
      have K37 : own_K p e below SE T36 (mkF m 134 #[.val (.long q0), .second, .val (.long q1), .second, .val (.long q2), .second, .val (.long q3), .second, .val (.long q4), .second, .val (.int p5), .val (.int (0 : Int32)), .val (.int (1 : Int32)), .val (.ref b28), .val (.long (0 : Int64)), .second, .val (.long (0 : Int64)), .second, .val (.long q4), .second, .val (.long q2), .second, .val (.double vz), .second] [(.ref b28)]) := by
        intro t k
        refine K36 _ ?_
        refine XS.aload X36.here hx rfl (hb hby at_132) rfl rfl ?_
        exact k
      obtain ⟨cq38, kq38, q38a, q38b, q38c⟩ := isOf hZ rfl Ex36
      obtain ⟨_, _, ⟨T38, L38, k38, n38⟩, -, X38, ⟨Lc38, hQ38, l38, y38, z38⟩, st38⟩ := X36.virtualBack hx (y := (⟨"com/example/headroom/headroom/model/Member", "sentSinceReport", "()J"⟩ : MethodName)) (z := (⟨"com/example/headroom/headroom/model/Member", "sentSinceReport", "()J"⟩ : MethodName)) hown (mvT hZ (hw _ (List.mem_of_getElem? (i := 69) rfl))) (mvT hZ (hw _ (List.mem_of_getElem? (i := 70) rfl))) (notFace_of_selects (args := #[]) (mvT hZ (hw _ (List.mem_of_getElem? (i := 72) rfl)))) (mvT hZ (hw _ (List.mem_of_getElem? (i := 72) rfl))) (mvT hZ (hw _ (List.mem_of_getElem? (i := 71) rfl))) (by decide) (backOf (W := 0) (rmgsentSinceReport l Z a0 hw [] b28 (1 : Int64) T36.heap n0 (Nat.le_trans Z0 Kp36.1) N36_sentSinceReport) hZ (hw _ (List.mem_of_getElem? (i := 73) rfl)) (hw _ (List.mem_of_getElem? (i := 2) rfl)) (by decide) (by decide)) q38a q38c (g := (mkF m 134 #[.val (.long q0), .second, .val (.long q1), .second, .val (.long q2), .second, .val (.long q3), .second, .val (.long q4), .second, .val (.int p5), .val (.int (0 : Int32)), .val (.int (1 : Int32)), .val (.ref b28), .val (.long (0 : Int64)), .second, .val (.long (0 : Int64)), .second, .val (.long q4), .second, .val (.long q2), .second, .val (.double vz), .second] [(.ref b28)])) rfl (by rw [hml]; rfl) (Steps.refl _) (argsL := []) (rest := []) (lenOf pd_0_3 rfl) rfl (by show 2 * 0 + _ ≤ _; exact Nat.le_of_eq rfl) (hb hby at_134) (fun _ _ => ⟨rfl, rfl, (by decide : 5 + 0 ≤ _), (by decide : 25 + 0 ≤ _)⟩)
      dsimp only [Pt.U, Pt.locs, Pt.cells, Pt.slots] at X38 l38 y38 z38 st38 hQ38
      rw [y38, z38] at X38
      obtain ⟨rfl, Nq38, e38⟩ := hQ38
      have N38 : Fr n0 L38 := by rw [l38]; exact Fr.app N36 Nq38
      have K38 : own_K p e below SE T38 (mkF m 137 #[.val (.long q0), .second, .val (.long q1), .second, .val (.long q2), .second, .val (.long q3), .second, .val (.long q4), .second, .val (.int p5), .val (.int (0 : Int32)), .val (.int (1 : Int32)), .val (.ref b28), .val (.long (0 : Int64)), .second, .val (.long (0 : Int64)), .second, .val (.long q4), .second, .val (.long q2), .second, .val (.double vz), .second] [(.long (1 : Int64))]) := fun t k => K37 _ (st38.trans k)
      have K39 : own_K p e below SE T38 (mkF m 147 #[.val (.long q0), .second, .val (.long q1), .second, .val (.long q2), .second, .val (.long q3), .second, .val (.long q4), .second, .val (.int p5), .val (.int (0 : Int32)), .val (.int (1 : Int32)), .val (.ref b28), .val (.long (0 : Int64)), .second, .val (.long (0 : Int64)), .second, .val (.long q4), .second, .val (.long q2), .second, .val (.double vz), .second] [(.ref b28)]) := by
        intro t k
        refine K38 _ ?_
        refine XS.lload X38.here hx rfl (hb hby at_137) rfl ?_
        show own_S p e below T38 (mkF m 139 #[.val (.long q0), .second, .val (.long q1), .second, .val (.long q2), .second, .val (.long q3), .second, .val (.long q4), .second, .val (.int p5), .val (.int (0 : Int32)), .val (.int (1 : Int32)), .val (.ref b28), .val (.long (0 : Int64)), .second, .val (.long (0 : Int64)), .second, .val (.long q4), .second, .val (.long q2), .second, .val (.double vz), .second] [(.long (0 : Int64)), (.long (1 : Int64))]) _
        refine XS.lconst X38.here hx rfl (hb hby at_139) ?_
        show own_S p e below T38 (mkF m 140 #[.val (.long q0), .second, .val (.long q1), .second, .val (.long q2), .second, .val (.long q3), .second, .val (.long q4), .second, .val (.int p5), .val (.int (0 : Int32)), .val (.int (1 : Int32)), .val (.ref b28), .val (.long (0 : Int64)), .second, .val (.long (0 : Int64)), .second, .val (.long q4), .second, .val (.long q2), .second, .val (.double vz), .second] [(.long (1 : Int64)), (.long (0 : Int64)), (.long (1 : Int64))]) _
        refine XS.ladd X38.here hx rfl (hb hby at_140) rfl ?_
        show own_S p e below T38 (mkF m 141 #[.val (.long q0), .second, .val (.long q1), .second, .val (.long q2), .second, .val (.long q3), .second, .val (.long q4), .second, .val (.int p5), .val (.int (0 : Int32)), .val (.int (1 : Int32)), .val (.ref b28), .val (.long (0 : Int64)), .second, .val (.long (0 : Int64)), .second, .val (.long q4), .second, .val (.long q2), .second, .val (.double vz), .second] [(.long (1 : Int64)), (.long (1 : Int64))]) _
        refine XT.lcmp X38.here hx rfl (hb hby at_141) rfl ?_
        show own_S p e below T38 (mkF m 142 #[.val (.long q0), .second, .val (.long q1), .second, .val (.long q2), .second, .val (.long q3), .second, .val (.long q4), .second, .val (.int p5), .val (.int (0 : Int32)), .val (.int (1 : Int32)), .val (.ref b28), .val (.long (0 : Int64)), .second, .val (.long (0 : Int64)), .second, .val (.long q4), .second, .val (.long q2), .second, .val (.double vz), .second] [(.int (XT.cmpL (1 : Int64) (1 : Int64)))]) _
        refine XS.ifNo X38.here hx rfl (hb hby at_142) rfl (XT.ll_ne_f (by decide : (1 : Int64) = (1 : Int64))) ?_
        show own_S p e below T38 (mkF m 145 #[.val (.long q0), .second, .val (.long q1), .second, .val (.long q2), .second, .val (.long q3), .second, .val (.long q4), .second, .val (.int p5), .val (.int (0 : Int32)), .val (.int (1 : Int32)), .val (.ref b28), .val (.long (0 : Int64)), .second, .val (.long (0 : Int64)), .second, .val (.long q4), .second, .val (.long q2), .second, .val (.double vz), .second] []) _
        refine XS.aload X38.here hx rfl (hb hby at_145) rfl rfl ?_
        exact k
      obtain ⟨cq40, kq40, q40a, q40b, q40c⟩ := isOf hZ e38 Ex36
      obtain ⟨_, _, ⟨T40, L40, k40, n40⟩, -, X40, ⟨Lc40, hQ40, l40, y40, z40⟩, st40⟩ := X38.virtualBack hx (y := (⟨"com/example/headroom/headroom/model/Member", "delivered", "()J"⟩ : MethodName)) (z := (⟨"com/example/headroom/headroom/model/Member", "delivered", "()J"⟩ : MethodName)) hown (mvT hZ (hw _ (List.mem_of_getElem? (i := 74) rfl))) (mvT hZ (hw _ (List.mem_of_getElem? (i := 75) rfl))) (notFace_of_selects (args := #[]) (mvT hZ (hw _ (List.mem_of_getElem? (i := 77) rfl)))) (mvT hZ (hw _ (List.mem_of_getElem? (i := 77) rfl))) (mvT hZ (hw _ (List.mem_of_getElem? (i := 76) rfl))) (by decide) (backOf (W := 0) (rmgdelivered l Z a0 hw [] b28 (1 : Int64) T36.heap n0 (Nat.le_trans Z0 Kp36.1) N36_delivered) hZ (hw _ (List.mem_of_getElem? (i := 78) rfl)) (hw _ (List.mem_of_getElem? (i := 2) rfl)) (by decide) (by decide)) q40a q40c (g := (mkF m 147 #[.val (.long q0), .second, .val (.long q1), .second, .val (.long q2), .second, .val (.long q3), .second, .val (.long q4), .second, .val (.int p5), .val (.int (0 : Int32)), .val (.int (1 : Int32)), .val (.ref b28), .val (.long (0 : Int64)), .second, .val (.long (0 : Int64)), .second, .val (.long q4), .second, .val (.long q2), .second, .val (.double vz), .second] [(.ref b28)])) rfl (by rw [hml]; rfl) (Steps.refl _) (argsL := []) (rest := []) (lenOf pd_0_3 rfl) rfl (by show 2 * 0 + _ ≤ _; exact Nat.le_of_eq rfl) (hb hby at_147) (fun _ _ => ⟨rfl, e38, (by decide : 5 + 0 ≤ _), (by decide : 25 + 0 ≤ _)⟩)
      dsimp only [Pt.U, Pt.locs, Pt.cells, Pt.slots] at X40 l40 y40 z40 st40 hQ40
      rw [y40, z40] at X40
      obtain ⟨rfl, Nq40, e40⟩ := hQ40
      have N40 : Fr n0 L40 := by rw [l40]; exact Fr.app N38 Nq40
      have K40 : own_K p e below SE T40 (mkF m 150 #[.val (.long q0), .second, .val (.long q1), .second, .val (.long q2), .second, .val (.long q3), .second, .val (.long q4), .second, .val (.int p5), .val (.int (0 : Int32)), .val (.int (1 : Int32)), .val (.ref b28), .val (.long (0 : Int64)), .second, .val (.long (0 : Int64)), .second, .val (.long q4), .second, .val (.long q2), .second, .val (.double vz), .second] [(.long (1 : Int64))]) := fun t k => K39 _ (st40.trans k)
      have K41 : own_K p e below SE T40 (mkF m 160 #[.val (.long q0), .second, .val (.long q1), .second, .val (.long q2), .second, .val (.long q3), .second, .val (.long q4), .second, .val (.int p5), .val (.int (0 : Int32)), .val (.int (1 : Int32)), .val (.ref b28), .val (.long (0 : Int64)), .second, .val (.long (0 : Int64)), .second, .val (.long q4), .second, .val (.long q2), .second, .val (.double vz), .second] [(.ref b28)]) := by
        intro t k
        refine K40 _ ?_
        refine XS.lload X40.here hx rfl (hb hby at_150) rfl ?_
        show own_S p e below T40 (mkF m 152 #[.val (.long q0), .second, .val (.long q1), .second, .val (.long q2), .second, .val (.long q3), .second, .val (.long q4), .second, .val (.int p5), .val (.int (0 : Int32)), .val (.int (1 : Int32)), .val (.ref b28), .val (.long (0 : Int64)), .second, .val (.long (0 : Int64)), .second, .val (.long q4), .second, .val (.long q2), .second, .val (.double vz), .second] [(.long (0 : Int64)), (.long (1 : Int64))]) _
        refine XS.lconst X40.here hx rfl (hb hby at_152) ?_
        show own_S p e below T40 (mkF m 153 #[.val (.long q0), .second, .val (.long q1), .second, .val (.long q2), .second, .val (.long q3), .second, .val (.long q4), .second, .val (.int p5), .val (.int (0 : Int32)), .val (.int (1 : Int32)), .val (.ref b28), .val (.long (0 : Int64)), .second, .val (.long (0 : Int64)), .second, .val (.long q4), .second, .val (.long q2), .second, .val (.double vz), .second] [(.long (1 : Int64)), (.long (0 : Int64)), (.long (1 : Int64))]) _
        refine XS.ladd X40.here hx rfl (hb hby at_153) rfl ?_
        show own_S p e below T40 (mkF m 154 #[.val (.long q0), .second, .val (.long q1), .second, .val (.long q2), .second, .val (.long q3), .second, .val (.long q4), .second, .val (.int p5), .val (.int (0 : Int32)), .val (.int (1 : Int32)), .val (.ref b28), .val (.long (0 : Int64)), .second, .val (.long (0 : Int64)), .second, .val (.long q4), .second, .val (.long q2), .second, .val (.double vz), .second] [(.long (1 : Int64)), (.long (1 : Int64))]) _
        refine XT.lcmp X40.here hx rfl (hb hby at_154) rfl ?_
        show own_S p e below T40 (mkF m 155 #[.val (.long q0), .second, .val (.long q1), .second, .val (.long q2), .second, .val (.long q3), .second, .val (.long q4), .second, .val (.int p5), .val (.int (0 : Int32)), .val (.int (1 : Int32)), .val (.ref b28), .val (.long (0 : Int64)), .second, .val (.long (0 : Int64)), .second, .val (.long q4), .second, .val (.long q2), .second, .val (.double vz), .second] [(.int (XT.cmpL (1 : Int64) (1 : Int64)))]) _
        refine XS.ifNo X40.here hx rfl (hb hby at_155) rfl (XT.ll_ne_f (by decide : (1 : Int64) = (1 : Int64))) ?_
        show own_S p e below T40 (mkF m 158 #[.val (.long q0), .second, .val (.long q1), .second, .val (.long q2), .second, .val (.long q3), .second, .val (.long q4), .second, .val (.int p5), .val (.int (0 : Int32)), .val (.int (1 : Int32)), .val (.ref b28), .val (.long (0 : Int64)), .second, .val (.long (0 : Int64)), .second, .val (.long q4), .second, .val (.long q2), .second, .val (.double vz), .second] []) _
        refine XS.aload X40.here hx rfl (hb hby at_158) rfl rfl ?_
        exact k
      obtain ⟨cq42, kq42, q42a, q42b, q42c⟩ := isOf hZ e40 Ex36
      obtain ⟨_, _, ⟨T42, L42, k42, n42⟩, -, X42, ⟨Lc42, hQ42, l42, y42, z42⟩, st42⟩ := X40.virtualBack hx (y := (⟨"com/example/headroom/headroom/model/Member", "lastSentNanos", "()J"⟩ : MethodName)) (z := (⟨"com/example/headroom/headroom/model/Member", "lastSentNanos", "()J"⟩ : MethodName)) hown (mvT hZ (hw _ (List.mem_of_getElem? (i := 79) rfl))) (mvT hZ (hw _ (List.mem_of_getElem? (i := 80) rfl))) (notFace_of_selects (args := #[]) (mvT hZ (hw _ (List.mem_of_getElem? (i := 82) rfl)))) (mvT hZ (hw _ (List.mem_of_getElem? (i := 82) rfl))) (mvT hZ (hw _ (List.mem_of_getElem? (i := 81) rfl))) (by decide) (backOf (W := 0) (rmglastSentNanos l Z a0 hw [] b28 q3 T36.heap n0 (Nat.le_trans Z0 Kp36.1) M36_lastSentNanos) hZ (hw _ (List.mem_of_getElem? (i := 83) rfl)) (hw _ (List.mem_of_getElem? (i := 2) rfl)) (by decide) (by decide)) q42a q42c (g := (mkF m 160 #[.val (.long q0), .second, .val (.long q1), .second, .val (.long q2), .second, .val (.long q3), .second, .val (.long q4), .second, .val (.int p5), .val (.int (0 : Int32)), .val (.int (1 : Int32)), .val (.ref b28), .val (.long (0 : Int64)), .second, .val (.long (0 : Int64)), .second, .val (.long q4), .second, .val (.long q2), .second, .val (.double vz), .second] [(.ref b28)])) rfl (by rw [hml]; rfl) (Steps.refl _) (argsL := []) (rest := []) (lenOf pd_0_3 rfl) rfl (by show 2 * 0 + _ ≤ _; exact Nat.le_of_eq rfl) (hb hby at_160) (fun _ _ => ⟨rfl, e40, (by decide : 5 + 0 ≤ _), (by decide : 25 + 0 ≤ _)⟩)
      dsimp only [Pt.U, Pt.locs, Pt.cells, Pt.slots] at X42 l42 y42 z42 st42 hQ42
      rw [y42, z42] at X42
      obtain ⟨rfl, Nq42, e42⟩ := hQ42
      have N42 : Fr n0 L42 := by rw [l42]; exact Fr.app N40 Nq42
      have K42 : own_K p e below SE T42 (mkF m 163 #[.val (.long q0), .second, .val (.long q1), .second, .val (.long q2), .second, .val (.long q3), .second, .val (.long q4), .second, .val (.int p5), .val (.int (0 : Int32)), .val (.int (1 : Int32)), .val (.ref b28), .val (.long (0 : Int64)), .second, .val (.long (0 : Int64)), .second, .val (.long q4), .second, .val (.long q2), .second, .val (.double vz), .second] [(.long q3)]) := fun t k => K41 _ (st42.trans k)
      have K43 : own_K p e below SE T42 (mkF m 171 #[.val (.long q0), .second, .val (.long q1), .second, .val (.long q2), .second, .val (.long q3), .second, .val (.long q4), .second, .val (.int p5), .val (.int (0 : Int32)), .val (.int (1 : Int32)), .val (.ref b28), .val (.long (0 : Int64)), .second, .val (.long (0 : Int64)), .second, .val (.long q4), .second, .val (.long q2), .second, .val (.double vz), .second] [(.ref b28)]) := by
        intro t k
        refine K42 _ ?_
        refine XS.lload X42.here hx rfl (hb hby at_163) rfl ?_
        show own_S p e below T42 (mkF m 165 #[.val (.long q0), .second, .val (.long q1), .second, .val (.long q2), .second, .val (.long q3), .second, .val (.long q4), .second, .val (.int p5), .val (.int (0 : Int32)), .val (.int (1 : Int32)), .val (.ref b28), .val (.long (0 : Int64)), .second, .val (.long (0 : Int64)), .second, .val (.long q4), .second, .val (.long q2), .second, .val (.double vz), .second] [(.long q3), (.long q3)]) _
        refine XT.lcmp X42.here hx rfl (hb hby at_165) rfl ?_
        show own_S p e below T42 (mkF m 166 #[.val (.long q0), .second, .val (.long q1), .second, .val (.long q2), .second, .val (.long q3), .second, .val (.long q4), .second, .val (.int p5), .val (.int (0 : Int32)), .val (.int (1 : Int32)), .val (.ref b28), .val (.long (0 : Int64)), .second, .val (.long (0 : Int64)), .second, .val (.long q4), .second, .val (.long q2), .second, .val (.double vz), .second] [(.int (XT.cmpL q3 q3))]) _
        refine XS.ifNo X42.here hx rfl (hb hby at_166) rfl (XT.ll_ne_f rfl) ?_
        show own_S p e below T42 (mkF m 169 #[.val (.long q0), .second, .val (.long q1), .second, .val (.long q2), .second, .val (.long q3), .second, .val (.long q4), .second, .val (.int p5), .val (.int (0 : Int32)), .val (.int (1 : Int32)), .val (.ref b28), .val (.long (0 : Int64)), .second, .val (.long (0 : Int64)), .second, .val (.long q4), .second, .val (.long q2), .second, .val (.double vz), .second] []) _
        refine XS.aload X42.here hx rfl (hb hby at_169) rfl rfl ?_
        exact k
      obtain ⟨cq44, kq44, q44a, q44b, q44c⟩ := isOf hZ e42 Ex36
      obtain ⟨_, _, ⟨T44, L44, k44, n44⟩, -, X44, ⟨Lc44, hQ44, l44, y44, z44⟩, st44⟩ := X42.virtualBack hx (y := (⟨"com/example/headroom/headroom/model/Member", "pending", "()J"⟩ : MethodName)) (z := (⟨"com/example/headroom/headroom/model/Member", "pending", "()J"⟩ : MethodName)) hown (mvT hZ (hw _ (List.mem_of_getElem? (i := 84) rfl))) (mvT hZ (hw _ (List.mem_of_getElem? (i := 85) rfl))) (notFace_of_selects (args := #[]) (mvT hZ (hw _ (List.mem_of_getElem? (i := 87) rfl)))) (mvT hZ (hw _ (List.mem_of_getElem? (i := 87) rfl))) (mvT hZ (hw _ (List.mem_of_getElem? (i := 86) rfl))) (by decide) (backOf (W := 0) (rmgpending l Z a0 hw [] b28 q4 T36.heap n0 (Nat.le_trans Z0 Kp36.1) M36_pending) hZ (hw _ (List.mem_of_getElem? (i := 88) rfl)) (hw _ (List.mem_of_getElem? (i := 2) rfl)) (by decide) (by decide)) q44a q44c (g := (mkF m 171 #[.val (.long q0), .second, .val (.long q1), .second, .val (.long q2), .second, .val (.long q3), .second, .val (.long q4), .second, .val (.int p5), .val (.int (0 : Int32)), .val (.int (1 : Int32)), .val (.ref b28), .val (.long (0 : Int64)), .second, .val (.long (0 : Int64)), .second, .val (.long q4), .second, .val (.long q2), .second, .val (.double vz), .second] [(.ref b28)])) rfl (by rw [hml]; rfl) (Steps.refl _) (argsL := []) (rest := []) (lenOf pd_0_3 rfl) rfl (by show 2 * 0 + _ ≤ _; exact Nat.le_of_eq rfl) (hb hby at_171) (fun _ _ => ⟨rfl, e42, (by decide : 5 + 0 ≤ _), (by decide : 25 + 0 ≤ _)⟩)
      dsimp only [Pt.U, Pt.locs, Pt.cells, Pt.slots] at X44 l44 y44 z44 st44 hQ44
      rw [y44, z44] at X44
      obtain ⟨rfl, Nq44, e44⟩ := hQ44
      have N44 : Fr n0 L44 := by rw [l44]; exact Fr.app N42 Nq44
      have K44 : own_K p e below SE T44 (mkF m 174 #[.val (.long q0), .second, .val (.long q1), .second, .val (.long q2), .second, .val (.long q3), .second, .val (.long q4), .second, .val (.int p5), .val (.int (0 : Int32)), .val (.int (1 : Int32)), .val (.ref b28), .val (.long (0 : Int64)), .second, .val (.long (0 : Int64)), .second, .val (.long q4), .second, .val (.long q2), .second, .val (.double vz), .second] [(.long q4)]) := fun t k => K43 _ (st44.trans k)
      have K45 : own_K p e below SE T44 (mkF m 182 #[.val (.long q0), .second, .val (.long q1), .second, .val (.long q2), .second, .val (.long q3), .second, .val (.long q4), .second, .val (.int p5), .val (.int (0 : Int32)), .val (.int (1 : Int32)), .val (.ref b28), .val (.long (0 : Int64)), .second, .val (.long (0 : Int64)), .second, .val (.long q4), .second, .val (.long q2), .second, .val (.double vz), .second] [(.ref b28)]) := by
        intro t k
        refine K44 _ ?_
        refine XS.lload X44.here hx rfl (hb hby at_174) rfl ?_
        show own_S p e below T44 (mkF m 176 #[.val (.long q0), .second, .val (.long q1), .second, .val (.long q2), .second, .val (.long q3), .second, .val (.long q4), .second, .val (.int p5), .val (.int (0 : Int32)), .val (.int (1 : Int32)), .val (.ref b28), .val (.long (0 : Int64)), .second, .val (.long (0 : Int64)), .second, .val (.long q4), .second, .val (.long q2), .second, .val (.double vz), .second] [(.long q4), (.long q4)]) _
        refine XT.lcmp X44.here hx rfl (hb hby at_176) rfl ?_
        show own_S p e below T44 (mkF m 177 #[.val (.long q0), .second, .val (.long q1), .second, .val (.long q2), .second, .val (.long q3), .second, .val (.long q4), .second, .val (.int p5), .val (.int (0 : Int32)), .val (.int (1 : Int32)), .val (.ref b28), .val (.long (0 : Int64)), .second, .val (.long (0 : Int64)), .second, .val (.long q4), .second, .val (.long q2), .second, .val (.double vz), .second] [(.int (XT.cmpL q4 q4))]) _
        refine XS.ifNo X44.here hx rfl (hb hby at_177) rfl (XT.ll_ne_f rfl) ?_
        show own_S p e below T44 (mkF m 180 #[.val (.long q0), .second, .val (.long q1), .second, .val (.long q2), .second, .val (.long q3), .second, .val (.long q4), .second, .val (.int p5), .val (.int (0 : Int32)), .val (.int (1 : Int32)), .val (.ref b28), .val (.long (0 : Int64)), .second, .val (.long (0 : Int64)), .second, .val (.long q4), .second, .val (.long q2), .second, .val (.double vz), .second] []) _
        refine XS.aload X44.here hx rfl (hb hby at_180) rfl rfl ?_
        exact k
      obtain ⟨cq46, kq46, q46a, q46b, q46c⟩ := isOf hZ e44 Ex36
      obtain ⟨_, _, ⟨T46, L46, k46, n46⟩, -, X46, ⟨Lc46, hQ46, l46, y46, z46⟩, st46⟩ := X44.virtualBack hx (y := (⟨"com/example/headroom/headroom/model/Member", "lastReportNanos", "()J"⟩ : MethodName)) (z := (⟨"com/example/headroom/headroom/model/Member", "lastReportNanos", "()J"⟩ : MethodName)) hown (mvT hZ (hw _ (List.mem_of_getElem? (i := 89) rfl))) (mvT hZ (hw _ (List.mem_of_getElem? (i := 90) rfl))) (notFace_of_selects (args := #[]) (mvT hZ (hw _ (List.mem_of_getElem? (i := 92) rfl)))) (mvT hZ (hw _ (List.mem_of_getElem? (i := 92) rfl))) (mvT hZ (hw _ (List.mem_of_getElem? (i := 91) rfl))) (by decide) (backOf (W := 0) (rmglastReportNanos l Z a0 hw [] b28 q2 T36.heap n0 (Nat.le_trans Z0 Kp36.1) M36_lastReportNanos) hZ (hw _ (List.mem_of_getElem? (i := 93) rfl)) (hw _ (List.mem_of_getElem? (i := 2) rfl)) (by decide) (by decide)) q46a q46c (g := (mkF m 182 #[.val (.long q0), .second, .val (.long q1), .second, .val (.long q2), .second, .val (.long q3), .second, .val (.long q4), .second, .val (.int p5), .val (.int (0 : Int32)), .val (.int (1 : Int32)), .val (.ref b28), .val (.long (0 : Int64)), .second, .val (.long (0 : Int64)), .second, .val (.long q4), .second, .val (.long q2), .second, .val (.double vz), .second] [(.ref b28)])) rfl (by rw [hml]; rfl) (Steps.refl _) (argsL := []) (rest := []) (lenOf pd_0_3 rfl) rfl (by show 2 * 0 + _ ≤ _; exact Nat.le_of_eq rfl) (hb hby at_182) (fun _ _ => ⟨rfl, e44, (by decide : 5 + 0 ≤ _), (by decide : 25 + 0 ≤ _)⟩)
      dsimp only [Pt.U, Pt.locs, Pt.cells, Pt.slots] at X46 l46 y46 z46 st46 hQ46
      rw [y46, z46] at X46
      obtain ⟨rfl, Nq46, e46⟩ := hQ46
      have N46 : Fr n0 L46 := by rw [l46]; exact Fr.app N44 Nq46
      have K46 : own_K p e below SE T46 (mkF m 185 #[.val (.long q0), .second, .val (.long q1), .second, .val (.long q2), .second, .val (.long q3), .second, .val (.long q4), .second, .val (.int p5), .val (.int (0 : Int32)), .val (.int (1 : Int32)), .val (.ref b28), .val (.long (0 : Int64)), .second, .val (.long (0 : Int64)), .second, .val (.long q4), .second, .val (.long q2), .second, .val (.double vz), .second] [(.long q2)]) := fun t k => K45 _ (st46.trans k)
      have K47 : own_K p e below SE T46 (mkF m 193 #[.val (.long q0), .second, .val (.long q1), .second, .val (.long q2), .second, .val (.long q3), .second, .val (.long q4), .second, .val (.int p5), .val (.int (0 : Int32)), .val (.int (1 : Int32)), .val (.ref b28), .val (.long (0 : Int64)), .second, .val (.long (0 : Int64)), .second, .val (.long q4), .second, .val (.long q2), .second, .val (.double vz), .second] [(.ref b28)]) := by
        intro t k
        refine K46 _ ?_
        refine XS.lload X46.here hx rfl (hb hby at_185) rfl ?_
        show own_S p e below T46 (mkF m 187 #[.val (.long q0), .second, .val (.long q1), .second, .val (.long q2), .second, .val (.long q3), .second, .val (.long q4), .second, .val (.int p5), .val (.int (0 : Int32)), .val (.int (1 : Int32)), .val (.ref b28), .val (.long (0 : Int64)), .second, .val (.long (0 : Int64)), .second, .val (.long q4), .second, .val (.long q2), .second, .val (.double vz), .second] [(.long q2), (.long q2)]) _
        refine XT.lcmp X46.here hx rfl (hb hby at_187) rfl ?_
        show own_S p e below T46 (mkF m 188 #[.val (.long q0), .second, .val (.long q1), .second, .val (.long q2), .second, .val (.long q3), .second, .val (.long q4), .second, .val (.int p5), .val (.int (0 : Int32)), .val (.int (1 : Int32)), .val (.ref b28), .val (.long (0 : Int64)), .second, .val (.long (0 : Int64)), .second, .val (.long q4), .second, .val (.long q2), .second, .val (.double vz), .second] [(.int (XT.cmpL q2 q2))]) _
        refine XS.ifNo X46.here hx rfl (hb hby at_188) rfl (XT.ll_ne_f rfl) ?_
        show own_S p e below T46 (mkF m 191 #[.val (.long q0), .second, .val (.long q1), .second, .val (.long q2), .second, .val (.long q3), .second, .val (.long q4), .second, .val (.int p5), .val (.int (0 : Int32)), .val (.int (1 : Int32)), .val (.ref b28), .val (.long (0 : Int64)), .second, .val (.long (0 : Int64)), .second, .val (.long q4), .second, .val (.long q2), .second, .val (.double vz), .second] []) _
        refine XS.aload X46.here hx rfl (hb hby at_191) rfl rfl ?_
        exact k
      obtain ⟨cq48, kq48, q48a, q48b, q48c⟩ := isOf hZ e46 Ex36
      obtain ⟨_, _, ⟨T48, L48, k48, n48⟩, -, X48, ⟨Lc48, hQ48, l48, y48, z48⟩, st48⟩ := X46.virtualBack hx (y := (⟨"com/example/headroom/headroom/model/Member", "processingMs", "()D"⟩ : MethodName)) (z := (⟨"com/example/headroom/headroom/model/Member", "processingMs", "()D"⟩ : MethodName)) hown (mvT hZ (hw _ (List.mem_of_getElem? (i := 55) rfl))) (mvT hZ (hw _ (List.mem_of_getElem? (i := 56) rfl))) (notFace_of_selects (args := #[]) (mvT hZ (hw _ (List.mem_of_getElem? (i := 58) rfl)))) (mvT hZ (hw _ (List.mem_of_getElem? (i := 58) rfl))) (mvT hZ (hw _ (List.mem_of_getElem? (i := 57) rfl))) (by decide) (backOf (W := 0) (rmgprocessingMs l Z a0 hw [] b28 vz T36.heap n0 (Nat.le_trans Z0 Kp36.1) M36_processingMs) hZ (hw _ (List.mem_of_getElem? (i := 59) rfl)) (hw _ (List.mem_of_getElem? (i := 2) rfl)) (by decide) (by decide)) q48a q48c (g := (mkF m 193 #[.val (.long q0), .second, .val (.long q1), .second, .val (.long q2), .second, .val (.long q3), .second, .val (.long q4), .second, .val (.int p5), .val (.int (0 : Int32)), .val (.int (1 : Int32)), .val (.ref b28), .val (.long (0 : Int64)), .second, .val (.long (0 : Int64)), .second, .val (.long q4), .second, .val (.long q2), .second, .val (.double vz), .second] [(.ref b28)])) rfl (by rw [hml]; rfl) (Steps.refl _) (argsL := []) (rest := []) (lenOf pd_0_1 rfl) rfl (by show 2 * 0 + _ ≤ _; exact Nat.le_of_eq rfl) (hb hby at_193) (fun _ _ => ⟨rfl, e46, (by decide : 5 + 0 ≤ _), (by decide : 25 + 0 ≤ _)⟩)
      dsimp only [Pt.U, Pt.locs, Pt.cells, Pt.slots] at X48 l48 y48 z48 st48 hQ48
      rw [y48, z48] at X48
      obtain ⟨rfl, Nq48, e48⟩ := hQ48
      have N48 : Fr n0 L48 := by rw [l48]; exact Fr.app N46 Nq48
      have K48 : own_K p e below SE T48 (mkF m 196 #[.val (.long q0), .second, .val (.long q1), .second, .val (.long q2), .second, .val (.long q3), .second, .val (.long q4), .second, .val (.int p5), .val (.int (0 : Int32)), .val (.int (1 : Int32)), .val (.ref b28), .val (.long (0 : Int64)), .second, .val (.long (0 : Int64)), .second, .val (.long q4), .second, .val (.long q2), .second, .val (.double vz), .second] [(.double vz)]) := fun t k => K47 _ (st48.trans k)
      have K49 : own_K p e below SE T48 (mkF m 199 #[.val (.long q0), .second, .val (.long q1), .second, .val (.long q2), .second, .val (.long q3), .second, .val (.long q4), .second, .val (.int p5), .val (.int (0 : Int32)), .val (.int (1 : Int32)), .val (.ref b28), .val (.long (0 : Int64)), .second, .val (.long (0 : Int64)), .second, .val (.long q4), .second, .val (.long q2), .second, .val (.double vz), .second] [(.int (cmpValue (FP.dcmp vz vz) CmpOp.l))]) := by
        intro t k
        refine K48 _ ?_
        refine XS.dload X48.here hx rfl (hb hby at_196) rfl ?_
        show own_S p e below T48 (mkF m 198 #[.val (.long q0), .second, .val (.long q1), .second, .val (.long q2), .second, .val (.long q3), .second, .val (.long q4), .second, .val (.int p5), .val (.int (0 : Int32)), .val (.int (1 : Int32)), .val (.ref b28), .val (.long (0 : Int64)), .second, .val (.long (0 : Int64)), .second, .val (.long q4), .second, .val (.long q2), .second, .val (.double vz), .second] [(.double vz), (.double vz)]) _
        refine XS.dcmpS X48.here hx rfl (hb hby at_198) rfl rfl ?_
        exact k
      rw [dcmpV_self hvz CmpOp.l] at K49
      have K50 : own_K p e below SE T48 (mkF m 207 #[.val (.long q0), .second, .val (.long q1), .second, .val (.long q2), .second, .val (.long q3), .second, .val (.long q4), .second, .val (.int p5), .val (.int (0 : Int32)), .val (.int (1 : Int32)), .val (.ref b28), .val (.long (0 : Int64)), .second, .val (.long (0 : Int64)), .second, .val (.long q4), .second, .val (.long q2), .second, .val (.double vz), .second] [(.int (1 : Int32))]) := by
        intro t k
        refine K49 _ ?_
        refine XS.ifNo X48.here hx rfl (hb hby at_199) rfl (XT.i0_ne_f (by decide : (0 : Int32) = 0)) ?_
        show own_S p e below T48 (mkF m 202 #[.val (.long q0), .second, .val (.long q1), .second, .val (.long q2), .second, .val (.long q3), .second, .val (.long q4), .second, .val (.int p5), .val (.int (0 : Int32)), .val (.int (1 : Int32)), .val (.ref b28), .val (.long (0 : Int64)), .second, .val (.long (0 : Int64)), .second, .val (.long q4), .second, .val (.long q2), .second, .val (.double vz), .second] []) _
        refine XS.iconst X48.here hx rfl (hb hby at_202) ?_
        show own_S p e below T48 (mkF m 203 #[.val (.long q0), .second, .val (.long q1), .second, .val (.long q2), .second, .val (.long q3), .second, .val (.long q4), .second, .val (.int p5), .val (.int (0 : Int32)), .val (.int (1 : Int32)), .val (.ref b28), .val (.long (0 : Int64)), .second, .val (.long (0 : Int64)), .second, .val (.long q4), .second, .val (.long q2), .second, .val (.double vz), .second] [(.int (1 : Int32))]) _
        refine XS.goto X48.here hx rfl (pc0 := 203) (pc' := 207) rfl (hb hby at_203) (by decide) (by decide) ?_
        exact k
      obtain ⟨fs, hr, hrun, hended, hW, hsame⟩ := X48.leave (v := some (.int (1 : Int32))) (fun h => by rw [Bd.returns] at h; cases h)
      refine ⟨_, _, K50 _ ?_, hrun, hended, _, _, rfl, ?_, ⟨_, rfl⟩, hW, hsame.mono (by decide) (by decide)⟩
      · exact retN X48 hx (t := .boolean) Bd.returns (by simp) (hb hby at_207) hr
      · show Q0 Z q0 q1 q2 q3 q4 p5 h0 n0 _ T48.heap _
        rw [e48]
        exact ⟨rfl, N48⟩
  · skip
    have K52 : own_K p e below SE s₁ (mkF m 18 #[.val (.long q0), .second, .val (.long q1), .second, .val (.long q2), .second, .val (.long q3), .second, .val (.long q4), .second, .val (.int p5), .val (.int (1 : Int32)), .unset, .unset, .unset, .unset, .unset, .unset, .unset, .unset, .unset, .unset, .unset, .unset] [(.int (p5 &&& (2 : Int32)))]) := by
      intro t k
      refine K2 _ ?_
      refine XS.ifNo X0.here hx rfl (hb hby at_4) rfl (XT.i0_eq_f c4_1) ?_
      show own_S p e below s₁ (mkF m 7 #[.val (.long q0), .second, .val (.long q1), .second, .val (.long q2), .second, .val (.long q3), .second, .val (.long q4), .second, .val (.int p5), .unset, .unset, .unset, .unset, .unset, .unset, .unset, .unset, .unset, .unset, .unset, .unset, .unset] []) _
      refine XS.iconst X0.here hx rfl (hb hby at_7) ?_
      show own_S p e below s₁ (mkF m 8 #[.val (.long q0), .second, .val (.long q1), .second, .val (.long q2), .second, .val (.long q3), .second, .val (.long q4), .second, .val (.int p5), .unset, .unset, .unset, .unset, .unset, .unset, .unset, .unset, .unset, .unset, .unset, .unset, .unset] [(.int (1 : Int32))]) _
      refine XS.goto X0.here hx rfl (pc0 := 8) (pc' := 12) rfl (hb hby at_8) (by decide) (by decide) ?_
      show own_S p e below s₁ (mkF m 12 #[.val (.long q0), .second, .val (.long q1), .second, .val (.long q2), .second, .val (.long q3), .second, .val (.long q4), .second, .val (.int p5), .unset, .unset, .unset, .unset, .unset, .unset, .unset, .unset, .unset, .unset, .unset, .unset, .unset] [(.int (1 : Int32))]) _
      refine XS.istore X0.here hx rfl (hb hby at_12) rfl (l' := #[.val (.long q0), .second, .val (.long q1), .second, .val (.long q2), .second, .val (.long q3), .second, .val (.long q4), .second, .val (.int p5), .val (.int (1 : Int32)), .unset, .unset, .unset, .unset, .unset, .unset, .unset, .unset, .unset, .unset, .unset, .unset]) rfl ?_
      show own_S p e below s₁ (mkF m 14 #[.val (.long q0), .second, .val (.long q1), .second, .val (.long q2), .second, .val (.long q3), .second, .val (.long q4), .second, .val (.int p5), .val (.int (1 : Int32)), .unset, .unset, .unset, .unset, .unset, .unset, .unset, .unset, .unset, .unset, .unset, .unset] []) _
      refine XS.iload X0.here hx rfl (hb hby at_14) rfl ?_
      show own_S p e below s₁ (mkF m 16 #[.val (.long q0), .second, .val (.long q1), .second, .val (.long q2), .second, .val (.long q3), .second, .val (.long q4), .second, .val (.int p5), .val (.int (1 : Int32)), .unset, .unset, .unset, .unset, .unset, .unset, .unset, .unset, .unset, .unset, .unset, .unset] [(.int p5)]) _
      refine XS.iconst X0.here hx rfl (hb hby at_16) ?_
      show own_S p e below s₁ (mkF m 17 #[.val (.long q0), .second, .val (.long q1), .second, .val (.long q2), .second, .val (.long q3), .second, .val (.long q4), .second, .val (.int p5), .val (.int (1 : Int32)), .unset, .unset, .unset, .unset, .unset, .unset, .unset, .unset, .unset, .unset, .unset, .unset] [(.int (2 : Int32)), (.int p5)]) _
      refine XS.iand X0.here hx rfl (hb hby at_17) rfl ?_
      exact k
    by_cases c18_51 : (p5 &&& (2 : Int32)) = 0
    · skip
      have K53 : own_K p e below SE s₁ (mkF m 28 #[.val (.long q0), .second, .val (.long q1), .second, .val (.long q2), .second, .val (.long q3), .second, .val (.long q4), .second, .val (.int p5), .val (.int (1 : Int32)), .val (.int (0 : Int32)), .unset, .unset, .unset, .unset, .unset, .unset, .unset, .unset, .unset, .unset, .unset] []) := by
        intro t k
        refine K52 _ ?_
        refine XS.ifYes X0.here hx rfl (pc0 := 18) (pc' := 25) rfl (hb hby at_18) rfl (XT.i0_eq_t c18_51) (by decide) (by decide) ?_
        show own_S p e below s₁ (mkF m 25 #[.val (.long q0), .second, .val (.long q1), .second, .val (.long q2), .second, .val (.long q3), .second, .val (.long q4), .second, .val (.int p5), .val (.int (1 : Int32)), .unset, .unset, .unset, .unset, .unset, .unset, .unset, .unset, .unset, .unset, .unset, .unset] []) _
        refine XS.iconst X0.here hx rfl (hb hby at_25) ?_
        show own_S p e below s₁ (mkF m 26 #[.val (.long q0), .second, .val (.long q1), .second, .val (.long q2), .second, .val (.long q3), .second, .val (.long q4), .second, .val (.int p5), .val (.int (1 : Int32)), .unset, .unset, .unset, .unset, .unset, .unset, .unset, .unset, .unset, .unset, .unset, .unset] [(.int (0 : Int32))]) _
        refine XS.istore X0.here hx rfl (hb hby at_26) rfl (l' := #[.val (.long q0), .second, .val (.long q1), .second, .val (.long q2), .second, .val (.long q3), .second, .val (.long q4), .second, .val (.int p5), .val (.int (1 : Int32)), .val (.int (0 : Int32)), .unset, .unset, .unset, .unset, .unset, .unset, .unset, .unset, .unset, .unset, .unset]) rfl ?_
        exact k
      obtain ⟨T54, h54, X54, e54, E54, A54, D54, -, st54⟩ := newO X0 hx hZ hown (hw _ (List.mem_of_getElem? (i := 0) rfl)) (hw _ (List.mem_of_getElem? (i := 1) rfl)) (hw _ (List.mem_of_getElem? (i := 2) rfl)) e0 (g := (mkF m 28 #[.val (.long q0), .second, .val (.long q1), .second, .val (.long q2), .second, .val (.long q3), .second, .val (.long q4), .second, .val (.int p5), .val (.int (1 : Int32)), .val (.int (0 : Int32)), .unset, .unset, .unset, .unset, .unset, .unset, .unset, .unset, .unset, .unset, .unset] [])) rfl (hb hby at_28) (by decide) (by decide)
      obtain ⟨b54, g54⟩ : ∃ z, z = h0.size := ⟨_, rfl⟩
      rw [← g54] at A54 D54 st54
      have g_b54 : n0 ≤ b54 := Nat.le_trans Z0 (Nat.le_of_eq g54.symm)
      have sz_b54 : h0.size ≤ b54 := Nat.le_trans (Nat.le_refl _) (Nat.le_of_eq g54.symm)
      have Kp54 : Keep h0 h54 [] := Keep.ext (Keep.refl h0 []) E54
      have F_processingTimes_b54 : Fld Z h54 b54 "com/example/headroom/headroom/model/Member" "processingTimes" "Ljava/util/Deque;" .null := D54 (Or.inr (hw _ (List.mem_of_getElem? (i := 28) rfl))) (ty := (.object "java/util/Deque")) (by decide)
      have F_subscription_b54 : Fld Z h54 b54 "com/example/headroom/headroom/model/Member" "subscription" "Lcom/example/headroom/headroom/model/Subscription;" .null := D54 (Or.inl (hw _ (List.mem_of_getElem? (i := 30) rfl))) (ty := (.object "com/example/headroom/headroom/model/Subscription")) (by decide)
      have F_joinOrder_b54 : Fld Z h54 b54 "com/example/headroom/headroom/model/Member" "joinOrder" "J" (.long (0 : Int64)) := D54 (Or.inr (hw _ (List.mem_of_getElem? (i := 32) rfl))) (ty := .long) (by decide)
      have F_lastReportNanos_b54 : Fld Z h54 b54 "com/example/headroom/headroom/model/Member" "lastReportNanos" "J" (.long (0 : Int64)) := D54 (Or.inl (hw _ (List.mem_of_getElem? (i := 34) rfl))) (ty := .long) (by decide)
      have F_lastSentNanos_b54 : Fld Z h54 b54 "com/example/headroom/headroom/model/Member" "lastSentNanos" "J" (.long (0 : Int64)) := D54 (Or.inl (hw _ (List.mem_of_getElem? (i := 36) rfl))) (ty := .long) (by decide)
      have F_lastAcknowledgedNanos_b54 : Fld Z h54 b54 "com/example/headroom/headroom/model/Member" "lastAcknowledgedNanos" "J" (.long (0 : Int64)) := D54 (Or.inl (hw _ (List.mem_of_getElem? (i := 38) rfl))) (ty := .long) (by decide)
      have F_reported_b54 : Fld Z h54 b54 "com/example/headroom/headroom/model/Member" "reported" "Z" (.int (0 : Int32)) := D54 (Or.inl (hw _ (List.mem_of_getElem? (i := 45) rfl))) (ty := .boolean) (by decide)
      have F_pending_b54 : Fld Z h54 b54 "com/example/headroom/headroom/model/Member" "pending" "J" (.long (0 : Int64)) := D54 (Or.inl (hw _ (List.mem_of_getElem? (i := 52) rfl))) (ty := .long) (by decide)
      have F_sentSinceReport_b54 : Fld Z h54 b54 "com/example/headroom/headroom/model/Member" "sentSinceReport" "J" (.long (0 : Int64)) := D54 (Or.inl (hw _ (List.mem_of_getElem? (i := 54) rfl))) (ty := .long) (by decide)
      have F_processingMs_b54 : Fld Z h54 b54 "com/example/headroom/headroom/model/Member" "processingMs" "D" (.double (0 : UInt64)) := D54 (Or.inl (hw _ (List.mem_of_getElem? (i := 61) rfl))) (ty := .double) (by decide)
      have F_delivered_b54 : Fld Z h54 b54 "com/example/headroom/headroom/model/Member" "delivered" "J" (.long (0 : Int64)) := D54 (Or.inl (hw _ (List.mem_of_getElem? (i := 68) rfl))) (ty := .long) (by decide)
      have K54 : own_K p e below SE T54 (mkF m 31 #[.val (.long q0), .second, .val (.long q1), .second, .val (.long q2), .second, .val (.long q3), .second, .val (.long q4), .second, .val (.int p5), .val (.int (1 : Int32)), .val (.int (0 : Int32)), .unset, .unset, .unset, .unset, .unset, .unset, .unset, .unset, .unset, .unset, .unset] [(.ref b54)]) := fun t k => K53 _ (st54 _ k)
      have K55 : own_K p e below SE T54 (mkF m 35 #[.val (.long q0), .second, .val (.long q1), .second, .val (.long q2), .second, .val (.long q3), .second, .val (.long q4), .second, .val (.int p5), .val (.int (1 : Int32)), .val (.int (0 : Int32)), .unset, .unset, .unset, .unset, .unset, .unset, .unset, .unset, .unset, .unset, .unset] [(.long q1), (.long q0), .null, (.ref b54), (.ref b54)]) := by
        intro t k
        refine K54 _ ?_
        refine XS.dup X54.here hx rfl (hb hby at_31) rfl rfl ?_
        show own_S p e below T54 (mkF m 32 #[.val (.long q0), .second, .val (.long q1), .second, .val (.long q2), .second, .val (.long q3), .second, .val (.long q4), .second, .val (.int p5), .val (.int (1 : Int32)), .val (.int (0 : Int32)), .unset, .unset, .unset, .unset, .unset, .unset, .unset, .unset, .unset, .unset, .unset] [(.ref b54), (.ref b54)]) _
        refine XS.aconstNull X54.here hx rfl (hb hby at_32) ?_
        show own_S p e below T54 (mkF m 33 #[.val (.long q0), .second, .val (.long q1), .second, .val (.long q2), .second, .val (.long q3), .second, .val (.long q4), .second, .val (.int p5), .val (.int (1 : Int32)), .val (.int (0 : Int32)), .unset, .unset, .unset, .unset, .unset, .unset, .unset, .unset, .unset, .unset, .unset] [.null, (.ref b54), (.ref b54)]) _
        refine XS.lloadN X54.here hx rfl (hb hby at_33) rfl ?_
        show own_S p e below T54 (mkF m 34 #[.val (.long q0), .second, .val (.long q1), .second, .val (.long q2), .second, .val (.long q3), .second, .val (.long q4), .second, .val (.int p5), .val (.int (1 : Int32)), .val (.int (0 : Int32)), .unset, .unset, .unset, .unset, .unset, .unset, .unset, .unset, .unset, .unset, .unset] [(.long q0), .null, (.ref b54), (.ref b54)]) _
        refine XS.lloadN X54.here hx rfl (hb hby at_34) rfl ?_
        exact k
      obtain ⟨_, _, ⟨T56, L56, k56, n56⟩, -, X56, ⟨Lc56, hQ56, l56, y56, z56⟩, st56⟩ := X54.specialBack hx (y := (⟨"com/example/headroom/headroom/model/Member", "<init>", "(Lcom/example/headroom/headroom/model/Subscription;JJ)V"⟩ : MethodName)) rfl hown (mvT hZ (hw _ (List.mem_of_getElem? (i := 3) rfl))) (mvT hZ (hw _ (List.mem_of_getElem? (i := 4) rfl))) (mvT hZ (hw _ (List.mem_of_getElem? (i := 5) rfl))) (by decide) (backOf (W := 1) (rmmi l Z a0 hw [] b54 q0 q1 h54 n0 (Nat.le_trans Z0 Kp54.1) A54 F_processingTimes_b54 F_subscription_b54 F_joinOrder_b54 F_pending_b54 F_processingMs_b54 F_sentSinceReport_b54 F_delivered_b54 F_lastReportNanos_b54 F_lastSentNanos_b54 F_reported_b54 F_lastAcknowledgedNanos_b54 g_b54) hZ (hw _ (List.mem_of_getElem? (i := 5) rfl)) (hw _ (List.mem_of_getElem? (i := 2) rfl)) (by decide) (by decide)) (g := (mkF m 35 #[.val (.long q0), .second, .val (.long q1), .second, .val (.long q2), .second, .val (.long q3), .second, .val (.long q4), .second, .val (.int p5), .val (.int (1 : Int32)), .val (.int (0 : Int32)), .unset, .unset, .unset, .unset, .unset, .unset, .unset, .unset, .unset, .unset, .unset] [(.long q1), (.long q0), .null, (.ref b54), (.ref b54)])) rfl (by rw [hml]; rfl) (Steps.refl _) (a := b54) (argsL := [.null, (.long q0), (.long q1)]) (rest := [(.ref b54)]) (lenOf pd_0_0 rfl) rfl (by show 2 * 0 + _ ≤ _; exact Nat.le_of_eq rfl) (hb hby at_35) (fun _ _ => ⟨rfl, e54, (by decide : 1 + 2 ≤ _), (by decide : 11 + 9 ≤ _)⟩)
      dsimp only [Pt.U, Pt.locs, Pt.cells, Pt.slots] at X56 l56 y56 z56 st56 hQ56
      rw [y56, z56] at X56
      obtain ⟨rfl, Nq56, Kq56, Ex56, d, ea, kE, hs_d, hs_ea, own_ne_d_ea, Ov, M56_processingTimes, M56_pending, M56_processingMs, M56_sentSinceReport, M56_delivered, M56_lastReportNanos, M56_lastSentNanos, M56_reported, M56_lastAcknowledgedNanos, Ed56, Fh56, Ft56, Fe56, Va56⟩ := hQ56
      have N56 : Fr n0 L56 := by rw [l56]; exact Fr.app N0 Nq56
      have Kp56 : Keep h0 T56.heap [] := Keep.trans Kp54 Kq56 (allS (Or.inr sz_b54) all0)
      have K56 : own_K p e below SE T56 (mkF m 38 #[.val (.long q0), .second, .val (.long q1), .second, .val (.long q2), .second, .val (.long q3), .second, .val (.long q4), .second, .val (.int p5), .val (.int (1 : Int32)), .val (.int (0 : Int32)), .unset, .unset, .unset, .unset, .unset, .unset, .unset, .unset, .unset, .unset, .unset] [(.ref b54)]) := fun t k => K55 _ (st56.trans k)
      have own_ne_b54_d : b54 ≠ d := Nat.ne_of_lt (Nat.lt_of_lt_of_le A54.lt hs_d)
      have g_d : n0 ≤ d := Nat.le_trans (Nat.le_trans Z0 Kp54.1) hs_d
      have sz_d : h0.size ≤ d := Nat.le_trans Kp54.1 hs_d
      have own_ne_b54_ea : b54 ≠ ea := Nat.ne_of_lt (Nat.lt_of_lt_of_le A54.lt hs_ea)
      have g_ea : n0 ≤ ea := Nat.le_trans (Nat.le_trans Z0 Kp54.1) hs_ea
      have sz_ea : h0.size ≤ ea := Nat.le_trans Kp54.1 hs_ea
      have hvm : NoNaN64 (0 : UInt64) := own_zz
      have K57 : own_K p e below SE T56 (mkF m 49 #[.val (.long q0), .second, .val (.long q1), .second, .val (.long q2), .second, .val (.long q3), .second, .val (.long q4), .second, .val (.int p5), .val (.int (1 : Int32)), .val (.int (0 : Int32)), .val (.ref b54), .unset, .unset, .unset, .unset, .unset, .unset, .unset, .unset, .unset, .unset] [(.long q2), (.ref b54)]) := by
        intro t k
        refine K56 _ ?_
        refine XS.astore X56.here hx rfl (hb hby at_38) rfl rfl (l' := #[.val (.long q0), .second, .val (.long q1), .second, .val (.long q2), .second, .val (.long q3), .second, .val (.long q4), .second, .val (.int p5), .val (.int (1 : Int32)), .val (.int (0 : Int32)), .val (.ref b54), .unset, .unset, .unset, .unset, .unset, .unset, .unset, .unset, .unset, .unset]) rfl ?_
        show own_S p e below T56 (mkF m 40 #[.val (.long q0), .second, .val (.long q1), .second, .val (.long q2), .second, .val (.long q3), .second, .val (.long q4), .second, .val (.int p5), .val (.int (1 : Int32)), .val (.int (0 : Int32)), .val (.ref b54), .unset, .unset, .unset, .unset, .unset, .unset, .unset, .unset, .unset, .unset] []) _
        refine XS.iload X56.here hx rfl (hb hby at_40) rfl ?_
        show own_S p e below T56 (mkF m 42 #[.val (.long q0), .second, .val (.long q1), .second, .val (.long q2), .second, .val (.long q3), .second, .val (.long q4), .second, .val (.int p5), .val (.int (1 : Int32)), .val (.int (0 : Int32)), .val (.ref b54), .unset, .unset, .unset, .unset, .unset, .unset, .unset, .unset, .unset, .unset] [(.int (1 : Int32))]) _
        refine XS.ifNo X56.here hx rfl (hb hby at_42) rfl (XT.i0_eq_f (by decide : ¬ ((1 : Int32) = 0))) ?_
        show own_S p e below T56 (mkF m 45 #[.val (.long q0), .second, .val (.long q1), .second, .val (.long q2), .second, .val (.long q3), .second, .val (.long q4), .second, .val (.int p5), .val (.int (1 : Int32)), .val (.int (0 : Int32)), .val (.ref b54), .unset, .unset, .unset, .unset, .unset, .unset, .unset, .unset, .unset, .unset] []) _
        refine XS.aload X56.here hx rfl (hb hby at_45) rfl rfl ?_
        show own_S p e below T56 (mkF m 47 #[.val (.long q0), .second, .val (.long q1), .second, .val (.long q2), .second, .val (.long q3), .second, .val (.long q4), .second, .val (.int p5), .val (.int (1 : Int32)), .val (.int (0 : Int32)), .val (.ref b54), .unset, .unset, .unset, .unset, .unset, .unset, .unset, .unset, .unset, .unset] [(.ref b54)]) _
        refine XS.lload X56.here hx rfl (hb hby at_47) rfl ?_
        exact k
      obtain ⟨cq58, kq58, q58a, q58b, q58c⟩ := isOf hZ rfl Ex56
      obtain ⟨_, _, ⟨T58, L58, k58, n58⟩, -, X58, ⟨Lc58, hQ58, l58, y58, z58⟩, st58⟩ := X56.virtualBack hx (y := (⟨"com/example/headroom/headroom/model/Member", "sent", "(J)V"⟩ : MethodName)) (z := (⟨"com/example/headroom/headroom/model/Member", "sent", "(J)V"⟩ : MethodName)) hown (mvT hZ (hw _ (List.mem_of_getElem? (i := 62) rfl))) (mvT hZ (hw _ (List.mem_of_getElem? (i := 63) rfl))) (notFace_of_selects (args := #[]) (mvT hZ (hw _ (List.mem_of_getElem? (i := 65) rfl)))) (mvT hZ (hw _ (List.mem_of_getElem? (i := 65) rfl))) (mvT hZ (hw _ (List.mem_of_getElem? (i := 64) rfl))) (by decide) (backOf (W := 0) (rmse l Z a0 hw [] b54 q2 (0 : Int64) (0 : UInt64) (0 : Int64) (0 : Int64) q1 q1 d q1 T56.heap n0 (Nat.le_trans Z0 Kp56.1) Ex56 M56_pending M56_processingMs M56_sentSinceReport M56_delivered M56_lastReportNanos M56_lastSentNanos M56_processingTimes M56_reported M56_lastAcknowledgedNanos g_b54) hZ (hw _ (List.mem_of_getElem? (i := 66) rfl)) (hw _ (List.mem_of_getElem? (i := 2) rfl)) (by decide) (by decide)) q58a q58c (g := (mkF m 49 #[.val (.long q0), .second, .val (.long q1), .second, .val (.long q2), .second, .val (.long q3), .second, .val (.long q4), .second, .val (.int p5), .val (.int (1 : Int32)), .val (.int (0 : Int32)), .val (.ref b54), .unset, .unset, .unset, .unset, .unset, .unset, .unset, .unset, .unset, .unset] [(.long q2), (.ref b54)])) rfl (by rw [hml]; rfl) (Steps.refl _) (argsL := [(.long q2)]) (rest := []) (lenOf pd_0_2 rfl) rfl (by show 2 * 0 + _ ≤ _; exact Nat.le_of_eq rfl) (hb hby at_49) (fun _ _ => ⟨rfl, rfl, (by decide : 3 + 0 ≤ _), (by decide : 20 + 0 ≤ _)⟩)
      dsimp only [Pt.U, Pt.locs, Pt.cells, Pt.slots] at X58 l58 y58 z58 st58 hQ58
      rw [y58, z58] at X58
      obtain ⟨rfl, Nq58, Kq58, Ex58, M58_pending, M58_processingMs, M58_sentSinceReport, M58_delivered, M58_lastReportNanos, M58_lastSentNanos, M58_processingTimes, M58_reported, M58_lastAcknowledgedNanos⟩ := hQ58
      have N58 : Fr n0 L58 := by rw [l58]; exact Fr.app N56 Nq58
      have Kp58 : Keep h0 T58.heap [] := Keep.trans Kp56 Kq58 (allS (Or.inr sz_b54) all0)
      have K58 : own_K p e below SE T58 (mkF m 52 #[.val (.long q0), .second, .val (.long q1), .second, .val (.long q2), .second, .val (.long q3), .second, .val (.long q4), .second, .val (.int p5), .val (.int (1 : Int32)), .val (.int (0 : Int32)), .val (.ref b54), .unset, .unset, .unset, .unset, .unset, .unset, .unset, .unset, .unset, .unset] []) := fun t k => K57 _ (st58.trans k)
      have N58_sentSinceReport : Fld Z T58.heap b54 "com/example/headroom/headroom/model/Member" "sentSinceReport" "J" (.long (1 : Int64)) := by
        have w := M58_sentSinceReport
        rw [show ((0 : Int64) + (1 : Int64)) = (1 : Int64) from by decide] at w
        exact w
      have N58_delivered : Fld Z T58.heap b54 "com/example/headroom/headroom/model/Member" "delivered" "J" (.long (1 : Int64)) := by
        have w := M58_delivered
        rw [show ((0 : Int64) + (1 : Int64)) = (1 : Int64) from by decide] at w
        exact w
      have K59 : own_K p e below SE T58 (mkF m 120 #[.val (.long q0), .second, .val (.long q1), .second, .val (.long q2), .second, .val (.long q3), .second, .val (.long q4), .second, .val (.int p5), .val (.int (1 : Int32)), .val (.int (0 : Int32)), .val (.ref b54), .val (.long (1 : Int64)), .second, .val (.long (1 : Int64)), .second, .val (.long (0 : Int64)), .second, .val (.long q1), .second, .unset, .unset] [(.ref b54)]) := by
        intro t k
        refine K58 _ ?_
        refine XS.iload X58.here hx rfl (hb hby at_52) rfl ?_
        show own_S p e below T58 (mkF m 54 #[.val (.long q0), .second, .val (.long q1), .second, .val (.long q2), .second, .val (.long q3), .second, .val (.long q4), .second, .val (.int p5), .val (.int (1 : Int32)), .val (.int (0 : Int32)), .val (.ref b54), .unset, .unset, .unset, .unset, .unset, .unset, .unset, .unset, .unset, .unset] [(.int (0 : Int32))]) _
        refine XS.ifYes X58.here hx rfl (pc0 := 54) (pc' := 67) rfl (hb hby at_54) rfl (XT.i0_eq_t (by decide : (0 : Int32) = 0)) (by decide) (by decide) ?_
        show own_S p e below T58 (mkF m 67 #[.val (.long q0), .second, .val (.long q1), .second, .val (.long q2), .second, .val (.long q3), .second, .val (.long q4), .second, .val (.int p5), .val (.int (1 : Int32)), .val (.int (0 : Int32)), .val (.ref b54), .unset, .unset, .unset, .unset, .unset, .unset, .unset, .unset, .unset, .unset] []) _
        refine XS.iload X58.here hx rfl (hb hby at_67) rfl ?_
        show own_S p e below T58 (mkF m 69 #[.val (.long q0), .second, .val (.long q1), .second, .val (.long q2), .second, .val (.long q3), .second, .val (.long q4), .second, .val (.int p5), .val (.int (1 : Int32)), .val (.int (0 : Int32)), .val (.ref b54), .unset, .unset, .unset, .unset, .unset, .unset, .unset, .unset, .unset, .unset] [(.int (1 : Int32))]) _
        refine XS.ifNo X58.here hx rfl (hb hby at_69) rfl (XT.i0_eq_f (by decide : ¬ ((1 : Int32) = 0))) ?_
        show own_S p e below T58 (mkF m 72 #[.val (.long q0), .second, .val (.long q1), .second, .val (.long q2), .second, .val (.long q3), .second, .val (.long q4), .second, .val (.int p5), .val (.int (1 : Int32)), .val (.int (0 : Int32)), .val (.ref b54), .unset, .unset, .unset, .unset, .unset, .unset, .unset, .unset, .unset, .unset] []) _
        refine XS.lconst X58.here hx rfl (hb hby at_72) ?_
        show own_S p e below T58 (mkF m 73 #[.val (.long q0), .second, .val (.long q1), .second, .val (.long q2), .second, .val (.long q3), .second, .val (.long q4), .second, .val (.int p5), .val (.int (1 : Int32)), .val (.int (0 : Int32)), .val (.ref b54), .unset, .unset, .unset, .unset, .unset, .unset, .unset, .unset, .unset, .unset] [(.long (1 : Int64))]) _
        refine XS.goto X58.here hx rfl (pc0 := 73) (pc' := 77) rfl (hb hby at_73) (by decide) (by decide) ?_
        show own_S p e below T58 (mkF m 77 #[.val (.long q0), .second, .val (.long q1), .second, .val (.long q2), .second, .val (.long q3), .second, .val (.long q4), .second, .val (.int p5), .val (.int (1 : Int32)), .val (.int (0 : Int32)), .val (.ref b54), .unset, .unset, .unset, .unset, .unset, .unset, .unset, .unset, .unset, .unset] [(.long (1 : Int64))]) _
        refine XS.lstore X58.here hx rfl (hb hby at_77) rfl (l' := #[.val (.long q0), .second, .val (.long q1), .second, .val (.long q2), .second, .val (.long q3), .second, .val (.long q4), .second, .val (.int p5), .val (.int (1 : Int32)), .val (.int (0 : Int32)), .val (.ref b54), .val (.long (1 : Int64)), .second, .unset, .unset, .unset, .unset, .unset, .unset, .unset, .unset]) rfl ?_
        show own_S p e below T58 (mkF m 79 #[.val (.long q0), .second, .val (.long q1), .second, .val (.long q2), .second, .val (.long q3), .second, .val (.long q4), .second, .val (.int p5), .val (.int (1 : Int32)), .val (.int (0 : Int32)), .val (.ref b54), .val (.long (1 : Int64)), .second, .unset, .unset, .unset, .unset, .unset, .unset, .unset, .unset] []) _
        refine XS.iload X58.here hx rfl (hb hby at_79) rfl ?_
        show own_S p e below T58 (mkF m 81 #[.val (.long q0), .second, .val (.long q1), .second, .val (.long q2), .second, .val (.long q3), .second, .val (.long q4), .second, .val (.int p5), .val (.int (1 : Int32)), .val (.int (0 : Int32)), .val (.ref b54), .val (.long (1 : Int64)), .second, .unset, .unset, .unset, .unset, .unset, .unset, .unset, .unset] [(.int (0 : Int32))]) _
        refine XS.ifYes X58.here hx rfl (pc0 := 81) (pc' := 88) rfl (hb hby at_81) rfl (XT.i0_eq_t (by decide : (0 : Int32) = 0)) (by decide) (by decide) ?_
        show own_S p e below T58 (mkF m 88 #[.val (.long q0), .second, .val (.long q1), .second, .val (.long q2), .second, .val (.long q3), .second, .val (.long q4), .second, .val (.int p5), .val (.int (1 : Int32)), .val (.int (0 : Int32)), .val (.ref b54), .val (.long (1 : Int64)), .second, .unset, .unset, .unset, .unset, .unset, .unset, .unset, .unset] []) _
        refine XS.lload X58.here hx rfl (hb hby at_88) rfl ?_
        show own_S p e below T58 (mkF m 90 #[.val (.long q0), .second, .val (.long q1), .second, .val (.long q2), .second, .val (.long q3), .second, .val (.long q4), .second, .val (.int p5), .val (.int (1 : Int32)), .val (.int (0 : Int32)), .val (.ref b54), .val (.long (1 : Int64)), .second, .unset, .unset, .unset, .unset, .unset, .unset, .unset, .unset] [(.long (1 : Int64))]) _
        refine XS.lstore X58.here hx rfl (hb hby at_90) rfl (l' := #[.val (.long q0), .second, .val (.long q1), .second, .val (.long q2), .second, .val (.long q3), .second, .val (.long q4), .second, .val (.int p5), .val (.int (1 : Int32)), .val (.int (0 : Int32)), .val (.ref b54), .val (.long (1 : Int64)), .second, .val (.long (1 : Int64)), .second, .unset, .unset, .unset, .unset, .unset, .unset]) rfl ?_
        show own_S p e below T58 (mkF m 92 #[.val (.long q0), .second, .val (.long q1), .second, .val (.long q2), .second, .val (.long q3), .second, .val (.long q4), .second, .val (.int p5), .val (.int (1 : Int32)), .val (.int (0 : Int32)), .val (.ref b54), .val (.long (1 : Int64)), .second, .val (.long (1 : Int64)), .second, .unset, .unset, .unset, .unset, .unset, .unset] []) _
        refine XS.iload X58.here hx rfl (hb hby at_92) rfl ?_
        show own_S p e below T58 (mkF m 94 #[.val (.long q0), .second, .val (.long q1), .second, .val (.long q2), .second, .val (.long q3), .second, .val (.long q4), .second, .val (.int p5), .val (.int (1 : Int32)), .val (.int (0 : Int32)), .val (.ref b54), .val (.long (1 : Int64)), .second, .val (.long (1 : Int64)), .second, .unset, .unset, .unset, .unset, .unset, .unset] [(.int (0 : Int32))]) _
        refine XS.ifYes X58.here hx rfl (pc0 := 94) (pc' := 102) rfl (hb hby at_94) rfl (XT.i0_eq_t (by decide : (0 : Int32) = 0)) (by decide) (by decide) ?_
        show own_S p e below T58 (mkF m 102 #[.val (.long q0), .second, .val (.long q1), .second, .val (.long q2), .second, .val (.long q3), .second, .val (.long q4), .second, .val (.int p5), .val (.int (1 : Int32)), .val (.int (0 : Int32)), .val (.ref b54), .val (.long (1 : Int64)), .second, .val (.long (1 : Int64)), .second, .unset, .unset, .unset, .unset, .unset, .unset] []) _
        refine XS.lconst X58.here hx rfl (hb hby at_102) ?_
        show own_S p e below T58 (mkF m 103 #[.val (.long q0), .second, .val (.long q1), .second, .val (.long q2), .second, .val (.long q3), .second, .val (.long q4), .second, .val (.int p5), .val (.int (1 : Int32)), .val (.int (0 : Int32)), .val (.ref b54), .val (.long (1 : Int64)), .second, .val (.long (1 : Int64)), .second, .unset, .unset, .unset, .unset, .unset, .unset] [(.long (0 : Int64))]) _
        refine XS.lstore X58.here hx rfl (hb hby at_103) rfl (l' := #[.val (.long q0), .second, .val (.long q1), .second, .val (.long q2), .second, .val (.long q3), .second, .val (.long q4), .second, .val (.int p5), .val (.int (1 : Int32)), .val (.int (0 : Int32)), .val (.ref b54), .val (.long (1 : Int64)), .second, .val (.long (1 : Int64)), .second, .val (.long (0 : Int64)), .second, .unset, .unset, .unset, .unset]) rfl ?_
        show own_S p e below T58 (mkF m 105 #[.val (.long q0), .second, .val (.long q1), .second, .val (.long q2), .second, .val (.long q3), .second, .val (.long q4), .second, .val (.int p5), .val (.int (1 : Int32)), .val (.int (0 : Int32)), .val (.ref b54), .val (.long (1 : Int64)), .second, .val (.long (1 : Int64)), .second, .val (.long (0 : Int64)), .second, .unset, .unset, .unset, .unset] []) _
        refine XS.iload X58.here hx rfl (hb hby at_105) rfl ?_
        show own_S p e below T58 (mkF m 107 #[.val (.long q0), .second, .val (.long q1), .second, .val (.long q2), .second, .val (.long q3), .second, .val (.long q4), .second, .val (.int p5), .val (.int (1 : Int32)), .val (.int (0 : Int32)), .val (.ref b54), .val (.long (1 : Int64)), .second, .val (.long (1 : Int64)), .second, .val (.long (0 : Int64)), .second, .unset, .unset, .unset, .unset] [(.int (0 : Int32))]) _
        refine XS.ifYes X58.here hx rfl (pc0 := 107) (pc' := 115) rfl (hb hby at_107) rfl (XT.i0_eq_t (by decide : (0 : Int32) = 0)) (by decide) (by decide) ?_
        show own_S p e below T58 (mkF m 115 #[.val (.long q0), .second, .val (.long q1), .second, .val (.long q2), .second, .val (.long q3), .second, .val (.long q4), .second, .val (.int p5), .val (.int (1 : Int32)), .val (.int (0 : Int32)), .val (.ref b54), .val (.long (1 : Int64)), .second, .val (.long (1 : Int64)), .second, .val (.long (0 : Int64)), .second, .unset, .unset, .unset, .unset] []) _
        refine XS.lloadN X58.here hx rfl (hb hby at_115) rfl ?_
        show own_S p e below T58 (mkF m 116 #[.val (.long q0), .second, .val (.long q1), .second, .val (.long q2), .second, .val (.long q3), .second, .val (.long q4), .second, .val (.int p5), .val (.int (1 : Int32)), .val (.int (0 : Int32)), .val (.ref b54), .val (.long (1 : Int64)), .second, .val (.long (1 : Int64)), .second, .val (.long (0 : Int64)), .second, .unset, .unset, .unset, .unset] [(.long q1)]) _
        refine XS.lstore X58.here hx rfl (hb hby at_116) rfl (l' := #[.val (.long q0), .second, .val (.long q1), .second, .val (.long q2), .second, .val (.long q3), .second, .val (.long q4), .second, .val (.int p5), .val (.int (1 : Int32)), .val (.int (0 : Int32)), .val (.ref b54), .val (.long (1 : Int64)), .second, .val (.long (1 : Int64)), .second, .val (.long (0 : Int64)), .second, .val (.long q1), .second, .unset, .unset]) rfl ?_
        show own_S p e below T58 (mkF m 118 #[.val (.long q0), .second, .val (.long q1), .second, .val (.long q2), .second, .val (.long q3), .second, .val (.long q4), .second, .val (.int p5), .val (.int (1 : Int32)), .val (.int (0 : Int32)), .val (.ref b54), .val (.long (1 : Int64)), .second, .val (.long (1 : Int64)), .second, .val (.long (0 : Int64)), .second, .val (.long q1), .second, .unset, .unset] []) _
        refine XS.aload X58.here hx rfl (hb hby at_118) rfl rfl ?_
        exact k
      obtain ⟨cq60, kq60, q60a, q60b, q60c⟩ := isOf hZ rfl Ex58
      obtain ⟨_, _, ⟨T60, L60, k60, n60⟩, -, X60, ⟨Lc60, hQ60, l60, y60, z60⟩, st60⟩ := X58.virtualBack hx (y := (⟨"com/example/headroom/headroom/model/Member", "processingMs", "()D"⟩ : MethodName)) (z := (⟨"com/example/headroom/headroom/model/Member", "processingMs", "()D"⟩ : MethodName)) hown (mvT hZ (hw _ (List.mem_of_getElem? (i := 55) rfl))) (mvT hZ (hw _ (List.mem_of_getElem? (i := 56) rfl))) (notFace_of_selects (args := #[]) (mvT hZ (hw _ (List.mem_of_getElem? (i := 58) rfl)))) (mvT hZ (hw _ (List.mem_of_getElem? (i := 58) rfl))) (mvT hZ (hw _ (List.mem_of_getElem? (i := 57) rfl))) (by decide) (backOf (W := 0) (rmgprocessingMs l Z a0 hw [] b54 (0 : UInt64) T58.heap n0 (Nat.le_trans Z0 Kp58.1) M58_processingMs) hZ (hw _ (List.mem_of_getElem? (i := 59) rfl)) (hw _ (List.mem_of_getElem? (i := 2) rfl)) (by decide) (by decide)) q60a q60c (g := (mkF m 120 #[.val (.long q0), .second, .val (.long q1), .second, .val (.long q2), .second, .val (.long q3), .second, .val (.long q4), .second, .val (.int p5), .val (.int (1 : Int32)), .val (.int (0 : Int32)), .val (.ref b54), .val (.long (1 : Int64)), .second, .val (.long (1 : Int64)), .second, .val (.long (0 : Int64)), .second, .val (.long q1), .second, .unset, .unset] [(.ref b54)])) rfl (by rw [hml]; rfl) (Steps.refl _) (argsL := []) (rest := []) (lenOf pd_0_1 rfl) rfl (by show 2 * 0 + _ ≤ _; exact Nat.le_of_eq rfl) (hb hby at_120) (fun _ _ => ⟨rfl, rfl, (by decide : 3 + 0 ≤ _), (by decide : 20 + 0 ≤ _)⟩)
      dsimp only [Pt.U, Pt.locs, Pt.cells, Pt.slots] at X60 l60 y60 z60 st60 hQ60
      rw [y60, z60] at X60
      obtain ⟨rfl, Nq60, e60⟩ := hQ60
      have N60 : Fr n0 L60 := by rw [l60]; exact Fr.app N58 Nq60
      have K60 : own_K p e below SE T60 (mkF m 123 #[.val (.long q0), .second, .val (.long q1), .second, .val (.long q2), .second, .val (.long q3), .second, .val (.long q4), .second, .val (.int p5), .val (.int (1 : Int32)), .val (.int (0 : Int32)), .val (.ref b54), .val (.long (1 : Int64)), .second, .val (.long (1 : Int64)), .second, .val (.long (0 : Int64)), .second, .val (.long q1), .second, .unset, .unset] [(.double (0 : UInt64))]) := fun t k => K59 _ (st60.trans k)
      have K61 : own_K p e below SE T60 (mkF m 129 #[.val (.long q0), .second, .val (.long q1), .second, .val (.long q2), .second, .val (.long q3), .second, .val (.long q4), .second, .val (.int p5), .val (.int (1 : Int32)), .val (.int (0 : Int32)), .val (.ref b54), .val (.long (1 : Int64)), .second, .val (.long (1 : Int64)), .second, .val (.long (0 : Int64)), .second, .val (.long q1), .second, .val (.double (0 : UInt64)), .second] [(.long q3), (.ref b54)]) := by
        intro t k
        refine K60 _ ?_
        refine XS.dstore X60.here hx rfl (hb hby at_123) rfl (l' := #[.val (.long q0), .second, .val (.long q1), .second, .val (.long q2), .second, .val (.long q3), .second, .val (.long q4), .second, .val (.int p5), .val (.int (1 : Int32)), .val (.int (0 : Int32)), .val (.ref b54), .val (.long (1 : Int64)), .second, .val (.long (1 : Int64)), .second, .val (.long (0 : Int64)), .second, .val (.long q1), .second, .val (.double (0 : UInt64)), .second]) rfl ?_
        show own_S p e below T60 (mkF m 125 #[.val (.long q0), .second, .val (.long q1), .second, .val (.long q2), .second, .val (.long q3), .second, .val (.long q4), .second, .val (.int p5), .val (.int (1 : Int32)), .val (.int (0 : Int32)), .val (.ref b54), .val (.long (1 : Int64)), .second, .val (.long (1 : Int64)), .second, .val (.long (0 : Int64)), .second, .val (.long q1), .second, .val (.double (0 : UInt64)), .second] []) _
        refine XS.aload X60.here hx rfl (hb hby at_125) rfl rfl ?_
        show own_S p e below T60 (mkF m 127 #[.val (.long q0), .second, .val (.long q1), .second, .val (.long q2), .second, .val (.long q3), .second, .val (.long q4), .second, .val (.int p5), .val (.int (1 : Int32)), .val (.int (0 : Int32)), .val (.ref b54), .val (.long (1 : Int64)), .second, .val (.long (1 : Int64)), .second, .val (.long (0 : Int64)), .second, .val (.long q1), .second, .val (.double (0 : UInt64)), .second] [(.ref b54)]) _
        refine XS.lload X60.here hx rfl (hb hby at_127) rfl ?_
        exact k
      obtain ⟨cq62, kq62, q62a, q62b, q62c⟩ := isOf hZ e60 Ex58
      obtain ⟨_, _, ⟨T62, L62, k62, n62⟩, -, X62, ⟨Lc62, hQ62, l62, y62, z62⟩, st62⟩ := X60.virtualBack hx (y := (⟨"com/example/headroom/headroom/model/Member", "sent", "(J)V"⟩ : MethodName)) (z := (⟨"com/example/headroom/headroom/model/Member", "sent", "(J)V"⟩ : MethodName)) hown (mvT hZ (hw _ (List.mem_of_getElem? (i := 62) rfl))) (mvT hZ (hw _ (List.mem_of_getElem? (i := 63) rfl))) (notFace_of_selects (args := #[]) (mvT hZ (hw _ (List.mem_of_getElem? (i := 65) rfl)))) (mvT hZ (hw _ (List.mem_of_getElem? (i := 65) rfl))) (mvT hZ (hw _ (List.mem_of_getElem? (i := 64) rfl))) (by decide) (backOf (W := 0) (rmse l Z a0 hw [] b54 q3 (0 : Int64) (0 : UInt64) (1 : Int64) (1 : Int64) q1 q2 d q1 T58.heap n0 (Nat.le_trans Z0 Kp58.1) Ex58 M58_pending M58_processingMs N58_sentSinceReport N58_delivered M58_lastReportNanos M58_lastSentNanos M58_processingTimes M58_reported M58_lastAcknowledgedNanos g_b54) hZ (hw _ (List.mem_of_getElem? (i := 66) rfl)) (hw _ (List.mem_of_getElem? (i := 2) rfl)) (by decide) (by decide)) q62a q62c (g := (mkF m 129 #[.val (.long q0), .second, .val (.long q1), .second, .val (.long q2), .second, .val (.long q3), .second, .val (.long q4), .second, .val (.int p5), .val (.int (1 : Int32)), .val (.int (0 : Int32)), .val (.ref b54), .val (.long (1 : Int64)), .second, .val (.long (1 : Int64)), .second, .val (.long (0 : Int64)), .second, .val (.long q1), .second, .val (.double (0 : UInt64)), .second] [(.long q3), (.ref b54)])) rfl (by rw [hml]; rfl) (Steps.refl _) (argsL := [(.long q3)]) (rest := []) (lenOf pd_0_2 rfl) rfl (by show 2 * 0 + _ ≤ _; exact Nat.le_of_eq rfl) (hb hby at_129) (fun _ _ => ⟨rfl, e60, (by decide : 3 + 0 ≤ _), (by decide : 20 + 0 ≤ _)⟩)
      dsimp only [Pt.U, Pt.locs, Pt.cells, Pt.slots] at X62 l62 y62 z62 st62 hQ62
      rw [y62, z62] at X62
      obtain ⟨rfl, Nq62, Kq62, Ex62, M62_pending, M62_processingMs, M62_sentSinceReport, M62_delivered, M62_lastReportNanos, M62_lastSentNanos, M62_processingTimes, M62_reported, M62_lastAcknowledgedNanos⟩ := hQ62
      have N62 : Fr n0 L62 := by rw [l62]; exact Fr.app N60 Nq62
      have Kp62 : Keep h0 T62.heap [] := Keep.trans Kp58 Kq62 (allS (Or.inr sz_b54) all0)
      have K62 : own_K p e below SE T62 (mkF m 132 #[.val (.long q0), .second, .val (.long q1), .second, .val (.long q2), .second, .val (.long q3), .second, .val (.long q4), .second, .val (.int p5), .val (.int (1 : Int32)), .val (.int (0 : Int32)), .val (.ref b54), .val (.long (1 : Int64)), .second, .val (.long (1 : Int64)), .second, .val (.long (0 : Int64)), .second, .val (.long q1), .second, .val (.double (0 : UInt64)), .second] []) := fun t k => K61 _ (st62.trans k)
      have N62_sentSinceReport : Fld Z T62.heap b54 "com/example/headroom/headroom/model/Member" "sentSinceReport" "J" (.long (2 : Int64)) := by
        have w := M62_sentSinceReport
        rw [show ((1 : Int64) + (1 : Int64)) = (2 : Int64) from by decide] at w
        exact w
      have N62_delivered : Fld Z T62.heap b54 "com/example/headroom/headroom/model/Member" "delivered" "J" (.long (2 : Int64)) := by
        have w := M62_delivered
        rw [show ((1 : Int64) + (1 : Int64)) = (2 : Int64) from by decide] at w
        exact w
      have K63 : own_K p e below SE T62 (mkF m 134 #[.val (.long q0), .second, .val (.long q1), .second, .val (.long q2), .second, .val (.long q3), .second, .val (.long q4), .second, .val (.int p5), .val (.int (1 : Int32)), .val (.int (0 : Int32)), .val (.ref b54), .val (.long (1 : Int64)), .second, .val (.long (1 : Int64)), .second, .val (.long (0 : Int64)), .second, .val (.long q1), .second, .val (.double (0 : UInt64)), .second] [(.ref b54)]) := by
        intro t k
        refine K62 _ ?_
        refine XS.aload X62.here hx rfl (hb hby at_132) rfl rfl ?_
        exact k
      obtain ⟨cq64, kq64, q64a, q64b, q64c⟩ := isOf hZ rfl Ex62
      obtain ⟨_, _, ⟨T64, L64, k64, n64⟩, -, X64, ⟨Lc64, hQ64, l64, y64, z64⟩, st64⟩ := X62.virtualBack hx (y := (⟨"com/example/headroom/headroom/model/Member", "sentSinceReport", "()J"⟩ : MethodName)) (z := (⟨"com/example/headroom/headroom/model/Member", "sentSinceReport", "()J"⟩ : MethodName)) hown (mvT hZ (hw _ (List.mem_of_getElem? (i := 69) rfl))) (mvT hZ (hw _ (List.mem_of_getElem? (i := 70) rfl))) (notFace_of_selects (args := #[]) (mvT hZ (hw _ (List.mem_of_getElem? (i := 72) rfl)))) (mvT hZ (hw _ (List.mem_of_getElem? (i := 72) rfl))) (mvT hZ (hw _ (List.mem_of_getElem? (i := 71) rfl))) (by decide) (backOf (W := 0) (rmgsentSinceReport l Z a0 hw [] b54 (2 : Int64) T62.heap n0 (Nat.le_trans Z0 Kp62.1) N62_sentSinceReport) hZ (hw _ (List.mem_of_getElem? (i := 73) rfl)) (hw _ (List.mem_of_getElem? (i := 2) rfl)) (by decide) (by decide)) q64a q64c (g := (mkF m 134 #[.val (.long q0), .second, .val (.long q1), .second, .val (.long q2), .second, .val (.long q3), .second, .val (.long q4), .second, .val (.int p5), .val (.int (1 : Int32)), .val (.int (0 : Int32)), .val (.ref b54), .val (.long (1 : Int64)), .second, .val (.long (1 : Int64)), .second, .val (.long (0 : Int64)), .second, .val (.long q1), .second, .val (.double (0 : UInt64)), .second] [(.ref b54)])) rfl (by rw [hml]; rfl) (Steps.refl _) (argsL := []) (rest := []) (lenOf pd_0_3 rfl) rfl (by show 2 * 0 + _ ≤ _; exact Nat.le_of_eq rfl) (hb hby at_134) (fun _ _ => ⟨rfl, rfl, (by decide : 3 + 0 ≤ _), (by decide : 20 + 0 ≤ _)⟩)
      dsimp only [Pt.U, Pt.locs, Pt.cells, Pt.slots] at X64 l64 y64 z64 st64 hQ64
      rw [y64, z64] at X64
      obtain ⟨rfl, Nq64, e64⟩ := hQ64
      have N64 : Fr n0 L64 := by rw [l64]; exact Fr.app N62 Nq64
      have K64 : own_K p e below SE T64 (mkF m 137 #[.val (.long q0), .second, .val (.long q1), .second, .val (.long q2), .second, .val (.long q3), .second, .val (.long q4), .second, .val (.int p5), .val (.int (1 : Int32)), .val (.int (0 : Int32)), .val (.ref b54), .val (.long (1 : Int64)), .second, .val (.long (1 : Int64)), .second, .val (.long (0 : Int64)), .second, .val (.long q1), .second, .val (.double (0 : UInt64)), .second] [(.long (2 : Int64))]) := fun t k => K63 _ (st64.trans k)
      have K65 : own_K p e below SE T64 (mkF m 147 #[.val (.long q0), .second, .val (.long q1), .second, .val (.long q2), .second, .val (.long q3), .second, .val (.long q4), .second, .val (.int p5), .val (.int (1 : Int32)), .val (.int (0 : Int32)), .val (.ref b54), .val (.long (1 : Int64)), .second, .val (.long (1 : Int64)), .second, .val (.long (0 : Int64)), .second, .val (.long q1), .second, .val (.double (0 : UInt64)), .second] [(.ref b54)]) := by
        intro t k
        refine K64 _ ?_
        refine XS.lload X64.here hx rfl (hb hby at_137) rfl ?_
        show own_S p e below T64 (mkF m 139 #[.val (.long q0), .second, .val (.long q1), .second, .val (.long q2), .second, .val (.long q3), .second, .val (.long q4), .second, .val (.int p5), .val (.int (1 : Int32)), .val (.int (0 : Int32)), .val (.ref b54), .val (.long (1 : Int64)), .second, .val (.long (1 : Int64)), .second, .val (.long (0 : Int64)), .second, .val (.long q1), .second, .val (.double (0 : UInt64)), .second] [(.long (1 : Int64)), (.long (2 : Int64))]) _
        refine XS.lconst X64.here hx rfl (hb hby at_139) ?_
        show own_S p e below T64 (mkF m 140 #[.val (.long q0), .second, .val (.long q1), .second, .val (.long q2), .second, .val (.long q3), .second, .val (.long q4), .second, .val (.int p5), .val (.int (1 : Int32)), .val (.int (0 : Int32)), .val (.ref b54), .val (.long (1 : Int64)), .second, .val (.long (1 : Int64)), .second, .val (.long (0 : Int64)), .second, .val (.long q1), .second, .val (.double (0 : UInt64)), .second] [(.long (1 : Int64)), (.long (1 : Int64)), (.long (2 : Int64))]) _
        refine XS.ladd X64.here hx rfl (hb hby at_140) rfl ?_
        show own_S p e below T64 (mkF m 141 #[.val (.long q0), .second, .val (.long q1), .second, .val (.long q2), .second, .val (.long q3), .second, .val (.long q4), .second, .val (.int p5), .val (.int (1 : Int32)), .val (.int (0 : Int32)), .val (.ref b54), .val (.long (1 : Int64)), .second, .val (.long (1 : Int64)), .second, .val (.long (0 : Int64)), .second, .val (.long q1), .second, .val (.double (0 : UInt64)), .second] [(.long (2 : Int64)), (.long (2 : Int64))]) _
        refine XT.lcmp X64.here hx rfl (hb hby at_141) rfl ?_
        show own_S p e below T64 (mkF m 142 #[.val (.long q0), .second, .val (.long q1), .second, .val (.long q2), .second, .val (.long q3), .second, .val (.long q4), .second, .val (.int p5), .val (.int (1 : Int32)), .val (.int (0 : Int32)), .val (.ref b54), .val (.long (1 : Int64)), .second, .val (.long (1 : Int64)), .second, .val (.long (0 : Int64)), .second, .val (.long q1), .second, .val (.double (0 : UInt64)), .second] [(.int (XT.cmpL (2 : Int64) (2 : Int64)))]) _
        refine XS.ifNo X64.here hx rfl (hb hby at_142) rfl (XT.ll_ne_f (by decide : (2 : Int64) = (2 : Int64))) ?_
        show own_S p e below T64 (mkF m 145 #[.val (.long q0), .second, .val (.long q1), .second, .val (.long q2), .second, .val (.long q3), .second, .val (.long q4), .second, .val (.int p5), .val (.int (1 : Int32)), .val (.int (0 : Int32)), .val (.ref b54), .val (.long (1 : Int64)), .second, .val (.long (1 : Int64)), .second, .val (.long (0 : Int64)), .second, .val (.long q1), .second, .val (.double (0 : UInt64)), .second] []) _
        refine XS.aload X64.here hx rfl (hb hby at_145) rfl rfl ?_
        exact k
      obtain ⟨cq66, kq66, q66a, q66b, q66c⟩ := isOf hZ e64 Ex62
      obtain ⟨_, _, ⟨T66, L66, k66, n66⟩, -, X66, ⟨Lc66, hQ66, l66, y66, z66⟩, st66⟩ := X64.virtualBack hx (y := (⟨"com/example/headroom/headroom/model/Member", "delivered", "()J"⟩ : MethodName)) (z := (⟨"com/example/headroom/headroom/model/Member", "delivered", "()J"⟩ : MethodName)) hown (mvT hZ (hw _ (List.mem_of_getElem? (i := 74) rfl))) (mvT hZ (hw _ (List.mem_of_getElem? (i := 75) rfl))) (notFace_of_selects (args := #[]) (mvT hZ (hw _ (List.mem_of_getElem? (i := 77) rfl)))) (mvT hZ (hw _ (List.mem_of_getElem? (i := 77) rfl))) (mvT hZ (hw _ (List.mem_of_getElem? (i := 76) rfl))) (by decide) (backOf (W := 0) (rmgdelivered l Z a0 hw [] b54 (2 : Int64) T62.heap n0 (Nat.le_trans Z0 Kp62.1) N62_delivered) hZ (hw _ (List.mem_of_getElem? (i := 78) rfl)) (hw _ (List.mem_of_getElem? (i := 2) rfl)) (by decide) (by decide)) q66a q66c (g := (mkF m 147 #[.val (.long q0), .second, .val (.long q1), .second, .val (.long q2), .second, .val (.long q3), .second, .val (.long q4), .second, .val (.int p5), .val (.int (1 : Int32)), .val (.int (0 : Int32)), .val (.ref b54), .val (.long (1 : Int64)), .second, .val (.long (1 : Int64)), .second, .val (.long (0 : Int64)), .second, .val (.long q1), .second, .val (.double (0 : UInt64)), .second] [(.ref b54)])) rfl (by rw [hml]; rfl) (Steps.refl _) (argsL := []) (rest := []) (lenOf pd_0_3 rfl) rfl (by show 2 * 0 + _ ≤ _; exact Nat.le_of_eq rfl) (hb hby at_147) (fun _ _ => ⟨rfl, e64, (by decide : 3 + 0 ≤ _), (by decide : 20 + 0 ≤ _)⟩)
      dsimp only [Pt.U, Pt.locs, Pt.cells, Pt.slots] at X66 l66 y66 z66 st66 hQ66
      rw [y66, z66] at X66
      obtain ⟨rfl, Nq66, e66⟩ := hQ66
      have N66 : Fr n0 L66 := by rw [l66]; exact Fr.app N64 Nq66
      have K66 : own_K p e below SE T66 (mkF m 150 #[.val (.long q0), .second, .val (.long q1), .second, .val (.long q2), .second, .val (.long q3), .second, .val (.long q4), .second, .val (.int p5), .val (.int (1 : Int32)), .val (.int (0 : Int32)), .val (.ref b54), .val (.long (1 : Int64)), .second, .val (.long (1 : Int64)), .second, .val (.long (0 : Int64)), .second, .val (.long q1), .second, .val (.double (0 : UInt64)), .second] [(.long (2 : Int64))]) := fun t k => K65 _ (st66.trans k)
      have K67 : own_K p e below SE T66 (mkF m 160 #[.val (.long q0), .second, .val (.long q1), .second, .val (.long q2), .second, .val (.long q3), .second, .val (.long q4), .second, .val (.int p5), .val (.int (1 : Int32)), .val (.int (0 : Int32)), .val (.ref b54), .val (.long (1 : Int64)), .second, .val (.long (1 : Int64)), .second, .val (.long (0 : Int64)), .second, .val (.long q1), .second, .val (.double (0 : UInt64)), .second] [(.ref b54)]) := by
        intro t k
        refine K66 _ ?_
        refine XS.lload X66.here hx rfl (hb hby at_150) rfl ?_
        show own_S p e below T66 (mkF m 152 #[.val (.long q0), .second, .val (.long q1), .second, .val (.long q2), .second, .val (.long q3), .second, .val (.long q4), .second, .val (.int p5), .val (.int (1 : Int32)), .val (.int (0 : Int32)), .val (.ref b54), .val (.long (1 : Int64)), .second, .val (.long (1 : Int64)), .second, .val (.long (0 : Int64)), .second, .val (.long q1), .second, .val (.double (0 : UInt64)), .second] [(.long (1 : Int64)), (.long (2 : Int64))]) _
        refine XS.lconst X66.here hx rfl (hb hby at_152) ?_
        show own_S p e below T66 (mkF m 153 #[.val (.long q0), .second, .val (.long q1), .second, .val (.long q2), .second, .val (.long q3), .second, .val (.long q4), .second, .val (.int p5), .val (.int (1 : Int32)), .val (.int (0 : Int32)), .val (.ref b54), .val (.long (1 : Int64)), .second, .val (.long (1 : Int64)), .second, .val (.long (0 : Int64)), .second, .val (.long q1), .second, .val (.double (0 : UInt64)), .second] [(.long (1 : Int64)), (.long (1 : Int64)), (.long (2 : Int64))]) _
        refine XS.ladd X66.here hx rfl (hb hby at_153) rfl ?_
        show own_S p e below T66 (mkF m 154 #[.val (.long q0), .second, .val (.long q1), .second, .val (.long q2), .second, .val (.long q3), .second, .val (.long q4), .second, .val (.int p5), .val (.int (1 : Int32)), .val (.int (0 : Int32)), .val (.ref b54), .val (.long (1 : Int64)), .second, .val (.long (1 : Int64)), .second, .val (.long (0 : Int64)), .second, .val (.long q1), .second, .val (.double (0 : UInt64)), .second] [(.long (2 : Int64)), (.long (2 : Int64))]) _
        refine XT.lcmp X66.here hx rfl (hb hby at_154) rfl ?_
        show own_S p e below T66 (mkF m 155 #[.val (.long q0), .second, .val (.long q1), .second, .val (.long q2), .second, .val (.long q3), .second, .val (.long q4), .second, .val (.int p5), .val (.int (1 : Int32)), .val (.int (0 : Int32)), .val (.ref b54), .val (.long (1 : Int64)), .second, .val (.long (1 : Int64)), .second, .val (.long (0 : Int64)), .second, .val (.long q1), .second, .val (.double (0 : UInt64)), .second] [(.int (XT.cmpL (2 : Int64) (2 : Int64)))]) _
        refine XS.ifNo X66.here hx rfl (hb hby at_155) rfl (XT.ll_ne_f (by decide : (2 : Int64) = (2 : Int64))) ?_
        show own_S p e below T66 (mkF m 158 #[.val (.long q0), .second, .val (.long q1), .second, .val (.long q2), .second, .val (.long q3), .second, .val (.long q4), .second, .val (.int p5), .val (.int (1 : Int32)), .val (.int (0 : Int32)), .val (.ref b54), .val (.long (1 : Int64)), .second, .val (.long (1 : Int64)), .second, .val (.long (0 : Int64)), .second, .val (.long q1), .second, .val (.double (0 : UInt64)), .second] []) _
        refine XS.aload X66.here hx rfl (hb hby at_158) rfl rfl ?_
        exact k
      obtain ⟨cq68, kq68, q68a, q68b, q68c⟩ := isOf hZ e66 Ex62
      obtain ⟨_, _, ⟨T68, L68, k68, n68⟩, -, X68, ⟨Lc68, hQ68, l68, y68, z68⟩, st68⟩ := X66.virtualBack hx (y := (⟨"com/example/headroom/headroom/model/Member", "lastSentNanos", "()J"⟩ : MethodName)) (z := (⟨"com/example/headroom/headroom/model/Member", "lastSentNanos", "()J"⟩ : MethodName)) hown (mvT hZ (hw _ (List.mem_of_getElem? (i := 79) rfl))) (mvT hZ (hw _ (List.mem_of_getElem? (i := 80) rfl))) (notFace_of_selects (args := #[]) (mvT hZ (hw _ (List.mem_of_getElem? (i := 82) rfl)))) (mvT hZ (hw _ (List.mem_of_getElem? (i := 82) rfl))) (mvT hZ (hw _ (List.mem_of_getElem? (i := 81) rfl))) (by decide) (backOf (W := 0) (rmglastSentNanos l Z a0 hw [] b54 q3 T62.heap n0 (Nat.le_trans Z0 Kp62.1) M62_lastSentNanos) hZ (hw _ (List.mem_of_getElem? (i := 83) rfl)) (hw _ (List.mem_of_getElem? (i := 2) rfl)) (by decide) (by decide)) q68a q68c (g := (mkF m 160 #[.val (.long q0), .second, .val (.long q1), .second, .val (.long q2), .second, .val (.long q3), .second, .val (.long q4), .second, .val (.int p5), .val (.int (1 : Int32)), .val (.int (0 : Int32)), .val (.ref b54), .val (.long (1 : Int64)), .second, .val (.long (1 : Int64)), .second, .val (.long (0 : Int64)), .second, .val (.long q1), .second, .val (.double (0 : UInt64)), .second] [(.ref b54)])) rfl (by rw [hml]; rfl) (Steps.refl _) (argsL := []) (rest := []) (lenOf pd_0_3 rfl) rfl (by show 2 * 0 + _ ≤ _; exact Nat.le_of_eq rfl) (hb hby at_160) (fun _ _ => ⟨rfl, e66, (by decide : 3 + 0 ≤ _), (by decide : 20 + 0 ≤ _)⟩)
      dsimp only [Pt.U, Pt.locs, Pt.cells, Pt.slots] at X68 l68 y68 z68 st68 hQ68
      rw [y68, z68] at X68
      obtain ⟨rfl, Nq68, e68⟩ := hQ68
      have N68 : Fr n0 L68 := by rw [l68]; exact Fr.app N66 Nq68
      have K68 : own_K p e below SE T68 (mkF m 163 #[.val (.long q0), .second, .val (.long q1), .second, .val (.long q2), .second, .val (.long q3), .second, .val (.long q4), .second, .val (.int p5), .val (.int (1 : Int32)), .val (.int (0 : Int32)), .val (.ref b54), .val (.long (1 : Int64)), .second, .val (.long (1 : Int64)), .second, .val (.long (0 : Int64)), .second, .val (.long q1), .second, .val (.double (0 : UInt64)), .second] [(.long q3)]) := fun t k => K67 _ (st68.trans k)
      have K69 : own_K p e below SE T68 (mkF m 171 #[.val (.long q0), .second, .val (.long q1), .second, .val (.long q2), .second, .val (.long q3), .second, .val (.long q4), .second, .val (.int p5), .val (.int (1 : Int32)), .val (.int (0 : Int32)), .val (.ref b54), .val (.long (1 : Int64)), .second, .val (.long (1 : Int64)), .second, .val (.long (0 : Int64)), .second, .val (.long q1), .second, .val (.double (0 : UInt64)), .second] [(.ref b54)]) := by
        intro t k
        refine K68 _ ?_
        refine XS.lload X68.here hx rfl (hb hby at_163) rfl ?_
        show own_S p e below T68 (mkF m 165 #[.val (.long q0), .second, .val (.long q1), .second, .val (.long q2), .second, .val (.long q3), .second, .val (.long q4), .second, .val (.int p5), .val (.int (1 : Int32)), .val (.int (0 : Int32)), .val (.ref b54), .val (.long (1 : Int64)), .second, .val (.long (1 : Int64)), .second, .val (.long (0 : Int64)), .second, .val (.long q1), .second, .val (.double (0 : UInt64)), .second] [(.long q3), (.long q3)]) _
        refine XT.lcmp X68.here hx rfl (hb hby at_165) rfl ?_
        show own_S p e below T68 (mkF m 166 #[.val (.long q0), .second, .val (.long q1), .second, .val (.long q2), .second, .val (.long q3), .second, .val (.long q4), .second, .val (.int p5), .val (.int (1 : Int32)), .val (.int (0 : Int32)), .val (.ref b54), .val (.long (1 : Int64)), .second, .val (.long (1 : Int64)), .second, .val (.long (0 : Int64)), .second, .val (.long q1), .second, .val (.double (0 : UInt64)), .second] [(.int (XT.cmpL q3 q3))]) _
        refine XS.ifNo X68.here hx rfl (hb hby at_166) rfl (XT.ll_ne_f rfl) ?_
        show own_S p e below T68 (mkF m 169 #[.val (.long q0), .second, .val (.long q1), .second, .val (.long q2), .second, .val (.long q3), .second, .val (.long q4), .second, .val (.int p5), .val (.int (1 : Int32)), .val (.int (0 : Int32)), .val (.ref b54), .val (.long (1 : Int64)), .second, .val (.long (1 : Int64)), .second, .val (.long (0 : Int64)), .second, .val (.long q1), .second, .val (.double (0 : UInt64)), .second] []) _
        refine XS.aload X68.here hx rfl (hb hby at_169) rfl rfl ?_
        exact k
      obtain ⟨cq70, kq70, q70a, q70b, q70c⟩ := isOf hZ e68 Ex62
      obtain ⟨_, _, ⟨T70, L70, k70, n70⟩, -, X70, ⟨Lc70, hQ70, l70, y70, z70⟩, st70⟩ := X68.virtualBack hx (y := (⟨"com/example/headroom/headroom/model/Member", "pending", "()J"⟩ : MethodName)) (z := (⟨"com/example/headroom/headroom/model/Member", "pending", "()J"⟩ : MethodName)) hown (mvT hZ (hw _ (List.mem_of_getElem? (i := 84) rfl))) (mvT hZ (hw _ (List.mem_of_getElem? (i := 85) rfl))) (notFace_of_selects (args := #[]) (mvT hZ (hw _ (List.mem_of_getElem? (i := 87) rfl)))) (mvT hZ (hw _ (List.mem_of_getElem? (i := 87) rfl))) (mvT hZ (hw _ (List.mem_of_getElem? (i := 86) rfl))) (by decide) (backOf (W := 0) (rmgpending l Z a0 hw [] b54 (0 : Int64) T62.heap n0 (Nat.le_trans Z0 Kp62.1) M62_pending) hZ (hw _ (List.mem_of_getElem? (i := 88) rfl)) (hw _ (List.mem_of_getElem? (i := 2) rfl)) (by decide) (by decide)) q70a q70c (g := (mkF m 171 #[.val (.long q0), .second, .val (.long q1), .second, .val (.long q2), .second, .val (.long q3), .second, .val (.long q4), .second, .val (.int p5), .val (.int (1 : Int32)), .val (.int (0 : Int32)), .val (.ref b54), .val (.long (1 : Int64)), .second, .val (.long (1 : Int64)), .second, .val (.long (0 : Int64)), .second, .val (.long q1), .second, .val (.double (0 : UInt64)), .second] [(.ref b54)])) rfl (by rw [hml]; rfl) (Steps.refl _) (argsL := []) (rest := []) (lenOf pd_0_3 rfl) rfl (by show 2 * 0 + _ ≤ _; exact Nat.le_of_eq rfl) (hb hby at_171) (fun _ _ => ⟨rfl, e68, (by decide : 3 + 0 ≤ _), (by decide : 20 + 0 ≤ _)⟩)
      dsimp only [Pt.U, Pt.locs, Pt.cells, Pt.slots] at X70 l70 y70 z70 st70 hQ70
      rw [y70, z70] at X70
      obtain ⟨rfl, Nq70, e70⟩ := hQ70
      have N70 : Fr n0 L70 := by rw [l70]; exact Fr.app N68 Nq70
      have K70 : own_K p e below SE T70 (mkF m 174 #[.val (.long q0), .second, .val (.long q1), .second, .val (.long q2), .second, .val (.long q3), .second, .val (.long q4), .second, .val (.int p5), .val (.int (1 : Int32)), .val (.int (0 : Int32)), .val (.ref b54), .val (.long (1 : Int64)), .second, .val (.long (1 : Int64)), .second, .val (.long (0 : Int64)), .second, .val (.long q1), .second, .val (.double (0 : UInt64)), .second] [(.long (0 : Int64))]) := fun t k => K69 _ (st70.trans k)
      have K71 : own_K p e below SE T70 (mkF m 182 #[.val (.long q0), .second, .val (.long q1), .second, .val (.long q2), .second, .val (.long q3), .second, .val (.long q4), .second, .val (.int p5), .val (.int (1 : Int32)), .val (.int (0 : Int32)), .val (.ref b54), .val (.long (1 : Int64)), .second, .val (.long (1 : Int64)), .second, .val (.long (0 : Int64)), .second, .val (.long q1), .second, .val (.double (0 : UInt64)), .second] [(.ref b54)]) := by
        intro t k
        refine K70 _ ?_
        refine XS.lload X70.here hx rfl (hb hby at_174) rfl ?_
        show own_S p e below T70 (mkF m 176 #[.val (.long q0), .second, .val (.long q1), .second, .val (.long q2), .second, .val (.long q3), .second, .val (.long q4), .second, .val (.int p5), .val (.int (1 : Int32)), .val (.int (0 : Int32)), .val (.ref b54), .val (.long (1 : Int64)), .second, .val (.long (1 : Int64)), .second, .val (.long (0 : Int64)), .second, .val (.long q1), .second, .val (.double (0 : UInt64)), .second] [(.long (0 : Int64)), (.long (0 : Int64))]) _
        refine XT.lcmp X70.here hx rfl (hb hby at_176) rfl ?_
        show own_S p e below T70 (mkF m 177 #[.val (.long q0), .second, .val (.long q1), .second, .val (.long q2), .second, .val (.long q3), .second, .val (.long q4), .second, .val (.int p5), .val (.int (1 : Int32)), .val (.int (0 : Int32)), .val (.ref b54), .val (.long (1 : Int64)), .second, .val (.long (1 : Int64)), .second, .val (.long (0 : Int64)), .second, .val (.long q1), .second, .val (.double (0 : UInt64)), .second] [(.int (XT.cmpL (0 : Int64) (0 : Int64)))]) _
        refine XS.ifNo X70.here hx rfl (hb hby at_177) rfl (XT.ll_ne_f (by decide : (0 : Int64) = (0 : Int64))) ?_
        show own_S p e below T70 (mkF m 180 #[.val (.long q0), .second, .val (.long q1), .second, .val (.long q2), .second, .val (.long q3), .second, .val (.long q4), .second, .val (.int p5), .val (.int (1 : Int32)), .val (.int (0 : Int32)), .val (.ref b54), .val (.long (1 : Int64)), .second, .val (.long (1 : Int64)), .second, .val (.long (0 : Int64)), .second, .val (.long q1), .second, .val (.double (0 : UInt64)), .second] []) _
        refine XS.aload X70.here hx rfl (hb hby at_180) rfl rfl ?_
        exact k
      obtain ⟨cq72, kq72, q72a, q72b, q72c⟩ := isOf hZ e70 Ex62
      obtain ⟨_, _, ⟨T72, L72, k72, n72⟩, -, X72, ⟨Lc72, hQ72, l72, y72, z72⟩, st72⟩ := X70.virtualBack hx (y := (⟨"com/example/headroom/headroom/model/Member", "lastReportNanos", "()J"⟩ : MethodName)) (z := (⟨"com/example/headroom/headroom/model/Member", "lastReportNanos", "()J"⟩ : MethodName)) hown (mvT hZ (hw _ (List.mem_of_getElem? (i := 89) rfl))) (mvT hZ (hw _ (List.mem_of_getElem? (i := 90) rfl))) (notFace_of_selects (args := #[]) (mvT hZ (hw _ (List.mem_of_getElem? (i := 92) rfl)))) (mvT hZ (hw _ (List.mem_of_getElem? (i := 92) rfl))) (mvT hZ (hw _ (List.mem_of_getElem? (i := 91) rfl))) (by decide) (backOf (W := 0) (rmglastReportNanos l Z a0 hw [] b54 q1 T62.heap n0 (Nat.le_trans Z0 Kp62.1) M62_lastReportNanos) hZ (hw _ (List.mem_of_getElem? (i := 93) rfl)) (hw _ (List.mem_of_getElem? (i := 2) rfl)) (by decide) (by decide)) q72a q72c (g := (mkF m 182 #[.val (.long q0), .second, .val (.long q1), .second, .val (.long q2), .second, .val (.long q3), .second, .val (.long q4), .second, .val (.int p5), .val (.int (1 : Int32)), .val (.int (0 : Int32)), .val (.ref b54), .val (.long (1 : Int64)), .second, .val (.long (1 : Int64)), .second, .val (.long (0 : Int64)), .second, .val (.long q1), .second, .val (.double (0 : UInt64)), .second] [(.ref b54)])) rfl (by rw [hml]; rfl) (Steps.refl _) (argsL := []) (rest := []) (lenOf pd_0_3 rfl) rfl (by show 2 * 0 + _ ≤ _; exact Nat.le_of_eq rfl) (hb hby at_182) (fun _ _ => ⟨rfl, e70, (by decide : 3 + 0 ≤ _), (by decide : 20 + 0 ≤ _)⟩)
      dsimp only [Pt.U, Pt.locs, Pt.cells, Pt.slots] at X72 l72 y72 z72 st72 hQ72
      rw [y72, z72] at X72
      obtain ⟨rfl, Nq72, e72⟩ := hQ72
      have N72 : Fr n0 L72 := by rw [l72]; exact Fr.app N70 Nq72
      have K72 : own_K p e below SE T72 (mkF m 185 #[.val (.long q0), .second, .val (.long q1), .second, .val (.long q2), .second, .val (.long q3), .second, .val (.long q4), .second, .val (.int p5), .val (.int (1 : Int32)), .val (.int (0 : Int32)), .val (.ref b54), .val (.long (1 : Int64)), .second, .val (.long (1 : Int64)), .second, .val (.long (0 : Int64)), .second, .val (.long q1), .second, .val (.double (0 : UInt64)), .second] [(.long q1)]) := fun t k => K71 _ (st72.trans k)
      have K73 : own_K p e below SE T72 (mkF m 193 #[.val (.long q0), .second, .val (.long q1), .second, .val (.long q2), .second, .val (.long q3), .second, .val (.long q4), .second, .val (.int p5), .val (.int (1 : Int32)), .val (.int (0 : Int32)), .val (.ref b54), .val (.long (1 : Int64)), .second, .val (.long (1 : Int64)), .second, .val (.long (0 : Int64)), .second, .val (.long q1), .second, .val (.double (0 : UInt64)), .second] [(.ref b54)]) := by
        intro t k
        refine K72 _ ?_
        refine XS.lload X72.here hx rfl (hb hby at_185) rfl ?_
        show own_S p e below T72 (mkF m 187 #[.val (.long q0), .second, .val (.long q1), .second, .val (.long q2), .second, .val (.long q3), .second, .val (.long q4), .second, .val (.int p5), .val (.int (1 : Int32)), .val (.int (0 : Int32)), .val (.ref b54), .val (.long (1 : Int64)), .second, .val (.long (1 : Int64)), .second, .val (.long (0 : Int64)), .second, .val (.long q1), .second, .val (.double (0 : UInt64)), .second] [(.long q1), (.long q1)]) _
        refine XT.lcmp X72.here hx rfl (hb hby at_187) rfl ?_
        show own_S p e below T72 (mkF m 188 #[.val (.long q0), .second, .val (.long q1), .second, .val (.long q2), .second, .val (.long q3), .second, .val (.long q4), .second, .val (.int p5), .val (.int (1 : Int32)), .val (.int (0 : Int32)), .val (.ref b54), .val (.long (1 : Int64)), .second, .val (.long (1 : Int64)), .second, .val (.long (0 : Int64)), .second, .val (.long q1), .second, .val (.double (0 : UInt64)), .second] [(.int (XT.cmpL q1 q1))]) _
        refine XS.ifNo X72.here hx rfl (hb hby at_188) rfl (XT.ll_ne_f rfl) ?_
        show own_S p e below T72 (mkF m 191 #[.val (.long q0), .second, .val (.long q1), .second, .val (.long q2), .second, .val (.long q3), .second, .val (.long q4), .second, .val (.int p5), .val (.int (1 : Int32)), .val (.int (0 : Int32)), .val (.ref b54), .val (.long (1 : Int64)), .second, .val (.long (1 : Int64)), .second, .val (.long (0 : Int64)), .second, .val (.long q1), .second, .val (.double (0 : UInt64)), .second] []) _
        refine XS.aload X72.here hx rfl (hb hby at_191) rfl rfl ?_
        exact k
      obtain ⟨cq74, kq74, q74a, q74b, q74c⟩ := isOf hZ e72 Ex62
      obtain ⟨_, _, ⟨T74, L74, k74, n74⟩, -, X74, ⟨Lc74, hQ74, l74, y74, z74⟩, st74⟩ := X72.virtualBack hx (y := (⟨"com/example/headroom/headroom/model/Member", "processingMs", "()D"⟩ : MethodName)) (z := (⟨"com/example/headroom/headroom/model/Member", "processingMs", "()D"⟩ : MethodName)) hown (mvT hZ (hw _ (List.mem_of_getElem? (i := 55) rfl))) (mvT hZ (hw _ (List.mem_of_getElem? (i := 56) rfl))) (notFace_of_selects (args := #[]) (mvT hZ (hw _ (List.mem_of_getElem? (i := 58) rfl)))) (mvT hZ (hw _ (List.mem_of_getElem? (i := 58) rfl))) (mvT hZ (hw _ (List.mem_of_getElem? (i := 57) rfl))) (by decide) (backOf (W := 0) (rmgprocessingMs l Z a0 hw [] b54 (0 : UInt64) T62.heap n0 (Nat.le_trans Z0 Kp62.1) M62_processingMs) hZ (hw _ (List.mem_of_getElem? (i := 59) rfl)) (hw _ (List.mem_of_getElem? (i := 2) rfl)) (by decide) (by decide)) q74a q74c (g := (mkF m 193 #[.val (.long q0), .second, .val (.long q1), .second, .val (.long q2), .second, .val (.long q3), .second, .val (.long q4), .second, .val (.int p5), .val (.int (1 : Int32)), .val (.int (0 : Int32)), .val (.ref b54), .val (.long (1 : Int64)), .second, .val (.long (1 : Int64)), .second, .val (.long (0 : Int64)), .second, .val (.long q1), .second, .val (.double (0 : UInt64)), .second] [(.ref b54)])) rfl (by rw [hml]; rfl) (Steps.refl _) (argsL := []) (rest := []) (lenOf pd_0_1 rfl) rfl (by show 2 * 0 + _ ≤ _; exact Nat.le_of_eq rfl) (hb hby at_193) (fun _ _ => ⟨rfl, e72, (by decide : 3 + 0 ≤ _), (by decide : 20 + 0 ≤ _)⟩)
      dsimp only [Pt.U, Pt.locs, Pt.cells, Pt.slots] at X74 l74 y74 z74 st74 hQ74
      rw [y74, z74] at X74
      obtain ⟨rfl, Nq74, e74⟩ := hQ74
      have N74 : Fr n0 L74 := by rw [l74]; exact Fr.app N72 Nq74
      have K74 : own_K p e below SE T74 (mkF m 196 #[.val (.long q0), .second, .val (.long q1), .second, .val (.long q2), .second, .val (.long q3), .second, .val (.long q4), .second, .val (.int p5), .val (.int (1 : Int32)), .val (.int (0 : Int32)), .val (.ref b54), .val (.long (1 : Int64)), .second, .val (.long (1 : Int64)), .second, .val (.long (0 : Int64)), .second, .val (.long q1), .second, .val (.double (0 : UInt64)), .second] [(.double (0 : UInt64))]) := fun t k => K73 _ (st74.trans k)
      have K75 : own_K p e below SE T74 (mkF m 199 #[.val (.long q0), .second, .val (.long q1), .second, .val (.long q2), .second, .val (.long q3), .second, .val (.long q4), .second, .val (.int p5), .val (.int (1 : Int32)), .val (.int (0 : Int32)), .val (.ref b54), .val (.long (1 : Int64)), .second, .val (.long (1 : Int64)), .second, .val (.long (0 : Int64)), .second, .val (.long q1), .second, .val (.double (0 : UInt64)), .second] [(.int (cmpValue (FP.dcmp (0 : UInt64) (0 : UInt64)) CmpOp.l))]) := by
        intro t k
        refine K74 _ ?_
        refine XS.dload X74.here hx rfl (hb hby at_196) rfl ?_
        show own_S p e below T74 (mkF m 198 #[.val (.long q0), .second, .val (.long q1), .second, .val (.long q2), .second, .val (.long q3), .second, .val (.long q4), .second, .val (.int p5), .val (.int (1 : Int32)), .val (.int (0 : Int32)), .val (.ref b54), .val (.long (1 : Int64)), .second, .val (.long (1 : Int64)), .second, .val (.long (0 : Int64)), .second, .val (.long q1), .second, .val (.double (0 : UInt64)), .second] [(.double (0 : UInt64)), (.double (0 : UInt64))]) _
        refine XS.dcmpS X74.here hx rfl (hb hby at_198) rfl rfl ?_
        exact k
      rw [dcmpV_self own_zz CmpOp.l] at K75
      have K76 : own_K p e below SE T74 (mkF m 207 #[.val (.long q0), .second, .val (.long q1), .second, .val (.long q2), .second, .val (.long q3), .second, .val (.long q4), .second, .val (.int p5), .val (.int (1 : Int32)), .val (.int (0 : Int32)), .val (.ref b54), .val (.long (1 : Int64)), .second, .val (.long (1 : Int64)), .second, .val (.long (0 : Int64)), .second, .val (.long q1), .second, .val (.double (0 : UInt64)), .second] [(.int (1 : Int32))]) := by
        intro t k
        refine K75 _ ?_
        refine XS.ifNo X74.here hx rfl (hb hby at_199) rfl (XT.i0_ne_f (by decide : (0 : Int32) = 0)) ?_
        show own_S p e below T74 (mkF m 202 #[.val (.long q0), .second, .val (.long q1), .second, .val (.long q2), .second, .val (.long q3), .second, .val (.long q4), .second, .val (.int p5), .val (.int (1 : Int32)), .val (.int (0 : Int32)), .val (.ref b54), .val (.long (1 : Int64)), .second, .val (.long (1 : Int64)), .second, .val (.long (0 : Int64)), .second, .val (.long q1), .second, .val (.double (0 : UInt64)), .second] []) _
        refine XS.iconst X74.here hx rfl (hb hby at_202) ?_
        show own_S p e below T74 (mkF m 203 #[.val (.long q0), .second, .val (.long q1), .second, .val (.long q2), .second, .val (.long q3), .second, .val (.long q4), .second, .val (.int p5), .val (.int (1 : Int32)), .val (.int (0 : Int32)), .val (.ref b54), .val (.long (1 : Int64)), .second, .val (.long (1 : Int64)), .second, .val (.long (0 : Int64)), .second, .val (.long q1), .second, .val (.double (0 : UInt64)), .second] [(.int (1 : Int32))]) _
        refine XS.goto X74.here hx rfl (pc0 := 203) (pc' := 207) rfl (hb hby at_203) (by decide) (by decide) ?_
        exact k
      obtain ⟨fs, hr, hrun, hended, hW, hsame⟩ := X74.leave (v := some (.int (1 : Int32))) (fun h => by rw [Bd.returns] at h; cases h)
      refine ⟨_, _, K76 _ ?_, hrun, hended, _, _, rfl, ?_, ⟨_, rfl⟩, hW, hsame.mono (by decide) (by decide)⟩
      · exact retN X74 hx (t := .boolean) Bd.returns (by simp) (hb hby at_207) hr
      · show Q0 Z q0 q1 q2 q3 q4 p5 h0 n0 _ T74.heap _
        rw [e74]
        exact ⟨rfl, N74⟩
    · skip
      have K77 : own_K p e below SE s₁ (mkF m 28 #[.val (.long q0), .second, .val (.long q1), .second, .val (.long q2), .second, .val (.long q3), .second, .val (.long q4), .second, .val (.int p5), .val (.int (1 : Int32)), .val (.int (1 : Int32)), .unset, .unset, .unset, .unset, .unset, .unset, .unset, .unset, .unset, .unset, .unset] []) := by
        intro t k
        refine K52 _ ?_
        refine XS.ifNo X0.here hx rfl (hb hby at_18) rfl (XT.i0_eq_f c18_51) ?_
        show own_S p e below s₁ (mkF m 21 #[.val (.long q0), .second, .val (.long q1), .second, .val (.long q2), .second, .val (.long q3), .second, .val (.long q4), .second, .val (.int p5), .val (.int (1 : Int32)), .unset, .unset, .unset, .unset, .unset, .unset, .unset, .unset, .unset, .unset, .unset, .unset] []) _
        refine XS.iconst X0.here hx rfl (hb hby at_21) ?_
        show own_S p e below s₁ (mkF m 22 #[.val (.long q0), .second, .val (.long q1), .second, .val (.long q2), .second, .val (.long q3), .second, .val (.long q4), .second, .val (.int p5), .val (.int (1 : Int32)), .unset, .unset, .unset, .unset, .unset, .unset, .unset, .unset, .unset, .unset, .unset, .unset] [(.int (1 : Int32))]) _
        refine XS.goto X0.here hx rfl (pc0 := 22) (pc' := 26) rfl (hb hby at_22) (by decide) (by decide) ?_
        show own_S p e below s₁ (mkF m 26 #[.val (.long q0), .second, .val (.long q1), .second, .val (.long q2), .second, .val (.long q3), .second, .val (.long q4), .second, .val (.int p5), .val (.int (1 : Int32)), .unset, .unset, .unset, .unset, .unset, .unset, .unset, .unset, .unset, .unset, .unset, .unset] [(.int (1 : Int32))]) _
        refine XS.istore X0.here hx rfl (hb hby at_26) rfl (l' := #[.val (.long q0), .second, .val (.long q1), .second, .val (.long q2), .second, .val (.long q3), .second, .val (.long q4), .second, .val (.int p5), .val (.int (1 : Int32)), .val (.int (1 : Int32)), .unset, .unset, .unset, .unset, .unset, .unset, .unset, .unset, .unset, .unset, .unset]) rfl ?_
        exact k
      obtain ⟨T78, h78, X78, e78, E78, A78, D78, -, st78⟩ := newO X0 hx hZ hown (hw _ (List.mem_of_getElem? (i := 0) rfl)) (hw _ (List.mem_of_getElem? (i := 1) rfl)) (hw _ (List.mem_of_getElem? (i := 2) rfl)) e0 (g := (mkF m 28 #[.val (.long q0), .second, .val (.long q1), .second, .val (.long q2), .second, .val (.long q3), .second, .val (.long q4), .second, .val (.int p5), .val (.int (1 : Int32)), .val (.int (1 : Int32)), .unset, .unset, .unset, .unset, .unset, .unset, .unset, .unset, .unset, .unset, .unset] [])) rfl (hb hby at_28) (by decide) (by decide)
      obtain ⟨b78, g78⟩ : ∃ z, z = h0.size := ⟨_, rfl⟩
      rw [← g78] at A78 D78 st78
      have g_b78 : n0 ≤ b78 := Nat.le_trans Z0 (Nat.le_of_eq g78.symm)
      have sz_b78 : h0.size ≤ b78 := Nat.le_trans (Nat.le_refl _) (Nat.le_of_eq g78.symm)
      have Kp78 : Keep h0 h78 [] := Keep.ext (Keep.refl h0 []) E78
      have F_processingTimes_b78 : Fld Z h78 b78 "com/example/headroom/headroom/model/Member" "processingTimes" "Ljava/util/Deque;" .null := D78 (Or.inr (hw _ (List.mem_of_getElem? (i := 28) rfl))) (ty := (.object "java/util/Deque")) (by decide)
      have F_subscription_b78 : Fld Z h78 b78 "com/example/headroom/headroom/model/Member" "subscription" "Lcom/example/headroom/headroom/model/Subscription;" .null := D78 (Or.inl (hw _ (List.mem_of_getElem? (i := 30) rfl))) (ty := (.object "com/example/headroom/headroom/model/Subscription")) (by decide)
      have F_joinOrder_b78 : Fld Z h78 b78 "com/example/headroom/headroom/model/Member" "joinOrder" "J" (.long (0 : Int64)) := D78 (Or.inr (hw _ (List.mem_of_getElem? (i := 32) rfl))) (ty := .long) (by decide)
      have F_lastReportNanos_b78 : Fld Z h78 b78 "com/example/headroom/headroom/model/Member" "lastReportNanos" "J" (.long (0 : Int64)) := D78 (Or.inl (hw _ (List.mem_of_getElem? (i := 34) rfl))) (ty := .long) (by decide)
      have F_lastSentNanos_b78 : Fld Z h78 b78 "com/example/headroom/headroom/model/Member" "lastSentNanos" "J" (.long (0 : Int64)) := D78 (Or.inl (hw _ (List.mem_of_getElem? (i := 36) rfl))) (ty := .long) (by decide)
      have F_lastAcknowledgedNanos_b78 : Fld Z h78 b78 "com/example/headroom/headroom/model/Member" "lastAcknowledgedNanos" "J" (.long (0 : Int64)) := D78 (Or.inl (hw _ (List.mem_of_getElem? (i := 38) rfl))) (ty := .long) (by decide)
      have F_reported_b78 : Fld Z h78 b78 "com/example/headroom/headroom/model/Member" "reported" "Z" (.int (0 : Int32)) := D78 (Or.inl (hw _ (List.mem_of_getElem? (i := 45) rfl))) (ty := .boolean) (by decide)
      have F_pending_b78 : Fld Z h78 b78 "com/example/headroom/headroom/model/Member" "pending" "J" (.long (0 : Int64)) := D78 (Or.inl (hw _ (List.mem_of_getElem? (i := 52) rfl))) (ty := .long) (by decide)
      have F_sentSinceReport_b78 : Fld Z h78 b78 "com/example/headroom/headroom/model/Member" "sentSinceReport" "J" (.long (0 : Int64)) := D78 (Or.inl (hw _ (List.mem_of_getElem? (i := 54) rfl))) (ty := .long) (by decide)
      have F_processingMs_b78 : Fld Z h78 b78 "com/example/headroom/headroom/model/Member" "processingMs" "D" (.double (0 : UInt64)) := D78 (Or.inl (hw _ (List.mem_of_getElem? (i := 61) rfl))) (ty := .double) (by decide)
      have F_delivered_b78 : Fld Z h78 b78 "com/example/headroom/headroom/model/Member" "delivered" "J" (.long (0 : Int64)) := D78 (Or.inl (hw _ (List.mem_of_getElem? (i := 68) rfl))) (ty := .long) (by decide)
      have K78 : own_K p e below SE T78 (mkF m 31 #[.val (.long q0), .second, .val (.long q1), .second, .val (.long q2), .second, .val (.long q3), .second, .val (.long q4), .second, .val (.int p5), .val (.int (1 : Int32)), .val (.int (1 : Int32)), .unset, .unset, .unset, .unset, .unset, .unset, .unset, .unset, .unset, .unset, .unset] [(.ref b78)]) := fun t k => K77 _ (st78 _ k)
      have K79 : own_K p e below SE T78 (mkF m 35 #[.val (.long q0), .second, .val (.long q1), .second, .val (.long q2), .second, .val (.long q3), .second, .val (.long q4), .second, .val (.int p5), .val (.int (1 : Int32)), .val (.int (1 : Int32)), .unset, .unset, .unset, .unset, .unset, .unset, .unset, .unset, .unset, .unset, .unset] [(.long q1), (.long q0), .null, (.ref b78), (.ref b78)]) := by
        intro t k
        refine K78 _ ?_
        refine XS.dup X78.here hx rfl (hb hby at_31) rfl rfl ?_
        show own_S p e below T78 (mkF m 32 #[.val (.long q0), .second, .val (.long q1), .second, .val (.long q2), .second, .val (.long q3), .second, .val (.long q4), .second, .val (.int p5), .val (.int (1 : Int32)), .val (.int (1 : Int32)), .unset, .unset, .unset, .unset, .unset, .unset, .unset, .unset, .unset, .unset, .unset] [(.ref b78), (.ref b78)]) _
        refine XS.aconstNull X78.here hx rfl (hb hby at_32) ?_
        show own_S p e below T78 (mkF m 33 #[.val (.long q0), .second, .val (.long q1), .second, .val (.long q2), .second, .val (.long q3), .second, .val (.long q4), .second, .val (.int p5), .val (.int (1 : Int32)), .val (.int (1 : Int32)), .unset, .unset, .unset, .unset, .unset, .unset, .unset, .unset, .unset, .unset, .unset] [.null, (.ref b78), (.ref b78)]) _
        refine XS.lloadN X78.here hx rfl (hb hby at_33) rfl ?_
        show own_S p e below T78 (mkF m 34 #[.val (.long q0), .second, .val (.long q1), .second, .val (.long q2), .second, .val (.long q3), .second, .val (.long q4), .second, .val (.int p5), .val (.int (1 : Int32)), .val (.int (1 : Int32)), .unset, .unset, .unset, .unset, .unset, .unset, .unset, .unset, .unset, .unset, .unset] [(.long q0), .null, (.ref b78), (.ref b78)]) _
        refine XS.lloadN X78.here hx rfl (hb hby at_34) rfl ?_
        exact k
      obtain ⟨_, _, ⟨T80, L80, k80, n80⟩, -, X80, ⟨Lc80, hQ80, l80, y80, z80⟩, st80⟩ := X78.specialBack hx (y := (⟨"com/example/headroom/headroom/model/Member", "<init>", "(Lcom/example/headroom/headroom/model/Subscription;JJ)V"⟩ : MethodName)) rfl hown (mvT hZ (hw _ (List.mem_of_getElem? (i := 3) rfl))) (mvT hZ (hw _ (List.mem_of_getElem? (i := 4) rfl))) (mvT hZ (hw _ (List.mem_of_getElem? (i := 5) rfl))) (by decide) (backOf (W := 1) (rmmi l Z a0 hw [] b78 q0 q1 h78 n0 (Nat.le_trans Z0 Kp78.1) A78 F_processingTimes_b78 F_subscription_b78 F_joinOrder_b78 F_pending_b78 F_processingMs_b78 F_sentSinceReport_b78 F_delivered_b78 F_lastReportNanos_b78 F_lastSentNanos_b78 F_reported_b78 F_lastAcknowledgedNanos_b78 g_b78) hZ (hw _ (List.mem_of_getElem? (i := 5) rfl)) (hw _ (List.mem_of_getElem? (i := 2) rfl)) (by decide) (by decide)) (g := (mkF m 35 #[.val (.long q0), .second, .val (.long q1), .second, .val (.long q2), .second, .val (.long q3), .second, .val (.long q4), .second, .val (.int p5), .val (.int (1 : Int32)), .val (.int (1 : Int32)), .unset, .unset, .unset, .unset, .unset, .unset, .unset, .unset, .unset, .unset, .unset] [(.long q1), (.long q0), .null, (.ref b78), (.ref b78)])) rfl (by rw [hml]; rfl) (Steps.refl _) (a := b78) (argsL := [.null, (.long q0), (.long q1)]) (rest := [(.ref b78)]) (lenOf pd_0_0 rfl) rfl (by show 2 * 0 + _ ≤ _; exact Nat.le_of_eq rfl) (hb hby at_35) (fun _ _ => ⟨rfl, e78, (by decide : 1 + 2 ≤ _), (by decide : 11 + 9 ≤ _)⟩)
      dsimp only [Pt.U, Pt.locs, Pt.cells, Pt.slots] at X80 l80 y80 z80 st80 hQ80
      rw [y80, z80] at X80
      obtain ⟨rfl, Nq80, Kq80, Ex80, d, ea, kE, hs_d, hs_ea, own_ne_d_ea, Ov, M80_processingTimes, M80_pending, M80_processingMs, M80_sentSinceReport, M80_delivered, M80_lastReportNanos, M80_lastSentNanos, M80_reported, M80_lastAcknowledgedNanos, Ed80, Fh80, Ft80, Fe80, Va80⟩ := hQ80
      have N80 : Fr n0 L80 := by rw [l80]; exact Fr.app N0 Nq80
      have Kp80 : Keep h0 T80.heap [] := Keep.trans Kp78 Kq80 (allS (Or.inr sz_b78) all0)
      have K80 : own_K p e below SE T80 (mkF m 38 #[.val (.long q0), .second, .val (.long q1), .second, .val (.long q2), .second, .val (.long q3), .second, .val (.long q4), .second, .val (.int p5), .val (.int (1 : Int32)), .val (.int (1 : Int32)), .unset, .unset, .unset, .unset, .unset, .unset, .unset, .unset, .unset, .unset, .unset] [(.ref b78)]) := fun t k => K79 _ (st80.trans k)
      have own_ne_b78_d : b78 ≠ d := Nat.ne_of_lt (Nat.lt_of_lt_of_le A78.lt hs_d)
      have g_d : n0 ≤ d := Nat.le_trans (Nat.le_trans Z0 Kp78.1) hs_d
      have sz_d : h0.size ≤ d := Nat.le_trans Kp78.1 hs_d
      have own_ne_b78_ea : b78 ≠ ea := Nat.ne_of_lt (Nat.lt_of_lt_of_le A78.lt hs_ea)
      have g_ea : n0 ≤ ea := Nat.le_trans (Nat.le_trans Z0 Kp78.1) hs_ea
      have sz_ea : h0.size ≤ ea := Nat.le_trans Kp78.1 hs_ea
      have hvm : NoNaN64 (0 : UInt64) := own_zz
      have K81 : own_K p e below SE T80 (mkF m 49 #[.val (.long q0), .second, .val (.long q1), .second, .val (.long q2), .second, .val (.long q3), .second, .val (.long q4), .second, .val (.int p5), .val (.int (1 : Int32)), .val (.int (1 : Int32)), .val (.ref b78), .unset, .unset, .unset, .unset, .unset, .unset, .unset, .unset, .unset, .unset] [(.long q2), (.ref b78)]) := by
        intro t k
        refine K80 _ ?_
        refine XS.astore X80.here hx rfl (hb hby at_38) rfl rfl (l' := #[.val (.long q0), .second, .val (.long q1), .second, .val (.long q2), .second, .val (.long q3), .second, .val (.long q4), .second, .val (.int p5), .val (.int (1 : Int32)), .val (.int (1 : Int32)), .val (.ref b78), .unset, .unset, .unset, .unset, .unset, .unset, .unset, .unset, .unset, .unset]) rfl ?_
        show own_S p e below T80 (mkF m 40 #[.val (.long q0), .second, .val (.long q1), .second, .val (.long q2), .second, .val (.long q3), .second, .val (.long q4), .second, .val (.int p5), .val (.int (1 : Int32)), .val (.int (1 : Int32)), .val (.ref b78), .unset, .unset, .unset, .unset, .unset, .unset, .unset, .unset, .unset, .unset] []) _
        refine XS.iload X80.here hx rfl (hb hby at_40) rfl ?_
        show own_S p e below T80 (mkF m 42 #[.val (.long q0), .second, .val (.long q1), .second, .val (.long q2), .second, .val (.long q3), .second, .val (.long q4), .second, .val (.int p5), .val (.int (1 : Int32)), .val (.int (1 : Int32)), .val (.ref b78), .unset, .unset, .unset, .unset, .unset, .unset, .unset, .unset, .unset, .unset] [(.int (1 : Int32))]) _
        refine XS.ifNo X80.here hx rfl (hb hby at_42) rfl (XT.i0_eq_f (by decide : ¬ ((1 : Int32) = 0))) ?_
        show own_S p e below T80 (mkF m 45 #[.val (.long q0), .second, .val (.long q1), .second, .val (.long q2), .second, .val (.long q3), .second, .val (.long q4), .second, .val (.int p5), .val (.int (1 : Int32)), .val (.int (1 : Int32)), .val (.ref b78), .unset, .unset, .unset, .unset, .unset, .unset, .unset, .unset, .unset, .unset] []) _
        refine XS.aload X80.here hx rfl (hb hby at_45) rfl rfl ?_
        show own_S p e below T80 (mkF m 47 #[.val (.long q0), .second, .val (.long q1), .second, .val (.long q2), .second, .val (.long q3), .second, .val (.long q4), .second, .val (.int p5), .val (.int (1 : Int32)), .val (.int (1 : Int32)), .val (.ref b78), .unset, .unset, .unset, .unset, .unset, .unset, .unset, .unset, .unset, .unset] [(.ref b78)]) _
        refine XS.lload X80.here hx rfl (hb hby at_47) rfl ?_
        exact k
      obtain ⟨cq82, kq82, q82a, q82b, q82c⟩ := isOf hZ rfl Ex80
      obtain ⟨_, _, ⟨T82, L82, k82, n82⟩, -, X82, ⟨Lc82, hQ82, l82, y82, z82⟩, st82⟩ := X80.virtualBack hx (y := (⟨"com/example/headroom/headroom/model/Member", "sent", "(J)V"⟩ : MethodName)) (z := (⟨"com/example/headroom/headroom/model/Member", "sent", "(J)V"⟩ : MethodName)) hown (mvT hZ (hw _ (List.mem_of_getElem? (i := 62) rfl))) (mvT hZ (hw _ (List.mem_of_getElem? (i := 63) rfl))) (notFace_of_selects (args := #[]) (mvT hZ (hw _ (List.mem_of_getElem? (i := 65) rfl)))) (mvT hZ (hw _ (List.mem_of_getElem? (i := 65) rfl))) (mvT hZ (hw _ (List.mem_of_getElem? (i := 64) rfl))) (by decide) (backOf (W := 0) (rmse l Z a0 hw [] b78 q2 (0 : Int64) (0 : UInt64) (0 : Int64) (0 : Int64) q1 q1 d q1 T80.heap n0 (Nat.le_trans Z0 Kp80.1) Ex80 M80_pending M80_processingMs M80_sentSinceReport M80_delivered M80_lastReportNanos M80_lastSentNanos M80_processingTimes M80_reported M80_lastAcknowledgedNanos g_b78) hZ (hw _ (List.mem_of_getElem? (i := 66) rfl)) (hw _ (List.mem_of_getElem? (i := 2) rfl)) (by decide) (by decide)) q82a q82c (g := (mkF m 49 #[.val (.long q0), .second, .val (.long q1), .second, .val (.long q2), .second, .val (.long q3), .second, .val (.long q4), .second, .val (.int p5), .val (.int (1 : Int32)), .val (.int (1 : Int32)), .val (.ref b78), .unset, .unset, .unset, .unset, .unset, .unset, .unset, .unset, .unset, .unset] [(.long q2), (.ref b78)])) rfl (by rw [hml]; rfl) (Steps.refl _) (argsL := [(.long q2)]) (rest := []) (lenOf pd_0_2 rfl) rfl (by show 2 * 0 + _ ≤ _; exact Nat.le_of_eq rfl) (hb hby at_49) (fun _ _ => ⟨rfl, rfl, (by decide : 3 + 0 ≤ _), (by decide : 20 + 0 ≤ _)⟩)
      dsimp only [Pt.U, Pt.locs, Pt.cells, Pt.slots] at X82 l82 y82 z82 st82 hQ82
      rw [y82, z82] at X82
      obtain ⟨rfl, Nq82, Kq82, Ex82, M82_pending, M82_processingMs, M82_sentSinceReport, M82_delivered, M82_lastReportNanos, M82_lastSentNanos, M82_processingTimes, M82_reported, M82_lastAcknowledgedNanos⟩ := hQ82
      have N82 : Fr n0 L82 := by rw [l82]; exact Fr.app N80 Nq82
      have Kp82 : Keep h0 T82.heap [] := Keep.trans Kp80 Kq82 (allS (Or.inr sz_b78) all0)
      have K82 : own_K p e below SE T82 (mkF m 52 #[.val (.long q0), .second, .val (.long q1), .second, .val (.long q2), .second, .val (.long q3), .second, .val (.long q4), .second, .val (.int p5), .val (.int (1 : Int32)), .val (.int (1 : Int32)), .val (.ref b78), .unset, .unset, .unset, .unset, .unset, .unset, .unset, .unset, .unset, .unset] []) := fun t k => K81 _ (st82.trans k)
      have N82_sentSinceReport : Fld Z T82.heap b78 "com/example/headroom/headroom/model/Member" "sentSinceReport" "J" (.long (1 : Int64)) := by
        have w := M82_sentSinceReport
        rw [show ((0 : Int64) + (1 : Int64)) = (1 : Int64) from by decide] at w
        exact w
      have N82_delivered : Fld Z T82.heap b78 "com/example/headroom/headroom/model/Member" "delivered" "J" (.long (1 : Int64)) := by
        have w := M82_delivered
        rw [show ((0 : Int64) + (1 : Int64)) = (1 : Int64) from by decide] at w
        exact w
      have K83 : own_K p e below SE T82 (mkF m 64 #[.val (.long q0), .second, .val (.long q1), .second, .val (.long q2), .second, .val (.long q3), .second, .val (.long q4), .second, .val (.int p5), .val (.int (1 : Int32)), .val (.int (1 : Int32)), .val (.ref b78), .unset, .unset, .unset, .unset, .unset, .unset, .unset, .unset, .unset, .unset] [(.long q2), (.long q4), (.long q1), (.ref b78)]) := by
        intro t k
        refine K82 _ ?_
        refine XS.iload X82.here hx rfl (hb hby at_52) rfl ?_
        show own_S p e below T82 (mkF m 54 #[.val (.long q0), .second, .val (.long q1), .second, .val (.long q2), .second, .val (.long q3), .second, .val (.long q4), .second, .val (.int p5), .val (.int (1 : Int32)), .val (.int (1 : Int32)), .val (.ref b78), .unset, .unset, .unset, .unset, .unset, .unset, .unset, .unset, .unset, .unset] [(.int (1 : Int32))]) _
        refine XS.ifNo X82.here hx rfl (hb hby at_54) rfl (XT.i0_eq_f (by decide : ¬ ((1 : Int32) = 0))) ?_
        show own_S p e below T82 (mkF m 57 #[.val (.long q0), .second, .val (.long q1), .second, .val (.long q2), .second, .val (.long q3), .second, .val (.long q4), .second, .val (.int p5), .val (.int (1 : Int32)), .val (.int (1 : Int32)), .val (.ref b78), .unset, .unset, .unset, .unset, .unset, .unset, .unset, .unset, .unset, .unset] []) _
        refine XS.aload X82.here hx rfl (hb hby at_57) rfl rfl ?_
        show own_S p e below T82 (mkF m 59 #[.val (.long q0), .second, .val (.long q1), .second, .val (.long q2), .second, .val (.long q3), .second, .val (.long q4), .second, .val (.int p5), .val (.int (1 : Int32)), .val (.int (1 : Int32)), .val (.ref b78), .unset, .unset, .unset, .unset, .unset, .unset, .unset, .unset, .unset, .unset] [(.ref b78)]) _
        refine XS.lloadN X82.here hx rfl (hb hby at_59) rfl ?_
        show own_S p e below T82 (mkF m 60 #[.val (.long q0), .second, .val (.long q1), .second, .val (.long q2), .second, .val (.long q3), .second, .val (.long q4), .second, .val (.int p5), .val (.int (1 : Int32)), .val (.int (1 : Int32)), .val (.ref b78), .unset, .unset, .unset, .unset, .unset, .unset, .unset, .unset, .unset, .unset] [(.long q1), (.ref b78)]) _
        refine XS.lload X82.here hx rfl (hb hby at_60) rfl ?_
        show own_S p e below T82 (mkF m 62 #[.val (.long q0), .second, .val (.long q1), .second, .val (.long q2), .second, .val (.long q3), .second, .val (.long q4), .second, .val (.int p5), .val (.int (1 : Int32)), .val (.int (1 : Int32)), .val (.ref b78), .unset, .unset, .unset, .unset, .unset, .unset, .unset, .unset, .unset, .unset] [(.long q4), (.long q1), (.ref b78)]) _
        refine XS.lload X82.here hx rfl (hb hby at_62) rfl ?_
        exact k
      obtain ⟨cq84, kq84, q84a, q84b, q84c⟩ := isOf hZ rfl Ex82
      obtain ⟨_, _, ⟨T84, L84, k84, n84⟩, -, X84, ⟨Lc84, hQ84, l84, y84, z84⟩, st84⟩ := X82.virtualBack hx (y := (⟨"com/example/headroom/headroom/model/Member", "acknowledged", "(JJJ)V"⟩ : MethodName)) (z := (⟨"com/example/headroom/headroom/model/Member", "acknowledged", "(JJJ)V"⟩ : MethodName)) hown (mvT hZ (hw _ (List.mem_of_getElem? (i := 39) rfl))) (mvT hZ (hw _ (List.mem_of_getElem? (i := 40) rfl))) (notFace_of_selects (args := #[]) (mvT hZ (hw _ (List.mem_of_getElem? (i := 42) rfl)))) (mvT hZ (hw _ (List.mem_of_getElem? (i := 42) rfl))) (mvT hZ (hw _ (List.mem_of_getElem? (i := 41) rfl))) (by decide) (backOf (W := 0) (rmak l Z a0 hw [] b78 q1 q4 q2 (0 : Int64) (0 : UInt64) (1 : Int64) (1 : Int64) q1 q2 d q1 ea kE T82.heap n0 (Nat.le_trans Z0 Kp82.1) hvm Ex82 M82_pending M82_processingMs N82_sentSinceReport N82_delivered M82_lastReportNanos M82_lastSentNanos M82_processingTimes M82_reported M82_lastAcknowledgedNanos (Ed80.keep Kq82) (Fh80.keep Kq82 (ninS (Ne.symm (own_ne_b78_d)) nin0)) (Ft80.keep Kq82 (ninS (Ne.symm (own_ne_b78_d)) nin0)) (Fe80.keep Kq82 (ninS (Ne.symm (own_ne_b78_d)) nin0)) (Va80.keep Kq82 (ninS (Ne.symm (own_ne_b78_ea)) nin0)) Ov g_b78 g_d g_ea own_ne_b78_d own_ne_b78_ea own_ne_d_ea) hZ (hw _ (List.mem_of_getElem? (i := 43) rfl)) (hw _ (List.mem_of_getElem? (i := 2) rfl)) (by decide) (by decide)) q84a q84c (g := (mkF m 64 #[.val (.long q0), .second, .val (.long q1), .second, .val (.long q2), .second, .val (.long q3), .second, .val (.long q4), .second, .val (.int p5), .val (.int (1 : Int32)), .val (.int (1 : Int32)), .val (.ref b78), .unset, .unset, .unset, .unset, .unset, .unset, .unset, .unset, .unset, .unset] [(.long q2), (.long q4), (.long q1), (.ref b78)])) rfl (by rw [hml]; rfl) (Steps.refl _) (argsL := [(.long q1), (.long q4), (.long q2)]) (rest := []) (lenOf pd_0_4 rfl) rfl (by show 2 * 0 + _ ≤ _; exact Nat.le_of_eq rfl) (hb hby at_64) (fun _ _ => ⟨rfl, rfl, (by decide : 3 + 2 ≤ _), (by decide : 20 + 5 ≤ _)⟩)
      dsimp only [Pt.U, Pt.locs, Pt.cells, Pt.slots] at X84 l84 y84 z84 st84 hQ84
      rw [y84, z84] at X84
      obtain ⟨rfl, Nq84, Kq84, Ex84, vz, hvz, Fz84, M84_pending, M84_sentSinceReport, M84_delivered, M84_lastReportNanos, M84_lastSentNanos, M84_processingTimes, M84_reported, M84_lastAcknowledgedNanos⟩ := hQ84
      have N84 : Fr n0 L84 := by rw [l84]; exact Fr.app N82 Nq84
      have Kp84 : Keep h0 T84.heap [] := Keep.trans Kp82 Kq84 (allS (Or.inr sz_b78) (allS (Or.inr sz_d) (allS (Or.inr sz_ea) all0)))
      have K84 : own_K p e below SE T84 (mkF m 67 #[.val (.long q0), .second, .val (.long q1), .second, .val (.long q2), .second, .val (.long q3), .second, .val (.long q4), .second, .val (.int p5), .val (.int (1 : Int32)), .val (.int (1 : Int32)), .val (.ref b78), .unset, .unset, .unset, .unset, .unset, .unset, .unset, .unset, .unset, .unset] []) := fun t k => K83 _ (st84.trans k)
      have K85 : own_K p e below SE T84 (mkF m 120 #[.val (.long q0), .second, .val (.long q1), .second, .val (.long q2), .second, .val (.long q3), .second, .val (.long q4), .second, .val (.int p5), .val (.int (1 : Int32)), .val (.int (1 : Int32)), .val (.ref b78), .val (.long (1 : Int64)), .second, .val (.long (0 : Int64)), .second, .val (.long q4), .second, .val (.long q2), .second, .unset, .unset] [(.ref b78)]) := by
        intro t k
        refine K84 _ ?_
        refine XS.iload X84.here hx rfl (hb hby at_67) rfl ?_
        show own_S p e below T84 (mkF m 69 #[.val (.long q0), .second, .val (.long q1), .second, .val (.long q2), .second, .val (.long q3), .second, .val (.long q4), .second, .val (.int p5), .val (.int (1 : Int32)), .val (.int (1 : Int32)), .val (.ref b78), .unset, .unset, .unset, .unset, .unset, .unset, .unset, .unset, .unset, .unset] [(.int (1 : Int32))]) _
        refine XS.ifNo X84.here hx rfl (hb hby at_69) rfl (XT.i0_eq_f (by decide : ¬ ((1 : Int32) = 0))) ?_
        show own_S p e below T84 (mkF m 72 #[.val (.long q0), .second, .val (.long q1), .second, .val (.long q2), .second, .val (.long q3), .second, .val (.long q4), .second, .val (.int p5), .val (.int (1 : Int32)), .val (.int (1 : Int32)), .val (.ref b78), .unset, .unset, .unset, .unset, .unset, .unset, .unset, .unset, .unset, .unset] []) _
        refine XS.lconst X84.here hx rfl (hb hby at_72) ?_
        show own_S p e below T84 (mkF m 73 #[.val (.long q0), .second, .val (.long q1), .second, .val (.long q2), .second, .val (.long q3), .second, .val (.long q4), .second, .val (.int p5), .val (.int (1 : Int32)), .val (.int (1 : Int32)), .val (.ref b78), .unset, .unset, .unset, .unset, .unset, .unset, .unset, .unset, .unset, .unset] [(.long (1 : Int64))]) _
        refine XS.goto X84.here hx rfl (pc0 := 73) (pc' := 77) rfl (hb hby at_73) (by decide) (by decide) ?_
        show own_S p e below T84 (mkF m 77 #[.val (.long q0), .second, .val (.long q1), .second, .val (.long q2), .second, .val (.long q3), .second, .val (.long q4), .second, .val (.int p5), .val (.int (1 : Int32)), .val (.int (1 : Int32)), .val (.ref b78), .unset, .unset, .unset, .unset, .unset, .unset, .unset, .unset, .unset, .unset] [(.long (1 : Int64))]) _
        refine XS.lstore X84.here hx rfl (hb hby at_77) rfl (l' := #[.val (.long q0), .second, .val (.long q1), .second, .val (.long q2), .second, .val (.long q3), .second, .val (.long q4), .second, .val (.int p5), .val (.int (1 : Int32)), .val (.int (1 : Int32)), .val (.ref b78), .val (.long (1 : Int64)), .second, .unset, .unset, .unset, .unset, .unset, .unset, .unset, .unset]) rfl ?_
        show own_S p e below T84 (mkF m 79 #[.val (.long q0), .second, .val (.long q1), .second, .val (.long q2), .second, .val (.long q3), .second, .val (.long q4), .second, .val (.int p5), .val (.int (1 : Int32)), .val (.int (1 : Int32)), .val (.ref b78), .val (.long (1 : Int64)), .second, .unset, .unset, .unset, .unset, .unset, .unset, .unset, .unset] []) _
        refine XS.iload X84.here hx rfl (hb hby at_79) rfl ?_
        show own_S p e below T84 (mkF m 81 #[.val (.long q0), .second, .val (.long q1), .second, .val (.long q2), .second, .val (.long q3), .second, .val (.long q4), .second, .val (.int p5), .val (.int (1 : Int32)), .val (.int (1 : Int32)), .val (.ref b78), .val (.long (1 : Int64)), .second, .unset, .unset, .unset, .unset, .unset, .unset, .unset, .unset] [(.int (1 : Int32))]) _
        refine XS.ifNo X84.here hx rfl (hb hby at_81) rfl (XT.i0_eq_f (by decide : ¬ ((1 : Int32) = 0))) ?_
        show own_S p e below T84 (mkF m 84 #[.val (.long q0), .second, .val (.long q1), .second, .val (.long q2), .second, .val (.long q3), .second, .val (.long q4), .second, .val (.int p5), .val (.int (1 : Int32)), .val (.int (1 : Int32)), .val (.ref b78), .val (.long (1 : Int64)), .second, .unset, .unset, .unset, .unset, .unset, .unset, .unset, .unset] []) _
        refine XS.lconst X84.here hx rfl (hb hby at_84) ?_
        show own_S p e below T84 (mkF m 85 #[.val (.long q0), .second, .val (.long q1), .second, .val (.long q2), .second, .val (.long q3), .second, .val (.long q4), .second, .val (.int p5), .val (.int (1 : Int32)), .val (.int (1 : Int32)), .val (.ref b78), .val (.long (1 : Int64)), .second, .unset, .unset, .unset, .unset, .unset, .unset, .unset, .unset] [(.long (0 : Int64))]) _
        refine XS.goto X84.here hx rfl (pc0 := 85) (pc' := 90) rfl (hb hby at_85) (by decide) (by decide) ?_
        show own_S p e below T84 (mkF m 90 #[.val (.long q0), .second, .val (.long q1), .second, .val (.long q2), .second, .val (.long q3), .second, .val (.long q4), .second, .val (.int p5), .val (.int (1 : Int32)), .val (.int (1 : Int32)), .val (.ref b78), .val (.long (1 : Int64)), .second, .unset, .unset, .unset, .unset, .unset, .unset, .unset, .unset] [(.long (0 : Int64))]) _
        refine XS.lstore X84.here hx rfl (hb hby at_90) rfl (l' := #[.val (.long q0), .second, .val (.long q1), .second, .val (.long q2), .second, .val (.long q3), .second, .val (.long q4), .second, .val (.int p5), .val (.int (1 : Int32)), .val (.int (1 : Int32)), .val (.ref b78), .val (.long (1 : Int64)), .second, .val (.long (0 : Int64)), .second, .unset, .unset, .unset, .unset, .unset, .unset]) rfl ?_
        show own_S p e below T84 (mkF m 92 #[.val (.long q0), .second, .val (.long q1), .second, .val (.long q2), .second, .val (.long q3), .second, .val (.long q4), .second, .val (.int p5), .val (.int (1 : Int32)), .val (.int (1 : Int32)), .val (.ref b78), .val (.long (1 : Int64)), .second, .val (.long (0 : Int64)), .second, .unset, .unset, .unset, .unset, .unset, .unset] []) _
        refine XS.iload X84.here hx rfl (hb hby at_92) rfl ?_
        show own_S p e below T84 (mkF m 94 #[.val (.long q0), .second, .val (.long q1), .second, .val (.long q2), .second, .val (.long q3), .second, .val (.long q4), .second, .val (.int p5), .val (.int (1 : Int32)), .val (.int (1 : Int32)), .val (.ref b78), .val (.long (1 : Int64)), .second, .val (.long (0 : Int64)), .second, .unset, .unset, .unset, .unset, .unset, .unset] [(.int (1 : Int32))]) _
        refine XS.ifNo X84.here hx rfl (hb hby at_94) rfl (XT.i0_eq_f (by decide : ¬ ((1 : Int32) = 0))) ?_
        show own_S p e below T84 (mkF m 97 #[.val (.long q0), .second, .val (.long q1), .second, .val (.long q2), .second, .val (.long q3), .second, .val (.long q4), .second, .val (.int p5), .val (.int (1 : Int32)), .val (.int (1 : Int32)), .val (.ref b78), .val (.long (1 : Int64)), .second, .val (.long (0 : Int64)), .second, .unset, .unset, .unset, .unset, .unset, .unset] []) _
        refine XS.lload X84.here hx rfl (hb hby at_97) rfl ?_
        show own_S p e below T84 (mkF m 99 #[.val (.long q0), .second, .val (.long q1), .second, .val (.long q2), .second, .val (.long q3), .second, .val (.long q4), .second, .val (.int p5), .val (.int (1 : Int32)), .val (.int (1 : Int32)), .val (.ref b78), .val (.long (1 : Int64)), .second, .val (.long (0 : Int64)), .second, .unset, .unset, .unset, .unset, .unset, .unset] [(.long q4)]) _
        refine XS.goto X84.here hx rfl (pc0 := 99) (pc' := 103) rfl (hb hby at_99) (by decide) (by decide) ?_
        show own_S p e below T84 (mkF m 103 #[.val (.long q0), .second, .val (.long q1), .second, .val (.long q2), .second, .val (.long q3), .second, .val (.long q4), .second, .val (.int p5), .val (.int (1 : Int32)), .val (.int (1 : Int32)), .val (.ref b78), .val (.long (1 : Int64)), .second, .val (.long (0 : Int64)), .second, .unset, .unset, .unset, .unset, .unset, .unset] [(.long q4)]) _
        refine XS.lstore X84.here hx rfl (hb hby at_103) rfl (l' := #[.val (.long q0), .second, .val (.long q1), .second, .val (.long q2), .second, .val (.long q3), .second, .val (.long q4), .second, .val (.int p5), .val (.int (1 : Int32)), .val (.int (1 : Int32)), .val (.ref b78), .val (.long (1 : Int64)), .second, .val (.long (0 : Int64)), .second, .val (.long q4), .second, .unset, .unset, .unset, .unset]) rfl ?_
        show own_S p e below T84 (mkF m 105 #[.val (.long q0), .second, .val (.long q1), .second, .val (.long q2), .second, .val (.long q3), .second, .val (.long q4), .second, .val (.int p5), .val (.int (1 : Int32)), .val (.int (1 : Int32)), .val (.ref b78), .val (.long (1 : Int64)), .second, .val (.long (0 : Int64)), .second, .val (.long q4), .second, .unset, .unset, .unset, .unset] []) _
        refine XS.iload X84.here hx rfl (hb hby at_105) rfl ?_
        show own_S p e below T84 (mkF m 107 #[.val (.long q0), .second, .val (.long q1), .second, .val (.long q2), .second, .val (.long q3), .second, .val (.long q4), .second, .val (.int p5), .val (.int (1 : Int32)), .val (.int (1 : Int32)), .val (.ref b78), .val (.long (1 : Int64)), .second, .val (.long (0 : Int64)), .second, .val (.long q4), .second, .unset, .unset, .unset, .unset] [(.int (1 : Int32))]) _
        refine XS.ifNo X84.here hx rfl (hb hby at_107) rfl (XT.i0_eq_f (by decide : ¬ ((1 : Int32) = 0))) ?_
        show own_S p e below T84 (mkF m 110 #[.val (.long q0), .second, .val (.long q1), .second, .val (.long q2), .second, .val (.long q3), .second, .val (.long q4), .second, .val (.int p5), .val (.int (1 : Int32)), .val (.int (1 : Int32)), .val (.ref b78), .val (.long (1 : Int64)), .second, .val (.long (0 : Int64)), .second, .val (.long q4), .second, .unset, .unset, .unset, .unset] []) _
        refine XS.lload X84.here hx rfl (hb hby at_110) rfl ?_
        show own_S p e below T84 (mkF m 112 #[.val (.long q0), .second, .val (.long q1), .second, .val (.long q2), .second, .val (.long q3), .second, .val (.long q4), .second, .val (.int p5), .val (.int (1 : Int32)), .val (.int (1 : Int32)), .val (.ref b78), .val (.long (1 : Int64)), .second, .val (.long (0 : Int64)), .second, .val (.long q4), .second, .unset, .unset, .unset, .unset] [(.long q2)]) _
        refine XS.goto X84.here hx rfl (pc0 := 112) (pc' := 116) rfl (hb hby at_112) (by decide) (by decide) ?_
        show own_S p e below T84 (mkF m 116 #[.val (.long q0), .second, .val (.long q1), .second, .val (.long q2), .second, .val (.long q3), .second, .val (.long q4), .second, .val (.int p5), .val (.int (1 : Int32)), .val (.int (1 : Int32)), .val (.ref b78), .val (.long (1 : Int64)), .second, .val (.long (0 : Int64)), .second, .val (.long q4), .second, .unset, .unset, .unset, .unset] [(.long q2)]) _
        refine XS.lstore X84.here hx rfl (hb hby at_116) rfl (l' := #[.val (.long q0), .second, .val (.long q1), .second, .val (.long q2), .second, .val (.long q3), .second, .val (.long q4), .second, .val (.int p5), .val (.int (1 : Int32)), .val (.int (1 : Int32)), .val (.ref b78), .val (.long (1 : Int64)), .second, .val (.long (0 : Int64)), .second, .val (.long q4), .second, .val (.long q2), .second, .unset, .unset]) rfl ?_
        show own_S p e below T84 (mkF m 118 #[.val (.long q0), .second, .val (.long q1), .second, .val (.long q2), .second, .val (.long q3), .second, .val (.long q4), .second, .val (.int p5), .val (.int (1 : Int32)), .val (.int (1 : Int32)), .val (.ref b78), .val (.long (1 : Int64)), .second, .val (.long (0 : Int64)), .second, .val (.long q4), .second, .val (.long q2), .second, .unset, .unset] []) _
        refine XS.aload X84.here hx rfl (hb hby at_118) rfl rfl ?_
        exact k
      obtain ⟨cq86, kq86, q86a, q86b, q86c⟩ := isOf hZ rfl Ex84
      obtain ⟨_, _, ⟨T86, L86, k86, n86⟩, -, X86, ⟨Lc86, hQ86, l86, y86, z86⟩, st86⟩ := X84.virtualBack hx (y := (⟨"com/example/headroom/headroom/model/Member", "processingMs", "()D"⟩ : MethodName)) (z := (⟨"com/example/headroom/headroom/model/Member", "processingMs", "()D"⟩ : MethodName)) hown (mvT hZ (hw _ (List.mem_of_getElem? (i := 55) rfl))) (mvT hZ (hw _ (List.mem_of_getElem? (i := 56) rfl))) (notFace_of_selects (args := #[]) (mvT hZ (hw _ (List.mem_of_getElem? (i := 58) rfl)))) (mvT hZ (hw _ (List.mem_of_getElem? (i := 58) rfl))) (mvT hZ (hw _ (List.mem_of_getElem? (i := 57) rfl))) (by decide) (backOf (W := 0) (rmgprocessingMs l Z a0 hw [] b78 vz T84.heap n0 (Nat.le_trans Z0 Kp84.1) Fz84) hZ (hw _ (List.mem_of_getElem? (i := 59) rfl)) (hw _ (List.mem_of_getElem? (i := 2) rfl)) (by decide) (by decide)) q86a q86c (g := (mkF m 120 #[.val (.long q0), .second, .val (.long q1), .second, .val (.long q2), .second, .val (.long q3), .second, .val (.long q4), .second, .val (.int p5), .val (.int (1 : Int32)), .val (.int (1 : Int32)), .val (.ref b78), .val (.long (1 : Int64)), .second, .val (.long (0 : Int64)), .second, .val (.long q4), .second, .val (.long q2), .second, .unset, .unset] [(.ref b78)])) rfl (by rw [hml]; rfl) (Steps.refl _) (argsL := []) (rest := []) (lenOf pd_0_1 rfl) rfl (by show 2 * 0 + _ ≤ _; exact Nat.le_of_eq rfl) (hb hby at_120) (fun _ _ => ⟨rfl, rfl, (by decide : 5 + 0 ≤ _), (by decide : 25 + 0 ≤ _)⟩)
      dsimp only [Pt.U, Pt.locs, Pt.cells, Pt.slots] at X86 l86 y86 z86 st86 hQ86
      rw [y86, z86] at X86
      obtain ⟨rfl, Nq86, e86⟩ := hQ86
      have N86 : Fr n0 L86 := by rw [l86]; exact Fr.app N84 Nq86
      have K86 : own_K p e below SE T86 (mkF m 123 #[.val (.long q0), .second, .val (.long q1), .second, .val (.long q2), .second, .val (.long q3), .second, .val (.long q4), .second, .val (.int p5), .val (.int (1 : Int32)), .val (.int (1 : Int32)), .val (.ref b78), .val (.long (1 : Int64)), .second, .val (.long (0 : Int64)), .second, .val (.long q4), .second, .val (.long q2), .second, .unset, .unset] [(.double vz)]) := fun t k => K85 _ (st86.trans k)
      have K87 : own_K p e below SE T86 (mkF m 129 #[.val (.long q0), .second, .val (.long q1), .second, .val (.long q2), .second, .val (.long q3), .second, .val (.long q4), .second, .val (.int p5), .val (.int (1 : Int32)), .val (.int (1 : Int32)), .val (.ref b78), .val (.long (1 : Int64)), .second, .val (.long (0 : Int64)), .second, .val (.long q4), .second, .val (.long q2), .second, .val (.double vz), .second] [(.long q3), (.ref b78)]) := by
        intro t k
        refine K86 _ ?_
        refine XS.dstore X86.here hx rfl (hb hby at_123) rfl (l' := #[.val (.long q0), .second, .val (.long q1), .second, .val (.long q2), .second, .val (.long q3), .second, .val (.long q4), .second, .val (.int p5), .val (.int (1 : Int32)), .val (.int (1 : Int32)), .val (.ref b78), .val (.long (1 : Int64)), .second, .val (.long (0 : Int64)), .second, .val (.long q4), .second, .val (.long q2), .second, .val (.double vz), .second]) rfl ?_
        show own_S p e below T86 (mkF m 125 #[.val (.long q0), .second, .val (.long q1), .second, .val (.long q2), .second, .val (.long q3), .second, .val (.long q4), .second, .val (.int p5), .val (.int (1 : Int32)), .val (.int (1 : Int32)), .val (.ref b78), .val (.long (1 : Int64)), .second, .val (.long (0 : Int64)), .second, .val (.long q4), .second, .val (.long q2), .second, .val (.double vz), .second] []) _
        refine XS.aload X86.here hx rfl (hb hby at_125) rfl rfl ?_
        show own_S p e below T86 (mkF m 127 #[.val (.long q0), .second, .val (.long q1), .second, .val (.long q2), .second, .val (.long q3), .second, .val (.long q4), .second, .val (.int p5), .val (.int (1 : Int32)), .val (.int (1 : Int32)), .val (.ref b78), .val (.long (1 : Int64)), .second, .val (.long (0 : Int64)), .second, .val (.long q4), .second, .val (.long q2), .second, .val (.double vz), .second] [(.ref b78)]) _
        refine XS.lload X86.here hx rfl (hb hby at_127) rfl ?_
        exact k
      obtain ⟨cq88, kq88, q88a, q88b, q88c⟩ := isOf hZ e86 Ex84
      obtain ⟨_, _, ⟨T88, L88, k88, n88⟩, -, X88, ⟨Lc88, hQ88, l88, y88, z88⟩, st88⟩ := X86.virtualBack hx (y := (⟨"com/example/headroom/headroom/model/Member", "sent", "(J)V"⟩ : MethodName)) (z := (⟨"com/example/headroom/headroom/model/Member", "sent", "(J)V"⟩ : MethodName)) hown (mvT hZ (hw _ (List.mem_of_getElem? (i := 62) rfl))) (mvT hZ (hw _ (List.mem_of_getElem? (i := 63) rfl))) (notFace_of_selects (args := #[]) (mvT hZ (hw _ (List.mem_of_getElem? (i := 65) rfl)))) (mvT hZ (hw _ (List.mem_of_getElem? (i := 65) rfl))) (mvT hZ (hw _ (List.mem_of_getElem? (i := 64) rfl))) (by decide) (backOf (W := 0) (rmse l Z a0 hw [] b78 q3 q4 vz (0 : Int64) (1 : Int64) q2 q2 d q2 T84.heap n0 (Nat.le_trans Z0 Kp84.1) Ex84 M84_pending Fz84 M84_sentSinceReport M84_delivered M84_lastReportNanos M84_lastSentNanos M84_processingTimes M84_reported M84_lastAcknowledgedNanos g_b78) hZ (hw _ (List.mem_of_getElem? (i := 66) rfl)) (hw _ (List.mem_of_getElem? (i := 2) rfl)) (by decide) (by decide)) q88a q88c (g := (mkF m 129 #[.val (.long q0), .second, .val (.long q1), .second, .val (.long q2), .second, .val (.long q3), .second, .val (.long q4), .second, .val (.int p5), .val (.int (1 : Int32)), .val (.int (1 : Int32)), .val (.ref b78), .val (.long (1 : Int64)), .second, .val (.long (0 : Int64)), .second, .val (.long q4), .second, .val (.long q2), .second, .val (.double vz), .second] [(.long q3), (.ref b78)])) rfl (by rw [hml]; rfl) (Steps.refl _) (argsL := [(.long q3)]) (rest := []) (lenOf pd_0_2 rfl) rfl (by show 2 * 0 + _ ≤ _; exact Nat.le_of_eq rfl) (hb hby at_129) (fun _ _ => ⟨rfl, e86, (by decide : 5 + 0 ≤ _), (by decide : 25 + 0 ≤ _)⟩)
      dsimp only [Pt.U, Pt.locs, Pt.cells, Pt.slots] at X88 l88 y88 z88 st88 hQ88
      rw [y88, z88] at X88
      obtain ⟨rfl, Nq88, Kq88, Ex88, M88_pending, M88_processingMs, M88_sentSinceReport, M88_delivered, M88_lastReportNanos, M88_lastSentNanos, M88_processingTimes, M88_reported, M88_lastAcknowledgedNanos⟩ := hQ88
      have N88 : Fr n0 L88 := by rw [l88]; exact Fr.app N86 Nq88
      have Kp88 : Keep h0 T88.heap [] := Keep.trans Kp84 Kq88 (allS (Or.inr sz_b78) all0)
      have K88 : own_K p e below SE T88 (mkF m 132 #[.val (.long q0), .second, .val (.long q1), .second, .val (.long q2), .second, .val (.long q3), .second, .val (.long q4), .second, .val (.int p5), .val (.int (1 : Int32)), .val (.int (1 : Int32)), .val (.ref b78), .val (.long (1 : Int64)), .second, .val (.long (0 : Int64)), .second, .val (.long q4), .second, .val (.long q2), .second, .val (.double vz), .second] []) := fun t k => K87 _ (st88.trans k)
      have N88_sentSinceReport : Fld Z T88.heap b78 "com/example/headroom/headroom/model/Member" "sentSinceReport" "J" (.long (1 : Int64)) := by
        have w := M88_sentSinceReport
        rw [show ((0 : Int64) + (1 : Int64)) = (1 : Int64) from by decide] at w
        exact w
      have N88_delivered : Fld Z T88.heap b78 "com/example/headroom/headroom/model/Member" "delivered" "J" (.long (2 : Int64)) := by
        have w := M88_delivered
        rw [show ((1 : Int64) + (1 : Int64)) = (2 : Int64) from by decide] at w
        exact w
      have K89 : own_K p e below SE T88 (mkF m 134 #[.val (.long q0), .second, .val (.long q1), .second, .val (.long q2), .second, .val (.long q3), .second, .val (.long q4), .second, .val (.int p5), .val (.int (1 : Int32)), .val (.int (1 : Int32)), .val (.ref b78), .val (.long (1 : Int64)), .second, .val (.long (0 : Int64)), .second, .val (.long q4), .second, .val (.long q2), .second, .val (.double vz), .second] [(.ref b78)]) := by
        intro t k
        refine K88 _ ?_
        refine XS.aload X88.here hx rfl (hb hby at_132) rfl rfl ?_
        exact k
      obtain ⟨cq90, kq90, q90a, q90b, q90c⟩ := isOf hZ rfl Ex88
      obtain ⟨_, _, ⟨T90, L90, k90, n90⟩, -, X90, ⟨Lc90, hQ90, l90, y90, z90⟩, st90⟩ := X88.virtualBack hx (y := (⟨"com/example/headroom/headroom/model/Member", "sentSinceReport", "()J"⟩ : MethodName)) (z := (⟨"com/example/headroom/headroom/model/Member", "sentSinceReport", "()J"⟩ : MethodName)) hown (mvT hZ (hw _ (List.mem_of_getElem? (i := 69) rfl))) (mvT hZ (hw _ (List.mem_of_getElem? (i := 70) rfl))) (notFace_of_selects (args := #[]) (mvT hZ (hw _ (List.mem_of_getElem? (i := 72) rfl)))) (mvT hZ (hw _ (List.mem_of_getElem? (i := 72) rfl))) (mvT hZ (hw _ (List.mem_of_getElem? (i := 71) rfl))) (by decide) (backOf (W := 0) (rmgsentSinceReport l Z a0 hw [] b78 (1 : Int64) T88.heap n0 (Nat.le_trans Z0 Kp88.1) N88_sentSinceReport) hZ (hw _ (List.mem_of_getElem? (i := 73) rfl)) (hw _ (List.mem_of_getElem? (i := 2) rfl)) (by decide) (by decide)) q90a q90c (g := (mkF m 134 #[.val (.long q0), .second, .val (.long q1), .second, .val (.long q2), .second, .val (.long q3), .second, .val (.long q4), .second, .val (.int p5), .val (.int (1 : Int32)), .val (.int (1 : Int32)), .val (.ref b78), .val (.long (1 : Int64)), .second, .val (.long (0 : Int64)), .second, .val (.long q4), .second, .val (.long q2), .second, .val (.double vz), .second] [(.ref b78)])) rfl (by rw [hml]; rfl) (Steps.refl _) (argsL := []) (rest := []) (lenOf pd_0_3 rfl) rfl (by show 2 * 0 + _ ≤ _; exact Nat.le_of_eq rfl) (hb hby at_134) (fun _ _ => ⟨rfl, rfl, (by decide : 5 + 0 ≤ _), (by decide : 25 + 0 ≤ _)⟩)
      dsimp only [Pt.U, Pt.locs, Pt.cells, Pt.slots] at X90 l90 y90 z90 st90 hQ90
      rw [y90, z90] at X90
      obtain ⟨rfl, Nq90, e90⟩ := hQ90
      have N90 : Fr n0 L90 := by rw [l90]; exact Fr.app N88 Nq90
      have K90 : own_K p e below SE T90 (mkF m 137 #[.val (.long q0), .second, .val (.long q1), .second, .val (.long q2), .second, .val (.long q3), .second, .val (.long q4), .second, .val (.int p5), .val (.int (1 : Int32)), .val (.int (1 : Int32)), .val (.ref b78), .val (.long (1 : Int64)), .second, .val (.long (0 : Int64)), .second, .val (.long q4), .second, .val (.long q2), .second, .val (.double vz), .second] [(.long (1 : Int64))]) := fun t k => K89 _ (st90.trans k)
      have K91 : own_K p e below SE T90 (mkF m 147 #[.val (.long q0), .second, .val (.long q1), .second, .val (.long q2), .second, .val (.long q3), .second, .val (.long q4), .second, .val (.int p5), .val (.int (1 : Int32)), .val (.int (1 : Int32)), .val (.ref b78), .val (.long (1 : Int64)), .second, .val (.long (0 : Int64)), .second, .val (.long q4), .second, .val (.long q2), .second, .val (.double vz), .second] [(.ref b78)]) := by
        intro t k
        refine K90 _ ?_
        refine XS.lload X90.here hx rfl (hb hby at_137) rfl ?_
        show own_S p e below T90 (mkF m 139 #[.val (.long q0), .second, .val (.long q1), .second, .val (.long q2), .second, .val (.long q3), .second, .val (.long q4), .second, .val (.int p5), .val (.int (1 : Int32)), .val (.int (1 : Int32)), .val (.ref b78), .val (.long (1 : Int64)), .second, .val (.long (0 : Int64)), .second, .val (.long q4), .second, .val (.long q2), .second, .val (.double vz), .second] [(.long (0 : Int64)), (.long (1 : Int64))]) _
        refine XS.lconst X90.here hx rfl (hb hby at_139) ?_
        show own_S p e below T90 (mkF m 140 #[.val (.long q0), .second, .val (.long q1), .second, .val (.long q2), .second, .val (.long q3), .second, .val (.long q4), .second, .val (.int p5), .val (.int (1 : Int32)), .val (.int (1 : Int32)), .val (.ref b78), .val (.long (1 : Int64)), .second, .val (.long (0 : Int64)), .second, .val (.long q4), .second, .val (.long q2), .second, .val (.double vz), .second] [(.long (1 : Int64)), (.long (0 : Int64)), (.long (1 : Int64))]) _
        refine XS.ladd X90.here hx rfl (hb hby at_140) rfl ?_
        show own_S p e below T90 (mkF m 141 #[.val (.long q0), .second, .val (.long q1), .second, .val (.long q2), .second, .val (.long q3), .second, .val (.long q4), .second, .val (.int p5), .val (.int (1 : Int32)), .val (.int (1 : Int32)), .val (.ref b78), .val (.long (1 : Int64)), .second, .val (.long (0 : Int64)), .second, .val (.long q4), .second, .val (.long q2), .second, .val (.double vz), .second] [(.long (1 : Int64)), (.long (1 : Int64))]) _
        refine XT.lcmp X90.here hx rfl (hb hby at_141) rfl ?_
        show own_S p e below T90 (mkF m 142 #[.val (.long q0), .second, .val (.long q1), .second, .val (.long q2), .second, .val (.long q3), .second, .val (.long q4), .second, .val (.int p5), .val (.int (1 : Int32)), .val (.int (1 : Int32)), .val (.ref b78), .val (.long (1 : Int64)), .second, .val (.long (0 : Int64)), .second, .val (.long q4), .second, .val (.long q2), .second, .val (.double vz), .second] [(.int (XT.cmpL (1 : Int64) (1 : Int64)))]) _
        refine XS.ifNo X90.here hx rfl (hb hby at_142) rfl (XT.ll_ne_f (by decide : (1 : Int64) = (1 : Int64))) ?_
        show own_S p e below T90 (mkF m 145 #[.val (.long q0), .second, .val (.long q1), .second, .val (.long q2), .second, .val (.long q3), .second, .val (.long q4), .second, .val (.int p5), .val (.int (1 : Int32)), .val (.int (1 : Int32)), .val (.ref b78), .val (.long (1 : Int64)), .second, .val (.long (0 : Int64)), .second, .val (.long q4), .second, .val (.long q2), .second, .val (.double vz), .second] []) _
        refine XS.aload X90.here hx rfl (hb hby at_145) rfl rfl ?_
        exact k
      obtain ⟨cq92, kq92, q92a, q92b, q92c⟩ := isOf hZ e90 Ex88
      obtain ⟨_, _, ⟨T92, L92, k92, n92⟩, -, X92, ⟨Lc92, hQ92, l92, y92, z92⟩, st92⟩ := X90.virtualBack hx (y := (⟨"com/example/headroom/headroom/model/Member", "delivered", "()J"⟩ : MethodName)) (z := (⟨"com/example/headroom/headroom/model/Member", "delivered", "()J"⟩ : MethodName)) hown (mvT hZ (hw _ (List.mem_of_getElem? (i := 74) rfl))) (mvT hZ (hw _ (List.mem_of_getElem? (i := 75) rfl))) (notFace_of_selects (args := #[]) (mvT hZ (hw _ (List.mem_of_getElem? (i := 77) rfl)))) (mvT hZ (hw _ (List.mem_of_getElem? (i := 77) rfl))) (mvT hZ (hw _ (List.mem_of_getElem? (i := 76) rfl))) (by decide) (backOf (W := 0) (rmgdelivered l Z a0 hw [] b78 (2 : Int64) T88.heap n0 (Nat.le_trans Z0 Kp88.1) N88_delivered) hZ (hw _ (List.mem_of_getElem? (i := 78) rfl)) (hw _ (List.mem_of_getElem? (i := 2) rfl)) (by decide) (by decide)) q92a q92c (g := (mkF m 147 #[.val (.long q0), .second, .val (.long q1), .second, .val (.long q2), .second, .val (.long q3), .second, .val (.long q4), .second, .val (.int p5), .val (.int (1 : Int32)), .val (.int (1 : Int32)), .val (.ref b78), .val (.long (1 : Int64)), .second, .val (.long (0 : Int64)), .second, .val (.long q4), .second, .val (.long q2), .second, .val (.double vz), .second] [(.ref b78)])) rfl (by rw [hml]; rfl) (Steps.refl _) (argsL := []) (rest := []) (lenOf pd_0_3 rfl) rfl (by show 2 * 0 + _ ≤ _; exact Nat.le_of_eq rfl) (hb hby at_147) (fun _ _ => ⟨rfl, e90, (by decide : 5 + 0 ≤ _), (by decide : 25 + 0 ≤ _)⟩)
      dsimp only [Pt.U, Pt.locs, Pt.cells, Pt.slots] at X92 l92 y92 z92 st92 hQ92
      rw [y92, z92] at X92
      obtain ⟨rfl, Nq92, e92⟩ := hQ92
      have N92 : Fr n0 L92 := by rw [l92]; exact Fr.app N90 Nq92
      have K92 : own_K p e below SE T92 (mkF m 150 #[.val (.long q0), .second, .val (.long q1), .second, .val (.long q2), .second, .val (.long q3), .second, .val (.long q4), .second, .val (.int p5), .val (.int (1 : Int32)), .val (.int (1 : Int32)), .val (.ref b78), .val (.long (1 : Int64)), .second, .val (.long (0 : Int64)), .second, .val (.long q4), .second, .val (.long q2), .second, .val (.double vz), .second] [(.long (2 : Int64))]) := fun t k => K91 _ (st92.trans k)
      have K93 : own_K p e below SE T92 (mkF m 160 #[.val (.long q0), .second, .val (.long q1), .second, .val (.long q2), .second, .val (.long q3), .second, .val (.long q4), .second, .val (.int p5), .val (.int (1 : Int32)), .val (.int (1 : Int32)), .val (.ref b78), .val (.long (1 : Int64)), .second, .val (.long (0 : Int64)), .second, .val (.long q4), .second, .val (.long q2), .second, .val (.double vz), .second] [(.ref b78)]) := by
        intro t k
        refine K92 _ ?_
        refine XS.lload X92.here hx rfl (hb hby at_150) rfl ?_
        show own_S p e below T92 (mkF m 152 #[.val (.long q0), .second, .val (.long q1), .second, .val (.long q2), .second, .val (.long q3), .second, .val (.long q4), .second, .val (.int p5), .val (.int (1 : Int32)), .val (.int (1 : Int32)), .val (.ref b78), .val (.long (1 : Int64)), .second, .val (.long (0 : Int64)), .second, .val (.long q4), .second, .val (.long q2), .second, .val (.double vz), .second] [(.long (1 : Int64)), (.long (2 : Int64))]) _
        refine XS.lconst X92.here hx rfl (hb hby at_152) ?_
        show own_S p e below T92 (mkF m 153 #[.val (.long q0), .second, .val (.long q1), .second, .val (.long q2), .second, .val (.long q3), .second, .val (.long q4), .second, .val (.int p5), .val (.int (1 : Int32)), .val (.int (1 : Int32)), .val (.ref b78), .val (.long (1 : Int64)), .second, .val (.long (0 : Int64)), .second, .val (.long q4), .second, .val (.long q2), .second, .val (.double vz), .second] [(.long (1 : Int64)), (.long (1 : Int64)), (.long (2 : Int64))]) _
        refine XS.ladd X92.here hx rfl (hb hby at_153) rfl ?_
        show own_S p e below T92 (mkF m 154 #[.val (.long q0), .second, .val (.long q1), .second, .val (.long q2), .second, .val (.long q3), .second, .val (.long q4), .second, .val (.int p5), .val (.int (1 : Int32)), .val (.int (1 : Int32)), .val (.ref b78), .val (.long (1 : Int64)), .second, .val (.long (0 : Int64)), .second, .val (.long q4), .second, .val (.long q2), .second, .val (.double vz), .second] [(.long (2 : Int64)), (.long (2 : Int64))]) _
        refine XT.lcmp X92.here hx rfl (hb hby at_154) rfl ?_
        show own_S p e below T92 (mkF m 155 #[.val (.long q0), .second, .val (.long q1), .second, .val (.long q2), .second, .val (.long q3), .second, .val (.long q4), .second, .val (.int p5), .val (.int (1 : Int32)), .val (.int (1 : Int32)), .val (.ref b78), .val (.long (1 : Int64)), .second, .val (.long (0 : Int64)), .second, .val (.long q4), .second, .val (.long q2), .second, .val (.double vz), .second] [(.int (XT.cmpL (2 : Int64) (2 : Int64)))]) _
        refine XS.ifNo X92.here hx rfl (hb hby at_155) rfl (XT.ll_ne_f (by decide : (2 : Int64) = (2 : Int64))) ?_
        show own_S p e below T92 (mkF m 158 #[.val (.long q0), .second, .val (.long q1), .second, .val (.long q2), .second, .val (.long q3), .second, .val (.long q4), .second, .val (.int p5), .val (.int (1 : Int32)), .val (.int (1 : Int32)), .val (.ref b78), .val (.long (1 : Int64)), .second, .val (.long (0 : Int64)), .second, .val (.long q4), .second, .val (.long q2), .second, .val (.double vz), .second] []) _
        refine XS.aload X92.here hx rfl (hb hby at_158) rfl rfl ?_
        exact k
      obtain ⟨cq94, kq94, q94a, q94b, q94c⟩ := isOf hZ e92 Ex88
      obtain ⟨_, _, ⟨T94, L94, k94, n94⟩, -, X94, ⟨Lc94, hQ94, l94, y94, z94⟩, st94⟩ := X92.virtualBack hx (y := (⟨"com/example/headroom/headroom/model/Member", "lastSentNanos", "()J"⟩ : MethodName)) (z := (⟨"com/example/headroom/headroom/model/Member", "lastSentNanos", "()J"⟩ : MethodName)) hown (mvT hZ (hw _ (List.mem_of_getElem? (i := 79) rfl))) (mvT hZ (hw _ (List.mem_of_getElem? (i := 80) rfl))) (notFace_of_selects (args := #[]) (mvT hZ (hw _ (List.mem_of_getElem? (i := 82) rfl)))) (mvT hZ (hw _ (List.mem_of_getElem? (i := 82) rfl))) (mvT hZ (hw _ (List.mem_of_getElem? (i := 81) rfl))) (by decide) (backOf (W := 0) (rmglastSentNanos l Z a0 hw [] b78 q3 T88.heap n0 (Nat.le_trans Z0 Kp88.1) M88_lastSentNanos) hZ (hw _ (List.mem_of_getElem? (i := 83) rfl)) (hw _ (List.mem_of_getElem? (i := 2) rfl)) (by decide) (by decide)) q94a q94c (g := (mkF m 160 #[.val (.long q0), .second, .val (.long q1), .second, .val (.long q2), .second, .val (.long q3), .second, .val (.long q4), .second, .val (.int p5), .val (.int (1 : Int32)), .val (.int (1 : Int32)), .val (.ref b78), .val (.long (1 : Int64)), .second, .val (.long (0 : Int64)), .second, .val (.long q4), .second, .val (.long q2), .second, .val (.double vz), .second] [(.ref b78)])) rfl (by rw [hml]; rfl) (Steps.refl _) (argsL := []) (rest := []) (lenOf pd_0_3 rfl) rfl (by show 2 * 0 + _ ≤ _; exact Nat.le_of_eq rfl) (hb hby at_160) (fun _ _ => ⟨rfl, e92, (by decide : 5 + 0 ≤ _), (by decide : 25 + 0 ≤ _)⟩)
      dsimp only [Pt.U, Pt.locs, Pt.cells, Pt.slots] at X94 l94 y94 z94 st94 hQ94
      rw [y94, z94] at X94
      obtain ⟨rfl, Nq94, e94⟩ := hQ94
      have N94 : Fr n0 L94 := by rw [l94]; exact Fr.app N92 Nq94
      have K94 : own_K p e below SE T94 (mkF m 163 #[.val (.long q0), .second, .val (.long q1), .second, .val (.long q2), .second, .val (.long q3), .second, .val (.long q4), .second, .val (.int p5), .val (.int (1 : Int32)), .val (.int (1 : Int32)), .val (.ref b78), .val (.long (1 : Int64)), .second, .val (.long (0 : Int64)), .second, .val (.long q4), .second, .val (.long q2), .second, .val (.double vz), .second] [(.long q3)]) := fun t k => K93 _ (st94.trans k)
      have K95 : own_K p e below SE T94 (mkF m 171 #[.val (.long q0), .second, .val (.long q1), .second, .val (.long q2), .second, .val (.long q3), .second, .val (.long q4), .second, .val (.int p5), .val (.int (1 : Int32)), .val (.int (1 : Int32)), .val (.ref b78), .val (.long (1 : Int64)), .second, .val (.long (0 : Int64)), .second, .val (.long q4), .second, .val (.long q2), .second, .val (.double vz), .second] [(.ref b78)]) := by
        intro t k
        refine K94 _ ?_
        refine XS.lload X94.here hx rfl (hb hby at_163) rfl ?_
        show own_S p e below T94 (mkF m 165 #[.val (.long q0), .second, .val (.long q1), .second, .val (.long q2), .second, .val (.long q3), .second, .val (.long q4), .second, .val (.int p5), .val (.int (1 : Int32)), .val (.int (1 : Int32)), .val (.ref b78), .val (.long (1 : Int64)), .second, .val (.long (0 : Int64)), .second, .val (.long q4), .second, .val (.long q2), .second, .val (.double vz), .second] [(.long q3), (.long q3)]) _
        refine XT.lcmp X94.here hx rfl (hb hby at_165) rfl ?_
        show own_S p e below T94 (mkF m 166 #[.val (.long q0), .second, .val (.long q1), .second, .val (.long q2), .second, .val (.long q3), .second, .val (.long q4), .second, .val (.int p5), .val (.int (1 : Int32)), .val (.int (1 : Int32)), .val (.ref b78), .val (.long (1 : Int64)), .second, .val (.long (0 : Int64)), .second, .val (.long q4), .second, .val (.long q2), .second, .val (.double vz), .second] [(.int (XT.cmpL q3 q3))]) _
        refine XS.ifNo X94.here hx rfl (hb hby at_166) rfl (XT.ll_ne_f rfl) ?_
        show own_S p e below T94 (mkF m 169 #[.val (.long q0), .second, .val (.long q1), .second, .val (.long q2), .second, .val (.long q3), .second, .val (.long q4), .second, .val (.int p5), .val (.int (1 : Int32)), .val (.int (1 : Int32)), .val (.ref b78), .val (.long (1 : Int64)), .second, .val (.long (0 : Int64)), .second, .val (.long q4), .second, .val (.long q2), .second, .val (.double vz), .second] []) _
        refine XS.aload X94.here hx rfl (hb hby at_169) rfl rfl ?_
        exact k
      obtain ⟨cq96, kq96, q96a, q96b, q96c⟩ := isOf hZ e94 Ex88
      obtain ⟨_, _, ⟨T96, L96, k96, n96⟩, -, X96, ⟨Lc96, hQ96, l96, y96, z96⟩, st96⟩ := X94.virtualBack hx (y := (⟨"com/example/headroom/headroom/model/Member", "pending", "()J"⟩ : MethodName)) (z := (⟨"com/example/headroom/headroom/model/Member", "pending", "()J"⟩ : MethodName)) hown (mvT hZ (hw _ (List.mem_of_getElem? (i := 84) rfl))) (mvT hZ (hw _ (List.mem_of_getElem? (i := 85) rfl))) (notFace_of_selects (args := #[]) (mvT hZ (hw _ (List.mem_of_getElem? (i := 87) rfl)))) (mvT hZ (hw _ (List.mem_of_getElem? (i := 87) rfl))) (mvT hZ (hw _ (List.mem_of_getElem? (i := 86) rfl))) (by decide) (backOf (W := 0) (rmgpending l Z a0 hw [] b78 q4 T88.heap n0 (Nat.le_trans Z0 Kp88.1) M88_pending) hZ (hw _ (List.mem_of_getElem? (i := 88) rfl)) (hw _ (List.mem_of_getElem? (i := 2) rfl)) (by decide) (by decide)) q96a q96c (g := (mkF m 171 #[.val (.long q0), .second, .val (.long q1), .second, .val (.long q2), .second, .val (.long q3), .second, .val (.long q4), .second, .val (.int p5), .val (.int (1 : Int32)), .val (.int (1 : Int32)), .val (.ref b78), .val (.long (1 : Int64)), .second, .val (.long (0 : Int64)), .second, .val (.long q4), .second, .val (.long q2), .second, .val (.double vz), .second] [(.ref b78)])) rfl (by rw [hml]; rfl) (Steps.refl _) (argsL := []) (rest := []) (lenOf pd_0_3 rfl) rfl (by show 2 * 0 + _ ≤ _; exact Nat.le_of_eq rfl) (hb hby at_171) (fun _ _ => ⟨rfl, e94, (by decide : 5 + 0 ≤ _), (by decide : 25 + 0 ≤ _)⟩)
      dsimp only [Pt.U, Pt.locs, Pt.cells, Pt.slots] at X96 l96 y96 z96 st96 hQ96
      rw [y96, z96] at X96
      obtain ⟨rfl, Nq96, e96⟩ := hQ96
      have N96 : Fr n0 L96 := by rw [l96]; exact Fr.app N94 Nq96
      have K96 : own_K p e below SE T96 (mkF m 174 #[.val (.long q0), .second, .val (.long q1), .second, .val (.long q2), .second, .val (.long q3), .second, .val (.long q4), .second, .val (.int p5), .val (.int (1 : Int32)), .val (.int (1 : Int32)), .val (.ref b78), .val (.long (1 : Int64)), .second, .val (.long (0 : Int64)), .second, .val (.long q4), .second, .val (.long q2), .second, .val (.double vz), .second] [(.long q4)]) := fun t k => K95 _ (st96.trans k)
      have K97 : own_K p e below SE T96 (mkF m 182 #[.val (.long q0), .second, .val (.long q1), .second, .val (.long q2), .second, .val (.long q3), .second, .val (.long q4), .second, .val (.int p5), .val (.int (1 : Int32)), .val (.int (1 : Int32)), .val (.ref b78), .val (.long (1 : Int64)), .second, .val (.long (0 : Int64)), .second, .val (.long q4), .second, .val (.long q2), .second, .val (.double vz), .second] [(.ref b78)]) := by
        intro t k
        refine K96 _ ?_
        refine XS.lload X96.here hx rfl (hb hby at_174) rfl ?_
        show own_S p e below T96 (mkF m 176 #[.val (.long q0), .second, .val (.long q1), .second, .val (.long q2), .second, .val (.long q3), .second, .val (.long q4), .second, .val (.int p5), .val (.int (1 : Int32)), .val (.int (1 : Int32)), .val (.ref b78), .val (.long (1 : Int64)), .second, .val (.long (0 : Int64)), .second, .val (.long q4), .second, .val (.long q2), .second, .val (.double vz), .second] [(.long q4), (.long q4)]) _
        refine XT.lcmp X96.here hx rfl (hb hby at_176) rfl ?_
        show own_S p e below T96 (mkF m 177 #[.val (.long q0), .second, .val (.long q1), .second, .val (.long q2), .second, .val (.long q3), .second, .val (.long q4), .second, .val (.int p5), .val (.int (1 : Int32)), .val (.int (1 : Int32)), .val (.ref b78), .val (.long (1 : Int64)), .second, .val (.long (0 : Int64)), .second, .val (.long q4), .second, .val (.long q2), .second, .val (.double vz), .second] [(.int (XT.cmpL q4 q4))]) _
        refine XS.ifNo X96.here hx rfl (hb hby at_177) rfl (XT.ll_ne_f rfl) ?_
        show own_S p e below T96 (mkF m 180 #[.val (.long q0), .second, .val (.long q1), .second, .val (.long q2), .second, .val (.long q3), .second, .val (.long q4), .second, .val (.int p5), .val (.int (1 : Int32)), .val (.int (1 : Int32)), .val (.ref b78), .val (.long (1 : Int64)), .second, .val (.long (0 : Int64)), .second, .val (.long q4), .second, .val (.long q2), .second, .val (.double vz), .second] []) _
        refine XS.aload X96.here hx rfl (hb hby at_180) rfl rfl ?_
        exact k
      obtain ⟨cq98, kq98, q98a, q98b, q98c⟩ := isOf hZ e96 Ex88
      obtain ⟨_, _, ⟨T98, L98, k98, n98⟩, -, X98, ⟨Lc98, hQ98, l98, y98, z98⟩, st98⟩ := X96.virtualBack hx (y := (⟨"com/example/headroom/headroom/model/Member", "lastReportNanos", "()J"⟩ : MethodName)) (z := (⟨"com/example/headroom/headroom/model/Member", "lastReportNanos", "()J"⟩ : MethodName)) hown (mvT hZ (hw _ (List.mem_of_getElem? (i := 89) rfl))) (mvT hZ (hw _ (List.mem_of_getElem? (i := 90) rfl))) (notFace_of_selects (args := #[]) (mvT hZ (hw _ (List.mem_of_getElem? (i := 92) rfl)))) (mvT hZ (hw _ (List.mem_of_getElem? (i := 92) rfl))) (mvT hZ (hw _ (List.mem_of_getElem? (i := 91) rfl))) (by decide) (backOf (W := 0) (rmglastReportNanos l Z a0 hw [] b78 q2 T88.heap n0 (Nat.le_trans Z0 Kp88.1) M88_lastReportNanos) hZ (hw _ (List.mem_of_getElem? (i := 93) rfl)) (hw _ (List.mem_of_getElem? (i := 2) rfl)) (by decide) (by decide)) q98a q98c (g := (mkF m 182 #[.val (.long q0), .second, .val (.long q1), .second, .val (.long q2), .second, .val (.long q3), .second, .val (.long q4), .second, .val (.int p5), .val (.int (1 : Int32)), .val (.int (1 : Int32)), .val (.ref b78), .val (.long (1 : Int64)), .second, .val (.long (0 : Int64)), .second, .val (.long q4), .second, .val (.long q2), .second, .val (.double vz), .second] [(.ref b78)])) rfl (by rw [hml]; rfl) (Steps.refl _) (argsL := []) (rest := []) (lenOf pd_0_3 rfl) rfl (by show 2 * 0 + _ ≤ _; exact Nat.le_of_eq rfl) (hb hby at_182) (fun _ _ => ⟨rfl, e96, (by decide : 5 + 0 ≤ _), (by decide : 25 + 0 ≤ _)⟩)
      dsimp only [Pt.U, Pt.locs, Pt.cells, Pt.slots] at X98 l98 y98 z98 st98 hQ98
      rw [y98, z98] at X98
      obtain ⟨rfl, Nq98, e98⟩ := hQ98
      have N98 : Fr n0 L98 := by rw [l98]; exact Fr.app N96 Nq98
      have K98 : own_K p e below SE T98 (mkF m 185 #[.val (.long q0), .second, .val (.long q1), .second, .val (.long q2), .second, .val (.long q3), .second, .val (.long q4), .second, .val (.int p5), .val (.int (1 : Int32)), .val (.int (1 : Int32)), .val (.ref b78), .val (.long (1 : Int64)), .second, .val (.long (0 : Int64)), .second, .val (.long q4), .second, .val (.long q2), .second, .val (.double vz), .second] [(.long q2)]) := fun t k => K97 _ (st98.trans k)
      have K99 : own_K p e below SE T98 (mkF m 193 #[.val (.long q0), .second, .val (.long q1), .second, .val (.long q2), .second, .val (.long q3), .second, .val (.long q4), .second, .val (.int p5), .val (.int (1 : Int32)), .val (.int (1 : Int32)), .val (.ref b78), .val (.long (1 : Int64)), .second, .val (.long (0 : Int64)), .second, .val (.long q4), .second, .val (.long q2), .second, .val (.double vz), .second] [(.ref b78)]) := by
        intro t k
        refine K98 _ ?_
        refine XS.lload X98.here hx rfl (hb hby at_185) rfl ?_
        show own_S p e below T98 (mkF m 187 #[.val (.long q0), .second, .val (.long q1), .second, .val (.long q2), .second, .val (.long q3), .second, .val (.long q4), .second, .val (.int p5), .val (.int (1 : Int32)), .val (.int (1 : Int32)), .val (.ref b78), .val (.long (1 : Int64)), .second, .val (.long (0 : Int64)), .second, .val (.long q4), .second, .val (.long q2), .second, .val (.double vz), .second] [(.long q2), (.long q2)]) _
        refine XT.lcmp X98.here hx rfl (hb hby at_187) rfl ?_
        show own_S p e below T98 (mkF m 188 #[.val (.long q0), .second, .val (.long q1), .second, .val (.long q2), .second, .val (.long q3), .second, .val (.long q4), .second, .val (.int p5), .val (.int (1 : Int32)), .val (.int (1 : Int32)), .val (.ref b78), .val (.long (1 : Int64)), .second, .val (.long (0 : Int64)), .second, .val (.long q4), .second, .val (.long q2), .second, .val (.double vz), .second] [(.int (XT.cmpL q2 q2))]) _
        refine XS.ifNo X98.here hx rfl (hb hby at_188) rfl (XT.ll_ne_f rfl) ?_
        show own_S p e below T98 (mkF m 191 #[.val (.long q0), .second, .val (.long q1), .second, .val (.long q2), .second, .val (.long q3), .second, .val (.long q4), .second, .val (.int p5), .val (.int (1 : Int32)), .val (.int (1 : Int32)), .val (.ref b78), .val (.long (1 : Int64)), .second, .val (.long (0 : Int64)), .second, .val (.long q4), .second, .val (.long q2), .second, .val (.double vz), .second] []) _
        refine XS.aload X98.here hx rfl (hb hby at_191) rfl rfl ?_
        exact k
      obtain ⟨cq100, kq100, q100a, q100b, q100c⟩ := isOf hZ e98 Ex88
      obtain ⟨_, _, ⟨T100, L100, k100, n100⟩, -, X100, ⟨Lc100, hQ100, l100, y100, z100⟩, st100⟩ := X98.virtualBack hx (y := (⟨"com/example/headroom/headroom/model/Member", "processingMs", "()D"⟩ : MethodName)) (z := (⟨"com/example/headroom/headroom/model/Member", "processingMs", "()D"⟩ : MethodName)) hown (mvT hZ (hw _ (List.mem_of_getElem? (i := 55) rfl))) (mvT hZ (hw _ (List.mem_of_getElem? (i := 56) rfl))) (notFace_of_selects (args := #[]) (mvT hZ (hw _ (List.mem_of_getElem? (i := 58) rfl)))) (mvT hZ (hw _ (List.mem_of_getElem? (i := 58) rfl))) (mvT hZ (hw _ (List.mem_of_getElem? (i := 57) rfl))) (by decide) (backOf (W := 0) (rmgprocessingMs l Z a0 hw [] b78 vz T88.heap n0 (Nat.le_trans Z0 Kp88.1) M88_processingMs) hZ (hw _ (List.mem_of_getElem? (i := 59) rfl)) (hw _ (List.mem_of_getElem? (i := 2) rfl)) (by decide) (by decide)) q100a q100c (g := (mkF m 193 #[.val (.long q0), .second, .val (.long q1), .second, .val (.long q2), .second, .val (.long q3), .second, .val (.long q4), .second, .val (.int p5), .val (.int (1 : Int32)), .val (.int (1 : Int32)), .val (.ref b78), .val (.long (1 : Int64)), .second, .val (.long (0 : Int64)), .second, .val (.long q4), .second, .val (.long q2), .second, .val (.double vz), .second] [(.ref b78)])) rfl (by rw [hml]; rfl) (Steps.refl _) (argsL := []) (rest := []) (lenOf pd_0_1 rfl) rfl (by show 2 * 0 + _ ≤ _; exact Nat.le_of_eq rfl) (hb hby at_193) (fun _ _ => ⟨rfl, e98, (by decide : 5 + 0 ≤ _), (by decide : 25 + 0 ≤ _)⟩)
      dsimp only [Pt.U, Pt.locs, Pt.cells, Pt.slots] at X100 l100 y100 z100 st100 hQ100
      rw [y100, z100] at X100
      obtain ⟨rfl, Nq100, e100⟩ := hQ100
      have N100 : Fr n0 L100 := by rw [l100]; exact Fr.app N98 Nq100
      have K100 : own_K p e below SE T100 (mkF m 196 #[.val (.long q0), .second, .val (.long q1), .second, .val (.long q2), .second, .val (.long q3), .second, .val (.long q4), .second, .val (.int p5), .val (.int (1 : Int32)), .val (.int (1 : Int32)), .val (.ref b78), .val (.long (1 : Int64)), .second, .val (.long (0 : Int64)), .second, .val (.long q4), .second, .val (.long q2), .second, .val (.double vz), .second] [(.double vz)]) := fun t k => K99 _ (st100.trans k)
      have K101 : own_K p e below SE T100 (mkF m 199 #[.val (.long q0), .second, .val (.long q1), .second, .val (.long q2), .second, .val (.long q3), .second, .val (.long q4), .second, .val (.int p5), .val (.int (1 : Int32)), .val (.int (1 : Int32)), .val (.ref b78), .val (.long (1 : Int64)), .second, .val (.long (0 : Int64)), .second, .val (.long q4), .second, .val (.long q2), .second, .val (.double vz), .second] [(.int (cmpValue (FP.dcmp vz vz) CmpOp.l))]) := by
        intro t k
        refine K100 _ ?_
        refine XS.dload X100.here hx rfl (hb hby at_196) rfl ?_
        show own_S p e below T100 (mkF m 198 #[.val (.long q0), .second, .val (.long q1), .second, .val (.long q2), .second, .val (.long q3), .second, .val (.long q4), .second, .val (.int p5), .val (.int (1 : Int32)), .val (.int (1 : Int32)), .val (.ref b78), .val (.long (1 : Int64)), .second, .val (.long (0 : Int64)), .second, .val (.long q4), .second, .val (.long q2), .second, .val (.double vz), .second] [(.double vz), (.double vz)]) _
        refine XS.dcmpS X100.here hx rfl (hb hby at_198) rfl rfl ?_
        exact k
      rw [dcmpV_self hvz CmpOp.l] at K101
      have K102 : own_K p e below SE T100 (mkF m 207 #[.val (.long q0), .second, .val (.long q1), .second, .val (.long q2), .second, .val (.long q3), .second, .val (.long q4), .second, .val (.int p5), .val (.int (1 : Int32)), .val (.int (1 : Int32)), .val (.ref b78), .val (.long (1 : Int64)), .second, .val (.long (0 : Int64)), .second, .val (.long q4), .second, .val (.long q2), .second, .val (.double vz), .second] [(.int (1 : Int32))]) := by
        intro t k
        refine K101 _ ?_
        refine XS.ifNo X100.here hx rfl (hb hby at_199) rfl (XT.i0_ne_f (by decide : (0 : Int32) = 0)) ?_
        show own_S p e below T100 (mkF m 202 #[.val (.long q0), .second, .val (.long q1), .second, .val (.long q2), .second, .val (.long q3), .second, .val (.long q4), .second, .val (.int p5), .val (.int (1 : Int32)), .val (.int (1 : Int32)), .val (.ref b78), .val (.long (1 : Int64)), .second, .val (.long (0 : Int64)), .second, .val (.long q4), .second, .val (.long q2), .second, .val (.double vz), .second] []) _
        refine XS.iconst X100.here hx rfl (hb hby at_202) ?_
        show own_S p e below T100 (mkF m 203 #[.val (.long q0), .second, .val (.long q1), .second, .val (.long q2), .second, .val (.long q3), .second, .val (.long q4), .second, .val (.int p5), .val (.int (1 : Int32)), .val (.int (1 : Int32)), .val (.ref b78), .val (.long (1 : Int64)), .second, .val (.long (0 : Int64)), .second, .val (.long q4), .second, .val (.long q2), .second, .val (.double vz), .second] [(.int (1 : Int32))]) _
        refine XS.goto X100.here hx rfl (pc0 := 203) (pc' := 207) rfl (hb hby at_203) (by decide) (by decide) ?_
        exact k
      obtain ⟨fs, hr, hrun, hended, hW, hsame⟩ := X100.leave (v := some (.int (1 : Int32))) (fun h => by rw [Bd.returns] at h; cases h)
      refine ⟨_, _, K102 _ ?_, hrun, hended, _, _, rfl, ?_, ⟨_, rfl⟩, hW, hsame.mono (by decide) (by decide)⟩
      · exact retN X100 hx (t := .boolean) Bd.returns (by simp) (hb hby at_207) hr
      · show Q0 Z q0 q1 q2 q3 q4 p5 h0 n0 _ T100.heap _
        rw [e100]
        exact ⟨rfl, N100⟩
set_option maxRecDepth 65536 in
set_option maxHeartbeats 40000000 in
theorem comes_1 {Post : Tables → Env → Array Value → State → Outcome → State → Prop} (hpost : ∀ tb e args s v u, (limb_1_1.after args s (.returned v) u = true ∧ limb_1_2.after args s (.returned v) u = true ∧ True) → FrameEnd s (.returned v) u (Jvm.fieldLocs frame_1_writes args s ++ Jvm.arrayLocs frame_1_arrays args s ++ Jvm.staticLocs frame_1_statics s) 24 128 → Post tb e args s (.returned v) u) :
    ArmFor flags0 classFile x code maxLocals ret World_1 tables_1 room_1 Calls_1 rest_1 Pre_1 Post := by
  intro l hfl _ _ p e ha hc hk s m args below hf hA hF happ hP
  obtain ⟨hcalls, hrest, hpre⟩ := hP
  obtain ⟨-, -, -, hnamed, -, -, -, hat⟩ := (Spec.applies_iff hf).mp happ
  obtain ⟨hg, hn⟩ := and_e (Cond.before_iff.mp (show (Jvm.Cond.and given_1 narrow_1).before args s = true from hpre))
  obtain ⟨hcount, hg0⟩ := and_e hg
  obtain ⟨ha0, hg1⟩ := and_e hg0
  obtain ⟨ha1, hg2⟩ := and_e hg1
  obtain ⟨ha2, hg3⟩ := and_e hg2
  obtain ⟨ha3, hg4⟩ := and_e hg3
  obtain ⟨ha4, hg5⟩ := and_e hg4
  obtain ⟨w0, w1, w2, w3, w4, w5, rfl⟩ : ∃ w0 w1 w2 w3 w4 w5 : Value, args = #[w0, w1, w2, w3, w4, w5] := by
    have hs : args.size = 6 := by simpa [Cond.value, given_1] using hcount
    obtain ⟨L⟩ := args
    match L, hs with
    | [w0, w1, w2, w3, w4, w5], _ => exact ⟨w0, w1, w2, w3, w4, w5, rfl⟩
  have hw := fun d (hd : d ∈ tables_1) => atoms_spec (ws := Jvm.Cond.code x code maxLocals ret :: tables_1) hat d (List.mem_cons_of_mem _ hd)
  have hfit : Fit s := fun {y c} hc i hi => by
    obtain ⟨ha, rfl⟩ := Array.getElem?_eq_some_iff.mp hc
    have q := List.all_eq_true.mp ((Array.all_eq_true_iff_forall_mem.mp hF) _ (Array.getElem_mem ha)) i (List.mem_range.mpr hi)
    simpa [Array.getElem?_eq_getElem hi] using q
  obtain ⟨i0, ei0⟩ := isL_v ha0
  obtain rfl : w0 = (.long i0) := Option.some.inj ei0
  obtain ⟨i1, ei1⟩ := isL_v ha1
  obtain rfl : w1 = (.long i1) := Option.some.inj ei1
  obtain ⟨i2, ei2⟩ := isL_v ha2
  obtain rfl : w2 = (.long i2) := Option.some.inj ei2
  obtain ⟨i3, ei3⟩ := isL_v ha3
  obtain rfl : w3 = (.long i3) := Option.some.inj ei3
  obtain ⟨i4, ei4⟩ := isL_v ha4
  obtain rfl : w4 = (.long i4) := Option.some.inj ei4
  obtain ⟨i5, ei5⟩ := is_v hg5
  obtain rfl : w5 = (.int i5) := Option.some.inj ei5
  obtain ⟨n, o, h1, h2, h3, _, L, rfl, ⟨rfl, N⟩, hq⟩ := rm0 l s _ hw tables_1 i0 i1 i2 i3 i4 i5  s.heap s.heap.size (Nat.le_refl _)  p e ha hc hk s m _ below hf ((Spec.applies_iff_loose hf).mp happ).1 ⟨rfl, State.Warmed39.refl s, rfl⟩ trivial
  refine ⟨n, _, h1, h2, h3, hpost _ _ _ _ _ _ ⟨Cond.after_iff.mpr rfl, Cond.after_iff.mpr (eq_i res_at (Term.int_eval (1)) rfl), trivial⟩ ⟨hq.1, hq.2.1, (hq.2.2.sift fun y hy => Or.inr (N y hy)).mono (by decide) (by decide)⟩⟩
theorem main_1_1 : Claimed_1_1 := comes_1 fun _ _ _ _ _ _ h hF => ⟨h.1, hF⟩
theorem main_1_2 : Claimed_1_2 := comes_1 fun _ _ _ _ _ _ h hF => ⟨h.2.1, hF⟩
end Jvm.Pilot.@@N@@
namespace Jvm.Pilot.@@N@@
open Jvm Jvm.ClassFile Sem Op Lib Jvm.Free Jvm.Stand Jvm.Pilot.@@N@@.Jvm.D
/-! MADE BY PROGRAM (witnessworld.py) out of the Statement's table words and the real class files: 24 classes; the members and pool entries that the words name. The judged class is class 1, her method 1. -/
namespace start1
open Jvm.ClassFile
def u (s : String) : CpInfo := .utf8 (stringToUtf16 s)
/-- a pool by its gaps: so many unusable entries, then the entry; so many at the end -/
def gap : Nat → List CpInfo → List CpInfo
  | 0, r => r
  | n + 1, r => .unusable :: gap n r
def poolList (es : List (Nat × CpInfo)) (last : Nat) : List CpInfo := es.foldr (fun e r => gap e.1 (e.2 :: r)) (gap last [])
def pool (es : List (Nat × CpInfo)) (last : Nat) : Array CpInfo := ⟨poolList es last⟩
def fileOf (pool : Array CpInfo) (this : Nat) (attrs : Array Attribute := #[]) (ms : Array MethodInfo := #[]) (fl : Nat := 33) (sup : Nat := 0) (ifs : Array Nat := #[]) (fds : Array FieldInfo := #[]) : ClassFile where
  minorVersion := 0
  majorVersion := 65
  constantPool := pool
  accessFlags := fl
  thisClass := this
  superClass := sup
  interfaces := ifs
  fields := fds
  methods := ms
  attributes := attrs
def plain (name : String) (sup : Option ClassId) : Class where
  name := name
  kind := .ordinary
  loader := none
  accessFlags := 33
  super := sup
  interfaces := #[]
  cf := none
  fields := #[]
  methods := #[]
  instanceTypes := #[]
  staticTypes := #[]
  resolved := #[]
  callSites := []
  init := .initialized
  statics := none
  mirror := none

def pool0 : Array CpInfo := pool [(5, u "<init>"), (0, u "()V"), (1, .class_ 10), (1, u "java/lang/Object")] 113

def k0c0 : Code := { maxStack := 0, maxLocals := 1, code := object_method_1_code, exceptionTable := #[], attributes := #[] }
def k0m0 : Method := { name := "<init>", desc := "()V", sig := { parameters := [], returnType := none }, accessFlags := 1, code := some k0c0 }
/-- java/lang/Object -/
def k0 : Class := { plain "java/lang/Object" none with
  accessFlags := 33
  interfaces := #[]
  cf := some (fileOf pool0 8 #[] #[{ accessFlags := 1, nameIndex := 5, descriptorIndex := 6, attributes := #[] }] 33 0 #[] #[])
  fields := #[]
  methods := #[k0m0]
  instanceTypes := #[]
  staticTypes := #[]
  resolved := Array.replicate 124 none
  statics := none }

def pool1 : Array CpInfo := pool [(2, .class_ 4), (1, u "java/lang/Object"), (0, u "<init>"), (0, u "()V"), (0, .class_ 8), (0, u "com/example/headroom/headroom/model/Member"), (0, .methodref 7 10), (0, .nameAndType 5 11), (0, u "(Lcom/example/headroom/headroom/model/Subscription;JJ)V"), (0, .methodref 7 13), (0, .nameAndType 14 15), (0, u "sent"), (0, u "(J)V"), (0, .methodref 7 17), (0, .nameAndType 18 19), (0, u "acknowledged"), (0, u "(JJJ)V"), (0, .methodref 7 21), (0, .nameAndType 22 23), (0, u "processingMs"), (0, u "()D"), (0, .methodref 7 25), (0, .nameAndType 26 27), (0, u "sentSinceReport"), (0, u "()J"), (0, .methodref 7 29), (0, .nameAndType 30 27), (0, u "delivered"), (0, .methodref 7 32), (0, .nameAndType 33 27), (0, u "lastSentNanos"), (0, .methodref 7 35), (0, .nameAndType 36 27), (0, u "pending"), (0, .methodref 7 38), (0, .nameAndType 39 27), (0, u "lastReportNanos"), (0, .class_ 41), (0, u "com/example/headroom/headroom/model/MemberSentPinLaw"), (2, u "law"), (0, u "(JJJJJI)Z")] 3

def k1m0 : Method := { name := "<init>", desc := "()V", sig := { parameters := [], returnType := none }, accessFlags := 1, code := none }
def k1c1 : Code := { maxStack := 7, maxLocals := 24, code := code, exceptionTable := #[], attributes := #[] }
def k1m1 : Method := { name := "law", desc := "(JJJJJI)Z", sig := { parameters := [.long, .long, .long, .long, .long, .int], returnType := some .boolean }, accessFlags := 9, code := some k1c1 }
/-- com/example/headroom/headroom/model/MemberSentPinLaw -/
def k1 : Class := { plain "com/example/headroom/headroom/model/MemberSentPinLaw" (some 0) with
  accessFlags := 49
  interfaces := #[]
  cf := some (fileOf pool1 40 #[] #[{ accessFlags := 1, nameIndex := 5, descriptorIndex := 6, attributes := #[] }, { accessFlags := 9, nameIndex := 44, descriptorIndex := 45, attributes := #[] }] 49 2 #[] #[])
  fields := #[]
  methods := #[k1m0, k1m1]
  instanceTypes := #[]
  staticTypes := #[]
  resolved := Array.replicate 49 none
  statics := none }

def pool2 : Array CpInfo := pool [(1, .methodref 2 3), (0, .class_ 4), (0, .nameAndType 5 6), (0, u "java/lang/Object"), (0, u "<init>"), (0, u "()V"), (0, .class_ 8), (0, u "java/util/ArrayDeque"), (0, .class_ 10), (0, u "com/example/headroom/headroom/model/Member"), (0, .methodref 7 12), (0, .nameAndType 5 13), (0, u "(I)V"), (0, .fieldref 9 15), (0, .nameAndType 16 17), (0, u "processingTimes"), (0, u "Ljava/util/Deque;"), (0, .fieldref 9 19), (0, .nameAndType 20 21), (0, u "subscription"), (0, u "Lcom/example/headroom/headroom/model/Subscription;"), (0, .fieldref 9 23), (0, .nameAndType 24 25), (0, u "joinOrder"), (0, u "J"), (0, .fieldref 9 27), (0, .nameAndType 28 25), (0, u "lastReportNanos"), (0, .fieldref 9 30), (0, .nameAndType 31 25), (0, u "lastSentNanos"), (0, .fieldref 9 33), (0, .nameAndType 34 25), (0, u "lastAcknowledgedNanos"), (6, .fieldref 9 42), (0, .nameAndType 43 25), (0, u "pending"), (0, .fieldref 9 45), (0, .nameAndType 46 47), (0, u "processingMs"), (0, u "D"), (1, .class_ 51), (1, u "java/util/Deque"), (1, u "()Z"), (0, .fieldref 9 55), (0, .nameAndType 56 25), (0, u "sentSinceReport"), (0, .fieldref 9 58), (0, .nameAndType 59 25), (0, u "delivered"), (0, .fieldref 9 61), (0, .nameAndType 62 63), (0, u "reported"), (0, u "Z"), (8, u "()J"), (3, u "()D"), (0, .methodref 9 78), (0, .nameAndType 79 80), (0, u "update"), (0, u "(JDJ)V"), (0, .double 4696837146684686336), (1, .interfaceMethodref 49 84), (0, .nameAndType 85 86), (0, u "size"), (0, u "()I"), (3, u "()Ljava/lang/Object;"), (0, .methodref 92 93), (0, .class_ 94), (0, .nameAndType 95 96), (0, u "java/lang/Double"), (0, u "valueOf"), (0, u "(D)Ljava/lang/Double;"), (0, .interfaceMethodref 49 98), (0, .nameAndType 99 100), (0, u "addLast"), (0, u "(Ljava/lang/Object;)V"), (0, .interfaceMethodref 49 102), (0, .nameAndType 103 104), (0, u "iterator"), (0, u "()Ljava/util/Iterator;"), (0, .interfaceMethodref 106 107), (0, .class_ 108), (0, .nameAndType 109 53), (0, u "java/util/Iterator"), (0, u "hasNext"), (0, .interfaceMethodref 106 111), (0, .nameAndType 112 90), (0, u "next"), (0, .methodref 92 114), (0, .nameAndType 115 76), (0, u "doubleValue"), (0, u "WINDOW"), (0, u "I"), (2, u "NANOS_PER_MILLI"), (2, u "(Lcom/example/headroom/headroom/model/Subscription;JJ)V"), (7, u "acknowledged"), (0, u "(JJJ)V"), (0, u "sent"), (0, u "(J)V")] 4

def k2c0 : Code := { maxStack := 4, maxLocals := 6, code := prog_44_method_1_code, exceptionTable := #[], attributes := #[] }
def k2m0 : Method := { name := "<init>", desc := "(Lcom/example/headroom/headroom/model/Subscription;JJ)V", sig := { parameters := [(.object "com/example/headroom/headroom/model/Subscription"), .long, .long], returnType := none }, accessFlags := 0, code := some k2c0 }
def k2c1 : Code := { maxStack := 2, maxLocals := 1, code := prog_44_method_5_code, exceptionTable := #[], attributes := #[] }
def k2m1 : Method := { name := "pending", desc := "()J", sig := { parameters := [], returnType := some .long }, accessFlags := 1, code := some k2c1 }
def k2c2 : Code := { maxStack := 2, maxLocals := 1, code := prog_44_method_6_code, exceptionTable := #[], attributes := #[] }
def k2m2 : Method := { name := "processingMs", desc := "()D", sig := { parameters := [], returnType := some .double }, accessFlags := 1, code := some k2c2 }
def k2c3 : Code := { maxStack := 2, maxLocals := 1, code := prog_44_method_8_code, exceptionTable := #[], attributes := #[] }
def k2m3 : Method := { name := "sentSinceReport", desc := "()J", sig := { parameters := [], returnType := some .long }, accessFlags := 1, code := some k2c3 }
def k2c4 : Code := { maxStack := 2, maxLocals := 1, code := prog_44_method_9_code, exceptionTable := #[], attributes := #[] }
def k2m4 : Method := { name := "delivered", desc := "()J", sig := { parameters := [], returnType := some .long }, accessFlags := 1, code := some k2c4 }
def k2c5 : Code := { maxStack := 2, maxLocals := 1, code := prog_44_method_10_code, exceptionTable := #[], attributes := #[] }
def k2m5 : Method := { name := "lastReportNanos", desc := "()J", sig := { parameters := [], returnType := some .long }, accessFlags := 1, code := some k2c5 }
def k2c6 : Code := { maxStack := 2, maxLocals := 1, code := prog_44_method_11_code, exceptionTable := #[], attributes := #[] }
def k2m6 : Method := { name := "lastSentNanos", desc := "()J", sig := { parameters := [], returnType := some .long }, accessFlags := 1, code := some k2c6 }
def k2c7 : Code := { maxStack := 7, maxLocals := 9, code := prog_44_method_13_code, exceptionTable := #[], attributes := #[] }
def k2m7 : Method := { name := "acknowledged", desc := "(JJJ)V", sig := { parameters := [.long, .long, .long], returnType := none }, accessFlags := 1, code := some k2c7 }
def k2c8 : Code := { maxStack := 5, maxLocals := 3, code := prog_44_method_14_code, exceptionTable := #[], attributes := #[] }
def k2m8 : Method := { name := "sent", desc := "(J)V", sig := { parameters := [.long], returnType := none }, accessFlags := 0, code := some k2c8 }
def k2c9 : Code := { maxStack := 7, maxLocals := 10, code := prog_44_method_16_code, exceptionTable := #[], attributes := #[] }
def k2m9 : Method := { name := "update", desc := "(JDJ)V", sig := { parameters := [.long, .double, .long], returnType := none }, accessFlags := 2, code := some k2c9 }
/-- com/example/headroom/headroom/model/Member -/
def k2 : Class := { plain "com/example/headroom/headroom/model/Member" (some 0) with
  accessFlags := 33
  interfaces := #[]
  cf := some (fileOf pool2 9 #[] #[{ accessFlags := 0, nameIndex := 5, descriptorIndex := 123, attributes := #[] }, { accessFlags := 1, nameIndex := 43, descriptorIndex := 72, attributes := #[] }, { accessFlags := 1, nameIndex := 46, descriptorIndex := 76, attributes := #[] }, { accessFlags := 1, nameIndex := 56, descriptorIndex := 72, attributes := #[] }, { accessFlags := 1, nameIndex := 59, descriptorIndex := 72, attributes := #[] }, { accessFlags := 1, nameIndex := 28, descriptorIndex := 72, attributes := #[] }, { accessFlags := 1, nameIndex := 31, descriptorIndex := 72, attributes := #[] }, { accessFlags := 1, nameIndex := 131, descriptorIndex := 132, attributes := #[] }, { accessFlags := 0, nameIndex := 133, descriptorIndex := 134, attributes := #[] }, { accessFlags := 2, nameIndex := 79, descriptorIndex := 80, attributes := #[] }] 33 2 #[] #[{ accessFlags := 26, nameIndex := 116, descriptorIndex := 117, attributes := #[] }, { accessFlags := 26, nameIndex := 120, descriptorIndex := 47, attributes := #[] }, { accessFlags := 18, nameIndex := 24, descriptorIndex := 25, attributes := #[] }, { accessFlags := 18, nameIndex := 16, descriptorIndex := 17, attributes := #[] }, { accessFlags := 2, nameIndex := 20, descriptorIndex := 21, attributes := #[] }, { accessFlags := 2, nameIndex := 43, descriptorIndex := 25, attributes := #[] }, { accessFlags := 2, nameIndex := 46, descriptorIndex := 47, attributes := #[] }, { accessFlags := 2, nameIndex := 56, descriptorIndex := 25, attributes := #[] }, { accessFlags := 2, nameIndex := 59, descriptorIndex := 25, attributes := #[] }, { accessFlags := 2, nameIndex := 28, descriptorIndex := 25, attributes := #[] }, { accessFlags := 2, nameIndex := 31, descriptorIndex := 25, attributes := #[] }, { accessFlags := 2, nameIndex := 62, descriptorIndex := 63, attributes := #[] }, { accessFlags := 2, nameIndex := 34, descriptorIndex := 25, attributes := #[] }])
  fields := #[{ name := "WINDOW", type := .int, accessFlags := 26, slot := 0, constantValue := 0 }, { name := "NANOS_PER_MILLI", type := .double, accessFlags := 26, slot := 1, constantValue := 0 }, { name := "joinOrder", type := .long, accessFlags := 18, slot := 0, constantValue := 0 }, { name := "processingTimes", type := (.object "java/util/Deque"), accessFlags := 18, slot := 1, constantValue := 0 }, { name := "subscription", type := (.object "com/example/headroom/headroom/model/Subscription"), accessFlags := 2, slot := 2, constantValue := 0 }, { name := "pending", type := .long, accessFlags := 2, slot := 3, constantValue := 0 }, { name := "processingMs", type := .double, accessFlags := 2, slot := 4, constantValue := 0 }, { name := "sentSinceReport", type := .long, accessFlags := 2, slot := 5, constantValue := 0 }, { name := "delivered", type := .long, accessFlags := 2, slot := 6, constantValue := 0 }, { name := "lastReportNanos", type := .long, accessFlags := 2, slot := 7, constantValue := 0 }, { name := "lastSentNanos", type := .long, accessFlags := 2, slot := 8, constantValue := 0 }, { name := "reported", type := .boolean, accessFlags := 2, slot := 9, constantValue := 0 }, { name := "lastAcknowledgedNanos", type := .long, accessFlags := 2, slot := 10, constantValue := 0 }]
  methods := #[k2m0, k2m1, k2m2, k2m3, k2m4, k2m5, k2m6, k2m7, k2m8, k2m9]
  instanceTypes := #[.long, (.object "java/util/Deque"), (.object "com/example/headroom/headroom/model/Subscription"), .long, .double, .long, .long, .long, .long, .boolean, .long]
  staticTypes := #[.int, .double]
  resolved := Array.replicate 139 none
  statics := none }

def pool3 : Array CpInfo := pool [(8, .class_ 10), (1, u "java/lang/Iterable"), (24, .class_ 36), (0, u "java/lang/Object")] 25

/-- java/lang/Iterable -/
def k3 : Class := { plain "java/lang/Iterable" (some 0) with
  accessFlags := 1537
  interfaces := #[]
  cf := some (fileOf pool3 8 #[] #[] 1537 35 #[] #[])
  fields := #[]
  methods := #[]
  instanceTypes := #[]
  staticTypes := #[]
  resolved := Array.replicate 62 none
  statics := none }

def pool4 : Array CpInfo := pool [(10, .class_ 12), (1, u "java/util/Collection"), (47, .class_ 61), (0, u "java/lang/Object"), (0, .class_ 63), (0, u "java/lang/Iterable")] 51

/-- java/util/Collection -/
def k4 : Class := { plain "java/util/Collection" (some 0) with
  accessFlags := 1537
  interfaces := #[3]
  cf := some (fileOf pool4 10 #[] #[] 1537 60 #[62] #[])
  fields := #[]
  methods := #[]
  instanceTypes := #[]
  staticTypes := #[]
  resolved := Array.replicate 115 none
  statics := none }

def pool5 : Array CpInfo := pool [(1, .methodref 2 3), (0, .class_ 4), (0, .nameAndType 5 6), (0, u "java/lang/Object"), (0, u "<init>"), (0, u "()V"), (1, .class_ 10), (1, u "java/util/AbstractCollection"), (66, .class_ 78), (0, u "java/util/Collection")] 81

def k5c0 : Code := { maxStack := 1, maxLocals := 1, code := jdk_22_method_1_code, exceptionTable := #[], attributes := #[] }
def k5m0 : Method := { name := "<init>", desc := "()V", sig := { parameters := [], returnType := none }, accessFlags := 4, code := some k5c0 }
/-- java/util/AbstractCollection -/
def k5 : Class := { plain "java/util/AbstractCollection" (some 0) with
  accessFlags := 1057
  interfaces := #[4]
  cf := some (fileOf pool5 8 #[] #[{ accessFlags := 4, nameIndex := 5, descriptorIndex := 6, attributes := #[] }] 1057 2 #[77] #[])
  fields := #[]
  methods := #[k5m0]
  instanceTypes := #[]
  staticTypes := #[]
  resolved := Array.replicate 160 none
  statics := none }

def pool6 : Array CpInfo := pool [(1, .class_ 2), (0, u "java/util/Queue"), (0, .class_ 4), (0, u "java/lang/Object"), (0, .class_ 6), (0, u "java/util/Collection")] 14

/-- java/util/Queue -/
def k6 : Class := { plain "java/util/Queue" (some 0) with
  accessFlags := 1537
  interfaces := #[4]
  cf := some (fileOf pool6 1 #[] #[] 1537 3 #[5] #[])
  fields := #[]
  methods := #[]
  instanceTypes := #[]
  staticTypes := #[]
  resolved := Array.replicate 21 none
  statics := none }

def pool7 : Array CpInfo := pool [(8, .class_ 10), (1, u "java/util/SequencedCollection"), (15, .class_ 27), (0, u "java/lang/Object"), (0, .class_ 29), (0, u "java/util/Collection")] 27

/-- java/util/SequencedCollection -/
def k7 : Class := { plain "java/util/SequencedCollection" (some 0) with
  accessFlags := 1537
  interfaces := #[4]
  cf := some (fileOf pool7 8 #[] #[] 1537 26 #[28] #[])
  fields := #[]
  methods := #[]
  instanceTypes := #[]
  staticTypes := #[]
  resolved := Array.replicate 57 none
  statics := none }

def pool8 : Array CpInfo := pool [(8, .class_ 10), (1, u "java/util/Deque"), (2, .class_ 14), (0, u "java/lang/Object"), (0, .class_ 16), (0, u "java/util/Queue"), (0, .class_ 18), (0, u "java/util/SequencedCollection"), (1, u "(Ljava/lang/Object;)V"), (2, u "addLast"), (28, u "size"), (0, u "()I"), (0, u "iterator"), (0, u "()Ljava/util/Iterator;")] 14

def k8m0 : Method := { name := "addLast", desc := "(Ljava/lang/Object;)V", sig := { parameters := [(.object "java/lang/Object")], returnType := none }, accessFlags := 1025, code := none }
def k8m1 : Method := { name := "size", desc := "()I", sig := { parameters := [], returnType := some .int }, accessFlags := 1025, code := none }
def k8m2 : Method := { name := "iterator", desc := "()Ljava/util/Iterator;", sig := { parameters := [], returnType := some (.object "java/util/Iterator") }, accessFlags := 1025, code := none }
/-- java/util/Deque -/
def k8 : Class := { plain "java/util/Deque" (some 0) with
  accessFlags := 1537
  interfaces := #[6, 7]
  cf := some (fileOf pool8 8 #[] #[{ accessFlags := 1025, nameIndex := 23, descriptorIndex := 20, attributes := #[] }, { accessFlags := 1025, nameIndex := 52, descriptorIndex := 53, attributes := #[] }, { accessFlags := 1025, nameIndex := 54, descriptorIndex := 55, attributes := #[] }] 1537 13 #[15, 17] #[])
  fields := #[]
  methods := #[k8m0, k8m1, k8m2]
  instanceTypes := #[]
  staticTypes := #[]
  resolved := Array.replicate 70 none
  statics := none }

def pool9 : Array CpInfo := pool [(1, .class_ 2), (0, u "java/lang/Cloneable"), (0, .class_ 4), (0, u "java/lang/Object")] 2

/-- java/lang/Cloneable -/
def k9 : Class := { plain "java/lang/Cloneable" (some 0) with
  accessFlags := 1537
  interfaces := #[]
  cf := some (fileOf pool9 1 #[] #[] 1537 3 #[] #[])
  fields := #[]
  methods := #[]
  instanceTypes := #[]
  staticTypes := #[]
  resolved := Array.replicate 7 none
  statics := none }

def pool10 : Array CpInfo := pool [(1, .class_ 2), (0, u "java/io/Serializable"), (0, .class_ 4), (0, u "java/lang/Object")] 2

/-- java/io/Serializable -/
def k10 : Class := { plain "java/io/Serializable" (some 0) with
  accessFlags := 1537
  interfaces := #[]
  cf := some (fileOf pool10 1 #[] #[] 1537 3 #[] #[])
  fields := #[]
  methods := #[]
  instanceTypes := #[]
  staticTypes := #[]
  resolved := Array.replicate 7 none
  statics := none }

def pool11 : Array CpInfo := pool [(3, .fieldref 4 5), (0, .class_ 6), (0, .nameAndType 7 8), (0, u "java/util/ArrayDeque"), (0, u "elements"), (0, u "[Ljava/lang/Object;"), (4, u "(II)I"), (6, .fieldref 4 21), (0, .nameAndType 22 23), (0, u "tail"), (0, u "I"), (0, .fieldref 4 25), (0, .nameAndType 26 23), (0, u "head"), (12, u "<init>"), (1, .integer 2147483647), (0, .methodref 43 44), (0, .class_ 45), (0, .nameAndType 39 46), (0, u "java/util/AbstractCollection"), (0, u "()V"), (0, .class_ 48), (0, u "java/lang/Object"), (4, u "size"), (0, u "()I"), (2, u "(I)V"), (16, .methodref 4 75), (0, .nameAndType 76 13), (0, u "inc"), (12, u "(Ljava/lang/Object;)V"), (2, u "addLast"), (13, u "([Ljava/lang/Object;I)Ljava/lang/Object;"), (20, .methodref 4 128), (0, .nameAndType 129 130), (0, u "sub"), (0, u "(III)I"), (0, .class_ 132), (0, u "java/util/ArrayDeque$DeqIterator"), (0, .methodref 131 134), (0, .nameAndType 39 135), (0, u "(Ljava/util/ArrayDeque;)V"), (0, .class_ 137), (0, u "java/util/ArrayDeque$DescendingIterator"), (1, .class_ 140), (0, u "java/util/ArrayDeque$DeqSpliterator"), (137, .class_ 279), (0, u "java/util/Deque"), (0, .class_ 281), (0, u "java/lang/Cloneable"), (0, .class_ 283), (0, u "java/io/Serializable"), (0, u "MAX_ARRAY_SIZE"), (1, u "serialVersionUID"), (0, u "J"), (28, u "nonNullElementAt"), (32, u "iterator"), (0, u "()Ljava/util/Iterator;")] 87

def k11m0 : Method := { name := "<init>", desc := "()V", sig := { parameters := [], returnType := none }, accessFlags := 1, code := none }
def k11c1 : Code := { maxStack := 3, maxLocals := 2, code := jdk_21_method_4_code, exceptionTable := #[], attributes := #[] }
def k11m1 : Method := { name := "<init>", desc := "(I)V", sig := { parameters := [.int], returnType := none }, accessFlags := 1, code := some k11c1 }
def k11c2 : Code := { maxStack := 2, maxLocals := 2, code := jdk_21_method_6_code, exceptionTable := #[], attributes := #[] }
def k11m2 : Method := { name := "inc", desc := "(II)I", sig := { parameters := [.int, .int], returnType := some .int }, accessFlags := 24, code := some k11c2 }
def k11c3 : Code := { maxStack := 2, maxLocals := 3, code := jdk_21_method_9_code, exceptionTable := #[], attributes := #[] }
def k11m3 : Method := { name := "sub", desc := "(III)I", sig := { parameters := [.int, .int, .int], returnType := some .int }, accessFlags := 24, code := some k11c3 }
def k11c4 : Code := { maxStack := 2, maxLocals := 3, code := jdk_21_method_11_code, exceptionTable := #[], attributes := #[] }
def k11m4 : Method := { name := "nonNullElementAt", desc := "([Ljava/lang/Object;I)Ljava/lang/Object;", sig := { parameters := [(.array (.object "java/lang/Object")), .int], returnType := some (.object "java/lang/Object") }, accessFlags := 24, code := some k11c4 }
def k11c5 : Code := { maxStack := 4, maxLocals := 3, code := jdk_21_method_13_code, exceptionTable := #[], attributes := #[] }
def k11m5 : Method := { name := "addLast", desc := "(Ljava/lang/Object;)V", sig := { parameters := [(.object "java/lang/Object")], returnType := none }, accessFlags := 1, code := some k11c5 }
def k11c6 : Code := { maxStack := 3, maxLocals := 1, code := jdk_21_method_37_code, exceptionTable := #[], attributes := #[] }
def k11m6 : Method := { name := "size", desc := "()I", sig := { parameters := [], returnType := some .int }, accessFlags := 1, code := some k11c6 }
def k11c7 : Code := { maxStack := 3, maxLocals := 1, code := jdk_21_method_39_code, exceptionTable := #[], attributes := #[] }
def k11m7 : Method := { name := "iterator", desc := "()Ljava/util/Iterator;", sig := { parameters := [], returnType := some (.object "java/util/Iterator") }, accessFlags := 1, code := some k11c7 }
/-- java/util/ArrayDeque -/
def k11 : Class := { plain "java/util/ArrayDeque" (some 5) with
  accessFlags := 33
  interfaces := #[8, 9, 10]
  cf := some (fileOf pool11 4 #[.nestMembers #[139, 136, 131]] #[{ accessFlags := 1, nameIndex := 39, descriptorIndex := 46, attributes := #[] }, { accessFlags := 1, nameIndex := 39, descriptorIndex := 57, attributes := #[] }, { accessFlags := 24, nameIndex := 76, descriptorIndex := 13, attributes := #[] }, { accessFlags := 24, nameIndex := 129, descriptorIndex := 130, attributes := #[] }, { accessFlags := 24, nameIndex := 316, descriptorIndex := 106, attributes := #[] }, { accessFlags := 1, nameIndex := 92, descriptorIndex := 89, attributes := #[] }, { accessFlags := 1, nameIndex := 53, descriptorIndex := 54, attributes := #[] }, { accessFlags := 1, nameIndex := 349, descriptorIndex := 350, attributes := #[] }] 33 43 #[278, 280, 282] #[{ accessFlags := 128, nameIndex := 7, descriptorIndex := 8, attributes := #[] }, { accessFlags := 128, nameIndex := 26, descriptorIndex := 23, attributes := #[] }, { accessFlags := 128, nameIndex := 22, descriptorIndex := 23, attributes := #[] }, { accessFlags := 26, nameIndex := 284, descriptorIndex := 23, attributes := #[] }, { accessFlags := 26, nameIndex := 286, descriptorIndex := 287, attributes := #[] }])
  fields := #[{ name := "elements", type := (.array (.object "java/lang/Object")), accessFlags := 128, slot := 0, constantValue := 0 }, { name := "head", type := .int, accessFlags := 128, slot := 1, constantValue := 0 }, { name := "tail", type := .int, accessFlags := 128, slot := 2, constantValue := 0 }, { name := "MAX_ARRAY_SIZE", type := .int, accessFlags := 26, slot := 0, constantValue := 0 }, { name := "serialVersionUID", type := .long, accessFlags := 26, slot := 1, constantValue := 0 }]
  methods := #[k11m0, k11m1, k11m2, k11m3, k11m4, k11m5, k11m6, k11m7]
  instanceTypes := #[(.array (.object "java/lang/Object")), .int, .int]
  staticTypes := #[.int, .long]
  resolved := Array.replicate 438 none
  statics := none }

def pool12 : Array CpInfo := pool [(1, .methodref 2 3), (0, .class_ 4), (0, .nameAndType 5 6), (0, u "java/lang/Object"), (0, u "<init>"), (0, u "()V"), (1, .class_ 10), (1, u "java/lang/Number"), (2, .class_ 14), (0, u "java/io/Serializable"), (0, u "serialVersionUID"), (0, u "J")] 20

def k12c0 : Code := { maxStack := 1, maxLocals := 1, code := jdk_18_method_1_code, exceptionTable := #[], attributes := #[] }
def k12m0 : Method := { name := "<init>", desc := "()V", sig := { parameters := [], returnType := none }, accessFlags := 1, code := some k12c0 }
/-- java/lang/Number -/
def k12 : Class := { plain "java/lang/Number" (some 0) with
  accessFlags := 1057
  interfaces := #[10]
  cf := some (fileOf pool12 8 #[] #[{ accessFlags := 1, nameIndex := 5, descriptorIndex := 6, attributes := #[] }] 1057 2 #[13] #[{ accessFlags := 26, nameIndex := 15, descriptorIndex := 16, attributes := #[] }])
  fields := #[{ name := "serialVersionUID", type := .long, accessFlags := 26, slot := 0, constantValue := 0 }]
  methods := #[k12m0]
  instanceTypes := #[]
  staticTypes := #[.long]
  resolved := Array.replicate 37 none
  statics := none }

def pool13 : Array CpInfo := pool [(1, .class_ 2), (0, u "java/lang/Comparable"), (0, .class_ 4), (0, u "java/lang/Object")] 7

/-- java/lang/Comparable -/
def k13 : Class := { plain "java/lang/Comparable" (some 0) with
  accessFlags := 1537
  interfaces := #[]
  cf := some (fileOf pool13 1 #[] #[] 1537 3 #[] #[])
  fields := #[]
  methods := #[]
  instanceTypes := #[]
  staticTypes := #[]
  resolved := Array.replicate 12 none
  statics := none }

def pool14 : Array CpInfo := pool [(1, .class_ 2), (0, u "java/lang/constant/Constable"), (0, .class_ 4), (0, u "java/lang/Object")] 6

/-- java/lang/constant/Constable -/
def k14 : Class := { plain "java/lang/constant/Constable" (some 0) with
  accessFlags := 1537
  interfaces := #[]
  cf := some (fileOf pool14 1 #[] #[] 1537 3 #[] #[])
  fields := #[]
  methods := #[]
  instanceTypes := #[]
  staticTypes := #[]
  resolved := Array.replicate 11 none
  statics := none }

def pool15 : Array CpInfo := pool [(1, .class_ 2), (0, u "java/lang/constant/ConstantDesc"), (0, .class_ 4), (0, u "java/lang/Object")] 32

/-- java/lang/constant/ConstantDesc -/
def k15 : Class := { plain "java/lang/constant/ConstantDesc" (some 0) with
  accessFlags := 1537
  interfaces := #[]
  cf := some (fileOf pool15 1 #[] #[] 1537 3 #[] #[])
  fields := #[]
  methods := #[]
  instanceTypes := #[]
  staticTypes := #[]
  resolved := Array.replicate 37 none
  statics := none }

def pool16 : Array CpInfo := pool [(1, .class_ 2), (0, u "java/lang/Double"), (17, u "<init>"), (84, .methodref 1 106), (0, .nameAndType 20 107), (0, u "(D)V"), (5, .methodref 114 115), (0, .class_ 116), (0, .nameAndType 20 117), (0, u "java/lang/Number"), (0, u "()V"), (0, .fieldref 1 119), (0, .nameAndType 120 121), (0, u "value"), (0, u "D"), (51, u "TYPE"), (0, u "Ljava/lang/Class;"), (0, .class_ 176), (0, u "java/lang/Comparable"), (0, .class_ 178), (0, u "java/lang/constant/Constable"), (0, .class_ 180), (0, u "java/lang/constant/ConstantDesc"), (0, u "POSITIVE_INFINITY"), (3, u "NEGATIVE_INFINITY"), (2, u "NaN"), (2, u "MAX_VALUE"), (0, u "MIN_NORMAL"), (0, u "MIN_VALUE"), (2, u "SIZE"), (0, u "I"), (1, u "PRECISION"), (1, u "MAX_EXPONENT"), (1, u "MIN_EXPONENT"), (1, u "BYTES"), (3, u "serialVersionUID"), (0, u "J"), (14, u "valueOf"), (5, u "(D)Ljava/lang/Double;"), (23, u "doubleValue"), (0, u "()D")] 33

def k16c0 : Code := { maxStack := 4, maxLocals := 2, code := jdk_117_method_4_code, exceptionTable := #[], attributes := #[] }
def k16m0 : Method := { name := "valueOf", desc := "(D)Ljava/lang/Double;", sig := { parameters := [.double], returnType := some (.object "java/lang/Double") }, accessFlags := 9, code := some k16c0 }
def k16c1 : Code := { maxStack := 3, maxLocals := 3, code := jdk_117_method_9_code, exceptionTable := #[], attributes := #[] }
def k16m1 : Method := { name := "<init>", desc := "(D)V", sig := { parameters := [.double], returnType := none }, accessFlags := 1, code := some k16c1 }
def k16c2 : Code := { maxStack := 2, maxLocals := 1, code := jdk_117_method_19_code, exceptionTable := #[], attributes := #[] }
def k16m2 : Method := { name := "doubleValue", desc := "()D", sig := { parameters := [], returnType := some .double }, accessFlags := 1, code := some k16c2 }
/-- java/lang/Double -/
def k16 : Class := { plain "java/lang/Double" (some 12) with
  accessFlags := 49
  interfaces := #[13, 14, 15]
  cf := some (fileOf pool16 1 #[] #[{ accessFlags := 9, nameIndex := 225, descriptorIndex := 231, attributes := #[] }, { accessFlags := 1, nameIndex := 20, descriptorIndex := 107, attributes := #[] }, { accessFlags := 1, nameIndex := 255, descriptorIndex := 256, attributes := #[] }] 49 114 #[175, 177, 179] #[{ accessFlags := 25, nameIndex := 181, descriptorIndex := 121, attributes := #[] }, { accessFlags := 25, nameIndex := 185, descriptorIndex := 121, attributes := #[] }, { accessFlags := 25, nameIndex := 188, descriptorIndex := 121, attributes := #[] }, { accessFlags := 25, nameIndex := 191, descriptorIndex := 121, attributes := #[] }, { accessFlags := 25, nameIndex := 192, descriptorIndex := 121, attributes := #[] }, { accessFlags := 25, nameIndex := 193, descriptorIndex := 121, attributes := #[] }, { accessFlags := 25, nameIndex := 196, descriptorIndex := 197, attributes := #[] }, { accessFlags := 25, nameIndex := 199, descriptorIndex := 197, attributes := #[] }, { accessFlags := 25, nameIndex := 201, descriptorIndex := 197, attributes := #[] }, { accessFlags := 25, nameIndex := 203, descriptorIndex := 197, attributes := #[] }, { accessFlags := 25, nameIndex := 205, descriptorIndex := 197, attributes := #[] }, { accessFlags := 25, nameIndex := 173, descriptorIndex := 174, attributes := #[] }, { accessFlags := 18, nameIndex := 120, descriptorIndex := 121, attributes := #[] }, { accessFlags := 26, nameIndex := 209, descriptorIndex := 210, attributes := #[] }])
  fields := #[{ name := "POSITIVE_INFINITY", type := .double, accessFlags := 25, slot := 0, constantValue := 0 }, { name := "NEGATIVE_INFINITY", type := .double, accessFlags := 25, slot := 1, constantValue := 0 }, { name := "NaN", type := .double, accessFlags := 25, slot := 2, constantValue := 0 }, { name := "MAX_VALUE", type := .double, accessFlags := 25, slot := 3, constantValue := 0 }, { name := "MIN_NORMAL", type := .double, accessFlags := 25, slot := 4, constantValue := 0 }, { name := "MIN_VALUE", type := .double, accessFlags := 25, slot := 5, constantValue := 0 }, { name := "SIZE", type := .int, accessFlags := 25, slot := 6, constantValue := 0 }, { name := "PRECISION", type := .int, accessFlags := 25, slot := 7, constantValue := 0 }, { name := "MAX_EXPONENT", type := .int, accessFlags := 25, slot := 8, constantValue := 0 }, { name := "MIN_EXPONENT", type := .int, accessFlags := 25, slot := 9, constantValue := 0 }, { name := "BYTES", type := .int, accessFlags := 25, slot := 10, constantValue := 0 }, { name := "TYPE", type := (.object "java/lang/Class"), accessFlags := 25, slot := 11, constantValue := 0 }, { name := "value", type := .double, accessFlags := 18, slot := 0, constantValue := 0 }, { name := "serialVersionUID", type := .long, accessFlags := 26, slot := 12, constantValue := 0 }]
  methods := #[k16m0, k16m1, k16m2]
  instanceTypes := #[.double]
  staticTypes := #[.double, .double, .double, .double, .double, .double, .int, .int, .int, .int, .int, (.object "java/lang/Class"), .long]
  resolved := Array.replicate 290 none
  statics := none }

def pool17 : Array CpInfo := pool [(16, .class_ 18), (1, u "java/util/Iterator"), (0, u "hasNext"), (0, u "()Z"), (2, u "next"), (0, u "()Ljava/lang/Object;"), (6, .class_ 32), (0, u "java/lang/Object")] 20

def k17m0 : Method := { name := "hasNext", desc := "()Z", sig := { parameters := [], returnType := some .boolean }, accessFlags := 1025, code := none }
def k17m1 : Method := { name := "next", desc := "()Ljava/lang/Object;", sig := { parameters := [], returnType := some (.object "java/lang/Object") }, accessFlags := 1025, code := none }
/-- java/util/Iterator -/
def k17 : Class := { plain "java/util/Iterator" (some 0) with
  accessFlags := 1537
  interfaces := #[]
  cf := some (fileOf pool17 16 #[] #[{ accessFlags := 1025, nameIndex := 19, descriptorIndex := 20, attributes := #[] }, { accessFlags := 1025, nameIndex := 23, descriptorIndex := 24, attributes := #[] }] 1537 31 #[] #[])
  fields := #[]
  methods := #[k17m0, k17m1]
  instanceTypes := #[]
  staticTypes := #[]
  resolved := Array.replicate 53 none
  statics := none }

def pool18 : Array CpInfo := pool [(1, .fieldref 2 3), (0, .class_ 4), (0, .nameAndType 5 6), (0, u "java/util/ArrayDeque$DeqIterator"), (0, u "this$0"), (0, u "Ljava/util/ArrayDeque;"), (0, .methodref 8 9), (0, .class_ 10), (0, .nameAndType 11 12), (0, u "java/lang/Object"), (0, u "<init>"), (0, u "()V"), (0, .methodref 14 15), (0, .class_ 16), (0, .nameAndType 17 18), (0, u "java/util/ArrayDeque"), (0, u "size"), (0, u "()I"), (0, .fieldref 2 20), (0, .nameAndType 21 22), (0, u "remaining"), (0, u "I"), (0, .fieldref 2 24), (0, .nameAndType 25 22), (0, u "lastRet"), (0, .fieldref 14 27), (0, .nameAndType 28 22), (0, u "head"), (0, .fieldref 2 30), (0, .nameAndType 31 22), (0, u "cursor"), (3, .fieldref 14 36), (0, .nameAndType 37 38), (0, u "elements"), (0, u "[Ljava/lang/Object;"), (0, .methodref 14 40), (0, .nameAndType 41 42), (0, u "nonNullElementAt"), (0, u "([Ljava/lang/Object;I)Ljava/lang/Object;"), (0, .methodref 14 44), (0, .nameAndType 45 46), (0, u "inc"), (0, u "(II)I"), (39, .class_ 87), (0, u "java/util/Iterator"), (0, u "(Ljava/util/ArrayDeque;)V"), (8, u "hasNext"), (0, u "()Z"), (1, u "next"), (0, u "()Ljava/lang/Object;")] 26

def k18c0 : Code := { maxStack := 2, maxLocals := 2, code := jdk_54_method_1_code, exceptionTable := #[], attributes := #[] }
def k18m0 : Method := { name := "<init>", desc := "(Ljava/util/ArrayDeque;)V", sig := { parameters := [(.object "java/util/ArrayDeque")], returnType := none }, accessFlags := 0, code := some k18c0 }
def k18c1 : Code := { maxStack := 1, maxLocals := 1, code := jdk_54_method_2_code, exceptionTable := #[], attributes := #[] }
def k18m1 : Method := { name := "hasNext", desc := "()Z", sig := { parameters := [], returnType := some .boolean }, accessFlags := 17, code := some k18c1 }
def k18c2 : Code := { maxStack := 4, maxLocals := 3, code := jdk_54_method_3_code, exceptionTable := #[], attributes := #[] }
def k18m2 : Method := { name := "next", desc := "()Ljava/lang/Object;", sig := { parameters := [], returnType := some (.object "java/lang/Object") }, accessFlags := 1, code := some k18c2 }
/-- java/util/ArrayDeque$DeqIterator -/
def k18 : Class := { plain "java/util/ArrayDeque$DeqIterator" (some 0) with
  accessFlags := 32
  interfaces := #[17]
  cf := some (fileOf pool18 2 #[.nestHost 14] #[{ accessFlags := 0, nameIndex := 11, descriptorIndex := 88, attributes := #[] }, { accessFlags := 17, nameIndex := 97, descriptorIndex := 98, attributes := #[] }, { accessFlags := 1, nameIndex := 100, descriptorIndex := 101, attributes := #[] }] 32 8 #[86] #[{ accessFlags := 0, nameIndex := 31, descriptorIndex := 22, attributes := #[] }, { accessFlags := 0, nameIndex := 21, descriptorIndex := 22, attributes := #[] }, { accessFlags := 0, nameIndex := 25, descriptorIndex := 22, attributes := #[] }, { accessFlags := 4112, nameIndex := 5, descriptorIndex := 6, attributes := #[] }])
  fields := #[{ name := "cursor", type := .int, accessFlags := 0, slot := 0, constantValue := 0 }, { name := "remaining", type := .int, accessFlags := 0, slot := 1, constantValue := 0 }, { name := "lastRet", type := .int, accessFlags := 0, slot := 2, constantValue := 0 }, { name := "this$0", type := (.object "java/util/ArrayDeque"), accessFlags := 4112, slot := 3, constantValue := 0 }]
  methods := #[k18m0, k18m1, k18m2]
  instanceTypes := #[.int, .int, .int, (.object "java/util/ArrayDeque")]
  staticTypes := #[]
  resolved := Array.replicate 128 none
  statics := none }

/-- the primitive byte -/
def k19 : Class := { plain "byte" none with kind := .primitive 'B', accessFlags := 0x411 }
/-- [B -/
def k20 : Class := { plain "[B" (some 0) with kind := .array 19 .byte, interfaces := #[9, 10], accessFlags := 1041 }

/-- the primitive int -/
def k21 : Class := { plain "int" none with kind := .primitive 'I', accessFlags := 0x411 }
/-- [I -/
def k22 : Class := { plain "[I" (some 0) with kind := .array 21 .int, interfaces := #[9, 10], accessFlags := 1041 }

/-- [Ljava/lang/Object; -/
def k23 : Class := { plain "[Ljava/lang/Object;" (some 0) with kind := .array 0 (.object "java/lang/Object"), interfaces := #[9, 10], accessFlags := 1041 }

def heap : Heap := #[]
def classes : Array Class := #[k0, k1, k2, k3, k4, k5, k6, k7, k8, k9, k10, k11, k12, k13, k14, k15, k16, k17, k18, k19, k20, k21, k22, k23]
def interned : List (Array UInt16 × Addr) := []
def slotsUsed : Nat := 0
def theMethod : MethodId := ⟨1, 1⟩
def args0 : Array Value := #[.long 5, .long 6, .long 7, .long 8, .long 9, .int 3]
def aboutOver (below : List Frame) : State where
  vm := { classes := classes, interned := interned.toArray }
  heap := heap
  slotsUsed := slotsUsed
  threads := #[{ frames := .invoking theMethod args0 :: below }]
def below0 : List Frame := [.native { method := ⟨0, 0⟩, args := #[] }]
def about1 : State := aboutOver below0
def p0 : Program := .bare "" "" ""
def e0 : Env := launch0.env 0 0 0
theorem w_frames : about1.frames = Frame.invoking theMethod args0 :: below0 := rfl
set_option maxRecDepth 65536 in
theorem w_args : argsFit about1.vm theMethod args0 = true := by decide +kernel
set_option maxRecDepth 65536 in
theorem w_heap : heapFits about1 = true := by decide +kernel
set_option maxRecDepth 65536 in
theorem w_runnable : about1.curStatus? = some .runnable := by decide +kernel
set_option maxRecDepth 65536 in
theorem w_alone : about1.alone = true := by decide +kernel
set_option maxRecDepth 65536 in
theorem w_named : about1.methodNamed? x = some theMethod := by decide +kernel
set_option maxRecDepth 65536 in
theorem w_hears : about1.hears theMethod below0 = true := by decide +kernel
set_option maxRecDepth 65536 in
theorem w_ripe : about1.ripe theMethod args0 below0 = true := by decide +kernel
theorem w_running : about1.status = .running := rfl
set_option maxRecDepth 65536 in
theorem w_room : about1.hasRoom e0.platform room_1 = true :=
  launch0.hasRoom_least _ room_1 (by decide +kernel) (by decide +kernel) (by decide +kernel) (by decide +kernel) (by decide +kernel) (by decide +kernel)
theorem allAtoms_all (ts : List Jvm.Cond) (a : Array Jvm.Value) (st : Jvm.State) : (allAtoms ts).before a st = ts.all (fun c => c.before a st) := by
  induction ts with
  | nil => rfl
  | cons c t ih =>
    show (Jvm.Cond.and c (allAtoms t)).before a st = _
    rw [Jvm.Cond.before_and, ih, List.all_cons]
def words1 : List Jvm.Cond := Jvm.Cond.code x code maxLocals ret :: tables_1
/-- a 'code' word, met by the world's own term for the bytes: nothing is compared byte by byte -/
theorem code_word {y : MethodName} {bytes : ByteArray} {mx : Nat} {rt : Option FieldType} {a : Array Value} {s : State} {m : MethodId} {meth : Method} {c : Code} (h1 : s.methodNamed? y = some m) (h2 : s.vm.method? m = some meth) (h3 : meth.code = some c) (h4 : c.code = bytes)
    (h5 : (c.maxLocals == mx && c.exceptionTable.isEmpty && decide (c.maxStack ≤ mostOperands) && decide (meth.sig.returnType = rt) && !meth.locks && decide (parseMethodDescriptor y.desc = some meth.sig)) = true) : (Jvm.Cond.code y bytes mx rt).before a s = true := by
  simp only [Bool.and_eq_true, beq_iff_eq, Bool.not_eq_true', decide_eq_true_eq] at h5
  obtain ⟨⟨⟨⟨⟨g1, g2⟩, g3⟩, g4⟩, g5⟩, g6⟩ := h5
  simp [Cond.before, Cond.holds, Cond.value, h1, h2, h3, h4, g1, g2, g3, g4, g5, g6]
def isCode : Jvm.Cond → Bool
  | .code _ _ _ _ => true
  | _ => false
theorem all_split {L : List Jvm.Cond} {P : Jvm.Cond → Bool} (h1 : L.all (fun c => isCode c || P c) = true) (h2 : ∀ c ∈ L.filter isCode, P c = true) : L.all P = true := by
  refine List.all_eq_true.mpr fun c hc => ?_
  have h := List.all_eq_true.mp h1 c hc
  rcases Bool.eq_false_or_eq_true (isCode c) with hi | hi
  · exact h2 c (List.mem_filter.mpr ⟨hc, hi⟩)
  · simpa [hi] using h
set_option maxRecDepth 65536 in
theorem w_c0 : (Jvm.Cond.code x code maxLocals ret).before args0 about1 = true := code_word (m := ⟨1, 1⟩) (meth := k1m1) (c := k1c1) (by decide +kernel) rfl rfl rfl (by decide +kernel)
set_option maxRecDepth 65536 in
theorem w_c1 : (Jvm.Cond.code ({ cls := "com/example/headroom/headroom/model/Member", name := "<init>", desc := "(Lcom/example/headroom/headroom/model/Subscription;JJ)V" } : Jvm.MethodName) prog_44_method_1_code (6 : Nat) (Option.none : Option Jvm.ClassFile.FieldType)).before args0 about1 = true := code_word (m := ⟨2, 0⟩) (meth := k2m0) (c := k2c0) (by decide +kernel) rfl rfl rfl (by decide +kernel)
set_option maxRecDepth 65536 in
theorem w_c2 : (Jvm.Cond.code ({ cls := "java/lang/Object", name := "<init>", desc := "()V" } : Jvm.MethodName) object_method_1_code (1 : Nat) (Option.none : Option Jvm.ClassFile.FieldType)).before args0 about1 = true := code_word (m := ⟨0, 0⟩) (meth := k0m0) (c := k0c0) (by decide +kernel) rfl rfl rfl (by decide +kernel)
set_option maxRecDepth 65536 in
theorem w_c3 : (Jvm.Cond.code ({ cls := "java/util/ArrayDeque", name := "<init>", desc := "(I)V" } : Jvm.MethodName) jdk_21_method_4_code (2 : Nat) (Option.none : Option Jvm.ClassFile.FieldType)).before args0 about1 = true := code_word (m := ⟨11, 1⟩) (meth := k11m1) (c := k11c1) (by decide +kernel) rfl rfl rfl (by decide +kernel)
set_option maxRecDepth 65536 in
theorem w_c4 : (Jvm.Cond.code ({ cls := "java/util/AbstractCollection", name := "<init>", desc := "()V" } : Jvm.MethodName) jdk_22_method_1_code (1 : Nat) (Option.none : Option Jvm.ClassFile.FieldType)).before args0 about1 = true := code_word (m := ⟨5, 0⟩) (meth := k5m0) (c := k5c0) (by decide +kernel) rfl rfl rfl (by decide +kernel)
set_option maxRecDepth 65536 in
theorem w_c5 : (Jvm.Cond.code ({ cls := "com/example/headroom/headroom/model/Member", name := "acknowledged", desc := "(JJJ)V" } : Jvm.MethodName) prog_44_method_13_code (9 : Nat) (Option.none : Option Jvm.ClassFile.FieldType)).before args0 about1 = true := code_word (m := ⟨2, 7⟩) (meth := k2m7) (c := k2c7) (by decide +kernel) rfl rfl rfl (by decide +kernel)
set_option maxRecDepth 65536 in
theorem w_c6 : (Jvm.Cond.code ({ cls := "com/example/headroom/headroom/model/Member", name := "update", desc := "(JDJ)V" } : Jvm.MethodName) prog_44_method_16_code (10 : Nat) (Option.none : Option Jvm.ClassFile.FieldType)).before args0 about1 = true := code_word (m := ⟨2, 9⟩) (meth := k2m9) (c := k2c9) (by decide +kernel) rfl rfl rfl (by decide +kernel)
set_option maxRecDepth 65536 in
theorem w_c7 : (Jvm.Cond.code ({ cls := "com/example/headroom/headroom/model/Member", name := "processingMs", desc := "()D" } : Jvm.MethodName) prog_44_method_6_code (1 : Nat) (Option.some Jvm.ClassFile.FieldType.double)).before args0 about1 = true := code_word (m := ⟨2, 2⟩) (meth := k2m2) (c := k2c2) (by decide +kernel) rfl rfl rfl (by decide +kernel)
set_option maxRecDepth 65536 in
theorem w_c8 : (Jvm.Cond.code ({ cls := "com/example/headroom/headroom/model/Member", name := "sent", desc := "(J)V" } : Jvm.MethodName) prog_44_method_14_code (3 : Nat) (Option.none : Option Jvm.ClassFile.FieldType)).before args0 about1 = true := code_word (m := ⟨2, 8⟩) (meth := k2m8) (c := k2c8) (by decide +kernel) rfl rfl rfl (by decide +kernel)
set_option maxRecDepth 65536 in
theorem w_c9 : (Jvm.Cond.code ({ cls := "com/example/headroom/headroom/model/Member", name := "sentSinceReport", desc := "()J" } : Jvm.MethodName) prog_44_method_8_code (1 : Nat) (Option.some Jvm.ClassFile.FieldType.long)).before args0 about1 = true := code_word (m := ⟨2, 3⟩) (meth := k2m3) (c := k2c3) (by decide +kernel) rfl rfl rfl (by decide +kernel)
set_option maxRecDepth 65536 in
theorem w_c10 : (Jvm.Cond.code ({ cls := "com/example/headroom/headroom/model/Member", name := "delivered", desc := "()J" } : Jvm.MethodName) prog_44_method_9_code (1 : Nat) (Option.some Jvm.ClassFile.FieldType.long)).before args0 about1 = true := code_word (m := ⟨2, 4⟩) (meth := k2m4) (c := k2c4) (by decide +kernel) rfl rfl rfl (by decide +kernel)
set_option maxRecDepth 65536 in
theorem w_c11 : (Jvm.Cond.code ({ cls := "com/example/headroom/headroom/model/Member", name := "lastSentNanos", desc := "()J" } : Jvm.MethodName) prog_44_method_11_code (1 : Nat) (Option.some Jvm.ClassFile.FieldType.long)).before args0 about1 = true := code_word (m := ⟨2, 6⟩) (meth := k2m6) (c := k2c6) (by decide +kernel) rfl rfl rfl (by decide +kernel)
set_option maxRecDepth 65536 in
theorem w_c12 : (Jvm.Cond.code ({ cls := "com/example/headroom/headroom/model/Member", name := "pending", desc := "()J" } : Jvm.MethodName) prog_44_method_5_code (1 : Nat) (Option.some Jvm.ClassFile.FieldType.long)).before args0 about1 = true := code_word (m := ⟨2, 1⟩) (meth := k2m1) (c := k2c1) (by decide +kernel) rfl rfl rfl (by decide +kernel)
set_option maxRecDepth 65536 in
theorem w_c13 : (Jvm.Cond.code ({ cls := "com/example/headroom/headroom/model/Member", name := "lastReportNanos", desc := "()J" } : Jvm.MethodName) prog_44_method_10_code (1 : Nat) (Option.some Jvm.ClassFile.FieldType.long)).before args0 about1 = true := code_word (m := ⟨2, 5⟩) (meth := k2m5) (c := k2c5) (by decide +kernel) rfl rfl rfl (by decide +kernel)
set_option maxRecDepth 65536 in
theorem w_c14 : (Jvm.Cond.code ({ cls := "java/util/ArrayDeque", name := "size", desc := "()I" } : Jvm.MethodName) jdk_21_method_37_code (1 : Nat) (Option.some Jvm.ClassFile.FieldType.int)).before args0 about1 = true := code_word (m := ⟨11, 6⟩) (meth := k11m6) (c := k11c6) (by decide +kernel) rfl rfl rfl (by decide +kernel)
set_option maxRecDepth 65536 in
theorem w_c15 : (Jvm.Cond.code ({ cls := "java/util/ArrayDeque", name := "sub", desc := "(III)I" } : Jvm.MethodName) jdk_21_method_9_code (3 : Nat) (Option.some Jvm.ClassFile.FieldType.int)).before args0 about1 = true := code_word (m := ⟨11, 3⟩) (meth := k11m3) (c := k11c3) (by decide +kernel) rfl rfl rfl (by decide +kernel)
set_option maxRecDepth 65536 in
theorem w_c16 : (Jvm.Cond.code ({ cls := "java/lang/Double", name := "valueOf", desc := "(D)Ljava/lang/Double;" } : Jvm.MethodName) jdk_117_method_4_code (2 : Nat) (Option.some (Jvm.ClassFile.FieldType.object "java/lang/Double"))).before args0 about1 = true := code_word (m := ⟨16, 0⟩) (meth := k16m0) (c := k16c0) (by decide +kernel) rfl rfl rfl (by decide +kernel)
set_option maxRecDepth 65536 in
theorem w_c17 : (Jvm.Cond.code ({ cls := "java/lang/Double", name := "<init>", desc := "(D)V" } : Jvm.MethodName) jdk_117_method_9_code (3 : Nat) (Option.none : Option Jvm.ClassFile.FieldType)).before args0 about1 = true := code_word (m := ⟨16, 1⟩) (meth := k16m1) (c := k16c1) (by decide +kernel) rfl rfl rfl (by decide +kernel)
set_option maxRecDepth 65536 in
theorem w_c18 : (Jvm.Cond.code ({ cls := "java/lang/Number", name := "<init>", desc := "()V" } : Jvm.MethodName) jdk_18_method_1_code (1 : Nat) (Option.none : Option Jvm.ClassFile.FieldType)).before args0 about1 = true := code_word (m := ⟨12, 0⟩) (meth := k12m0) (c := k12c0) (by decide +kernel) rfl rfl rfl (by decide +kernel)
set_option maxRecDepth 65536 in
theorem w_c19 : (Jvm.Cond.code ({ cls := "java/util/ArrayDeque", name := "addLast", desc := "(Ljava/lang/Object;)V" } : Jvm.MethodName) jdk_21_method_13_code (3 : Nat) (Option.none : Option Jvm.ClassFile.FieldType)).before args0 about1 = true := code_word (m := ⟨11, 5⟩) (meth := k11m5) (c := k11c5) (by decide +kernel) rfl rfl rfl (by decide +kernel)
set_option maxRecDepth 65536 in
theorem w_c20 : (Jvm.Cond.code ({ cls := "java/util/ArrayDeque", name := "inc", desc := "(II)I" } : Jvm.MethodName) jdk_21_method_6_code (2 : Nat) (Option.some Jvm.ClassFile.FieldType.int)).before args0 about1 = true := code_word (m := ⟨11, 2⟩) (meth := k11m2) (c := k11c2) (by decide +kernel) rfl rfl rfl (by decide +kernel)
set_option maxRecDepth 65536 in
theorem w_c21 : (Jvm.Cond.code ({ cls := "java/util/ArrayDeque", name := "iterator", desc := "()Ljava/util/Iterator;" } : Jvm.MethodName) jdk_21_method_39_code (1 : Nat) (Option.some (Jvm.ClassFile.FieldType.object "java/util/Iterator"))).before args0 about1 = true := code_word (m := ⟨11, 7⟩) (meth := k11m7) (c := k11c7) (by decide +kernel) rfl rfl rfl (by decide +kernel)
set_option maxRecDepth 65536 in
theorem w_c22 : (Jvm.Cond.code ({ cls := "java/util/ArrayDeque$DeqIterator", name := "<init>", desc := "(Ljava/util/ArrayDeque;)V" } : Jvm.MethodName) jdk_54_method_1_code (2 : Nat) (Option.none : Option Jvm.ClassFile.FieldType)).before args0 about1 = true := code_word (m := ⟨18, 0⟩) (meth := k18m0) (c := k18c0) (by decide +kernel) rfl rfl rfl (by decide +kernel)
set_option maxRecDepth 65536 in
theorem w_c23 : (Jvm.Cond.code ({ cls := "java/util/ArrayDeque$DeqIterator", name := "hasNext", desc := "()Z" } : Jvm.MethodName) jdk_54_method_2_code (1 : Nat) (Option.some Jvm.ClassFile.FieldType.boolean)).before args0 about1 = true := code_word (m := ⟨18, 1⟩) (meth := k18m1) (c := k18c1) (by decide +kernel) rfl rfl rfl (by decide +kernel)
set_option maxRecDepth 65536 in
theorem w_c24 : (Jvm.Cond.code ({ cls := "java/util/ArrayDeque$DeqIterator", name := "next", desc := "()Ljava/lang/Object;" } : Jvm.MethodName) jdk_54_method_3_code (3 : Nat) (Option.some (Jvm.ClassFile.FieldType.object "java/lang/Object"))).before args0 about1 = true := code_word (m := ⟨18, 2⟩) (meth := k18m2) (c := k18c2) (by decide +kernel) rfl rfl rfl (by decide +kernel)
set_option maxRecDepth 65536 in
theorem w_c25 : (Jvm.Cond.code ({ cls := "java/util/ArrayDeque", name := "nonNullElementAt", desc := "([Ljava/lang/Object;I)Ljava/lang/Object;" } : Jvm.MethodName) jdk_21_method_11_code (3 : Nat) (Option.some (Jvm.ClassFile.FieldType.object "java/lang/Object"))).before args0 about1 = true := code_word (m := ⟨11, 4⟩) (meth := k11m4) (c := k11c4) (by decide +kernel) rfl rfl rfl (by decide +kernel)
set_option maxRecDepth 65536 in
theorem w_c26 : (Jvm.Cond.code ({ cls := "java/lang/Double", name := "doubleValue", desc := "()D" } : Jvm.MethodName) jdk_117_method_19_code (1 : Nat) (Option.some Jvm.ClassFile.FieldType.double)).before args0 about1 = true := code_word (m := ⟨16, 2⟩) (meth := k16m2) (c := k16c2) (by decide +kernel) rfl rfl rfl (by decide +kernel)
def codes1 : List Jvm.Cond := [Jvm.Cond.code x code maxLocals ret, Jvm.Cond.code ({ cls := "com/example/headroom/headroom/model/Member", name := "<init>", desc := "(Lcom/example/headroom/headroom/model/Subscription;JJ)V" } : Jvm.MethodName) prog_44_method_1_code (6 : Nat) (Option.none : Option Jvm.ClassFile.FieldType), Jvm.Cond.code ({ cls := "java/lang/Object", name := "<init>", desc := "()V" } : Jvm.MethodName) object_method_1_code (1 : Nat) (Option.none : Option Jvm.ClassFile.FieldType), Jvm.Cond.code ({ cls := "java/util/ArrayDeque", name := "<init>", desc := "(I)V" } : Jvm.MethodName) jdk_21_method_4_code (2 : Nat) (Option.none : Option Jvm.ClassFile.FieldType), Jvm.Cond.code ({ cls := "java/util/AbstractCollection", name := "<init>", desc := "()V" } : Jvm.MethodName) jdk_22_method_1_code (1 : Nat) (Option.none : Option Jvm.ClassFile.FieldType), Jvm.Cond.code ({ cls := "com/example/headroom/headroom/model/Member", name := "acknowledged", desc := "(JJJ)V" } : Jvm.MethodName) prog_44_method_13_code (9 : Nat) (Option.none : Option Jvm.ClassFile.FieldType), Jvm.Cond.code ({ cls := "com/example/headroom/headroom/model/Member", name := "update", desc := "(JDJ)V" } : Jvm.MethodName) prog_44_method_16_code (10 : Nat) (Option.none : Option Jvm.ClassFile.FieldType), Jvm.Cond.code ({ cls := "com/example/headroom/headroom/model/Member", name := "processingMs", desc := "()D" } : Jvm.MethodName) prog_44_method_6_code (1 : Nat) (Option.some Jvm.ClassFile.FieldType.double), Jvm.Cond.code ({ cls := "com/example/headroom/headroom/model/Member", name := "sent", desc := "(J)V" } : Jvm.MethodName) prog_44_method_14_code (3 : Nat) (Option.none : Option Jvm.ClassFile.FieldType), Jvm.Cond.code ({ cls := "com/example/headroom/headroom/model/Member", name := "sentSinceReport", desc := "()J" } : Jvm.MethodName) prog_44_method_8_code (1 : Nat) (Option.some Jvm.ClassFile.FieldType.long), Jvm.Cond.code ({ cls := "com/example/headroom/headroom/model/Member", name := "delivered", desc := "()J" } : Jvm.MethodName) prog_44_method_9_code (1 : Nat) (Option.some Jvm.ClassFile.FieldType.long), Jvm.Cond.code ({ cls := "com/example/headroom/headroom/model/Member", name := "lastSentNanos", desc := "()J" } : Jvm.MethodName) prog_44_method_11_code (1 : Nat) (Option.some Jvm.ClassFile.FieldType.long), Jvm.Cond.code ({ cls := "com/example/headroom/headroom/model/Member", name := "pending", desc := "()J" } : Jvm.MethodName) prog_44_method_5_code (1 : Nat) (Option.some Jvm.ClassFile.FieldType.long), Jvm.Cond.code ({ cls := "com/example/headroom/headroom/model/Member", name := "lastReportNanos", desc := "()J" } : Jvm.MethodName) prog_44_method_10_code (1 : Nat) (Option.some Jvm.ClassFile.FieldType.long), Jvm.Cond.code ({ cls := "java/util/ArrayDeque", name := "size", desc := "()I" } : Jvm.MethodName) jdk_21_method_37_code (1 : Nat) (Option.some Jvm.ClassFile.FieldType.int), Jvm.Cond.code ({ cls := "java/util/ArrayDeque", name := "sub", desc := "(III)I" } : Jvm.MethodName) jdk_21_method_9_code (3 : Nat) (Option.some Jvm.ClassFile.FieldType.int), Jvm.Cond.code ({ cls := "java/lang/Double", name := "valueOf", desc := "(D)Ljava/lang/Double;" } : Jvm.MethodName) jdk_117_method_4_code (2 : Nat) (Option.some (Jvm.ClassFile.FieldType.object "java/lang/Double")), Jvm.Cond.code ({ cls := "java/lang/Double", name := "<init>", desc := "(D)V" } : Jvm.MethodName) jdk_117_method_9_code (3 : Nat) (Option.none : Option Jvm.ClassFile.FieldType), Jvm.Cond.code ({ cls := "java/lang/Number", name := "<init>", desc := "()V" } : Jvm.MethodName) jdk_18_method_1_code (1 : Nat) (Option.none : Option Jvm.ClassFile.FieldType), Jvm.Cond.code ({ cls := "java/util/ArrayDeque", name := "addLast", desc := "(Ljava/lang/Object;)V" } : Jvm.MethodName) jdk_21_method_13_code (3 : Nat) (Option.none : Option Jvm.ClassFile.FieldType), Jvm.Cond.code ({ cls := "java/util/ArrayDeque", name := "inc", desc := "(II)I" } : Jvm.MethodName) jdk_21_method_6_code (2 : Nat) (Option.some Jvm.ClassFile.FieldType.int), Jvm.Cond.code ({ cls := "java/util/ArrayDeque", name := "iterator", desc := "()Ljava/util/Iterator;" } : Jvm.MethodName) jdk_21_method_39_code (1 : Nat) (Option.some (Jvm.ClassFile.FieldType.object "java/util/Iterator")), Jvm.Cond.code ({ cls := "java/util/ArrayDeque$DeqIterator", name := "<init>", desc := "(Ljava/util/ArrayDeque;)V" } : Jvm.MethodName) jdk_54_method_1_code (2 : Nat) (Option.none : Option Jvm.ClassFile.FieldType), Jvm.Cond.code ({ cls := "java/util/ArrayDeque$DeqIterator", name := "hasNext", desc := "()Z" } : Jvm.MethodName) jdk_54_method_2_code (1 : Nat) (Option.some Jvm.ClassFile.FieldType.boolean), Jvm.Cond.code ({ cls := "java/util/ArrayDeque$DeqIterator", name := "next", desc := "()Ljava/lang/Object;" } : Jvm.MethodName) jdk_54_method_3_code (3 : Nat) (Option.some (Jvm.ClassFile.FieldType.object "java/lang/Object")), Jvm.Cond.code ({ cls := "java/util/ArrayDeque", name := "nonNullElementAt", desc := "([Ljava/lang/Object;I)Ljava/lang/Object;" } : Jvm.MethodName) jdk_21_method_11_code (3 : Nat) (Option.some (Jvm.ClassFile.FieldType.object "java/lang/Object")), Jvm.Cond.code ({ cls := "java/lang/Double", name := "doubleValue", desc := "()D" } : Jvm.MethodName) jdk_117_method_19_code (1 : Nat) (Option.some Jvm.ClassFile.FieldType.double)]
set_option maxRecDepth 65536 in
theorem codes_eq : words1.filter isCode = codes1 := rfl
theorem w_codes : ∀ c ∈ words1.filter isCode, c.before args0 about1 = true := by
  rw [codes_eq]
  intro c hc
  simp only [codes1, List.mem_cons, List.not_mem_nil, or_false] at hc
  rcases hc with rfl | rfl | rfl | rfl | rfl | rfl | rfl | rfl | rfl | rfl | rfl | rfl | rfl | rfl | rfl | rfl | rfl | rfl | rfl | rfl | rfl | rfl | rfl | rfl | rfl | rfl | rfl
  · exact w_c0
  · exact w_c1
  · exact w_c2
  · exact w_c3
  · exact w_c4
  · exact w_c5
  · exact w_c6
  · exact w_c7
  · exact w_c8
  · exact w_c9
  · exact w_c10
  · exact w_c11
  · exact w_c12
  · exact w_c13
  · exact w_c14
  · exact w_c15
  · exact w_c16
  · exact w_c17
  · exact w_c18
  · exact w_c19
  · exact w_c20
  · exact w_c21
  · exact w_c22
  · exact w_c23
  · exact w_c24
  · exact w_c25
  · exact w_c26
set_option maxRecDepth 65536 in
theorem w_t1 : (words1.take 24).all (fun c => isCode c || c.before args0 about1) = true := by decide +kernel
set_option maxRecDepth 65536 in
theorem w_t2 : ((words1.drop 24).take 24).all (fun c => isCode c || c.before args0 about1) = true := by decide +kernel
set_option maxRecDepth 65536 in
theorem w_t3 : (((words1.drop 24).drop 24).take 24).all (fun c => isCode c || c.before args0 about1) = true := by decide +kernel
set_option maxRecDepth 65536 in
theorem w_t4 : ((((words1.drop 24).drop 24).drop 24).take 24).all (fun c => isCode c || c.before args0 about1) = true := by decide +kernel
set_option maxRecDepth 65536 in
theorem w_t5 : (((((words1.drop 24).drop 24).drop 24).drop 24).take 24).all (fun c => isCode c || c.before args0 about1) = true := by decide +kernel
set_option maxRecDepth 65536 in
theorem w_t6 : ((((((words1.drop 24).drop 24).drop 24).drop 24).drop 24).take 24).all (fun c => isCode c || c.before args0 about1) = true := by decide +kernel
set_option maxRecDepth 65536 in
theorem w_t7 : (((((((words1.drop 24).drop 24).drop 24).drop 24).drop 24).drop 24).take 24).all (fun c => isCode c || c.before args0 about1) = true := by decide +kernel
set_option maxRecDepth 65536 in
theorem w_t8 : ((((((((words1.drop 24).drop 24).drop 24).drop 24).drop 24).drop 24).drop 24).take 24).all (fun c => isCode c || c.before args0 about1) = true := by decide +kernel
set_option maxRecDepth 65536 in
theorem w_t9 : ((((((((words1.drop 24).drop 24).drop 24).drop 24).drop 24).drop 24).drop 24).drop 24).all (fun c => isCode c || c.before args0 about1) = true := by decide +kernel
theorem w_tables : (allAtoms (Jvm.Cond.code x code maxLocals ret :: tables_1)).before args0 about1 = true := by
  rw [allAtoms_all]
  show words1.all (fun c => c.before args0 about1) = true
  refine all_split ?_ w_codes
  rw [← List.take_append_drop 24 words1, List.all_append, w_t1, ← List.take_append_drop 24 (words1.drop 24), List.all_append, w_t2, ← List.take_append_drop 24 ((words1.drop 24).drop 24), List.all_append, w_t3, ← List.take_append_drop 24 (((words1.drop 24).drop 24).drop 24), List.all_append, w_t4, ← List.take_append_drop 24 ((((words1.drop 24).drop 24).drop 24).drop 24), List.all_append, w_t5, ← List.take_append_drop 24 (((((words1.drop 24).drop 24).drop 24).drop 24).drop 24), List.all_append, w_t6, ← List.take_append_drop 24 ((((((words1.drop 24).drop 24).drop 24).drop 24).drop 24).drop 24), List.all_append, w_t7, ← List.take_append_drop 24 (((((((words1.drop 24).drop 24).drop 24).drop 24).drop 24).drop 24).drop 24), List.all_append, w_t8, w_t9]
  rfl
set_option maxRecDepth 65536 in
theorem w_case : (Jvm.Cond.and given_1 narrow_1).before args0 about1 = true := by decide +kernel
theorem w_applies : (headSpec (Jvm.Cond.code x code maxLocals ret :: tables_1) room_1).applies x e0.platform about1 = true :=
  (Spec.applies_iff w_frames).mpr ⟨w_running, w_runnable, w_alone, w_named, w_hears, w_ripe, w_room, w_tables⟩
theorem atStart : AtStart classFile x code maxLocals ret World_1 tables_1 room_1 Calls_1 rest_1 Pre_1 launch0 p0 e0 about1 theMethod args0 below0 :=
  ⟨lists_1, trivial, launch0.admits_env _ _ _, launch0.least_env, fairChoices_fair.cas, fairChoices_fair.clock, w_frames, w_args, w_heap, w_applies, trivial, trivial, w_case⟩
end start1
theorem witness_1 : WitnessClaimed_1 := ⟨start1.p0, start1.e0, start1.about1, start1.theMethod, start1.args0, start1.below0, start1.atStart⟩
end Jvm.Pilot.@@N@@
