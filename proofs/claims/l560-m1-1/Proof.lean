import JvmDerived
import JvmDerived.Pilot.@@N@@Statement
import JvmDerived.Pilot.@@N@@Code
set_option linter.unusedVariables false
set_option linter.unusedSimpArgs false
namespace Jvm.RoadKit
open Sem ClassFile Op Lib Jvm.Stand Jvm.Free Jvm.LawKit
section New
variable {p : Program} {l : Launch} {e : Env} {R : Room} {s : State} {m : MethodId} {args : Array Value} {below : List Frame} {meth : Method} {c : Code} {T : State} {locs : List Loc} {cells slots : Nat}
theorem retI (X : Stand p l e R s m args below meth c T locs cells slots) (hx : p.tables.exec = Jvm.exec) {pc : Nat} {Ls : Array Slot} {z : Int32} {rest : List Value} (hret : meth.sig.returnType = some .int) (hd : decode c.code pc = .ok (.ireturn, 1)) {fs : List Frame}
    (hl : ∀ (f : JFrame) (acts : List Action), f.method = m → f.locked = none → f.entered = [] → (doReturn e (T.setTop f) acts (some (.int z))).1 = T.setFrames fs) : Steps p.tables e below (T.setTop (mkF m pc Ls (.int z :: rest))) (T.setFrames fs) := by
  have hm' : T.vm.method? m = some meth := X.method'
  have hn : narrow .int (.int z) = .int z := rfl
  show Steps p.tables e below (T.setTop { method := m, pc := pc, locals := Ls, stack := _ :: rest, locked := none }) _
  jvm_step X.here [X.here.top, hx, hd, hm', hret, hn]
  first | (intro acts; rw [hl _ acts rfl rfl rfl]) | rw [hl _ _ rfl rfl rfl]
  exact Steps.refl _
end New
end Jvm.RoadKit
@@BLOCK:NumsL.lean.txt@@
namespace Jvm.Pilot.@@N@@
open Jvm Jvm.ClassFile Sem Op Lib Jvm.Free Jvm.Stand Jvm.LawKit Jvm.RoadKit Bundle Jvm.Free.Fl Jvm.Pilot.@@N@@.Jvm.D
abbrev own_S (p : Program) (e : Env) (below : List Frame) (T : State) (g : JFrame) (t : State) : Prop := Steps p.tables e below (T.setTop g) t
abbrev own_K (p : Program) (e : Env) (below : List Frame) (S T : State) (g : JFrame) : Prop := ∀ t, Steps p.tables e below (T.setTop g) t → Steps p.tables e below S t
theorem own_ext {h h' : Heap} (K : Keep h h' []) : Ext h h' := ⟨K.1, fun a c q => K.2.1 a c q nin0⟩

def own_A (Z : State) (h : Heap) (o : Addr) (f : Int32 → Int64) : Prop := ∃ c : Cell, Arr Z h o c .long ∧ c.slots.size = 55296 ∧ ∀ k : Int32, ¬ k < 0 → k < (55296 : Int32) → c.slots[k.toNatClampNeg]? = some (.long (f k))
theorem own_A.lt {Z : State} {h : Heap} {o : Addr} {f : Int32 → Int64} (F : own_A Z h o f) : o < h.size := by obtain ⟨c, A, -⟩ := F; exact A.lt
theorem own_A.ext {Z : State} {h h' : Heap} {o : Addr} {f : Int32 → Int64} (F : own_A Z h o f) (E : Ext h h') : own_A Z h' o f := by obtain ⟨c, A, r⟩ := F; exact ⟨c, A.ext E, r⟩
theorem own_A.other {Z : State} {h h' : Heap} {o a : Addr} {f : Int32 → Int64} {sl : Nat} {v : Value} (F : own_A Z h o f) (W : Wr h h' a sl v) (q : o ≠ a) : own_A Z h' o f := by obtain ⟨c, A, r⟩ := F; exact ⟨c, A.other W q, r⟩
theorem own_A.keep {Z : State} {h h' : Heap} {o : Addr} {f : Int32 → Int64} {ws : List Addr} (F : own_A Z h o f) (K : Keep h h' ws) (q : o ∉ ws) : own_A Z h' o f := by obtain ⟨c, A, r⟩ := F; exact ⟨c, ⟨K.2.1 o c A.1 q, A.2⟩, r⟩
theorem own_A.congr {Z : State} {h : Heap} {o : Addr} {f g : Int32 → Int64} (F : own_A Z h o f) (e : ∀ k : Int32, k < (55296 : Int32) → f k = g k) : own_A Z h o g := by
  obtain ⟨c, A, s, r⟩ := F
  exact ⟨c, A, s, fun k h1 h2 => by rw [← e k h2]; exact r k h1 h2⟩
def own_z : Int32 → Int64 := fun _ => (0 : Int64)
theorem own_tn : (55296 : Int32).toNatClampNeg = 55296 := by decide
theorem own_A.new {Z : State} {h : Heap} {o : Addr} {k : ClassId} (A : Arr Z h o (newA k .long (55296 : Int32)) .long) : own_A Z h o own_z := by
  refine ⟨_, A, by rw [sz_new]; exact own_tn, fun j h1 h2 => ?_⟩
  refine get_new fun q => ?_
  rcases q with q | q
  · exact h1 q
  · rw [own_tn] at q
    have e1 : (55296 : Int32).toInt = 55296 := by decide
    have e0 : (0 : Int32).toInt = 0 := by decide
    rw [Int32.lt_iff_toInt_lt, e1] at h2
    simp only [Int32.toNatClampNeg] at q
    omega
theorem own_inb {c : Cell} (S : c.slots.size = 55296) {j : Int32} (q : ¬ j < 0 ∧ j < (55296 : Int32)) : ¬ (j < 0 ∨ c.slots.size ≤ j.toNatClampNeg) := inb_of (z := (55296 : Int32)) (S.trans own_tn.symm) q
theorem own_len {c : Cell} (S : c.slots.size = 55296) : c.slots.size.toInt32 = (55296 : Int32) := len_of (z := (55296 : Int32)) (S.trans own_tn.symm) (by decide)
def own_pl (f g : Int32 → Int64) : Int32 → Int64 := fun k => f k + g k
def own_set (f : Int32 → Int64) (j : Int32) (v : Int64) : Int32 → Int64 := fun k => if k = j then v else f k
theorem own_A.put {Z : State} {h h' : Heap} {o : Addr} {f : Int32 → Int64} {c : Cell} {j : Int32} {v : Int64} (A : Arr Z h o c .long) (S : c.slots.size = 55296) (H : ∀ k : Int32, ¬ k < 0 → k < (55296 : Int32) → c.slots[k.toNatClampNeg]? = some (.long (f k))) (q : ¬ j < 0 ∧ j < (55296 : Int32)) (W : Wr h h' o j.toNatClampNeg (.long v)) : own_A Z h' o (own_set f j v) := by
  refine ⟨_, A.same W, by rw [sz_set]; exact S, fun k h1 h2 => ?_⟩
  by_cases e : k = j
  · have u : own_set f j v k = v := if_pos e
    rw [u]
    exact get_hit (own_inb S q) e
  · have u : own_set f j v k = f k := if_neg e
    rw [u, get_miss q.1 h1 e]
    exact H k h1 h2
def own_ad (f g : Int32 → Int64) (i : Int32) : Int32 → Int64 := fun k => if k < i then f k + g k else f k
theorem own_ad0 {Z : State} {h : Heap} {o : Addr} {f g : Int32 → Int64} (F : own_A Z h o f) : own_A Z h o (own_ad f g (0 : Int32)) := by
  obtain ⟨c, A, s, r⟩ := F
  refine ⟨c, A, s, fun k h1 h2 => ?_⟩
  have u : own_ad f g (0 : Int32) k = f k := if_neg h1
  rw [u]; exact r k h1 h2
theorem own_i1 {i : Int32} (h0 : 0 ≤ i.toInt) (h : i.toInt < 55296) : (i + (1 : Int32)).toInt = i.toInt + 1 := by
  have e1 : (1 : Int32).toInt = 1 := by decide
  have := Jvm.Kit.i32_add (p := i) (q := (1 : Int32)) (by rw [e1]; omega) (by rw [e1]; omega)
  rw [this, e1]
theorem own_ads (f g : Int32 → Int64) {i : Int32} (h0 : 0 ≤ i.toInt) (h : i.toInt < 55296) : own_set (own_ad f g i) i (own_ad f g i i + g i) = own_ad f g (i + (1 : Int32)) := by
  funext k
  have e := own_i1 h0 h
  by_cases q : k = i
  · subst q
    have u1 : own_set (own_ad f g k) k (own_ad f g k k + g k) k = own_ad f g k k + g k := if_pos rfl
    have u2 : own_ad f g k k = f k := if_neg (by rw [Int32.lt_iff_toInt_lt]; omega)
    have u3 : own_ad f g (k + (1 : Int32)) k = f k + g k := if_pos (by rw [Int32.lt_iff_toInt_lt, e]; omega)
    rw [u1, u2, u3]
  · have u1 : own_set (own_ad f g i) i (own_ad f g i i + g i) k = own_ad f g i k := if_neg q
    have ne : k.toInt ≠ i.toInt := fun z => q (Int32.toInt_inj.mp z)
    rw [u1]
    by_cases w : k < i
    · have u2 : own_ad f g i k = f k + g k := if_pos w
      have u3 : own_ad f g (i + (1 : Int32)) k = f k + g k := if_pos (by rw [Int32.lt_iff_toInt_lt] at w ⊢; rw [e]; omega)
      rw [u2, u3]
    · have u2 : own_ad f g i k = f k := if_neg w
      have u3 : own_ad f g (i + (1 : Int32)) k = f k := if_neg (by rw [Int32.lt_iff_toInt_lt] at w ⊢; rw [e]; omega)
      rw [u2, u3]
theorem own_rng {i : Int32} (h0 : 0 ≤ i.toInt) (h : i.toInt < 55296) : ¬ i < 0 ∧ i < (55296 : Int32) := by
  have e1 : (55296 : Int32).toInt = 55296 := by decide
  have e0 : (0 : Int32).toInt = 0 := by decide
  rw [Int32.lt_iff_toInt_lt, Int32.lt_iff_toInt_lt, e1, e0]
  omega
theorem own_eqn {i : Int32} (h : i.toInt = 55296) : ¬ i < (55296 : Int32) := by
  have e1 : (55296 : Int32).toInt = 55296 := by decide
  rw [Int32.lt_iff_toInt_lt, e1]; omega
theorem d6_0 : decode jdk_29_method_65_code 0 = .ok (.iload_n 0, 1) := by decide +kernel
theorem d6_1 : decode jdk_29_method_65_code 1 = .ok (.iload_n 1, 1) := by decide +kernel
theorem d6_2 : decode jdk_29_method_65_code 2 = .ok (.if_icmp .lt 7, 3) := by decide +kernel
theorem d6_5 : decode jdk_29_method_65_code 5 = .ok (.iload_n 0, 1) := by decide +kernel
theorem d6_6 : decode jdk_29_method_65_code 6 = .ok (.goto 4, 3) := by decide +kernel
theorem d6_9 : decode jdk_29_method_65_code 9 = .ok (.iload_n 1, 1) := by decide +kernel
theorem d6_10 : decode jdk_29_method_65_code 10 = .ok (.ireturn, 1) := by decide +kernel
theorem ef_mxi (m : MethodId) (p0 : Int32) (p1 : Int32) : entryFrame m #[(.int p0), (.int p1)] 2 = mkF m 0 #[.val (.int p0), .val (.int p1)] [] := by first | (simp [entryFrame, mkF, argsToLocals, Value.category]; done) | rfl
def Qmxi (Z : State) (p0 : Int32) (p1 : Int32) (h0 : Heap) (n0 : Nat) (v : Option Value) (h : Heap) (L : List Loc) : Prop := v = some (.int (if p0 < p1 then p1 else p0)) ∧ Fr n0 L ∧ h = h0
set_option maxRecDepth 65536 in
set_option maxHeartbeats 40000000 in
theorem rmmxi (l : Launch) (Z : State) (a0 : Array Value) (hw : ∀ d ∈ tables_1, d.before a0 Z = true) (ws : List Jvm.Cond) (p0 : Int32) (p1 : Int32) (h0 : Heap) (n0 : Nat) (Z0 : n0 ≤ h0.size) :
    MetFree l (⟨"java/lang/Math", "max", "(II)I"⟩ : MethodName) (head1 (Jvm.Cond.code (⟨"java/lang/Math", "max", "(II)I"⟩ : MethodName) jdk_29_method_65_code 2 (some .int) :: ws) ({ frames := 0, cells := 0, slots := 0, locals := 0 } : Room)) (fun a U => a = #[(.int p0), (.int p1)] ∧ Z.Warmed39 U.vm ∧ U.heap = h0) (fun _ _ _ _ _ => True) (fun _ U o U' => ∃ v L, o = .returned v ∧ Qmxi Z p0 p1 h0 n0 v U'.heap L ∧ FrameEnd U o U' L ({ frames := 0, cells := 0, slots := 0, locals := 0 } : Room).cells ({ frames := 0, cells := 0, slots := 0, locals := 0 } : Room).slots) := by
  refine MetFree.of_bodySF (Jvm.Free.JP.mathPlain rfl (by decide +kernel)) hisR ?_
  intro p e s m args below meth c s₁ Bd hml0 hP hK
  obtain ⟨rfl, hZ, hh⟩ := hP
  have hx := Bd.exec
  have hby := Bd.bytes
  have hml : c.maxLocals = 2 := hml0
  have hown : s.vm.findClass "java/lang/Math" = some m.cls := findClass_of_methodNamed Bd.named
  have hnm := (name_of_methodNamed Bd.named Bd.method).1
  have X0 : Stand p l e ({ frames := 0, cells := 0, slots := 0, locals := 0 } : Room) s m #[(.int p0), (.int p1)] below meth c s₁ [] 0 0 := Stand.of_body Bd
  have e0 : s₁.heap = h0 := by rw [← hh, Bd.state]; rfl
  have N0 := Fr.nil n0
  have K0 : ∀ t, Steps p.tables e below (s₁.setTop (mkF m 0 #[.val (.int p0), .val (.int p1)] [])) t → Steps p.tables e below (s₁.setTop (entryFrame m #[(.int p0), (.int p1)] 2)) t := fun t k => castTop (ef_mxi m p0 p1) k
  generalize s₁.setTop (entryFrame m #[(.int p0), (.int p1)] 2) = SE at K0 ⊢
  have K2 : own_K p e below SE s₁ (mkF m 2 #[.val (.int p0), .val (.int p1)] [(.int p1), (.int p0)]) := by
    intro t k
    refine K0 _ ?_
    refine XS.iloadN X0.here hx rfl (hb hby d6_0) rfl ?_
    show own_S p e below s₁ (mkF m 1 #[.val (.int p0), .val (.int p1)] [(.int p0)]) _
    refine XS.iloadN X0.here hx rfl (hb hby d6_1) rfl ?_
    exact k
  by_cases c2_1 : p0 < p1
  · skip
    have K3 : own_K p e below SE s₁ (mkF m 10 #[.val (.int p0), .val (.int p1)] [(.int p1)]) := by
      intro t k
      refine K2 _ ?_
      refine XS.icmpYes X0.here hx rfl (pc0 := 2) (pc' := 9) rfl (hb hby d6_2) rfl (XT.ii_lt_t c2_1) (by decide) (by decide) ?_
      show own_S p e below s₁ (mkF m 9 #[.val (.int p0), .val (.int p1)] []) _
      refine XS.iloadN X0.here hx rfl (hb hby d6_9) rfl ?_
      exact k
    obtain ⟨fs, hr, hrun, hended, hW, hsame⟩ := X0.leave (v := some (.int p1)) (fun h => by rw [Bd.returns] at h; cases h)
    refine ⟨_, _, K3 _ ?_, hrun, hended, _, _, rfl, ?_, ⟨_, rfl⟩, hW, hsame.mono (by decide) (by decide)⟩
    · exact retI X0 hx Bd.returns (hb hby d6_10) hr
    · show Qmxi Z p0 p1 h0 n0 _ s₁.heap _
      rw [e0]
      exact ⟨(by simp only [if_pos c2_1]), N0, rfl⟩
  · skip
    have K4 : own_K p e below SE s₁ (mkF m 10 #[.val (.int p0), .val (.int p1)] [(.int p0)]) := by
      intro t k
      refine K2 _ ?_
      refine XS.icmpNo X0.here hx rfl (hb hby d6_2) rfl (XT.ii_lt_f c2_1) ?_
      show own_S p e below s₁ (mkF m 5 #[.val (.int p0), .val (.int p1)] []) _
      refine XS.iloadN X0.here hx rfl (hb hby d6_5) rfl ?_
      show own_S p e below s₁ (mkF m 6 #[.val (.int p0), .val (.int p1)] [(.int p0)]) _
      refine XS.goto X0.here hx rfl (pc0 := 6) (pc' := 10) rfl (hb hby d6_6) (by decide) (by decide) ?_
      exact k
    obtain ⟨fs, hr, hrun, hended, hW, hsame⟩ := X0.leave (v := some (.int p0)) (fun h => by rw [Bd.returns] at h; cases h)
    refine ⟨_, _, K4 _ ?_, hrun, hended, _, _, rfl, ?_, ⟨_, rfl⟩, hW, hsame.mono (by decide) (by decide)⟩
    · exact retI X0 hx Bd.returns (hb hby d6_10) hr
    · show Qmxi Z p0 p1 h0 n0 _ s₁.heap _
      rw [e0]
      exact ⟨(by simp only [if_neg c2_1]), N0, rfl⟩
theorem d8_0 : decode jdk_29_method_66_code 0 = .ok (.lload_n 0, 1) := by decide +kernel
theorem d8_1 : decode jdk_29_method_66_code 1 = .ok (.lload_n 2, 1) := by decide +kernel
theorem d8_2 : decode jdk_29_method_66_code 2 = .ok (.lcmp, 1) := by decide +kernel
theorem d8_3 : decode jdk_29_method_66_code 3 = .ok (.ifCond .lt 7, 3) := by decide +kernel
theorem d8_6 : decode jdk_29_method_66_code 6 = .ok (.lload_n 0, 1) := by decide +kernel
theorem d8_7 : decode jdk_29_method_66_code 7 = .ok (.goto 4, 3) := by decide +kernel
theorem d8_10 : decode jdk_29_method_66_code 10 = .ok (.lload_n 2, 1) := by decide +kernel
theorem d8_11 : decode jdk_29_method_66_code 11 = .ok (.lreturn, 1) := by decide +kernel
theorem ef_mxj (m : MethodId) (q0 : Int64) (q1 : Int64) : entryFrame m #[(.long q0), (.long q1)] 4 = mkF m 0 #[.val (.long q0), .second, .val (.long q1), .second] [] := by first | (simp [entryFrame, mkF, argsToLocals, Value.category]; done) | rfl
def Qmxj (Z : State) (q0 : Int64) (q1 : Int64) (h0 : Heap) (n0 : Nat) (v : Option Value) (h : Heap) (L : List Loc) : Prop := v = some (.long (if q0 < q1 then q1 else q0)) ∧ Fr n0 L ∧ h = h0
set_option maxRecDepth 65536 in
set_option maxHeartbeats 40000000 in
theorem rmmxj (l : Launch) (Z : State) (a0 : Array Value) (hw : ∀ d ∈ tables_1, d.before a0 Z = true) (ws : List Jvm.Cond) (q0 : Int64) (q1 : Int64) (h0 : Heap) (n0 : Nat) (Z0 : n0 ≤ h0.size) :
    MetFree l (⟨"java/lang/Math", "max", "(JJ)J"⟩ : MethodName) (head1 (Jvm.Cond.code (⟨"java/lang/Math", "max", "(JJ)J"⟩ : MethodName) jdk_29_method_66_code 4 (some .long) :: ws) ({ frames := 0, cells := 0, slots := 0, locals := 0 } : Room)) (fun a U => a = #[(.long q0), (.long q1)] ∧ Z.Warmed39 U.vm ∧ U.heap = h0) (fun _ _ _ _ _ => True) (fun _ U o U' => ∃ v L, o = .returned v ∧ Qmxj Z q0 q1 h0 n0 v U'.heap L ∧ FrameEnd U o U' L ({ frames := 0, cells := 0, slots := 0, locals := 0 } : Room).cells ({ frames := 0, cells := 0, slots := 0, locals := 0 } : Room).slots) := by
  refine MetFree.of_bodySF (Jvm.Free.JP.mathPlain rfl (by decide +kernel)) hisR ?_
  intro p e s m args below meth c s₁ Bd hml0 hP hK
  obtain ⟨rfl, hZ, hh⟩ := hP
  have hx := Bd.exec
  have hby := Bd.bytes
  have hml : c.maxLocals = 4 := hml0
  have hown : s.vm.findClass "java/lang/Math" = some m.cls := findClass_of_methodNamed Bd.named
  have hnm := (name_of_methodNamed Bd.named Bd.method).1
  have X0 : Stand p l e ({ frames := 0, cells := 0, slots := 0, locals := 0 } : Room) s m #[(.long q0), (.long q1)] below meth c s₁ [] 0 0 := Stand.of_body Bd
  have e0 : s₁.heap = h0 := by rw [← hh, Bd.state]; rfl
  have N0 := Fr.nil n0
  have K0 : ∀ t, Steps p.tables e below (s₁.setTop (mkF m 0 #[.val (.long q0), .second, .val (.long q1), .second] [])) t → Steps p.tables e below (s₁.setTop (entryFrame m #[(.long q0), (.long q1)] 4)) t := fun t k => castTop (ef_mxj m q0 q1) k
  generalize s₁.setTop (entryFrame m #[(.long q0), (.long q1)] 4) = SE at K0 ⊢
  have K2 : own_K p e below SE s₁ (mkF m 3 #[.val (.long q0), .second, .val (.long q1), .second] [(.int (XT.cmpL q0 q1))]) := by
    intro t k
    refine K0 _ ?_
    refine XS.lloadN X0.here hx rfl (hb hby d8_0) rfl ?_
    show own_S p e below s₁ (mkF m 1 #[.val (.long q0), .second, .val (.long q1), .second] [(.long q0)]) _
    refine XS.lloadN X0.here hx rfl (hb hby d8_1) rfl ?_
    show own_S p e below s₁ (mkF m 2 #[.val (.long q0), .second, .val (.long q1), .second] [(.long q1), (.long q0)]) _
    refine XT.lcmp X0.here hx rfl (hb hby d8_2) rfl ?_
    exact k
  by_cases c3_1 : q0 < q1
  · skip
    have K3 : own_K p e below SE s₁ (mkF m 11 #[.val (.long q0), .second, .val (.long q1), .second] [(.long q1)]) := by
      intro t k
      refine K2 _ ?_
      refine XS.ifYes X0.here hx rfl (pc0 := 3) (pc' := 10) rfl (hb hby d8_3) rfl (XT.ll_lt_t c3_1) (by decide) (by decide) ?_
      show own_S p e below s₁ (mkF m 10 #[.val (.long q0), .second, .val (.long q1), .second] []) _
      refine XS.lloadN X0.here hx rfl (hb hby d8_10) rfl ?_
      exact k
    obtain ⟨fs, hr, hrun, hended, hW, hsame⟩ := X0.leave (v := some (.long q1)) (fun h => by rw [Bd.returns] at h; cases h)
    refine ⟨_, _, K3 _ ?_, hrun, hended, _, _, rfl, ?_, ⟨_, rfl⟩, hW, hsame.mono (by decide) (by decide)⟩
    · exact X0.lreturnOut hx Bd.returns (hb hby d8_11) hr
    · show Qmxj Z q0 q1 h0 n0 _ s₁.heap _
      rw [e0]
      exact ⟨(by simp only [if_pos c3_1]), N0, rfl⟩
  · skip
    have K4 : own_K p e below SE s₁ (mkF m 11 #[.val (.long q0), .second, .val (.long q1), .second] [(.long q0)]) := by
      intro t k
      refine K2 _ ?_
      refine XS.ifNo X0.here hx rfl (hb hby d8_3) rfl (XT.ll_lt_f c3_1) ?_
      show own_S p e below s₁ (mkF m 6 #[.val (.long q0), .second, .val (.long q1), .second] []) _
      refine XS.lloadN X0.here hx rfl (hb hby d8_6) rfl ?_
      show own_S p e below s₁ (mkF m 7 #[.val (.long q0), .second, .val (.long q1), .second] [(.long q0)]) _
      refine XS.goto X0.here hx rfl (pc0 := 7) (pc' := 11) rfl (hb hby d8_7) (by decide) (by decide) ?_
      exact k
    obtain ⟨fs, hr, hrun, hended, hW, hsame⟩ := X0.leave (v := some (.long q0)) (fun h => by rw [Bd.returns] at h; cases h)
    refine ⟨_, _, K4 _ ?_, hrun, hended, _, _, rfl, ?_, ⟨_, rfl⟩, hW, hsame.mono (by decide) (by decide)⟩
    · exact X0.lreturnOut hx Bd.returns (hb hby d8_11) hr
    · show Qmxj Z q0 q1 h0 n0 _ s₁.heap _
      rw [e0]
      exact ⟨(by simp only [if_neg c3_1]), N0, rfl⟩
def own_si (B s i : Int32) : Int32 := if i < B then i else ((i.toUInt32 >>> (s &&& 31).toUInt32).toInt32)
def own_sn (B c i n : Int32) : Int32 := if i < B then n else (n + c)
def own_I0 (p : Int32) : Int32 := p
def own_N0 (p : Int32) : Int32 := (31 : Int32)
def own_I1 (p : Int32) : Int32 := own_si (65536 : Int32) (16 : Int32) (own_I0 p)
def own_N1 (p : Int32) : Int32 := own_sn (65536 : Int32) (-16 : Int32) (own_I0 p) (own_N0 p)
def own_I2 (p : Int32) : Int32 := own_si (256 : Int32) (8 : Int32) (own_I1 p)
def own_N2 (p : Int32) : Int32 := own_sn (256 : Int32) (-8 : Int32) (own_I1 p) (own_N1 p)
def own_I3 (p : Int32) : Int32 := own_si (16 : Int32) (4 : Int32) (own_I2 p)
def own_N3 (p : Int32) : Int32 := own_sn (16 : Int32) (-4 : Int32) (own_I2 p) (own_N2 p)
def own_I4 (p : Int32) : Int32 := own_si (4 : Int32) (2 : Int32) (own_I3 p)
def own_N4 (p : Int32) : Int32 := own_sn (4 : Int32) (-2 : Int32) (own_I3 p) (own_N3 p)
def own_nlz (p : Int32) : Int32 := if 0 < p then (own_N4 p - (((own_I4 p).toUInt32 >>> ((1 : Int32) &&& 31).toUInt32).toInt32)) else (if p = 0 then (32 : Int32) else (0 : Int32))
theorem own_f15 (p : Int32) : (if p < (65536 : Int32) then (31 : Int32) else (15 : Int32)) = own_N1 p := by
  show _ = (if p < (65536 : Int32) then (31 : Int32) else ((31 : Int32) + (-16 : Int32)))
  rw [show ((31 : Int32) + (-16 : Int32)) = (15 : Int32) from by decide]
theorem d5_0 : decode jdk_33_method_47_code 0 = .ok (.iload_n 0, 1) := by decide +kernel
theorem d5_1 : decode jdk_33_method_47_code 1 = .ok (.ifCond .gt 14, 3) := by decide +kernel
theorem d5_4 : decode jdk_33_method_47_code 4 = .ok (.iload_n 0, 1) := by decide +kernel
theorem d5_5 : decode jdk_33_method_47_code 5 = .ok (.ifCond .ne 8, 3) := by decide +kernel
theorem d5_8 : decode jdk_33_method_47_code 8 = .ok (.bipush 32, 2) := by decide +kernel
theorem d5_10 : decode jdk_33_method_47_code 10 = .ok (.goto 4, 3) := by decide +kernel
theorem d5_13 : decode jdk_33_method_47_code 13 = .ok (.iconst 0, 1) := by decide +kernel
theorem d5_14 : decode jdk_33_method_47_code 14 = .ok (.ireturn, 1) := by decide +kernel
theorem d5_15 : decode jdk_33_method_47_code 15 = .ok (.bipush 31, 2) := by decide +kernel
theorem d5_17 : decode jdk_33_method_47_code 17 = .ok (.istore_n 1, 1) := by decide +kernel
theorem d5_18 : decode jdk_33_method_47_code 18 = .ok (.iload_n 0, 1) := by decide +kernel
theorem d5_19 : decode jdk_33_method_47_code 19 = .ok (.ldc_w 264, 3) := by decide +kernel
theorem d5_22 : decode jdk_33_method_47_code 22 = .ok (.if_icmp .lt 11, 3) := by decide +kernel
theorem d5_25 : decode jdk_33_method_47_code 25 = .ok (.iinc 1 (-16), 3) := by decide +kernel
theorem d5_28 : decode jdk_33_method_47_code 28 = .ok (.iload_n 0, 1) := by decide +kernel
theorem d5_29 : decode jdk_33_method_47_code 29 = .ok (.bipush 16, 2) := by decide +kernel
theorem d5_31 : decode jdk_33_method_47_code 31 = .ok (.iushr, 1) := by decide +kernel
theorem d5_32 : decode jdk_33_method_47_code 32 = .ok (.istore_n 0, 1) := by decide +kernel
theorem d5_33 : decode jdk_33_method_47_code 33 = .ok (.iload_n 0, 1) := by decide +kernel
theorem d5_34 : decode jdk_33_method_47_code 34 = .ok (.sipush 256, 3) := by decide +kernel
theorem d5_37 : decode jdk_33_method_47_code 37 = .ok (.if_icmp .lt 11, 3) := by decide +kernel
theorem d5_40 : decode jdk_33_method_47_code 40 = .ok (.iinc 1 (-8), 3) := by decide +kernel
theorem d5_43 : decode jdk_33_method_47_code 43 = .ok (.iload_n 0, 1) := by decide +kernel
theorem d5_44 : decode jdk_33_method_47_code 44 = .ok (.bipush 8, 2) := by decide +kernel
theorem d5_46 : decode jdk_33_method_47_code 46 = .ok (.iushr, 1) := by decide +kernel
theorem d5_47 : decode jdk_33_method_47_code 47 = .ok (.istore_n 0, 1) := by decide +kernel
theorem d5_48 : decode jdk_33_method_47_code 48 = .ok (.iload_n 0, 1) := by decide +kernel
theorem d5_49 : decode jdk_33_method_47_code 49 = .ok (.bipush 16, 2) := by decide +kernel
theorem d5_51 : decode jdk_33_method_47_code 51 = .ok (.if_icmp .lt 10, 3) := by decide +kernel
theorem d5_54 : decode jdk_33_method_47_code 54 = .ok (.iinc 1 (-4), 3) := by decide +kernel
theorem d5_57 : decode jdk_33_method_47_code 57 = .ok (.iload_n 0, 1) := by decide +kernel
theorem d5_58 : decode jdk_33_method_47_code 58 = .ok (.iconst 4, 1) := by decide +kernel
theorem d5_59 : decode jdk_33_method_47_code 59 = .ok (.iushr, 1) := by decide +kernel
theorem d5_60 : decode jdk_33_method_47_code 60 = .ok (.istore_n 0, 1) := by decide +kernel
theorem d5_61 : decode jdk_33_method_47_code 61 = .ok (.iload_n 0, 1) := by decide +kernel
theorem d5_62 : decode jdk_33_method_47_code 62 = .ok (.iconst 4, 1) := by decide +kernel
theorem d5_63 : decode jdk_33_method_47_code 63 = .ok (.if_icmp .lt 10, 3) := by decide +kernel
theorem d5_66 : decode jdk_33_method_47_code 66 = .ok (.iinc 1 (-2), 3) := by decide +kernel
theorem d5_69 : decode jdk_33_method_47_code 69 = .ok (.iload_n 0, 1) := by decide +kernel
theorem d5_70 : decode jdk_33_method_47_code 70 = .ok (.iconst 2, 1) := by decide +kernel
theorem d5_71 : decode jdk_33_method_47_code 71 = .ok (.iushr, 1) := by decide +kernel
theorem d5_72 : decode jdk_33_method_47_code 72 = .ok (.istore_n 0, 1) := by decide +kernel
theorem d5_73 : decode jdk_33_method_47_code 73 = .ok (.iload_n 1, 1) := by decide +kernel
theorem d5_74 : decode jdk_33_method_47_code 74 = .ok (.iload_n 0, 1) := by decide +kernel
theorem d5_75 : decode jdk_33_method_47_code 75 = .ok (.iconst 1, 1) := by decide +kernel
theorem d5_76 : decode jdk_33_method_47_code 76 = .ok (.iushr, 1) := by decide +kernel
theorem d5_77 : decode jdk_33_method_47_code 77 = .ok (.isub, 1) := by decide +kernel
theorem d5_78 : decode jdk_33_method_47_code 78 = .ok (.ireturn, 1) := by decide +kernel
theorem pn_5 : plainName "java/lang/Integer" = true := by first | (simp [plainName, overriddenIn]; done) | decide +kernel
theorem ef_nz (m : MethodId) (p0 : Int32) : entryFrame m #[(.int p0)] 2 = mkF m 0 #[.val (.int p0), .unset] [] := by first | (simp [entryFrame, mkF, argsToLocals, Value.category]; done) | rfl
def Qnz (Z : State) (p0 : Int32) (h0 : Heap) (n0 : Nat) (v : Option Value) (h : Heap) (L : List Loc) : Prop := v = some (.int (own_nlz p0)) ∧ Fr n0 L ∧ h = h0
set_option maxRecDepth 65536 in
set_option maxHeartbeats 40000000 in
theorem rmnz (l : Launch) (Z : State) (a0 : Array Value) (hw : ∀ d ∈ tables_1, d.before a0 Z = true) (ws : List Jvm.Cond) (p0 : Int32) (h0 : Heap) (n0 : Nat) (Z0 : n0 ≤ h0.size) :
    MetFree l (⟨"java/lang/Integer", "numberOfLeadingZeros", "(I)I"⟩ : MethodName) (head1 (Jvm.Cond.code (⟨"java/lang/Integer", "numberOfLeadingZeros", "(I)I"⟩ : MethodName) jdk_33_method_47_code 2 (some .int) :: ws) ({ frames := 0, cells := 0, slots := 0, locals := 0 } : Room)) (fun a U => a = #[(.int p0)] ∧ Z.Warmed39 U.vm ∧ U.heap = h0) (fun _ _ _ _ _ => True) (fun _ U o U' => ∃ v L, o = .returned v ∧ Qnz Z p0 h0 n0 v U'.heap L ∧ FrameEnd U o U' L ({ frames := 0, cells := 0, slots := 0, locals := 0 } : Room).cells ({ frames := 0, cells := 0, slots := 0, locals := 0 } : Room).slots) := by
  refine MetFree.of_bodySF (plainFor_of_name pn_5) hisR ?_
  intro p e s m args below meth c s₁ Bd hml0 hP hK
  obtain ⟨rfl, hZ, hh⟩ := hP
  have hx := Bd.exec
  have hby := Bd.bytes
  have hml : c.maxLocals = 2 := hml0
  have hown : s.vm.findClass "java/lang/Integer" = some m.cls := findClass_of_methodNamed Bd.named
  have hnm := (name_of_methodNamed Bd.named Bd.method).1
  have X0 : Stand p l e ({ frames := 0, cells := 0, slots := 0, locals := 0 } : Room) s m #[(.int p0)] below meth c s₁ [] 0 0 := Stand.of_body Bd
  have e0 : s₁.heap = h0 := by rw [← hh, Bd.state]; rfl
  have N0 := Fr.nil n0
  have K0 : ∀ t, Steps p.tables e below (s₁.setTop (mkF m 0 #[.val (.int p0), .unset] [])) t → Steps p.tables e below (s₁.setTop (entryFrame m #[(.int p0)] 2)) t := fun t k => castTop (ef_nz m p0) k
  generalize s₁.setTop (entryFrame m #[(.int p0)] 2) = SE at K0 ⊢
  have K1 : own_K p e below SE s₁ (mkF m 1 #[.val (.int p0), .unset] [(.int p0)]) := by
    intro t k
    refine K0 _ ?_
    refine XS.iloadN X0.here hx rfl (hb hby d5_0) rfl ?_
    exact k
  by_cases cpos : 0 < p0
  · skip
    have K4 : own_K p e below SE s₁ (mkF m 15 #[.val (.int p0), .unset] []) := by
      intro t k
      refine K1 _ ?_
      refine XS.ifYes X0.here hx rfl (pc0 := 1) (pc' := 15) rfl (hb hby d5_1) rfl (XT.i0_gt_t cpos) (by decide) (by decide) ?_
      exact k
    obtain ⟨i1_, n1_, hi1_, hn1_, K5⟩ : ∃ i1_ : Int32, ∃ n1_ : Int32, i1_ = (if p0 < (65536 : Int32) then p0 else ((p0.toUInt32 >>> ((16 : Int32) &&& 31).toUInt32).toInt32)) ∧ n1_ = (if p0 < (65536 : Int32) then (31 : Int32) else (15 : Int32)) ∧ own_K p e below SE s₁ (mkF m 33 #[.val (.int i1_), .val (.int n1_)] []) := by
      have K7 : own_K p e below SE s₁ (mkF m 22 #[.val (.int p0), .val (.int (31 : Int32))] [(.int (65536 : Int32)), (.int p0)]) := by
        intro t k
        refine K4 _ ?_
        refine XS.bipush X0.here hx rfl (hb hby d5_15) ?_
        show own_S p e below s₁ (mkF m 17 #[.val (.int p0), .unset] [(.int (31 : Int32))]) _
        refine XS.istoreN X0.here hx rfl (hb hby d5_17) rfl (l' := #[.val (.int p0), .val (.int (31 : Int32))]) rfl ?_
        show own_S p e below s₁ (mkF m 18 #[.val (.int p0), .val (.int (31 : Int32))] []) _
        refine XS.iloadN X0.here hx rfl (hb hby d5_18) rfl ?_
        show own_S p e below s₁ (mkF m 19 #[.val (.int p0), .val (.int (31 : Int32))] [(.int p0)]) _
        refine Stand.ldcWI X0 hx hown (mvT hZ (hw _ (List.mem_of_getElem? (i := 22) rfl))) (v := (65536 : Int32)) (g := (mkF m 19 #[.val (.int p0), .val (.int (31 : Int32))] [(.int p0)])) rfl (hb hby d5_19) ?_
        exact k
      by_cases c22_6 : p0 < (65536 : Int32)
      · skip
        have K8 : own_K p e below SE s₁ (mkF m 33 #[.val (.int p0), .val (.int (31 : Int32))] []) := by
          intro t k
          refine K7 _ ?_
          refine XS.icmpYes X0.here hx rfl (pc0 := 22) (pc' := 33) rfl (hb hby d5_22) rfl (XT.ii_lt_t c22_6) (by decide) (by decide) ?_
          exact k
        exact ⟨p0, (31 : Int32), (by simp only [if_pos c22_6]), (by simp only [if_pos c22_6]), K8⟩
      · skip
        have K9 : own_K p e below SE s₁ (mkF m 33 #[.val (.int ((p0.toUInt32 >>> ((16 : Int32) &&& 31).toUInt32).toInt32)), .val (.int (15 : Int32))] []) := by
          intro t k
          refine K7 _ ?_
          refine XS.icmpNo X0.here hx rfl (hb hby d5_22) rfl (XT.ii_lt_f c22_6) ?_
          show own_S p e below s₁ (mkF m 25 #[.val (.int p0), .val (.int (31 : Int32))] []) _
          refine XS.iinc X0.here hx rfl (hb hby d5_25) rfl (l' := #[.val (.int p0), .val (.int (15 : Int32))]) rfl ?_
          show own_S p e below s₁ (mkF m 28 #[.val (.int p0), .val (.int (15 : Int32))] []) _
          refine XS.iloadN X0.here hx rfl (hb hby d5_28) rfl ?_
          show own_S p e below s₁ (mkF m 29 #[.val (.int p0), .val (.int (15 : Int32))] [(.int p0)]) _
          refine XS.bipush X0.here hx rfl (hb hby d5_29) ?_
          show own_S p e below s₁ (mkF m 31 #[.val (.int p0), .val (.int (15 : Int32))] [(.int (16 : Int32)), (.int p0)]) _
          refine XS.iushr X0.here hx rfl (hb hby d5_31) rfl ?_
          show own_S p e below s₁ (mkF m 32 #[.val (.int p0), .val (.int (15 : Int32))] [(.int ((p0.toUInt32 >>> ((16 : Int32) &&& 31).toUInt32).toInt32))]) _
          refine XS.istoreN X0.here hx rfl (hb hby d5_32) rfl (l' := #[.val (.int ((p0.toUInt32 >>> ((16 : Int32) &&& 31).toUInt32).toInt32)), .val (.int (15 : Int32))]) rfl ?_
          exact k
        exact ⟨((p0.toUInt32 >>> ((16 : Int32) &&& 31).toUInt32).toInt32), (15 : Int32), (by simp only [if_neg c22_6]), (by simp only [if_neg c22_6]), K9⟩
    rw [(show i1_ = own_I1 p0 from hi1_)] at K5
    rw [(hn1_.trans (own_f15 p0))] at K5
    obtain ⟨i2_, n2_, hi2_, hn2_, K12⟩ : ∃ i2_ : Int32, ∃ n2_ : Int32, i2_ = (if (own_I1 p0) < (256 : Int32) then (own_I1 p0) else (((own_I1 p0).toUInt32 >>> ((8 : Int32) &&& 31).toUInt32).toInt32)) ∧ n2_ = (if (own_I1 p0) < (256 : Int32) then (own_N1 p0) else ((own_N1 p0) + (-8 : Int32))) ∧ own_K p e below SE s₁ (mkF m 48 #[.val (.int i2_), .val (.int n2_)] []) := by
      have K14 : own_K p e below SE s₁ (mkF m 37 #[.val (.int (own_I1 p0)), .val (.int (own_N1 p0))] [(.int (256 : Int32)), (.int (own_I1 p0))]) := by
        intro t k
        refine K5 _ ?_
        refine XS.iloadN X0.here hx rfl (hb hby d5_33) rfl ?_
        show own_S p e below s₁ (mkF m 34 #[.val (.int (own_I1 p0)), .val (.int (own_N1 p0))] [(.int (own_I1 p0))]) _
        refine XS.sipush X0.here hx rfl (hb hby d5_34) ?_
        exact k
      by_cases c37_13 : (own_I1 p0) < (256 : Int32)
      · skip
        have K15 : own_K p e below SE s₁ (mkF m 48 #[.val (.int (own_I1 p0)), .val (.int (own_N1 p0))] []) := by
          intro t k
          refine K14 _ ?_
          refine XS.icmpYes X0.here hx rfl (pc0 := 37) (pc' := 48) rfl (hb hby d5_37) rfl (XT.ii_lt_t c37_13) (by decide) (by decide) ?_
          exact k
        exact ⟨(own_I1 p0), (own_N1 p0), (by simp only [if_pos c37_13]), (by simp only [if_pos c37_13]), K15⟩
      · skip
        have K16 : own_K p e below SE s₁ (mkF m 48 #[.val (.int (((own_I1 p0).toUInt32 >>> ((8 : Int32) &&& 31).toUInt32).toInt32)), .val (.int ((own_N1 p0) + (-8 : Int32)))] []) := by
          intro t k
          refine K14 _ ?_
          refine XS.icmpNo X0.here hx rfl (hb hby d5_37) rfl (XT.ii_lt_f c37_13) ?_
          show own_S p e below s₁ (mkF m 40 #[.val (.int (own_I1 p0)), .val (.int (own_N1 p0))] []) _
          refine XS.iinc X0.here hx rfl (hb hby d5_40) rfl (l' := #[.val (.int (own_I1 p0)), .val (.int ((own_N1 p0) + (-8 : Int32)))]) rfl ?_
          show own_S p e below s₁ (mkF m 43 #[.val (.int (own_I1 p0)), .val (.int ((own_N1 p0) + (-8 : Int32)))] []) _
          refine XS.iloadN X0.here hx rfl (hb hby d5_43) rfl ?_
          show own_S p e below s₁ (mkF m 44 #[.val (.int (own_I1 p0)), .val (.int ((own_N1 p0) + (-8 : Int32)))] [(.int (own_I1 p0))]) _
          refine XS.bipush X0.here hx rfl (hb hby d5_44) ?_
          show own_S p e below s₁ (mkF m 46 #[.val (.int (own_I1 p0)), .val (.int ((own_N1 p0) + (-8 : Int32)))] [(.int (8 : Int32)), (.int (own_I1 p0))]) _
          refine XS.iushr X0.here hx rfl (hb hby d5_46) rfl ?_
          show own_S p e below s₁ (mkF m 47 #[.val (.int (own_I1 p0)), .val (.int ((own_N1 p0) + (-8 : Int32)))] [(.int (((own_I1 p0).toUInt32 >>> ((8 : Int32) &&& 31).toUInt32).toInt32))]) _
          refine XS.istoreN X0.here hx rfl (hb hby d5_47) rfl (l' := #[.val (.int (((own_I1 p0).toUInt32 >>> ((8 : Int32) &&& 31).toUInt32).toInt32)), .val (.int ((own_N1 p0) + (-8 : Int32)))]) rfl ?_
          exact k
        exact ⟨(((own_I1 p0).toUInt32 >>> ((8 : Int32) &&& 31).toUInt32).toInt32), ((own_N1 p0) + (-8 : Int32)), (by simp only [if_neg c37_13]), (by simp only [if_neg c37_13]), K16⟩
    rw [(show i2_ = own_I2 p0 from hi2_)] at K12
    rw [(show n2_ = own_N2 p0 from hn2_)] at K12
    obtain ⟨i3_, n3_, hi3_, hn3_, K19⟩ : ∃ i3_ : Int32, ∃ n3_ : Int32, i3_ = (if (own_I2 p0) < (16 : Int32) then (own_I2 p0) else (((own_I2 p0).toUInt32 >>> ((4 : Int32) &&& 31).toUInt32).toInt32)) ∧ n3_ = (if (own_I2 p0) < (16 : Int32) then (own_N2 p0) else ((own_N2 p0) + (-4 : Int32))) ∧ own_K p e below SE s₁ (mkF m 61 #[.val (.int i3_), .val (.int n3_)] []) := by
      have K21 : own_K p e below SE s₁ (mkF m 51 #[.val (.int (own_I2 p0)), .val (.int (own_N2 p0))] [(.int (16 : Int32)), (.int (own_I2 p0))]) := by
        intro t k
        refine K12 _ ?_
        refine XS.iloadN X0.here hx rfl (hb hby d5_48) rfl ?_
        show own_S p e below s₁ (mkF m 49 #[.val (.int (own_I2 p0)), .val (.int (own_N2 p0))] [(.int (own_I2 p0))]) _
        refine XS.bipush X0.here hx rfl (hb hby d5_49) ?_
        exact k
      by_cases c51_20 : (own_I2 p0) < (16 : Int32)
      · skip
        have K22 : own_K p e below SE s₁ (mkF m 61 #[.val (.int (own_I2 p0)), .val (.int (own_N2 p0))] []) := by
          intro t k
          refine K21 _ ?_
          refine XS.icmpYes X0.here hx rfl (pc0 := 51) (pc' := 61) rfl (hb hby d5_51) rfl (XT.ii_lt_t c51_20) (by decide) (by decide) ?_
          exact k
        exact ⟨(own_I2 p0), (own_N2 p0), (by simp only [if_pos c51_20]), (by simp only [if_pos c51_20]), K22⟩
      · skip
        have K23 : own_K p e below SE s₁ (mkF m 61 #[.val (.int (((own_I2 p0).toUInt32 >>> ((4 : Int32) &&& 31).toUInt32).toInt32)), .val (.int ((own_N2 p0) + (-4 : Int32)))] []) := by
          intro t k
          refine K21 _ ?_
          refine XS.icmpNo X0.here hx rfl (hb hby d5_51) rfl (XT.ii_lt_f c51_20) ?_
          show own_S p e below s₁ (mkF m 54 #[.val (.int (own_I2 p0)), .val (.int (own_N2 p0))] []) _
          refine XS.iinc X0.here hx rfl (hb hby d5_54) rfl (l' := #[.val (.int (own_I2 p0)), .val (.int ((own_N2 p0) + (-4 : Int32)))]) rfl ?_
          show own_S p e below s₁ (mkF m 57 #[.val (.int (own_I2 p0)), .val (.int ((own_N2 p0) + (-4 : Int32)))] []) _
          refine XS.iloadN X0.here hx rfl (hb hby d5_57) rfl ?_
          show own_S p e below s₁ (mkF m 58 #[.val (.int (own_I2 p0)), .val (.int ((own_N2 p0) + (-4 : Int32)))] [(.int (own_I2 p0))]) _
          refine XS.iconst X0.here hx rfl (hb hby d5_58) ?_
          show own_S p e below s₁ (mkF m 59 #[.val (.int (own_I2 p0)), .val (.int ((own_N2 p0) + (-4 : Int32)))] [(.int (4 : Int32)), (.int (own_I2 p0))]) _
          refine XS.iushr X0.here hx rfl (hb hby d5_59) rfl ?_
          show own_S p e below s₁ (mkF m 60 #[.val (.int (own_I2 p0)), .val (.int ((own_N2 p0) + (-4 : Int32)))] [(.int (((own_I2 p0).toUInt32 >>> ((4 : Int32) &&& 31).toUInt32).toInt32))]) _
          refine XS.istoreN X0.here hx rfl (hb hby d5_60) rfl (l' := #[.val (.int (((own_I2 p0).toUInt32 >>> ((4 : Int32) &&& 31).toUInt32).toInt32)), .val (.int ((own_N2 p0) + (-4 : Int32)))]) rfl ?_
          exact k
        exact ⟨(((own_I2 p0).toUInt32 >>> ((4 : Int32) &&& 31).toUInt32).toInt32), ((own_N2 p0) + (-4 : Int32)), (by simp only [if_neg c51_20]), (by simp only [if_neg c51_20]), K23⟩
    rw [(show i3_ = own_I3 p0 from hi3_)] at K19
    rw [(show n3_ = own_N3 p0 from hn3_)] at K19
    obtain ⟨i4_, n4_, hi4_, hn4_, K26⟩ : ∃ i4_ : Int32, ∃ n4_ : Int32, i4_ = (if (own_I3 p0) < (4 : Int32) then (own_I3 p0) else (((own_I3 p0).toUInt32 >>> ((2 : Int32) &&& 31).toUInt32).toInt32)) ∧ n4_ = (if (own_I3 p0) < (4 : Int32) then (own_N3 p0) else ((own_N3 p0) + (-2 : Int32))) ∧ own_K p e below SE s₁ (mkF m 73 #[.val (.int i4_), .val (.int n4_)] []) := by
      have K28 : own_K p e below SE s₁ (mkF m 63 #[.val (.int (own_I3 p0)), .val (.int (own_N3 p0))] [(.int (4 : Int32)), (.int (own_I3 p0))]) := by
        intro t k
        refine K19 _ ?_
        refine XS.iloadN X0.here hx rfl (hb hby d5_61) rfl ?_
        show own_S p e below s₁ (mkF m 62 #[.val (.int (own_I3 p0)), .val (.int (own_N3 p0))] [(.int (own_I3 p0))]) _
        refine XS.iconst X0.here hx rfl (hb hby d5_62) ?_
        exact k
      by_cases c63_27 : (own_I3 p0) < (4 : Int32)
      · skip
        have K29 : own_K p e below SE s₁ (mkF m 73 #[.val (.int (own_I3 p0)), .val (.int (own_N3 p0))] []) := by
          intro t k
          refine K28 _ ?_
          refine XS.icmpYes X0.here hx rfl (pc0 := 63) (pc' := 73) rfl (hb hby d5_63) rfl (XT.ii_lt_t c63_27) (by decide) (by decide) ?_
          exact k
        exact ⟨(own_I3 p0), (own_N3 p0), (by simp only [if_pos c63_27]), (by simp only [if_pos c63_27]), K29⟩
      · skip
        have K30 : own_K p e below SE s₁ (mkF m 73 #[.val (.int (((own_I3 p0).toUInt32 >>> ((2 : Int32) &&& 31).toUInt32).toInt32)), .val (.int ((own_N3 p0) + (-2 : Int32)))] []) := by
          intro t k
          refine K28 _ ?_
          refine XS.icmpNo X0.here hx rfl (hb hby d5_63) rfl (XT.ii_lt_f c63_27) ?_
          show own_S p e below s₁ (mkF m 66 #[.val (.int (own_I3 p0)), .val (.int (own_N3 p0))] []) _
          refine XS.iinc X0.here hx rfl (hb hby d5_66) rfl (l' := #[.val (.int (own_I3 p0)), .val (.int ((own_N3 p0) + (-2 : Int32)))]) rfl ?_
          show own_S p e below s₁ (mkF m 69 #[.val (.int (own_I3 p0)), .val (.int ((own_N3 p0) + (-2 : Int32)))] []) _
          refine XS.iloadN X0.here hx rfl (hb hby d5_69) rfl ?_
          show own_S p e below s₁ (mkF m 70 #[.val (.int (own_I3 p0)), .val (.int ((own_N3 p0) + (-2 : Int32)))] [(.int (own_I3 p0))]) _
          refine XS.iconst X0.here hx rfl (hb hby d5_70) ?_
          show own_S p e below s₁ (mkF m 71 #[.val (.int (own_I3 p0)), .val (.int ((own_N3 p0) + (-2 : Int32)))] [(.int (2 : Int32)), (.int (own_I3 p0))]) _
          refine XS.iushr X0.here hx rfl (hb hby d5_71) rfl ?_
          show own_S p e below s₁ (mkF m 72 #[.val (.int (own_I3 p0)), .val (.int ((own_N3 p0) + (-2 : Int32)))] [(.int (((own_I3 p0).toUInt32 >>> ((2 : Int32) &&& 31).toUInt32).toInt32))]) _
          refine XS.istoreN X0.here hx rfl (hb hby d5_72) rfl (l' := #[.val (.int (((own_I3 p0).toUInt32 >>> ((2 : Int32) &&& 31).toUInt32).toInt32)), .val (.int ((own_N3 p0) + (-2 : Int32)))]) rfl ?_
          exact k
        exact ⟨(((own_I3 p0).toUInt32 >>> ((2 : Int32) &&& 31).toUInt32).toInt32), ((own_N3 p0) + (-2 : Int32)), (by simp only [if_neg c63_27]), (by simp only [if_neg c63_27]), K30⟩
    rw [(show i4_ = own_I4 p0 from hi4_)] at K26
    rw [(show n4_ = own_N4 p0 from hn4_)] at K26
    have K31 : own_K p e below SE s₁ (mkF m 78 #[.val (.int (own_I4 p0)), .val (.int (own_N4 p0))] [(.int ((own_N4 p0) - (((own_I4 p0).toUInt32 >>> ((1 : Int32) &&& 31).toUInt32).toInt32)))]) := by
      intro t k
      refine K26 _ ?_
      refine XS.iloadN X0.here hx rfl (hb hby d5_73) rfl ?_
      show own_S p e below s₁ (mkF m 74 #[.val (.int (own_I4 p0)), .val (.int (own_N4 p0))] [(.int (own_N4 p0))]) _
      refine XS.iloadN X0.here hx rfl (hb hby d5_74) rfl ?_
      show own_S p e below s₁ (mkF m 75 #[.val (.int (own_I4 p0)), .val (.int (own_N4 p0))] [(.int (own_I4 p0)), (.int (own_N4 p0))]) _
      refine XS.iconst X0.here hx rfl (hb hby d5_75) ?_
      show own_S p e below s₁ (mkF m 76 #[.val (.int (own_I4 p0)), .val (.int (own_N4 p0))] [(.int (1 : Int32)), (.int (own_I4 p0)), (.int (own_N4 p0))]) _
      refine XS.iushr X0.here hx rfl (hb hby d5_76) rfl ?_
      show own_S p e below s₁ (mkF m 77 #[.val (.int (own_I4 p0)), .val (.int (own_N4 p0))] [(.int (((own_I4 p0).toUInt32 >>> ((1 : Int32) &&& 31).toUInt32).toInt32)), (.int (own_N4 p0))]) _
      refine XS.isub X0.here hx rfl (hb hby d5_77) rfl ?_
      exact k
    obtain ⟨fs, hr, hrun, hended, hW, hsame⟩ := X0.leave (v := some (.int ((own_N4 p0) - (((own_I4 p0).toUInt32 >>> ((1 : Int32) &&& 31).toUInt32).toInt32)))) (fun h => by rw [Bd.returns] at h; cases h)
    refine ⟨_, _, K31 _ ?_, hrun, hended, _, _, rfl, ?_, ⟨_, rfl⟩, hW, hsame.mono (by decide) (by decide)⟩
    · exact retI X0 hx Bd.returns (hb hby d5_78) hr
    · show Qnz Z p0 h0 n0 _ s₁.heap _
      rw [e0]
      exact ⟨(by unfold own_nlz; rw [if_pos cpos]), N0, rfl⟩
  · skip
    have K33 : own_K p e below SE s₁ (mkF m 5 #[.val (.int p0), .unset] [(.int p0)]) := by
      intro t k
      refine K1 _ ?_
      refine XS.ifNo X0.here hx rfl (hb hby d5_1) rfl (XT.i0_gt_f cpos) ?_
      show own_S p e below s₁ (mkF m 4 #[.val (.int p0), .unset] []) _
      refine XS.iloadN X0.here hx rfl (hb hby d5_4) rfl ?_
      exact k
    by_cases c5_32 : p0 = 0
    · skip
      have K34 : own_K p e below SE s₁ (mkF m 14 #[.val (.int p0), .unset] [(.int (32 : Int32))]) := by
        intro t k
        refine K33 _ ?_
        refine XS.ifNo X0.here hx rfl (hb hby d5_5) rfl (XT.i0_ne_f c5_32) ?_
        show own_S p e below s₁ (mkF m 8 #[.val (.int p0), .unset] []) _
        refine XS.bipush X0.here hx rfl (hb hby d5_8) ?_
        show own_S p e below s₁ (mkF m 10 #[.val (.int p0), .unset] [(.int (32 : Int32))]) _
        refine XS.goto X0.here hx rfl (pc0 := 10) (pc' := 14) rfl (hb hby d5_10) (by decide) (by decide) ?_
        exact k
      obtain ⟨fs, hr, hrun, hended, hW, hsame⟩ := X0.leave (v := some (.int (32 : Int32))) (fun h => by rw [Bd.returns] at h; cases h)
      refine ⟨_, _, K34 _ ?_, hrun, hended, _, _, rfl, ?_, ⟨_, rfl⟩, hW, hsame.mono (by decide) (by decide)⟩
      · exact retI X0 hx Bd.returns (hb hby d5_14) hr
      · show Qnz Z p0 h0 n0 _ s₁.heap _
        rw [e0]
        exact ⟨(by unfold own_nlz; rw [if_neg cpos]; simp only [if_pos c5_32]), N0, rfl⟩
    · skip
      have K35 : own_K p e below SE s₁ (mkF m 14 #[.val (.int p0), .unset] [(.int (0 : Int32))]) := by
        intro t k
        refine K33 _ ?_
        refine XS.ifYes X0.here hx rfl (pc0 := 5) (pc' := 13) rfl (hb hby d5_5) rfl (XT.i0_ne_t c5_32) (by decide) (by decide) ?_
        show own_S p e below s₁ (mkF m 13 #[.val (.int p0), .unset] []) _
        refine XS.iconst X0.here hx rfl (hb hby d5_13) ?_
        exact k
      obtain ⟨fs, hr, hrun, hended, hW, hsame⟩ := X0.leave (v := some (.int (0 : Int32))) (fun h => by rw [Bd.returns] at h; cases h)
      refine ⟨_, _, K35 _ ?_, hrun, hended, _, _, rfl, ?_, ⟨_, rfl⟩, hW, hsame.mono (by decide) (by decide)⟩
      · exact retI X0 hx Bd.returns (hb hby d5_14) hr
      · show Qnz Z p0 h0 n0 _ s₁.heap _
        rw [e0]
        exact ⟨(by unfold own_nlz; rw [if_neg cpos]; simp only [if_neg c5_32]), N0, rfl⟩
def own_nlzL (q0 : Int64) : Int32 := if ((((q0.toUInt64 >>> ((32 : Int32) &&& 0x3f).toInt64.toUInt64).toInt64)).toInt32) = 0 then ((32 : Int32) + (own_nlz ((q0).toInt32))) else (own_nlz ((((q0.toUInt64 >>> ((32 : Int32) &&& 0x3f).toInt64.toUInt64).toInt64)).toInt32))
theorem d4_0 : decode jdk_35_method_48_code 0 = .ok (.lload_n 0, 1) := by decide +kernel
theorem d4_1 : decode jdk_35_method_48_code 1 = .ok (.bipush 32, 2) := by decide +kernel
theorem d4_3 : decode jdk_35_method_48_code 3 = .ok (.lushr, 1) := by decide +kernel
theorem d4_4 : decode jdk_35_method_48_code 4 = .ok (.l2i, 1) := by decide +kernel
theorem d4_5 : decode jdk_35_method_48_code 5 = .ok (.istore_n 2, 1) := by decide +kernel
theorem d4_6 : decode jdk_35_method_48_code 6 = .ok (.iload_n 2, 1) := by decide +kernel
theorem d4_7 : decode jdk_35_method_48_code 7 = .ok (.ifCond .ne 14, 3) := by decide +kernel
theorem d4_10 : decode jdk_35_method_48_code 10 = .ok (.bipush 32, 2) := by decide +kernel
theorem d4_12 : decode jdk_35_method_48_code 12 = .ok (.lload_n 0, 1) := by decide +kernel
theorem d4_13 : decode jdk_35_method_48_code 13 = .ok (.l2i, 1) := by decide +kernel
theorem d4_14 : decode jdk_35_method_48_code 14 = .ok (.invokestatic 308, 3) := by decide +kernel
theorem d4_17 : decode jdk_35_method_48_code 17 = .ok (.iadd, 1) := by decide +kernel
theorem d4_18 : decode jdk_35_method_48_code 18 = .ok (.goto 7, 3) := by decide +kernel
theorem d4_21 : decode jdk_35_method_48_code 21 = .ok (.iload_n 2, 1) := by decide +kernel
theorem d4_22 : decode jdk_35_method_48_code 22 = .ok (.invokestatic 308, 3) := by decide +kernel
theorem d4_25 : decode jdk_35_method_48_code 25 = .ok (.ireturn, 1) := by decide +kernel
theorem pn_4 : plainName "java/lang/Long" = true := by first | (simp [plainName, overriddenIn]; done) | decide +kernel
theorem pd_nl_0 : parseMethodDescriptor "(I)I" = some ⟨[.int], some .int⟩ := by decide +kernel
theorem ef_nl (m : MethodId) (q0 : Int64) : entryFrame m #[(.long q0)] 3 = mkF m 0 #[.val (.long q0), .second, .unset] [] := by first | (simp [entryFrame, mkF, argsToLocals, Value.category]; done) | rfl
def Qnl (Z : State) (q0 : Int64) (h0 : Heap) (n0 : Nat) (v : Option Value) (h : Heap) (L : List Loc) : Prop := v = some (.int (own_nlzL q0)) ∧ Fr n0 L ∧ h = h0
set_option maxRecDepth 65536 in
set_option maxHeartbeats 40000000 in
theorem rmnl (l : Launch) (Z : State) (a0 : Array Value) (hw : ∀ d ∈ tables_1, d.before a0 Z = true) (ws : List Jvm.Cond) (q0 : Int64) (h0 : Heap) (n0 : Nat) (Z0 : n0 ≤ h0.size) :
    MetFree l (⟨"java/lang/Long", "numberOfLeadingZeros", "(J)I"⟩ : MethodName) (head1 (Jvm.Cond.code (⟨"java/lang/Long", "numberOfLeadingZeros", "(J)I"⟩ : MethodName) jdk_35_method_48_code 3 (some .int) :: ws) ({ frames := 1, cells := 0, slots := 0, locals := 14 } : Room)) (fun a U => a = #[(.long q0)] ∧ Z.Warmed39 U.vm ∧ U.heap = h0) (fun _ _ _ _ _ => True) (fun _ U o U' => ∃ v L, o = .returned v ∧ Qnl Z q0 h0 n0 v U'.heap L ∧ FrameEnd U o U' L ({ frames := 1, cells := 0, slots := 0, locals := 14 } : Room).cells ({ frames := 1, cells := 0, slots := 0, locals := 14 } : Room).slots) := by
  refine MetFree.of_bodySF (plainFor_of_name pn_4) hisR ?_
  intro p e s m args below meth c s₁ Bd hml0 hP hK
  obtain ⟨rfl, hZ, hh⟩ := hP
  have hx := Bd.exec
  have hby := Bd.bytes
  have hml : c.maxLocals = 3 := hml0
  have hown : s.vm.findClass "java/lang/Long" = some m.cls := findClass_of_methodNamed Bd.named
  have hnm := (name_of_methodNamed Bd.named Bd.method).1
  have X0 : Stand p l e ({ frames := 1, cells := 0, slots := 0, locals := 14 } : Room) s m #[(.long q0)] below meth c s₁ [] 0 0 := Stand.of_body Bd
  have e0 : s₁.heap = h0 := by rw [← hh, Bd.state]; rfl
  have N0 := Fr.nil n0
  have K0 : ∀ t, Steps p.tables e below (s₁.setTop (mkF m 0 #[.val (.long q0), .second, .unset] [])) t → Steps p.tables e below (s₁.setTop (entryFrame m #[(.long q0)] 3)) t := fun t k => castTop (ef_nl m q0) k
  generalize s₁.setTop (entryFrame m #[(.long q0)] 3) = SE at K0 ⊢
  have K1 : own_K p e below SE s₁ (mkF m 7 #[.val (.long q0), .second, .val (.int ((((q0.toUInt64 >>> ((32 : Int32) &&& 0x3f).toInt64.toUInt64).toInt64)).toInt32))] [(.int ((((q0.toUInt64 >>> ((32 : Int32) &&& 0x3f).toInt64.toUInt64).toInt64)).toInt32))]) := by
    intro t k
    refine K0 _ ?_
    refine XS.lloadN X0.here hx rfl (hb hby d4_0) rfl ?_
    show own_S p e below s₁ (mkF m 1 #[.val (.long q0), .second, .unset] [(.long q0)]) _
    refine XS.bipush X0.here hx rfl (hb hby d4_1) ?_
    show own_S p e below s₁ (mkF m 3 #[.val (.long q0), .second, .unset] [(.int (32 : Int32)), (.long q0)]) _
    refine XS.lushr X0.here hx rfl (hb hby d4_3) rfl ?_
    show own_S p e below s₁ (mkF m 4 #[.val (.long q0), .second, .unset] [(.long ((q0.toUInt64 >>> ((32 : Int32) &&& 0x3f).toInt64.toUInt64).toInt64))]) _
    refine XS.l2i X0.here hx rfl (hb hby d4_4) rfl ?_
    show own_S p e below s₁ (mkF m 5 #[.val (.long q0), .second, .unset] [(.int ((((q0.toUInt64 >>> ((32 : Int32) &&& 0x3f).toInt64.toUInt64).toInt64)).toInt32))]) _
    refine XS.istoreN X0.here hx rfl (hb hby d4_5) rfl (l' := #[.val (.long q0), .second, .val (.int ((((q0.toUInt64 >>> ((32 : Int32) &&& 0x3f).toInt64.toUInt64).toInt64)).toInt32))]) rfl ?_
    show own_S p e below s₁ (mkF m 6 #[.val (.long q0), .second, .val (.int ((((q0.toUInt64 >>> ((32 : Int32) &&& 0x3f).toInt64.toUInt64).toInt64)).toInt32))] []) _
    refine XS.iloadN X0.here hx rfl (hb hby d4_6) rfl ?_
    exact k
  by_cases chi : ((((q0.toUInt64 >>> ((32 : Int32) &&& 0x3f).toInt64.toUInt64).toInt64)).toInt32) = 0
  · skip
    have K2 : own_K p e below SE s₁ (mkF m 14 #[.val (.long q0), .second, .val (.int ((((q0.toUInt64 >>> ((32 : Int32) &&& 0x3f).toInt64.toUInt64).toInt64)).toInt32))] [(.int ((q0).toInt32)), (.int (32 : Int32))]) := by
      intro t k
      refine K1 _ ?_
      refine XS.ifNo X0.here hx rfl (hb hby d4_7) rfl (XT.i0_ne_f chi) ?_
      show own_S p e below s₁ (mkF m 10 #[.val (.long q0), .second, .val (.int ((((q0.toUInt64 >>> ((32 : Int32) &&& 0x3f).toInt64.toUInt64).toInt64)).toInt32))] []) _
      refine XS.bipush X0.here hx rfl (hb hby d4_10) ?_
      show own_S p e below s₁ (mkF m 12 #[.val (.long q0), .second, .val (.int ((((q0.toUInt64 >>> ((32 : Int32) &&& 0x3f).toInt64.toUInt64).toInt64)).toInt32))] [(.int (32 : Int32))]) _
      refine XS.lloadN X0.here hx rfl (hb hby d4_12) rfl ?_
      show own_S p e below s₁ (mkF m 13 #[.val (.long q0), .second, .val (.int ((((q0.toUInt64 >>> ((32 : Int32) &&& 0x3f).toInt64.toUInt64).toInt64)).toInt32))] [(.long q0), (.int (32 : Int32))]) _
      refine XS.l2i X0.here hx rfl (hb hby d4_13) rfl ?_
      exact k
    obtain ⟨_, _, ⟨T3, L3, k3, n3⟩, -, X3, ⟨Lc3, hQ3, l3, y3, z3⟩, st3⟩ := Jvm.LawKit.callS X0 hx (y := (⟨"java/lang/Integer", "numberOfLeadingZeros", "(I)I"⟩ : MethodName)) hown (mvT hZ (hw _ (List.mem_of_getElem? (i := 18) rfl))) (mvT hZ (hw _ (List.mem_of_getElem? (i := 19) rfl))) (mvT hZ (hw _ (List.mem_of_getElem? (i := 20) rfl))) (mvT hZ (hw _ (List.mem_of_getElem? (i := 21) rfl))) (by decide) (backOf (W := 1) (rmnz l Z a0 hw [] ((q0).toInt32) h0 n0 Z0) hZ (hw _ (List.mem_of_getElem? (i := 21) rfl)) (hw _ (List.mem_of_getElem? (i := 20) rfl)) (by decide) (by decide)) (g := (mkF m 14 #[.val (.long q0), .second, .val (.int ((((q0.toUInt64 >>> ((32 : Int32) &&& 0x3f).toInt64.toUInt64).toInt64)).toInt32))] [(.int ((q0).toInt32)), (.int (32 : Int32))])) rfl (by rw [hml]; rfl) (argsL := [(.int ((q0).toInt32))]) (rest := [(.int (32 : Int32))]) (lenOf pd_nl_0 rfl) rfl (by show 2 * 0 + _ ≤ _; exact Nat.le_of_eq rfl) (hb hby d4_14) (fun _ _ => ⟨rfl, e0, (by decide : 0 + 0 ≤ _), (by decide : 0 + 0 ≤ _)⟩)
    dsimp only [Pt.U, Pt.locs, Pt.cells, Pt.slots] at X3 l3 y3 z3 st3 hQ3
    rw [y3, z3] at X3
    obtain ⟨rfl, Nq3, e3⟩ := hQ3
    have N3 : Fr n0 L3 := by rw [l3]; exact Fr.app N0 Nq3
    have K3 : own_K p e below SE T3 (mkF m 17 #[.val (.long q0), .second, .val (.int ((((q0.toUInt64 >>> ((32 : Int32) &&& 0x3f).toInt64.toUInt64).toInt64)).toInt32))] [(.int (own_nlz ((q0).toInt32))), (.int (32 : Int32))]) := fun t k => K2 _ (st3 _ k)
    have K4 : own_K p e below SE T3 (mkF m 25 #[.val (.long q0), .second, .val (.int ((((q0.toUInt64 >>> ((32 : Int32) &&& 0x3f).toInt64.toUInt64).toInt64)).toInt32))] [(.int ((32 : Int32) + (own_nlz ((q0).toInt32))))]) := by
      intro t k
      refine K3 _ ?_
      refine XS.iadd X3.here hx rfl (hb hby d4_17) rfl ?_
      show own_S p e below T3 (mkF m 18 #[.val (.long q0), .second, .val (.int ((((q0.toUInt64 >>> ((32 : Int32) &&& 0x3f).toInt64.toUInt64).toInt64)).toInt32))] [(.int ((32 : Int32) + (own_nlz ((q0).toInt32))))]) _
      refine XS.goto X3.here hx rfl (pc0 := 18) (pc' := 25) rfl (hb hby d4_18) (by decide) (by decide) ?_
      exact k
    obtain ⟨fs, hr, hrun, hended, hW, hsame⟩ := X3.leave (v := some (.int ((32 : Int32) + (own_nlz ((q0).toInt32))))) (fun h => by rw [Bd.returns] at h; cases h)
    refine ⟨_, _, K4 _ ?_, hrun, hended, _, _, rfl, ?_, ⟨_, rfl⟩, hW, hsame.mono (by decide) (by decide)⟩
    · exact retI X3 hx Bd.returns (hb hby d4_25) hr
    · show Qnl Z q0 h0 n0 _ T3.heap _
      rw [e3]
      exact ⟨(by unfold own_nlzL; simp only [if_pos chi]), N3, rfl⟩
  · skip
    have K5 : own_K p e below SE s₁ (mkF m 22 #[.val (.long q0), .second, .val (.int ((((q0.toUInt64 >>> ((32 : Int32) &&& 0x3f).toInt64.toUInt64).toInt64)).toInt32))] [(.int ((((q0.toUInt64 >>> ((32 : Int32) &&& 0x3f).toInt64.toUInt64).toInt64)).toInt32))]) := by
      intro t k
      refine K1 _ ?_
      refine XS.ifYes X0.here hx rfl (pc0 := 7) (pc' := 21) rfl (hb hby d4_7) rfl (XT.i0_ne_t chi) (by decide) (by decide) ?_
      show own_S p e below s₁ (mkF m 21 #[.val (.long q0), .second, .val (.int ((((q0.toUInt64 >>> ((32 : Int32) &&& 0x3f).toInt64.toUInt64).toInt64)).toInt32))] []) _
      refine XS.iloadN X0.here hx rfl (hb hby d4_21) rfl ?_
      exact k
    obtain ⟨_, _, ⟨T6, L6, k6, n6⟩, -, X6, ⟨Lc6, hQ6, l6, y6, z6⟩, st6⟩ := Jvm.LawKit.callS X0 hx (y := (⟨"java/lang/Integer", "numberOfLeadingZeros", "(I)I"⟩ : MethodName)) hown (mvT hZ (hw _ (List.mem_of_getElem? (i := 18) rfl))) (mvT hZ (hw _ (List.mem_of_getElem? (i := 19) rfl))) (mvT hZ (hw _ (List.mem_of_getElem? (i := 20) rfl))) (mvT hZ (hw _ (List.mem_of_getElem? (i := 21) rfl))) (by decide) (backOf (W := 0) (rmnz l Z a0 hw [] ((((q0.toUInt64 >>> ((32 : Int32) &&& 0x3f).toInt64.toUInt64).toInt64)).toInt32) h0 n0 Z0) hZ (hw _ (List.mem_of_getElem? (i := 21) rfl)) (hw _ (List.mem_of_getElem? (i := 20) rfl)) (by decide) (by decide)) (g := (mkF m 22 #[.val (.long q0), .second, .val (.int ((((q0.toUInt64 >>> ((32 : Int32) &&& 0x3f).toInt64.toUInt64).toInt64)).toInt32))] [(.int ((((q0.toUInt64 >>> ((32 : Int32) &&& 0x3f).toInt64.toUInt64).toInt64)).toInt32))])) rfl (by rw [hml]; rfl) (argsL := [(.int ((((q0.toUInt64 >>> ((32 : Int32) &&& 0x3f).toInt64.toUInt64).toInt64)).toInt32))]) (rest := []) (lenOf pd_nl_0 rfl) rfl (by show 2 * 0 + _ ≤ _; exact Nat.le_of_eq rfl) (hb hby d4_22) (fun _ _ => ⟨rfl, e0, (by decide : 0 + 0 ≤ _), (by decide : 0 + 0 ≤ _)⟩)
    dsimp only [Pt.U, Pt.locs, Pt.cells, Pt.slots] at X6 l6 y6 z6 st6 hQ6
    rw [y6, z6] at X6
    obtain ⟨rfl, Nq6, e6⟩ := hQ6
    have N6 : Fr n0 L6 := by rw [l6]; exact Fr.app N0 Nq6
    have K6 : own_K p e below SE T6 (mkF m 25 #[.val (.long q0), .second, .val (.int ((((q0.toUInt64 >>> ((32 : Int32) &&& 0x3f).toInt64.toUInt64).toInt64)).toInt32))] [(.int (own_nlz ((((q0.toUInt64 >>> ((32 : Int32) &&& 0x3f).toInt64.toUInt64).toInt64)).toInt32)))]) := fun t k => K5 _ (st6 _ k)
    obtain ⟨fs, hr, hrun, hended, hW, hsame⟩ := X6.leave (v := some (.int (own_nlz ((((q0.toUInt64 >>> ((32 : Int32) &&& 0x3f).toInt64.toUInt64).toInt64)).toInt32)))) (fun h => by rw [Bd.returns] at h; cases h)
    refine ⟨_, _, K6 _ ?_, hrun, hended, _, _, rfl, ?_, ⟨_, rfl⟩, hW, hsame.mono (by decide) (by decide)⟩
    · exact retI X6 hx Bd.returns (hb hby d4_25) hr
    · show Qnl Z q0 h0 n0 _ T6.heap _
      rw [e6]
      exact ⟨(by unfold own_nlzL; simp only [if_neg chi]), N6, rfl⟩
def own_sh (q0 : Int64) : Int32 := (if (0 : Int32) < (((64 : Int32) - (own_nlzL q0)) - (11 : Int32)) then (((64 : Int32) - (own_nlzL q0)) - (11 : Int32)) else (0 : Int32))
def own_bucket (q0 : Int64) : Int32 := (((own_sh q0) <<< ((10 : Int32) &&& 31)) + ((((q0.toUInt64 >>> ((own_sh q0) &&& 0x3f).toInt64.toUInt64).toInt64)).toInt32))
theorem d3_0 : decode prog_7_method_5_code 0 = .ok (.iconst 0, 1) := by decide +kernel
theorem d3_1 : decode prog_7_method_5_code 1 = .ok (.bipush 64, 2) := by decide +kernel
theorem d3_3 : decode prog_7_method_5_code 3 = .ok (.lload_n 0, 1) := by decide +kernel
theorem d3_4 : decode prog_7_method_5_code 4 = .ok (.invokestatic 44, 3) := by decide +kernel
theorem d3_7 : decode prog_7_method_5_code 7 = .ok (.isub, 1) := by decide +kernel
theorem d3_8 : decode prog_7_method_5_code 8 = .ok (.bipush 11, 2) := by decide +kernel
theorem d3_10 : decode prog_7_method_5_code 10 = .ok (.isub, 1) := by decide +kernel
theorem d3_11 : decode prog_7_method_5_code 11 = .ok (.invokestatic 37, 3) := by decide +kernel
theorem d3_14 : decode prog_7_method_5_code 14 = .ok (.istore_n 2, 1) := by decide +kernel
theorem d3_15 : decode prog_7_method_5_code 15 = .ok (.iload_n 2, 1) := by decide +kernel
theorem d3_16 : decode prog_7_method_5_code 16 = .ok (.bipush 10, 2) := by decide +kernel
theorem d3_18 : decode prog_7_method_5_code 18 = .ok (.ishl, 1) := by decide +kernel
theorem d3_19 : decode prog_7_method_5_code 19 = .ok (.lload_n 0, 1) := by decide +kernel
theorem d3_20 : decode prog_7_method_5_code 20 = .ok (.iload_n 2, 1) := by decide +kernel
theorem d3_21 : decode prog_7_method_5_code 21 = .ok (.lushr, 1) := by decide +kernel
theorem d3_22 : decode prog_7_method_5_code 22 = .ok (.l2i, 1) := by decide +kernel
theorem d3_23 : decode prog_7_method_5_code 23 = .ok (.iadd, 1) := by decide +kernel
theorem d3_24 : decode prog_7_method_5_code 24 = .ok (.ireturn, 1) := by decide +kernel
theorem pn_3 : plainName "com/example/convene/convene/bench/Latencies" = true := by first | (simp [plainName, overriddenIn]; done) | decide +kernel
theorem pd_bk_0 : parseMethodDescriptor "(J)I" = some ⟨[.long], some .int⟩ := by decide +kernel
theorem pd_bk_1 : parseMethodDescriptor "(II)I" = some ⟨[.int, .int], some .int⟩ := by decide +kernel
theorem ef_bk (m : MethodId) (q0 : Int64) : entryFrame m #[(.long q0)] 3 = mkF m 0 #[.val (.long q0), .second, .unset] [] := by first | (simp [entryFrame, mkF, argsToLocals, Value.category]; done) | rfl
def Qbk (Z : State) (q0 : Int64) (h0 : Heap) (n0 : Nat) (v : Option Value) (h : Heap) (L : List Loc) : Prop := v = some (.int (own_bucket q0)) ∧ Fr n0 L ∧ h = h0
set_option maxRecDepth 65536 in
set_option maxHeartbeats 40000000 in
theorem rmbk (l : Launch) (Z : State) (a0 : Array Value) (hw : ∀ d ∈ tables_1, d.before a0 Z = true) (ws : List Jvm.Cond) (q0 : Int64) (h0 : Heap) (n0 : Nat) (Z0 : n0 ≤ h0.size) :
    MetFree l (⟨"com/example/convene/convene/bench/Latencies", "bucket", "(J)I"⟩ : MethodName) (head1 (Jvm.Cond.code (⟨"com/example/convene/convene/bench/Latencies", "bucket", "(J)I"⟩ : MethodName) prog_7_method_5_code 3 (some .int) :: ws) ({ frames := 2, cells := 0, slots := 0, locals := 30 } : Room)) (fun a U => a = #[(.long q0)] ∧ Z.Warmed39 U.vm ∧ U.heap = h0) (fun _ _ _ _ _ => True) (fun _ U o U' => ∃ v L, o = .returned v ∧ Qbk Z q0 h0 n0 v U'.heap L ∧ FrameEnd U o U' L ({ frames := 2, cells := 0, slots := 0, locals := 30 } : Room).cells ({ frames := 2, cells := 0, slots := 0, locals := 30 } : Room).slots) := by
  refine MetFree.of_bodySF (plainFor_of_name pn_3) hisR ?_
  intro p e s m args below meth c s₁ Bd hml0 hP hK
  obtain ⟨rfl, hZ, hh⟩ := hP
  have hx := Bd.exec
  have hby := Bd.bytes
  have hml : c.maxLocals = 3 := hml0
  have hown : s.vm.findClass "com/example/convene/convene/bench/Latencies" = some m.cls := findClass_of_methodNamed Bd.named
  have hnm := (name_of_methodNamed Bd.named Bd.method).1
  have X0 : Stand p l e ({ frames := 2, cells := 0, slots := 0, locals := 30 } : Room) s m #[(.long q0)] below meth c s₁ [] 0 0 := Stand.of_body Bd
  have e0 : s₁.heap = h0 := by rw [← hh, Bd.state]; rfl
  have N0 := Fr.nil n0
  have K0 : ∀ t, Steps p.tables e below (s₁.setTop (mkF m 0 #[.val (.long q0), .second, .unset] [])) t → Steps p.tables e below (s₁.setTop (entryFrame m #[(.long q0)] 3)) t := fun t k => castTop (ef_bk m q0) k
  generalize s₁.setTop (entryFrame m #[(.long q0)] 3) = SE at K0 ⊢
  have K1 : own_K p e below SE s₁ (mkF m 4 #[.val (.long q0), .second, .unset] [(.long q0), (.int (64 : Int32)), (.int (0 : Int32))]) := by
    intro t k
    refine K0 _ ?_
    refine XS.iconst X0.here hx rfl (hb hby d3_0) ?_
    show own_S p e below s₁ (mkF m 1 #[.val (.long q0), .second, .unset] [(.int (0 : Int32))]) _
    refine XS.bipush X0.here hx rfl (hb hby d3_1) ?_
    show own_S p e below s₁ (mkF m 3 #[.val (.long q0), .second, .unset] [(.int (64 : Int32)), (.int (0 : Int32))]) _
    refine XS.lloadN X0.here hx rfl (hb hby d3_3) rfl ?_
    exact k
  obtain ⟨_, _, ⟨T2, L2, k2, n2⟩, -, X2, ⟨Lc2, hQ2, l2, y2, z2⟩, st2⟩ := Jvm.LawKit.callS X0 hx (y := (⟨"java/lang/Long", "numberOfLeadingZeros", "(J)I"⟩ : MethodName)) hown (mvT hZ (hw _ (List.mem_of_getElem? (i := 14) rfl))) (mvT hZ (hw _ (List.mem_of_getElem? (i := 15) rfl))) (mvT hZ (hw _ (List.mem_of_getElem? (i := 16) rfl))) (mvT hZ (hw _ (List.mem_of_getElem? (i := 17) rfl))) (by decide) (backOf (W := 2) (rmnl l Z a0 hw [] q0 h0 n0 Z0) hZ (hw _ (List.mem_of_getElem? (i := 17) rfl)) (hw _ (List.mem_of_getElem? (i := 16) rfl)) (by decide) (by decide)) (g := (mkF m 4 #[.val (.long q0), .second, .unset] [(.long q0), (.int (64 : Int32)), (.int (0 : Int32))])) rfl (by rw [hml]; rfl) (argsL := [(.long q0)]) (rest := [(.int (64 : Int32)), (.int (0 : Int32))]) (lenOf pd_bk_0 rfl) rfl (by show 2 * 0 + _ ≤ _; exact Nat.le_of_eq rfl) (hb hby d3_4) (fun _ _ => ⟨rfl, e0, (by decide : 0 + 0 ≤ _), (by decide : 0 + 0 ≤ _)⟩)
  dsimp only [Pt.U, Pt.locs, Pt.cells, Pt.slots] at X2 l2 y2 z2 st2 hQ2
  rw [y2, z2] at X2
  obtain ⟨rfl, Nq2, e2⟩ := hQ2
  have N2 : Fr n0 L2 := by rw [l2]; exact Fr.app N0 Nq2
  have K2 : own_K p e below SE T2 (mkF m 7 #[.val (.long q0), .second, .unset] [(.int (own_nlzL q0)), (.int (64 : Int32)), (.int (0 : Int32))]) := fun t k => K1 _ (st2 _ k)
  have K3 : own_K p e below SE T2 (mkF m 11 #[.val (.long q0), .second, .unset] [(.int (((64 : Int32) - (own_nlzL q0)) - (11 : Int32))), (.int (0 : Int32))]) := by
    intro t k
    refine K2 _ ?_
    refine XS.isub X2.here hx rfl (hb hby d3_7) rfl ?_
    show own_S p e below T2 (mkF m 8 #[.val (.long q0), .second, .unset] [(.int ((64 : Int32) - (own_nlzL q0))), (.int (0 : Int32))]) _
    refine XS.bipush X2.here hx rfl (hb hby d3_8) ?_
    show own_S p e below T2 (mkF m 10 #[.val (.long q0), .second, .unset] [(.int (11 : Int32)), (.int ((64 : Int32) - (own_nlzL q0))), (.int (0 : Int32))]) _
    refine XS.isub X2.here hx rfl (hb hby d3_10) rfl ?_
    exact k
  obtain ⟨_, _, ⟨T4, L4, k4, n4⟩, -, X4, ⟨Lc4, hQ4, l4, y4, z4⟩, st4⟩ := Jvm.LawKit.callS X2 hx (y := (⟨"java/lang/Math", "max", "(II)I"⟩ : MethodName)) hown (mvT hZ (hw _ (List.mem_of_getElem? (i := 23) rfl))) (mvT hZ (hw _ (List.mem_of_getElem? (i := 24) rfl))) (mvT hZ (hw _ (List.mem_of_getElem? (i := 25) rfl))) (mvT hZ (hw _ (List.mem_of_getElem? (i := 26) rfl))) (by decide) (backOf (W := 0) (rmmxi l Z a0 hw [] (0 : Int32) (((64 : Int32) - (own_nlzL q0)) - (11 : Int32)) h0 n0 Z0) hZ (hw _ (List.mem_of_getElem? (i := 26) rfl)) (hw _ (List.mem_of_getElem? (i := 25) rfl)) (by decide) (by decide)) (g := (mkF m 11 #[.val (.long q0), .second, .unset] [(.int (((64 : Int32) - (own_nlzL q0)) - (11 : Int32))), (.int (0 : Int32))])) rfl (by rw [hml]; rfl) (argsL := [(.int (0 : Int32)), (.int (((64 : Int32) - (own_nlzL q0)) - (11 : Int32)))]) (rest := []) (lenOf pd_bk_1 rfl) rfl (by show 2 * 0 + _ ≤ _; exact Nat.le_of_eq rfl) (hb hby d3_11) (fun _ _ => ⟨rfl, e2, (by decide : 0 + 0 ≤ _), (by decide : 0 + 0 ≤ _)⟩)
  dsimp only [Pt.U, Pt.locs, Pt.cells, Pt.slots] at X4 l4 y4 z4 st4 hQ4
  rw [y4, z4] at X4
  obtain ⟨rfl, Nq4, e4⟩ := hQ4
  have N4 : Fr n0 L4 := by rw [l4]; exact Fr.app N2 Nq4
  have K4 : own_K p e below SE T4 (mkF m 14 #[.val (.long q0), .second, .unset] [(.int (if (0 : Int32) < (((64 : Int32) - (own_nlzL q0)) - (11 : Int32)) then (((64 : Int32) - (own_nlzL q0)) - (11 : Int32)) else (0 : Int32)))]) := fun t k => K3 _ (st4 _ k)
  rw [(show (if (0 : Int32) < (((64 : Int32) - (own_nlzL q0)) - (11 : Int32)) then (((64 : Int32) - (own_nlzL q0)) - (11 : Int32)) else (0 : Int32)) = own_sh q0 from rfl)] at K4
  have K5 : own_K p e below SE T4 (mkF m 24 #[.val (.long q0), .second, .val (.int (own_sh q0))] [(.int (((own_sh q0) <<< ((10 : Int32) &&& 31)) + ((((q0.toUInt64 >>> ((own_sh q0) &&& 0x3f).toInt64.toUInt64).toInt64)).toInt32)))]) := by
    intro t k
    refine K4 _ ?_
    refine XS.istoreN X4.here hx rfl (hb hby d3_14) rfl (l' := #[.val (.long q0), .second, .val (.int (own_sh q0))]) rfl ?_
    show own_S p e below T4 (mkF m 15 #[.val (.long q0), .second, .val (.int (own_sh q0))] []) _
    refine XS.iloadN X4.here hx rfl (hb hby d3_15) rfl ?_
    show own_S p e below T4 (mkF m 16 #[.val (.long q0), .second, .val (.int (own_sh q0))] [(.int (own_sh q0))]) _
    refine XS.bipush X4.here hx rfl (hb hby d3_16) ?_
    show own_S p e below T4 (mkF m 18 #[.val (.long q0), .second, .val (.int (own_sh q0))] [(.int (10 : Int32)), (.int (own_sh q0))]) _
    refine XS.ishl X4.here hx rfl (hb hby d3_18) rfl ?_
    show own_S p e below T4 (mkF m 19 #[.val (.long q0), .second, .val (.int (own_sh q0))] [(.int ((own_sh q0) <<< ((10 : Int32) &&& 31)))]) _
    refine XS.lloadN X4.here hx rfl (hb hby d3_19) rfl ?_
    show own_S p e below T4 (mkF m 20 #[.val (.long q0), .second, .val (.int (own_sh q0))] [(.long q0), (.int ((own_sh q0) <<< ((10 : Int32) &&& 31)))]) _
    refine XS.iloadN X4.here hx rfl (hb hby d3_20) rfl ?_
    show own_S p e below T4 (mkF m 21 #[.val (.long q0), .second, .val (.int (own_sh q0))] [(.int (own_sh q0)), (.long q0), (.int ((own_sh q0) <<< ((10 : Int32) &&& 31)))]) _
    refine XS.lushr X4.here hx rfl (hb hby d3_21) rfl ?_
    show own_S p e below T4 (mkF m 22 #[.val (.long q0), .second, .val (.int (own_sh q0))] [(.long ((q0.toUInt64 >>> ((own_sh q0) &&& 0x3f).toInt64.toUInt64).toInt64)), (.int ((own_sh q0) <<< ((10 : Int32) &&& 31)))]) _
    refine XS.l2i X4.here hx rfl (hb hby d3_22) rfl ?_
    show own_S p e below T4 (mkF m 23 #[.val (.long q0), .second, .val (.int (own_sh q0))] [(.int ((((q0.toUInt64 >>> ((own_sh q0) &&& 0x3f).toInt64.toUInt64).toInt64)).toInt32)), (.int ((own_sh q0) <<< ((10 : Int32) &&& 31)))]) _
    refine XS.iadd X4.here hx rfl (hb hby d3_23) rfl ?_
    exact k
  obtain ⟨fs, hr, hrun, hended, hW, hsame⟩ := X4.leave (v := some (.int (((own_sh q0) <<< ((10 : Int32) &&& 31)) + ((((q0.toUInt64 >>> ((own_sh q0) &&& 0x3f).toInt64.toUInt64).toInt64)).toInt32)))) (fun h => by rw [Bd.returns] at h; cases h)
  refine ⟨_, _, K5 _ ?_, hrun, hended, _, _, rfl, ?_, ⟨_, rfl⟩, hW, hsame.mono (by decide) (by decide)⟩
  · exact retI X4 hx Bd.returns (hb hby d3_24) hr
  · show Qbk Z q0 h0 n0 _ T4.heap _
    rw [e4]
    exact ⟨rfl, N4, rfl⟩
theorem own_g (i n B s c : Int32) (k : Nat) (hk : k < 32) (hB : B.toInt = 2 ^ k) (hs : ((s &&& 31).toUInt32).toNat = k) (hc : c.toInt = -(k : Int)) (hi : 0 ≤ i.toInt) (hn : (k : Int) ≤ n.toInt) (hn2 : n.toInt ≤ 31) :
    ((own_si B s i).toInt = i.toInt ∧ (own_sn B c i n).toInt = n.toInt ∧ i.toInt < 2 ^ k) ∨ ((own_si B s i).toInt = i.toInt / 2 ^ k ∧ (own_sn B c i n).toInt = n.toInt - k ∧ 2 ^ k ≤ i.toInt) := by
  unfold own_si own_sn
  by_cases q : i < B
  · rw [if_pos q, if_pos q]
    refine Or.inl ⟨rfl, rfl, ?_⟩
    rw [Int32.lt_iff_toInt_lt, hB] at q
    exact q
  · rw [if_neg q, if_neg q]
    refine Or.inr ⟨Jvm.Kit.i32_iushr (Jvm.Kit.i32_nonneg.mpr hi) hs hk, ?_, ?_⟩
    · have := Jvm.Kit.i32_add (p := n) (q := c) (by rw [hc]; omega) (by rw [hc]; omega)
      rw [this, hc]; omega
    · rw [Int32.lt_iff_toInt_lt, hB] at q
      omega
theorem own_nlz_ok (p : Int32) (h : 0 ≤ p.toInt) : ∃ N : Nat, (own_nlz p).toInt = N ∧ 1 ≤ N ∧ N ≤ 32 ∧ p.toInt.toNat < 2 ^ (32 - N) := by
  have z0 : (0 : Int32).toInt = 0 := by decide
  by_cases hp : 0 < p
  · have hp0 : 0 < p.toInt := by rw [Int32.lt_iff_toInt_lt, z0] at hp; exact hp
    have hp1 := Int32.toInt_lt p
    have y0 : (own_I0 p).toInt = p.toInt := rfl
    have w0 : (own_N0 p).toInt = 31 := by show (31 : Int32).toInt = 31; decide
    have key : 0 ≤ (own_I4 p).toInt → (own_I4 p).toInt ≤ 3 → 1 ≤ (own_N4 p).toInt → (own_N4 p).toInt ≤ 31 → (own_nlz p).toInt = (own_N4 p).toInt - (own_I4 p).toInt / 2 := by
      intro k1 k2 k3 k4
      unfold own_nlz
      rw [if_pos hp]
      have e1 : (((own_I4 p).toUInt32 >>> ((1 : Int32) &&& 31).toUInt32).toInt32).toInt = (own_I4 p).toInt / 2 ^ 1 := Jvm.Kit.i32_iushr (Jvm.Kit.i32_nonneg.mpr k1) (k := 1) (by decide) (by decide)
      rw [show ((2 : Int) ^ 1) = 2 from by decide] at e1
      have := Jvm.Kit.i32_sub (p := own_N4 p) (q := (((own_I4 p).toUInt32 >>> ((1 : Int32) &&& 31).toUInt32).toInt32)) (by rw [e1]; omega) (by rw [e1]; omega)
      rw [this, e1]
    have g1 := own_g (own_I0 p) (own_N0 p) (65536 : Int32) (16 : Int32) (-16 : Int32) 16 (by decide) (by decide) (by decide) (by decide) (by omega) (by omega) (by omega)
    have hv1 : (own_I1 p).toInt = (own_si (65536 : Int32) (16 : Int32) (own_I0 p)).toInt := rfl
    have hw1 : (own_N1 p).toInt = (own_sn (65536 : Int32) (-16 : Int32) (own_I0 p) (own_N0 p)).toInt := rfl
    rw [← hv1, ← hw1, show ((2 : Int) ^ 16) = 65536 from by decide] at g1
    rcases g1 with ⟨a1, b1, c1⟩ | ⟨a1, b1, c1⟩
    · skip
      have g2 := own_g (own_I1 p) (own_N1 p) (256 : Int32) (8 : Int32) (-8 : Int32) 8 (by decide) (by decide) (by decide) (by decide) (by omega) (by omega) (by omega)
      have hv2 : (own_I2 p).toInt = (own_si (256 : Int32) (8 : Int32) (own_I1 p)).toInt := rfl
      have hw2 : (own_N2 p).toInt = (own_sn (256 : Int32) (-8 : Int32) (own_I1 p) (own_N1 p)).toInt := rfl
      rw [← hv2, ← hw2, show ((2 : Int) ^ 8) = 256 from by decide] at g2
      rcases g2 with ⟨a2, b2, c2⟩ | ⟨a2, b2, c2⟩
      · skip
        have g3 := own_g (own_I2 p) (own_N2 p) (16 : Int32) (4 : Int32) (-4 : Int32) 4 (by decide) (by decide) (by decide) (by decide) (by omega) (by omega) (by omega)
        have hv3 : (own_I3 p).toInt = (own_si (16 : Int32) (4 : Int32) (own_I2 p)).toInt := rfl
        have hw3 : (own_N3 p).toInt = (own_sn (16 : Int32) (-4 : Int32) (own_I2 p) (own_N2 p)).toInt := rfl
        rw [← hv3, ← hw3, show ((2 : Int) ^ 4) = 16 from by decide] at g3
        rcases g3 with ⟨a3, b3, c3⟩ | ⟨a3, b3, c3⟩
        · skip
          have g4 := own_g (own_I3 p) (own_N3 p) (4 : Int32) (2 : Int32) (-2 : Int32) 2 (by decide) (by decide) (by decide) (by decide) (by omega) (by omega) (by omega)
          have hv4 : (own_I4 p).toInt = (own_si (4 : Int32) (2 : Int32) (own_I3 p)).toInt := rfl
          have hw4 : (own_N4 p).toInt = (own_sn (4 : Int32) (-2 : Int32) (own_I3 p) (own_N3 p)).toInt := rfl
          rw [← hv4, ← hw4, show ((2 : Int) ^ 2) = 4 from by decide] at g4
          rcases g4 with ⟨a4, b4, c4⟩ | ⟨a4, b4, c4⟩
          · skip
            have es := key (by omega) (by omega) (by omega) (by omega)
            have q : (own_I4 p).toInt / 2 = 0 ∨ (own_I4 p).toInt / 2 = 1 := by omega
            rcases q with q | q
            · exact ⟨31, by rw [es]; omega, by decide, by decide, by rw [show (2 : Nat) ^ (32 - 31) = 2 from by decide]; omega⟩
            · exact ⟨30, by rw [es]; omega, by decide, by decide, by rw [show (2 : Nat) ^ (32 - 30) = 4 from by decide]; omega⟩
          · skip
            have es := key (by omega) (by omega) (by omega) (by omega)
            have q : (own_I4 p).toInt / 2 = 0 ∨ (own_I4 p).toInt / 2 = 1 := by omega
            rcases q with q | q
            · exact ⟨29, by rw [es]; omega, by decide, by decide, by rw [show (2 : Nat) ^ (32 - 29) = 8 from by decide]; omega⟩
            · exact ⟨28, by rw [es]; omega, by decide, by decide, by rw [show (2 : Nat) ^ (32 - 28) = 16 from by decide]; omega⟩
        · skip
          have g4 := own_g (own_I3 p) (own_N3 p) (4 : Int32) (2 : Int32) (-2 : Int32) 2 (by decide) (by decide) (by decide) (by decide) (by omega) (by omega) (by omega)
          have hv4 : (own_I4 p).toInt = (own_si (4 : Int32) (2 : Int32) (own_I3 p)).toInt := rfl
          have hw4 : (own_N4 p).toInt = (own_sn (4 : Int32) (-2 : Int32) (own_I3 p) (own_N3 p)).toInt := rfl
          rw [← hv4, ← hw4, show ((2 : Int) ^ 2) = 4 from by decide] at g4
          rcases g4 with ⟨a4, b4, c4⟩ | ⟨a4, b4, c4⟩
          · skip
            have es := key (by omega) (by omega) (by omega) (by omega)
            have q : (own_I4 p).toInt / 2 = 0 ∨ (own_I4 p).toInt / 2 = 1 := by omega
            rcases q with q | q
            · exact ⟨27, by rw [es]; omega, by decide, by decide, by rw [show (2 : Nat) ^ (32 - 27) = 32 from by decide]; omega⟩
            · exact ⟨26, by rw [es]; omega, by decide, by decide, by rw [show (2 : Nat) ^ (32 - 26) = 64 from by decide]; omega⟩
          · skip
            have es := key (by omega) (by omega) (by omega) (by omega)
            have q : (own_I4 p).toInt / 2 = 0 ∨ (own_I4 p).toInt / 2 = 1 := by omega
            rcases q with q | q
            · exact ⟨25, by rw [es]; omega, by decide, by decide, by rw [show (2 : Nat) ^ (32 - 25) = 128 from by decide]; omega⟩
            · exact ⟨24, by rw [es]; omega, by decide, by decide, by rw [show (2 : Nat) ^ (32 - 24) = 256 from by decide]; omega⟩
      · skip
        have g3 := own_g (own_I2 p) (own_N2 p) (16 : Int32) (4 : Int32) (-4 : Int32) 4 (by decide) (by decide) (by decide) (by decide) (by omega) (by omega) (by omega)
        have hv3 : (own_I3 p).toInt = (own_si (16 : Int32) (4 : Int32) (own_I2 p)).toInt := rfl
        have hw3 : (own_N3 p).toInt = (own_sn (16 : Int32) (-4 : Int32) (own_I2 p) (own_N2 p)).toInt := rfl
        rw [← hv3, ← hw3, show ((2 : Int) ^ 4) = 16 from by decide] at g3
        rcases g3 with ⟨a3, b3, c3⟩ | ⟨a3, b3, c3⟩
        · skip
          have g4 := own_g (own_I3 p) (own_N3 p) (4 : Int32) (2 : Int32) (-2 : Int32) 2 (by decide) (by decide) (by decide) (by decide) (by omega) (by omega) (by omega)
          have hv4 : (own_I4 p).toInt = (own_si (4 : Int32) (2 : Int32) (own_I3 p)).toInt := rfl
          have hw4 : (own_N4 p).toInt = (own_sn (4 : Int32) (-2 : Int32) (own_I3 p) (own_N3 p)).toInt := rfl
          rw [← hv4, ← hw4, show ((2 : Int) ^ 2) = 4 from by decide] at g4
          rcases g4 with ⟨a4, b4, c4⟩ | ⟨a4, b4, c4⟩
          · skip
            have es := key (by omega) (by omega) (by omega) (by omega)
            have q : (own_I4 p).toInt / 2 = 0 ∨ (own_I4 p).toInt / 2 = 1 := by omega
            rcases q with q | q
            · exact ⟨23, by rw [es]; omega, by decide, by decide, by rw [show (2 : Nat) ^ (32 - 23) = 512 from by decide]; omega⟩
            · exact ⟨22, by rw [es]; omega, by decide, by decide, by rw [show (2 : Nat) ^ (32 - 22) = 1024 from by decide]; omega⟩
          · skip
            have es := key (by omega) (by omega) (by omega) (by omega)
            have q : (own_I4 p).toInt / 2 = 0 ∨ (own_I4 p).toInt / 2 = 1 := by omega
            rcases q with q | q
            · exact ⟨21, by rw [es]; omega, by decide, by decide, by rw [show (2 : Nat) ^ (32 - 21) = 2048 from by decide]; omega⟩
            · exact ⟨20, by rw [es]; omega, by decide, by decide, by rw [show (2 : Nat) ^ (32 - 20) = 4096 from by decide]; omega⟩
        · skip
          have g4 := own_g (own_I3 p) (own_N3 p) (4 : Int32) (2 : Int32) (-2 : Int32) 2 (by decide) (by decide) (by decide) (by decide) (by omega) (by omega) (by omega)
          have hv4 : (own_I4 p).toInt = (own_si (4 : Int32) (2 : Int32) (own_I3 p)).toInt := rfl
          have hw4 : (own_N4 p).toInt = (own_sn (4 : Int32) (-2 : Int32) (own_I3 p) (own_N3 p)).toInt := rfl
          rw [← hv4, ← hw4, show ((2 : Int) ^ 2) = 4 from by decide] at g4
          rcases g4 with ⟨a4, b4, c4⟩ | ⟨a4, b4, c4⟩
          · skip
            have es := key (by omega) (by omega) (by omega) (by omega)
            have q : (own_I4 p).toInt / 2 = 0 ∨ (own_I4 p).toInt / 2 = 1 := by omega
            rcases q with q | q
            · exact ⟨19, by rw [es]; omega, by decide, by decide, by rw [show (2 : Nat) ^ (32 - 19) = 8192 from by decide]; omega⟩
            · exact ⟨18, by rw [es]; omega, by decide, by decide, by rw [show (2 : Nat) ^ (32 - 18) = 16384 from by decide]; omega⟩
          · skip
            have es := key (by omega) (by omega) (by omega) (by omega)
            have q : (own_I4 p).toInt / 2 = 0 ∨ (own_I4 p).toInt / 2 = 1 := by omega
            rcases q with q | q
            · exact ⟨17, by rw [es]; omega, by decide, by decide, by rw [show (2 : Nat) ^ (32 - 17) = 32768 from by decide]; omega⟩
            · exact ⟨16, by rw [es]; omega, by decide, by decide, by rw [show (2 : Nat) ^ (32 - 16) = 65536 from by decide]; omega⟩
    · skip
      have g2 := own_g (own_I1 p) (own_N1 p) (256 : Int32) (8 : Int32) (-8 : Int32) 8 (by decide) (by decide) (by decide) (by decide) (by omega) (by omega) (by omega)
      have hv2 : (own_I2 p).toInt = (own_si (256 : Int32) (8 : Int32) (own_I1 p)).toInt := rfl
      have hw2 : (own_N2 p).toInt = (own_sn (256 : Int32) (-8 : Int32) (own_I1 p) (own_N1 p)).toInt := rfl
      rw [← hv2, ← hw2, show ((2 : Int) ^ 8) = 256 from by decide] at g2
      rcases g2 with ⟨a2, b2, c2⟩ | ⟨a2, b2, c2⟩
      · skip
        have g3 := own_g (own_I2 p) (own_N2 p) (16 : Int32) (4 : Int32) (-4 : Int32) 4 (by decide) (by decide) (by decide) (by decide) (by omega) (by omega) (by omega)
        have hv3 : (own_I3 p).toInt = (own_si (16 : Int32) (4 : Int32) (own_I2 p)).toInt := rfl
        have hw3 : (own_N3 p).toInt = (own_sn (16 : Int32) (-4 : Int32) (own_I2 p) (own_N2 p)).toInt := rfl
        rw [← hv3, ← hw3, show ((2 : Int) ^ 4) = 16 from by decide] at g3
        rcases g3 with ⟨a3, b3, c3⟩ | ⟨a3, b3, c3⟩
        · skip
          have g4 := own_g (own_I3 p) (own_N3 p) (4 : Int32) (2 : Int32) (-2 : Int32) 2 (by decide) (by decide) (by decide) (by decide) (by omega) (by omega) (by omega)
          have hv4 : (own_I4 p).toInt = (own_si (4 : Int32) (2 : Int32) (own_I3 p)).toInt := rfl
          have hw4 : (own_N4 p).toInt = (own_sn (4 : Int32) (-2 : Int32) (own_I3 p) (own_N3 p)).toInt := rfl
          rw [← hv4, ← hw4, show ((2 : Int) ^ 2) = 4 from by decide] at g4
          rcases g4 with ⟨a4, b4, c4⟩ | ⟨a4, b4, c4⟩
          · skip
            have es := key (by omega) (by omega) (by omega) (by omega)
            have q : (own_I4 p).toInt / 2 = 0 ∨ (own_I4 p).toInt / 2 = 1 := by omega
            rcases q with q | q
            · exact ⟨15, by rw [es]; omega, by decide, by decide, by rw [show (2 : Nat) ^ (32 - 15) = 131072 from by decide]; omega⟩
            · exact ⟨14, by rw [es]; omega, by decide, by decide, by rw [show (2 : Nat) ^ (32 - 14) = 262144 from by decide]; omega⟩
          · skip
            have es := key (by omega) (by omega) (by omega) (by omega)
            have q : (own_I4 p).toInt / 2 = 0 ∨ (own_I4 p).toInt / 2 = 1 := by omega
            rcases q with q | q
            · exact ⟨13, by rw [es]; omega, by decide, by decide, by rw [show (2 : Nat) ^ (32 - 13) = 524288 from by decide]; omega⟩
            · exact ⟨12, by rw [es]; omega, by decide, by decide, by rw [show (2 : Nat) ^ (32 - 12) = 1048576 from by decide]; omega⟩
        · skip
          have g4 := own_g (own_I3 p) (own_N3 p) (4 : Int32) (2 : Int32) (-2 : Int32) 2 (by decide) (by decide) (by decide) (by decide) (by omega) (by omega) (by omega)
          have hv4 : (own_I4 p).toInt = (own_si (4 : Int32) (2 : Int32) (own_I3 p)).toInt := rfl
          have hw4 : (own_N4 p).toInt = (own_sn (4 : Int32) (-2 : Int32) (own_I3 p) (own_N3 p)).toInt := rfl
          rw [← hv4, ← hw4, show ((2 : Int) ^ 2) = 4 from by decide] at g4
          rcases g4 with ⟨a4, b4, c4⟩ | ⟨a4, b4, c4⟩
          · skip
            have es := key (by omega) (by omega) (by omega) (by omega)
            have q : (own_I4 p).toInt / 2 = 0 ∨ (own_I4 p).toInt / 2 = 1 := by omega
            rcases q with q | q
            · exact ⟨11, by rw [es]; omega, by decide, by decide, by rw [show (2 : Nat) ^ (32 - 11) = 2097152 from by decide]; omega⟩
            · exact ⟨10, by rw [es]; omega, by decide, by decide, by rw [show (2 : Nat) ^ (32 - 10) = 4194304 from by decide]; omega⟩
          · skip
            have es := key (by omega) (by omega) (by omega) (by omega)
            have q : (own_I4 p).toInt / 2 = 0 ∨ (own_I4 p).toInt / 2 = 1 := by omega
            rcases q with q | q
            · exact ⟨9, by rw [es]; omega, by decide, by decide, by rw [show (2 : Nat) ^ (32 - 9) = 8388608 from by decide]; omega⟩
            · exact ⟨8, by rw [es]; omega, by decide, by decide, by rw [show (2 : Nat) ^ (32 - 8) = 16777216 from by decide]; omega⟩
      · skip
        have g3 := own_g (own_I2 p) (own_N2 p) (16 : Int32) (4 : Int32) (-4 : Int32) 4 (by decide) (by decide) (by decide) (by decide) (by omega) (by omega) (by omega)
        have hv3 : (own_I3 p).toInt = (own_si (16 : Int32) (4 : Int32) (own_I2 p)).toInt := rfl
        have hw3 : (own_N3 p).toInt = (own_sn (16 : Int32) (-4 : Int32) (own_I2 p) (own_N2 p)).toInt := rfl
        rw [← hv3, ← hw3, show ((2 : Int) ^ 4) = 16 from by decide] at g3
        rcases g3 with ⟨a3, b3, c3⟩ | ⟨a3, b3, c3⟩
        · skip
          have g4 := own_g (own_I3 p) (own_N3 p) (4 : Int32) (2 : Int32) (-2 : Int32) 2 (by decide) (by decide) (by decide) (by decide) (by omega) (by omega) (by omega)
          have hv4 : (own_I4 p).toInt = (own_si (4 : Int32) (2 : Int32) (own_I3 p)).toInt := rfl
          have hw4 : (own_N4 p).toInt = (own_sn (4 : Int32) (-2 : Int32) (own_I3 p) (own_N3 p)).toInt := rfl
          rw [← hv4, ← hw4, show ((2 : Int) ^ 2) = 4 from by decide] at g4
          rcases g4 with ⟨a4, b4, c4⟩ | ⟨a4, b4, c4⟩
          · skip
            have es := key (by omega) (by omega) (by omega) (by omega)
            have q : (own_I4 p).toInt / 2 = 0 ∨ (own_I4 p).toInt / 2 = 1 := by omega
            rcases q with q | q
            · exact ⟨7, by rw [es]; omega, by decide, by decide, by rw [show (2 : Nat) ^ (32 - 7) = 33554432 from by decide]; omega⟩
            · exact ⟨6, by rw [es]; omega, by decide, by decide, by rw [show (2 : Nat) ^ (32 - 6) = 67108864 from by decide]; omega⟩
          · skip
            have es := key (by omega) (by omega) (by omega) (by omega)
            have q : (own_I4 p).toInt / 2 = 0 ∨ (own_I4 p).toInt / 2 = 1 := by omega
            rcases q with q | q
            · exact ⟨5, by rw [es]; omega, by decide, by decide, by rw [show (2 : Nat) ^ (32 - 5) = 134217728 from by decide]; omega⟩
            · exact ⟨4, by rw [es]; omega, by decide, by decide, by rw [show (2 : Nat) ^ (32 - 4) = 268435456 from by decide]; omega⟩
        · skip
          have g4 := own_g (own_I3 p) (own_N3 p) (4 : Int32) (2 : Int32) (-2 : Int32) 2 (by decide) (by decide) (by decide) (by decide) (by omega) (by omega) (by omega)
          have hv4 : (own_I4 p).toInt = (own_si (4 : Int32) (2 : Int32) (own_I3 p)).toInt := rfl
          have hw4 : (own_N4 p).toInt = (own_sn (4 : Int32) (-2 : Int32) (own_I3 p) (own_N3 p)).toInt := rfl
          rw [← hv4, ← hw4, show ((2 : Int) ^ 2) = 4 from by decide] at g4
          rcases g4 with ⟨a4, b4, c4⟩ | ⟨a4, b4, c4⟩
          · skip
            have es := key (by omega) (by omega) (by omega) (by omega)
            have q : (own_I4 p).toInt / 2 = 0 ∨ (own_I4 p).toInt / 2 = 1 := by omega
            rcases q with q | q
            · exact ⟨3, by rw [es]; omega, by decide, by decide, by rw [show (2 : Nat) ^ (32 - 3) = 536870912 from by decide]; omega⟩
            · exact ⟨2, by rw [es]; omega, by decide, by decide, by rw [show (2 : Nat) ^ (32 - 2) = 1073741824 from by decide]; omega⟩
          · skip
            have es := key (by omega) (by omega) (by omega) (by omega)
            have q : (own_I4 p).toInt / 2 = 0 ∨ (own_I4 p).toInt / 2 = 1 := by omega
            rcases q with q | q
            · exact ⟨1, by rw [es]; omega, by decide, by decide, by rw [show (2 : Nat) ^ (32 - 1) = 2147483648 from by decide]; omega⟩
            · exfalso; omega
  · have e : p = 0 := Int32.toInt_inj.mp (by rw [Int32.lt_iff_toInt_lt, z0] at hp; rw [z0]; omega)
    subst e
    exact ⟨32, by decide, by decide, by decide, by decide⟩

theorem own_u64 {x : Int64} (h : 0 ≤ x.toInt) : (x.toUInt64.toNat : Int) = x.toInt := by
  have hb := x.toBitVec.isLt
  have e0 : x.toUInt64.toNat = x.toBitVec.toNat := rfl
  have : x.toInt = x.toBitVec.toInt := rfl
  rw [this, BitVec.toInt_eq_toNat_cond] at h ⊢
  rw [e0]
  by_cases hc : 2 * x.toBitVec.toNat < 2 ^ 64
  · rw [if_pos hc]
  · rw [if_neg hc] at h; omega
theorem own_shk {s : Int32} (h0 : 0 ≤ s.toInt) (h1 : s.toInt < 64) : ((s &&& 0x3f).toInt64.toUInt64).toNat = s.toInt.toNat := by
  have e1 : (s &&& (63 : Int32)).toInt = s.toInt % 2 ^ 6 := Jvm.Kit.i32_mask s 63 (k := 6) (by decide) (by decide)
  have e2 : (s &&& (63 : Int32)).toInt64.toInt = (s &&& (63 : Int32)).toInt := Jvm.Kit.i64_of_i32 _
  have e3 := own_u64 (x := (s &&& (63 : Int32)).toInt64) (by rw [e2, e1]; omega)
  rw [e2, e1] at e3
  have e4 : ((s &&& 0x3f).toInt64.toUInt64).toNat = ((s &&& (63 : Int32)).toInt64.toUInt64).toNat := rfl
  rw [e4]; omega
theorem own_hi {q0 : Int64} (h : 0 ≤ q0.toInt) : (((((q0.toUInt64 >>> ((32 : Int32) &&& 0x3f).toInt64.toUInt64).toInt64)).toInt32)).toInt = q0.toInt / 4294967296 := by
  have hl := Int64.toInt_lt q0
  have e1 : (((q0.toUInt64 >>> ((32 : Int32) &&& 0x3f).toInt64.toUInt64).toInt64)).toInt = q0.toInt / 2 ^ 32 := Jvm.Kit.i64_lushr (Jvm.Kit.i64_nonneg.mpr h) (k := 32) (by decide) (by decide)
  rw [show ((2 : Int) ^ 32) = 4294967296 from by decide] at e1
  have e2 := Jvm.Kit.i32_of_i64 (x := ((q0.toUInt64 >>> ((32 : Int32) &&& 0x3f).toInt64.toUInt64).toInt64)) (by rw [e1]; omega) (by rw [e1]; omega)
  rw [e2, e1]
theorem own_nlzL_ok (q0 : Int64) (h : 0 ≤ q0.toInt) : ∃ N : Nat, (own_nlzL q0).toInt = N ∧ 1 ≤ N ∧ N ≤ 64 ∧ q0.toInt.toNat < 2 ^ (64 - N) := by
  have z0 : (0 : Int32).toInt = 0 := by decide
  have eh := own_hi h
  have hl := Int64.toInt_lt q0
  unfold own_nlzL
  by_cases q : ((((q0.toUInt64 >>> ((32 : Int32) &&& 0x3f).toInt64.toUInt64).toInt64)).toInt32) = 0
  · rw [if_pos q]
    rw [q, z0] at eh
    have z32 : (32 : Int32).toInt = 32 := by decide
    by_cases w : q0.toInt < 2147483648
    · have e1 : (q0.toInt32).toInt = q0.toInt := Jvm.Kit.i32_of_i64 (by omega) (by omega)
      obtain ⟨N, n1, n2, n3, n4⟩ := own_nlz_ok (q0.toInt32) (by rw [e1]; exact h)
      rw [e1] at n4
      have e2 := Jvm.Kit.i32_add (p := (32 : Int32)) (q := own_nlz (q0.toInt32)) (by rw [z32, n1]; omega) (by rw [z32, n1]; omega)
      refine ⟨32 + N, ?_, by omega, by omega, ?_⟩
      · have : (((32 : Int32) + (own_nlz ((q0).toInt32)))).toInt = (32 : Int32).toInt + (own_nlz (q0.toInt32)).toInt := e2
        rw [this, z32, n1]; omega
      · rw [show 64 - (32 + N) = 32 - N from by omega]; exact n4
    · have e1 : (q0.toInt32).toInt = q0.toInt - 4294967296 := by
        rw [Int64.toInt_toInt32, Int.bmod_def]
        have : q0.toInt % ((2 ^ 32 : Nat) : Int) = q0.toInt := Int.emod_eq_of_lt h (by omega)
        rw [this]
        split <;> omega
      have e2 : own_nlz (q0.toInt32) = (0 : Int32) := by
        unfold own_nlz
        rw [if_neg (by rw [Int32.lt_iff_toInt_lt, z0, e1]; omega), if_neg (fun k => by have := congrArg Int32.toInt k; rw [e1, z0] at this; omega)]
      refine ⟨32, ?_, by decide, by decide, ?_⟩
      · show ((32 : Int32) + own_nlz (q0.toInt32)).toInt = _
        rw [e2]; decide
      · rw [show (2 : Nat) ^ (64 - 32) = 4294967296 from by decide]; omega
  · rw [if_neg q]
    obtain ⟨N, n1, n2, n3, n4⟩ := own_nlz_ok (((((q0.toUInt64 >>> ((32 : Int32) &&& 0x3f).toInt64.toUInt64).toInt64)).toInt32)) (by rw [eh]; omega)
    rw [eh] at n4
    refine ⟨N, n1, n2, by omega, ?_⟩
    have e5 : (2 : Nat) ^ (64 - N) = 2 ^ (32 - N) * 4294967296 := by
      rw [show 64 - N = (32 - N) + 32 from by omega, Nat.pow_add]
    rw [e5]
    have e6 : (q0.toInt / 4294967296).toNat + 1 ≤ 2 ^ (32 - N) := n4
    have e7 := Nat.mul_le_mul_right 4294967296 e6
    omega
theorem own_sh_ok (q0 : Int64) (h : 0 ≤ q0.toInt) : 0 ≤ (own_sh q0).toInt ∧ (own_sh q0).toInt ≤ 52 ∧ q0.toInt.toNat < 2 ^ ((own_sh q0).toInt.toNat + 11) := by
  obtain ⟨N, n1, n2, n3, n4⟩ := own_nlzL_ok q0 h
  have z0 : (0 : Int32).toInt = 0 := by decide
  have z64 : (64 : Int32).toInt = 64 := by decide
  have z11 : (11 : Int32).toInt = 11 := by decide
  have e1 := Jvm.Kit.i32_sub (p := (64 : Int32)) (q := own_nlzL q0) (by rw [z64, n1]; omega) (by rw [z64, n1]; omega)
  have e2 := Jvm.Kit.i32_sub (p := (64 : Int32) - own_nlzL q0) (q := (11 : Int32)) (by rw [e1, z64, n1, z11]; omega) (by rw [e1, z64, n1, z11]; omega)
  rw [e1, z64, n1, z11] at e2
  unfold own_sh
  by_cases q : (0 : Int32) < (((64 : Int32) - (own_nlzL q0)) - (11 : Int32))
  · rw [if_pos q]
    rw [Int32.lt_iff_toInt_lt, z0] at q
    refine ⟨by omega, by omega, ?_⟩
    rw [e2] at q ⊢
    rw [show ((64 : Int) - (N : Int) - 11).toNat + 11 = 64 - N from by omega]
    exact n4
  · rw [if_neg q, z0]
    rw [Int32.lt_iff_toInt_lt, z0, e2] at q
    refine ⟨by omega, by omega, Nat.lt_of_lt_of_le n4 (Nat.pow_le_pow_right (by decide) ?_)⟩
    show 64 - N ≤ 0 + 11
    omega
theorem own_bucket_ok (q0 : Int64) (h : 0 ≤ q0.toInt) : ¬ own_bucket q0 < 0 ∧ own_bucket q0 < (55296 : Int32) := by
  obtain ⟨s1, s2, s3⟩ := own_sh_ok q0 h
  have e1 : (((q0.toUInt64 >>> ((own_sh q0) &&& 0x3f).toInt64.toUInt64).toInt64)).toInt = q0.toInt / 2 ^ (own_sh q0).toInt.toNat := Jvm.Kit.i64_lushr (Jvm.Kit.i64_nonneg.mpr h) (own_shk s1 (by omega)) (by omega)
  have e2 : q0.toInt.toNat / 2 ^ (own_sh q0).toInt.toNat < 2048 := by
    apply Nat.div_lt_of_lt_mul
    rw [Nat.pow_add] at s3
    exact s3
  have e3 : q0.toInt / 2 ^ (own_sh q0).toInt.toNat = ((q0.toInt.toNat / 2 ^ (own_sh q0).toInt.toNat : Nat) : Int) := by
    rw [Int.natCast_ediv, Int.toNat_of_nonneg h, Int.natCast_pow]; rfl
  rw [e3] at e1
  generalize q0.toInt.toNat / 2 ^ (own_sh q0).toInt.toNat = r at e1 e2
  have e4 := Jvm.Kit.i32_of_i64 (x := ((q0.toUInt64 >>> ((own_sh q0) &&& 0x3f).toInt64.toUInt64).toInt64)) (by rw [e1]; omega) (by rw [e1]; omega)
  have e5 : ((own_sh q0) <<< ((10 : Int32) &&& 31)).toInt = (own_sh q0).toInt * 2 ^ 10 := Jvm.Kit.i32_shl (own_sh q0) ((10 : Int32) &&& 31) (k := 10) (by decide) (by omega) (by omega)
  have e6 := Jvm.Kit.i32_add (p := (own_sh q0) <<< ((10 : Int32) &&& 31)) (q := (((q0.toUInt64 >>> ((own_sh q0) &&& 0x3f).toInt64.toUInt64).toInt64)).toInt32) (by rw [e5, e4, e1]; omega) (by rw [e5, e4, e1]; omega)
  have e7 : (own_bucket q0).toInt = (own_sh q0).toInt * 2 ^ 10 + (r : Int) := by
    unfold own_bucket
    rw [e6, e5, e4, e1]
  exact own_rng (by rw [e7]; omega) (by rw [e7]; omega)
theorem own_bucket_max : own_bucket (9223372036854775807 : Int64) = (55295 : Int32) := by decide +kernel
def own_bk (q : Int64) : Int32 := own_bucket ((if (0 : Int64) < q then q else (0 : Int64)) / (1000 : Int64))
theorem own_bk_ok (q : Int64) : ¬ own_bk q < 0 ∧ own_bk q < (55296 : Int32) := by
  apply own_bucket_ok
  have z0 : (0 : Int64).toInt = 0 := by decide
  have z1 : (1000 : Int64).toInt = 1000 := by decide
  have h0 : 0 ≤ ((if (0 : Int64) < q then q else (0 : Int64))).toInt := by
    by_cases w : (0 : Int64) < q
    · rw [if_pos w]; rw [Int64.lt_iff_toInt_lt, z0] at w; omega
    · rw [if_neg w, z0]; omega
  have e := Jvm.Kit.i64_div (x := (if (0 : Int64) < q then q else (0 : Int64))) (y := (1000 : Int64)) (by rw [z1]; omega)
  rw [e, z1]
  exact Int.tdiv_nonneg h0 (by decide)
theorem d1_0 : decode prog_7_method_1_code 0 = .ok (.aload_n 0, 1) := by decide +kernel
theorem d1_1 : decode prog_7_method_1_code 1 = .ok (.invokespecial 3, 3) := by decide +kernel
theorem d1_4 : decode prog_7_method_1_code 4 = .ok (.aload_n 0, 1) := by decide +kernel
theorem d1_5 : decode prog_7_method_1_code 5 = .ok (.ldc2_w 11, 3) := by decide +kernel
theorem d1_8 : decode prog_7_method_1_code 8 = .ok (.invokestatic 13, 3) := by decide +kernel
theorem d1_11 : decode prog_7_method_1_code 11 = .ok (.iconst 1, 1) := by decide +kernel
theorem d1_12 : decode prog_7_method_1_code 12 = .ok (.iadd, 1) := by decide +kernel
theorem d1_13 : decode prog_7_method_1_code 13 = .ok (.newarray .long, 2) := by decide +kernel
theorem d1_15 : decode prog_7_method_1_code 15 = .ok (.putfield 17, 3) := by decide +kernel
theorem d1_18 : decode prog_7_method_1_code 18 = .ok (.return_, 1) := by decide +kernel
theorem pd_ti_0 : parseMethodDescriptor "(J)I" = some ⟨[.long], some .int⟩ := by decide +kernel
theorem ef_ti (m : MethodId) (r0 : Addr) : entryFrame m #[(.ref r0)] 1 = mkF m 0 #[.val (.ref r0)] [] := by first | (simp [entryFrame, mkF, argsToLocals, Value.category]; done) | rfl
def Qti (Z : State) (r0 : Addr) (h0 : Heap) (n0 : Nat) (v : Option Value) (h : Heap) (L : List Loc) : Prop := v = none ∧ Fr n0 L ∧ Keep h0 h [r0] ∧ Exa Z h r0 "com/example/convene/convene/bench/Latencies" ∧ Fld Z h r0 "com/example/convene/convene/bench/Latencies" "total" "J" (.long (0 : Int64)) ∧ ∃ ea : Addr, h0.size ≤ ea ∧ Fld Z h r0 "com/example/convene/convene/bench/Latencies" "counts" "[J" (.ref ea) ∧ own_A Z h ea own_z
set_option maxRecDepth 65536 in
set_option maxHeartbeats 40000000 in
theorem rmti (l : Launch) (Z : State) (a0 : Array Value) (hw : ∀ d ∈ tables_1, d.before a0 Z = true) (ws : List Jvm.Cond) (r0 : Addr) (h0 : Heap) (n0 : Nat) (Z0 : n0 ≤ h0.size) (E_r0 : Exa Z h0 r0 "com/example/convene/convene/bench/Latencies") (F_c : Fld Z h0 r0 "com/example/convene/convene/bench/Latencies" "counts" "[J" .null) (F_t : Fld Z h0 r0 "com/example/convene/convene/bench/Latencies" "total" "J" (.long (0 : Int64))) (g_r0 : n0 ≤ r0) :
    MetFree l (⟨"com/example/convene/convene/bench/Latencies", "<init>", "()V"⟩ : MethodName) (head1 (Jvm.Cond.code (⟨"com/example/convene/convene/bench/Latencies", "<init>", "()V"⟩ : MethodName) prog_7_method_1_code 1 none :: ws) ({ frames := 3, cells := 1, slots := 55296, locals := 45 } : Room)) (fun a U => a = #[(.ref r0)] ∧ Z.Warmed39 U.vm ∧ U.heap = h0) (fun _ _ _ _ _ => True) (fun _ U o U' => ∃ v L, o = .returned v ∧ Qti Z r0 h0 n0 v U'.heap L ∧ FrameEnd U o U' L ({ frames := 3, cells := 1, slots := 55296, locals := 45 } : Room).cells ({ frames := 3, cells := 1, slots := 55296, locals := 45 } : Room).slots) := by
  refine MetFree.of_bodySF (plainFor_of_name pn_3) hisR ?_
  intro p e s m args below meth c s₁ Bd hml0 hP hK
  obtain ⟨rfl, hZ, hh⟩ := hP
  have hx := Bd.exec
  have hby := Bd.bytes
  have hml : c.maxLocals = 1 := hml0
  have hown : s.vm.findClass "com/example/convene/convene/bench/Latencies" = some m.cls := findClass_of_methodNamed Bd.named
  have hnm := (name_of_methodNamed Bd.named Bd.method).1
  have X0 : Stand p l e ({ frames := 3, cells := 1, slots := 55296, locals := 45 } : Room) s m #[(.ref r0)] below meth c s₁ [] 0 0 := Stand.of_body Bd
  have e0 : s₁.heap = h0 := by rw [← hh, Bd.state]; rfl
  have N0 := Fr.nil n0
  have K0 : ∀ t, Steps p.tables e below (s₁.setTop (mkF m 0 #[.val (.ref r0)] [])) t → Steps p.tables e below (s₁.setTop (entryFrame m #[(.ref r0)] 1)) t := fun t k => castTop (ef_ti m r0) k
  generalize s₁.setTop (entryFrame m #[(.ref r0)] 1) = SE at K0 ⊢
  have K1 : own_K p e below SE s₁ (mkF m 1 #[.val (.ref r0)] [(.ref r0)]) := by
    intro t k
    refine K0 _ ?_
    refine XS.aloadN X0.here hx rfl (hb hby d1_0) rfl rfl ?_
    exact k
  obtain ⟨T2, X2, e2, st2⟩ := initO X0 hx hZ hown (hw _ (List.mem_of_getElem? (i := 7) rfl)) (hw _ (List.mem_of_getElem? (i := 8) rfl)) (hw _ (List.mem_of_getElem? (i := 9) rfl)) e0 (g := (mkF m 1 #[.val (.ref r0)] [(.ref r0)])) rfl (by rw [hml]; rfl) rfl (hb hby d1_1) (by decide) (W := 0) (by show 2 * 0 + _ ≤ _; exact Nat.le_of_eq rfl) (by decide)
  have K2 : own_K p e below SE T2 (mkF m 4 #[.val (.ref r0)] []) := fun t k => K1 _ (st2 _ k)
  have K3 : own_K p e below SE T2 (mkF m 8 #[.val (.ref r0)] [(.long (9223372036854775807 : Int64)), (.ref r0)]) := by
    intro t k
    refine K2 _ ?_
    refine XS.aloadN X2.here hx rfl (hb hby d1_4) rfl rfl ?_
    show own_S p e below T2 (mkF m 5 #[.val (.ref r0)] [(.ref r0)]) _
    refine Stand.ldc2J X2 hx hown (mvT hZ (hw _ (List.mem_of_getElem? (i := 10) rfl))) (v := (9223372036854775807 : Int64)) (g := (mkF m 5 #[.val (.ref r0)] [(.ref r0)])) rfl (hb hby d1_5) ?_
    exact k
  obtain ⟨_, _, ⟨T4, L4, k4, n4⟩, -, X4, ⟨Lc4, hQ4, l4, y4, z4⟩, st4⟩ := Jvm.LawKit.callS X2 hx (y := (⟨"com/example/convene/convene/bench/Latencies", "bucket", "(J)I"⟩ : MethodName)) hown (mvT hZ (hw _ (List.mem_of_getElem? (i := 11) rfl))) (mvT hZ (hw _ (List.mem_of_getElem? (i := 12) rfl))) (mvT hZ (hw _ (List.mem_of_getElem? (i := 3) rfl))) (mvT hZ (hw _ (List.mem_of_getElem? (i := 13) rfl))) (by decide) (backOf (W := 1) (rmbk l Z a0 hw [] (9223372036854775807 : Int64) h0 n0 Z0) hZ (hw _ (List.mem_of_getElem? (i := 13) rfl)) (hw _ (List.mem_of_getElem? (i := 3) rfl)) (by decide) (by decide)) (g := (mkF m 8 #[.val (.ref r0)] [(.long (9223372036854775807 : Int64)), (.ref r0)])) rfl (by rw [hml]; rfl) (argsL := [(.long (9223372036854775807 : Int64))]) (rest := [(.ref r0)]) (lenOf pd_ti_0 rfl) rfl (by show 2 * 0 + _ ≤ _; exact Nat.le_of_eq rfl) (hb hby d1_8) (fun _ _ => ⟨rfl, e2, (by decide : 0 + 0 ≤ _), (by decide : 0 + 0 ≤ _)⟩)
  dsimp only [Pt.U, Pt.locs, Pt.cells, Pt.slots] at X4 l4 y4 z4 st4 hQ4
  rw [y4, z4] at X4
  obtain ⟨rfl, Nq4, e4⟩ := hQ4
  have N4 : Fr n0 L4 := by rw [l4]; exact Fr.app N0 Nq4
  have K4 : own_K p e below SE T4 (mkF m 11 #[.val (.ref r0)] [(.int (own_bucket (9223372036854775807 : Int64))), (.ref r0)]) := fun t k => K3 _ (st4 _ k)
  rw [own_bucket_max] at K4
  have K5 : own_K p e below SE T4 (mkF m 13 #[.val (.ref r0)] [(.int (55296 : Int32)), (.ref r0)]) := by
    intro t k
    refine K4 _ ?_
    refine XS.iconst X4.here hx rfl (hb hby d1_11) ?_
    show own_S p e below T4 (mkF m 12 #[.val (.ref r0)] [(.int (1 : Int32)), (.int (55295 : Int32)), (.ref r0)]) _
    refine XS.iadd X4.here hx rfl (hb hby d1_12) rfl ?_
    exact k
  obtain ⟨T6, h6, k6, X6, e6, E6, A6, st6⟩ := newP X4 hx hZ (hw _ (List.mem_of_getElem? (i := 27) rfl)) e4 (g := (mkF m 13 #[.val (.ref r0)] [(.int (55296 : Int32)), (.ref r0)])) rfl (hb hby d1_13) rfl (by decide) (cap := 55296) (by decide) (by decide) (by decide) (by decide)
  obtain ⟨b6, g6⟩ : ∃ z, z = h0.size := ⟨_, rfl⟩
  rw [← g6] at A6 st6
  have g_b6 : n0 ≤ b6 := Nat.le_trans Z0 (Nat.le_of_eq g6.symm)
  have sz_b6 : h0.size ≤ b6 := Nat.le_trans (Nat.le_refl _) (Nat.le_of_eq g6.symm)
  have own_ne_r0_b6 : r0 ≠ b6 := Nat.ne_of_lt (Nat.lt_of_lt_of_le E_r0.lt (Nat.le_of_eq g6.symm))
  have Kp6 : Keep h0 h6 [r0] := Keep.ext (Keep.refl h0 [r0]) E6
  have V6 : own_A Z h6 b6 own_z := own_A.new A6
  have K6 : own_K p e below SE T6 (mkF m 15 #[.val (.ref r0)] [(.ref b6), (.ref r0)]) := fun t k => K5 _ (st6 _ k)
  obtain ⟨T7, h7, X7, e7, W7, st7⟩ := putF X6 hx hZ hown (host := "") (Or.inl (hw _ (List.mem_of_getElem? (i := 28) rfl))) Via.refl e6 (F_c.ext E6) (E_r0.ext E6) (Or.inr ⟨(hw _ (List.mem_of_getElem? (i := 29) rfl)), rfl, hnm⟩) (hw _ (List.mem_of_getElem? (i := 2) rfl)) (ty := (.array .long)) (by decide) rfl rfl (g := (mkF m 15 #[.val (.ref r0)] [(.ref b6), (.ref r0)])) rfl rfl (hb hby d1_15)
  have Fw7 := Fld.same W7 (F_c.ext E6)
  have N7 := Fr.snoc X7 N4 g_r0
  have Kp7 : Keep h0 h7 [r0] := Keep.wr Kp6 W7 (Or.inl (List.mem_of_getElem? (i := 0) rfl))
  have K7 : own_K p e below SE T7 (mkF m 18 #[.val (.ref r0)] []) := fun t k => K6 _ (st7 _ k)
  obtain ⟨fs, hr, hrun, hended, hW, hsame⟩ := X7.leave (v := none) (fun _ => rfl)
  refine ⟨_, _, K7 _ ?_, hrun, hended, _, _, rfl, ?_, ⟨_, rfl⟩, hW, hsame.mono (by decide) (by decide)⟩
  · exact X7.returnOut hx Bd.returns (hb hby d1_18) hr
  · show Qti Z r0 h0 n0 _ T7.heap _
    rw [e7]
    exact ⟨rfl, N7, Kp7, ((E_r0.ext E6).wr W7), ((F_t.ext E6).other W7 (Or.inr (slot_ne (Or.inl (hw _ (List.mem_of_getElem? (i := 40) rfl))) (Or.inr (hw _ (List.mem_of_getElem? (i := 29) rfl))) (by decide) (t := .long) (t' := (.array .long)) (by decide) (by decide)))), b6, sz_b6, Fw7, (V6.other W7 (Ne.symm (own_ne_r0_b6)))⟩
def own_up (f : Int32 → Int64) (q : Int64) : Int32 → Int64 := own_set f (own_bk q) ((f (own_bk q)) + (1 : Int64))
theorem d7_0 : decode prog_7_method_2_code 0 = .ok (.aload_n 0, 1) := by decide +kernel
theorem d7_1 : decode prog_7_method_2_code 1 = .ok (.getfield 17, 3) := by decide +kernel
theorem d7_4 : decode prog_7_method_2_code 4 = .ok (.lconst 0, 1) := by decide +kernel
theorem d7_5 : decode prog_7_method_2_code 5 = .ok (.lload_n 1, 1) := by decide +kernel
theorem d7_6 : decode prog_7_method_2_code 6 = .ok (.invokestatic 21, 3) := by decide +kernel
theorem d7_9 : decode prog_7_method_2_code 9 = .ok (.ldc2_w 27, 3) := by decide +kernel
theorem d7_12 : decode prog_7_method_2_code 12 = .ok (.ldiv, 1) := by decide +kernel
theorem d7_13 : decode prog_7_method_2_code 13 = .ok (.invokestatic 13, 3) := by decide +kernel
theorem d7_16 : decode prog_7_method_2_code 16 = .ok (.dup2, 1) := by decide +kernel
theorem d7_17 : decode prog_7_method_2_code 17 = .ok (.laload, 1) := by decide +kernel
theorem d7_18 : decode prog_7_method_2_code 18 = .ok (.lconst 1, 1) := by decide +kernel
theorem d7_19 : decode prog_7_method_2_code 19 = .ok (.ladd, 1) := by decide +kernel
theorem d7_20 : decode prog_7_method_2_code 20 = .ok (.lastore, 1) := by decide +kernel
theorem d7_21 : decode prog_7_method_2_code 21 = .ok (.aload_n 0, 1) := by decide +kernel
theorem d7_22 : decode prog_7_method_2_code 22 = .ok (.dup, 1) := by decide +kernel
theorem d7_23 : decode prog_7_method_2_code 23 = .ok (.getfield 29, 3) := by decide +kernel
theorem d7_26 : decode prog_7_method_2_code 26 = .ok (.lconst 1, 1) := by decide +kernel
theorem d7_27 : decode prog_7_method_2_code 27 = .ok (.ladd, 1) := by decide +kernel
theorem d7_28 : decode prog_7_method_2_code 28 = .ok (.putfield 29, 3) := by decide +kernel
theorem d7_31 : decode prog_7_method_2_code 31 = .ok (.return_, 1) := by decide +kernel
theorem pd_re_0 : parseMethodDescriptor "(JJ)J" = some ⟨[.long, .long], some .long⟩ := by decide +kernel
theorem pd_re_1 : parseMethodDescriptor "(J)I" = some ⟨[.long], some .int⟩ := by decide +kernel
theorem ef_re (m : MethodId) (r0 : Addr) (q1 : Int64) : entryFrame m #[(.ref r0), (.long q1)] 3 = mkF m 0 #[.val (.ref r0), .val (.long q1), .second] [] := by first | (simp [entryFrame, mkF, argsToLocals, Value.category]; done) | rfl
def Qre (Z : State) (r0 : Addr) (q1 : Int64) (ea : Addr) (f : Int32 → Int64) (tA : Int64) (h0 : Heap) (n0 : Nat) (v : Option Value) (h : Heap) (L : List Loc) : Prop := v = none ∧ Fr n0 L ∧ Keep h0 h [r0, ea] ∧ Exa Z h r0 "com/example/convene/convene/bench/Latencies" ∧ Fld Z h r0 "com/example/convene/convene/bench/Latencies" "counts" "[J" (.ref ea) ∧ Fld Z h r0 "com/example/convene/convene/bench/Latencies" "total" "J" (.long (tA + (1 : Int64))) ∧ own_A Z h ea (own_up f q1)
set_option maxRecDepth 65536 in
set_option maxHeartbeats 40000000 in
theorem rmre (l : Launch) (Z : State) (a0 : Array Value) (hw : ∀ d ∈ tables_1, d.before a0 Z = true) (ws : List Jvm.Cond) (r0 : Addr) (q1 : Int64) (ea : Addr) (f : Int32 → Int64) (tA : Int64) (h0 : Heap) (n0 : Nat) (Z0 : n0 ≤ h0.size) (E_r0 : Exa Z h0 r0 "com/example/convene/convene/bench/Latencies") (F_c : Fld Z h0 r0 "com/example/convene/convene/bench/Latencies" "counts" "[J" (.ref ea)) (F_t : Fld Z h0 r0 "com/example/convene/convene/bench/Latencies" "total" "J" (.long tA)) (A_e : own_A Z h0 ea f) (g_r0 : n0 ≤ r0) (g_ea : n0 ≤ ea) (n1 : r0 ≠ ea) :
    MetFree l (⟨"com/example/convene/convene/bench/Latencies", "record", "(J)V"⟩ : MethodName) (head1 (Jvm.Cond.code (⟨"com/example/convene/convene/bench/Latencies", "record", "(J)V"⟩ : MethodName) prog_7_method_2_code 3 none :: ws) ({ frames := 3, cells := 0, slots := 0, locals := 45 } : Room)) (fun a U => a = #[(.ref r0), (.long q1)] ∧ Z.Warmed39 U.vm ∧ U.heap = h0) (fun _ _ _ _ _ => True) (fun _ U o U' => ∃ v L, o = .returned v ∧ Qre Z r0 q1 ea f tA h0 n0 v U'.heap L ∧ FrameEnd U o U' L ({ frames := 3, cells := 0, slots := 0, locals := 45 } : Room).cells ({ frames := 3, cells := 0, slots := 0, locals := 45 } : Room).slots) := by
  refine MetFree.of_bodySF (plainFor_of_name pn_3) hisR ?_
  intro p e s m args below meth c s₁ Bd hml0 hP hK
  obtain ⟨rfl, hZ, hh⟩ := hP
  have hx := Bd.exec
  have hby := Bd.bytes
  have hml : c.maxLocals = 3 := hml0
  have hown : s.vm.findClass "com/example/convene/convene/bench/Latencies" = some m.cls := findClass_of_methodNamed Bd.named
  have hnm := (name_of_methodNamed Bd.named Bd.method).1
  have X0 : Stand p l e ({ frames := 3, cells := 0, slots := 0, locals := 45 } : Room) s m #[(.ref r0), (.long q1)] below meth c s₁ [] 0 0 := Stand.of_body Bd
  have e0 : s₁.heap = h0 := by rw [← hh, Bd.state]; rfl
  have N0 := Fr.nil n0
  have K0 : ∀ t, Steps p.tables e below (s₁.setTop (mkF m 0 #[.val (.ref r0), .val (.long q1), .second] [])) t → Steps p.tables e below (s₁.setTop (entryFrame m #[(.ref r0), (.long q1)] 3)) t := fun t k => castTop (ef_re m r0 q1) k
  generalize s₁.setTop (entryFrame m #[(.ref r0), (.long q1)] 3) = SE at K0 ⊢
  have K1 : own_K p e below SE s₁ (mkF m 1 #[.val (.ref r0), .val (.long q1), .second] [(.ref r0)]) := by
    intro t k
    refine K0 _ ?_
    refine XS.aloadN X0.here hx rfl (hb hby d7_0) rfl rfl ?_
    exact k
  obtain ⟨T2, X2, e2, st2⟩ := getF X0 hx hZ hown (host := "") (Or.inl (hw _ (List.mem_of_getElem? (i := 28) rfl))) Via.refl e0 F_c (g := (mkF m 1 #[.val (.ref r0), .val (.long q1), .second] [(.ref r0)])) rfl rfl (hb hby d7_1)
  have K2 : own_K p e below SE T2 (mkF m 4 #[.val (.ref r0), .val (.long q1), .second] [(.ref ea)]) := fun t k => K1 _ (st2 _ k)
  have K3 : own_K p e below SE T2 (mkF m 6 #[.val (.ref r0), .val (.long q1), .second] [(.long q1), (.long (0 : Int64)), (.ref ea)]) := by
    intro t k
    refine K2 _ ?_
    refine XS.lconst X2.here hx rfl (hb hby d7_4) ?_
    show own_S p e below T2 (mkF m 5 #[.val (.ref r0), .val (.long q1), .second] [(.long (0 : Int64)), (.ref ea)]) _
    refine XS.lloadN X2.here hx rfl (hb hby d7_5) rfl ?_
    exact k
  obtain ⟨_, _, ⟨T4, L4, k4, n4⟩, -, X4, ⟨Lc4, hQ4, l4, y4, z4⟩, st4⟩ := Jvm.LawKit.callS X2 hx (y := (⟨"java/lang/Math", "max", "(JJ)J"⟩ : MethodName)) hown (mvT hZ (hw _ (List.mem_of_getElem? (i := 35) rfl))) (mvT hZ (hw _ (List.mem_of_getElem? (i := 36) rfl))) (mvT hZ (hw _ (List.mem_of_getElem? (i := 25) rfl))) (mvT hZ (hw _ (List.mem_of_getElem? (i := 37) rfl))) (by decide) (backOf (W := 1) (rmmxj l Z a0 hw [] (0 : Int64) q1 h0 n0 Z0) hZ (hw _ (List.mem_of_getElem? (i := 37) rfl)) (hw _ (List.mem_of_getElem? (i := 25) rfl)) (by decide) (by decide)) (g := (mkF m 6 #[.val (.ref r0), .val (.long q1), .second] [(.long q1), (.long (0 : Int64)), (.ref ea)])) rfl (by rw [hml]; rfl) (argsL := [(.long (0 : Int64)), (.long q1)]) (rest := [(.ref ea)]) (lenOf pd_re_0 rfl) rfl (by show 2 * 0 + _ ≤ _; exact Nat.le_of_eq rfl) (hb hby d7_6) (fun _ _ => ⟨rfl, e2, (by decide : 0 + 0 ≤ _), (by decide : 0 + 0 ≤ _)⟩)
  dsimp only [Pt.U, Pt.locs, Pt.cells, Pt.slots] at X4 l4 y4 z4 st4 hQ4
  rw [y4, z4] at X4
  obtain ⟨rfl, Nq4, e4⟩ := hQ4
  have N4 : Fr n0 L4 := by rw [l4]; exact Fr.app N0 Nq4
  have K4 : own_K p e below SE T4 (mkF m 9 #[.val (.ref r0), .val (.long q1), .second] [(.long (if (0 : Int64) < q1 then q1 else (0 : Int64))), (.ref ea)]) := fun t k => K3 _ (st4 _ k)
  have K5 : own_K p e below SE T4 (mkF m 13 #[.val (.ref r0), .val (.long q1), .second] [(.long ((if (0 : Int64) < q1 then q1 else (0 : Int64)) / (1000 : Int64))), (.ref ea)]) := by
    intro t k
    refine K4 _ ?_
    refine Stand.ldc2J X4 hx hown (mvT hZ (hw _ (List.mem_of_getElem? (i := 38) rfl))) (v := (1000 : Int64)) (g := (mkF m 9 #[.val (.ref r0), .val (.long q1), .second] [(.long (if (0 : Int64) < q1 then q1 else (0 : Int64))), (.ref ea)])) rfl (hb hby d7_9) ?_
    show own_S p e below T4 (mkF m 12 #[.val (.ref r0), .val (.long q1), .second] [(.long (1000 : Int64)), (.long (if (0 : Int64) < q1 then q1 else (0 : Int64))), (.ref ea)]) _
    refine XS.ldiv X4.here hx rfl (hb hby d7_12) rfl (by decide) ?_
    exact k
  obtain ⟨_, _, ⟨T6, L6, k6, n6⟩, -, X6, ⟨Lc6, hQ6, l6, y6, z6⟩, st6⟩ := Jvm.LawKit.callS X4 hx (y := (⟨"com/example/convene/convene/bench/Latencies", "bucket", "(J)I"⟩ : MethodName)) hown (mvT hZ (hw _ (List.mem_of_getElem? (i := 11) rfl))) (mvT hZ (hw _ (List.mem_of_getElem? (i := 12) rfl))) (mvT hZ (hw _ (List.mem_of_getElem? (i := 3) rfl))) (mvT hZ (hw _ (List.mem_of_getElem? (i := 13) rfl))) (by decide) (backOf (W := 1) (rmbk l Z a0 hw [] ((if (0 : Int64) < q1 then q1 else (0 : Int64)) / (1000 : Int64)) h0 n0 Z0) hZ (hw _ (List.mem_of_getElem? (i := 13) rfl)) (hw _ (List.mem_of_getElem? (i := 3) rfl)) (by decide) (by decide)) (g := (mkF m 13 #[.val (.ref r0), .val (.long q1), .second] [(.long ((if (0 : Int64) < q1 then q1 else (0 : Int64)) / (1000 : Int64))), (.ref ea)])) rfl (by rw [hml]; rfl) (argsL := [(.long ((if (0 : Int64) < q1 then q1 else (0 : Int64)) / (1000 : Int64)))]) (rest := [(.ref ea)]) (lenOf pd_re_1 rfl) rfl (by show 2 * 0 + _ ≤ _; exact Nat.le_of_eq rfl) (hb hby d7_13) (fun _ _ => ⟨rfl, e4, (by decide : 0 + 0 ≤ _), (by decide : 0 + 0 ≤ _)⟩)
  dsimp only [Pt.U, Pt.locs, Pt.cells, Pt.slots] at X6 l6 y6 z6 st6 hQ6
  rw [y6, z6] at X6
  obtain ⟨rfl, Nq6, e6⟩ := hQ6
  have N6 : Fr n0 L6 := by rw [l6]; exact Fr.app N4 Nq6
  have K6 : own_K p e below SE T6 (mkF m 16 #[.val (.ref r0), .val (.long q1), .second] [(.int (own_bucket ((if (0 : Int64) < q1 then q1 else (0 : Int64)) / (1000 : Int64)))), (.ref ea)]) := fun t k => K5 _ (st6 _ k)
  rw [(show (own_bucket ((if (0 : Int64) < q1 then q1 else (0 : Int64)) / (1000 : Int64))) = own_bk q1 from rfl)] at K6
  have K7 : own_K p e below SE T6 (mkF m 17 #[.val (.ref r0), .val (.long q1), .second] [(.int (own_bk q1)), (.ref ea), (.int (own_bk q1)), (.ref ea)]) := by
    intro t k
    refine K6 _ ?_
    refine XT.dup2 X6.here hx rfl (hb hby d7_16) rfl rfl rfl ?_
    exact k
  obtain ⟨cl8, Ar8, Sz8, Hh8⟩ := id A_e
  have K9 : own_K p e below SE T6 (mkF m 20 #[.val (.ref r0), .val (.long q1), .second] [(.long ((f (own_bk q1)) + (1 : Int64))), (.int (own_bk q1)), (.ref ea)]) := by
    intro t k
    refine K7 _ ?_
    refine X6.laload hx (j := (own_bk q1)) (v := (.long (f (own_bk q1)))) (by rw [e6]; exact Ar8.1) (State.isArrayOf_alike hZ.alike Ar8.2.1) Ar8.2.2 (own_inb Sz8 (own_bk_ok q1)) (Hh8 _ ((own_bk_ok q1)).1 ((own_bk_ok q1)).2) (g := (mkF m 17 #[.val (.ref r0), .val (.long q1), .second] [(.int (own_bk q1)), (.ref ea), (.int (own_bk q1)), (.ref ea)])) rfl rfl (hb hby d7_17) _ ?_
    show own_S p e below T6 (mkF m 18 #[.val (.ref r0), .val (.long q1), .second] [(.long (f (own_bk q1))), (.int (own_bk q1)), (.ref ea)]) _
    refine XS.lconst X6.here hx rfl (hb hby d7_18) ?_
    show own_S p e below T6 (mkF m 19 #[.val (.ref r0), .val (.long q1), .second] [(.long (1 : Int64)), (.long (f (own_bk q1))), (.int (own_bk q1)), (.ref ea)]) _
    refine XS.ladd X6.here hx rfl (hb hby d7_19) rfl ?_
    exact k
  obtain ⟨cl10, Ar10, Sz10, Hh10⟩ := id A_e
  obtain ⟨T11, h11, X11, e11, W11, st11⟩ := stJ X6 hx hZ e6 Ar10 (j := (own_bk q1)) (own_inb Sz10 (own_bk_ok q1)) (g := (mkF m 20 #[.val (.ref r0), .val (.long q1), .second] [(.long ((f (own_bk q1)) + (1 : Int64))), (.int (own_bk q1)), (.ref ea)])) rfl rfl (hb hby d7_20)
  have V11 : own_A Z h11 ea (own_set f (own_bk q1) ((f (own_bk q1)) + (1 : Int64))) := own_A.put Ar10 Sz10 Hh10 (own_bk_ok q1) W11
  have N11 := Fr.snoc X11 N6 g_ea
  have Kp11 : Keep h0 h11 [r0, ea] := Keep.wr (Keep.refl h0 [r0, ea]) W11 (Or.inl (List.mem_of_getElem? (i := 1) rfl))
  have K11 : own_K p e below SE T11 (mkF m 21 #[.val (.ref r0), .val (.long q1), .second] []) := fun t k => K9 _ (st11 _ k)
  have K12 : own_K p e below SE T11 (mkF m 23 #[.val (.ref r0), .val (.long q1), .second] [(.ref r0), (.ref r0)]) := by
    intro t k
    refine K11 _ ?_
    refine XS.aloadN X11.here hx rfl (hb hby d7_21) rfl rfl ?_
    show own_S p e below T11 (mkF m 22 #[.val (.ref r0), .val (.long q1), .second] [(.ref r0)]) _
    refine XS.dup X11.here hx rfl (hb hby d7_22) rfl rfl ?_
    exact k
  obtain ⟨T13, X13, e13, st13⟩ := getF X11 hx hZ hown (host := "") (Or.inl (hw _ (List.mem_of_getElem? (i := 39) rfl))) Via.refl e11 (F_t.other W11 (Or.inl n1)) (g := (mkF m 23 #[.val (.ref r0), .val (.long q1), .second] [(.ref r0), (.ref r0)])) rfl rfl (hb hby d7_23)
  have K13 : own_K p e below SE T13 (mkF m 26 #[.val (.ref r0), .val (.long q1), .second] [(.long tA), (.ref r0)]) := fun t k => K12 _ (st13 _ k)
  have K14 : own_K p e below SE T13 (mkF m 28 #[.val (.ref r0), .val (.long q1), .second] [(.long (tA + (1 : Int64))), (.ref r0)]) := by
    intro t k
    refine K13 _ ?_
    refine XS.lconst X13.here hx rfl (hb hby d7_26) ?_
    show own_S p e below T13 (mkF m 27 #[.val (.ref r0), .val (.long q1), .second] [(.long (1 : Int64)), (.long tA), (.ref r0)]) _
    refine XS.ladd X13.here hx rfl (hb hby d7_27) rfl ?_
    exact k
  obtain ⟨T15, h15, X15, e15, W15, st15⟩ := putF X13 hx hZ hown (host := "") (Or.inl (hw _ (List.mem_of_getElem? (i := 39) rfl))) Via.refl e13 (F_t.other W11 (Or.inl n1)) (E_r0.wr W11) (Or.inl (hw _ (List.mem_of_getElem? (i := 40) rfl))) (hw _ (List.mem_of_getElem? (i := 2) rfl)) (ty := .long) (by decide) rfl rfl (g := (mkF m 28 #[.val (.ref r0), .val (.long q1), .second] [(.long (tA + (1 : Int64))), (.ref r0)])) rfl rfl (hb hby d7_28)
  have Fw15 := Fld.same W15 (F_t.other W11 (Or.inl n1))
  have N15 := Fr.snoc X15 N11 g_r0
  have Kp15 : Keep h0 h15 [r0, ea] := Keep.wr Kp11 W15 (Or.inl (List.mem_of_getElem? (i := 0) rfl))
  have K15 : own_K p e below SE T15 (mkF m 31 #[.val (.ref r0), .val (.long q1), .second] []) := fun t k => K14 _ (st15 _ k)
  obtain ⟨fs, hr, hrun, hended, hW, hsame⟩ := X15.leave (v := none) (fun _ => rfl)
  refine ⟨_, _, K15 _ ?_, hrun, hended, _, _, rfl, ?_, ⟨_, rfl⟩, hW, hsame.mono (by decide) (by decide)⟩
  · exact X15.returnOut hx Bd.returns (hb hby d7_31) hr
  · show Qre Z r0 q1 ea f tA h0 n0 _ T15.heap _
    rw [e15]
    exact ⟨rfl, N15, Kp15, ((E_r0.wr W11).wr W15), ((F_c.other W11 (Or.inl n1)).other W15 (Or.inr (slot_ne (Or.inr (hw _ (List.mem_of_getElem? (i := 29) rfl))) (Or.inl (hw _ (List.mem_of_getElem? (i := 40) rfl))) (by decide) (t := (.array .long)) (t' := .long) (by decide) (by decide)))), Fw15, (V11.other W15 (Ne.symm n1))⟩
theorem d9_0 : decode prog_7_method_3_code 0 = .ok (.iconst 0, 1) := by decide +kernel
theorem d9_1 : decode prog_7_method_3_code 1 = .ok (.istore_n 2, 1) := by decide +kernel
theorem d9_2 : decode prog_7_method_3_code 2 = .ok (.iload_n 2, 1) := by decide +kernel
theorem d9_3 : decode prog_7_method_3_code 3 = .ok (.aload_n 0, 1) := by decide +kernel
theorem d9_4 : decode prog_7_method_3_code 4 = .ok (.getfield 17, 3) := by decide +kernel
theorem d9_7 : decode prog_7_method_3_code 7 = .ok (.arraylength, 1) := by decide +kernel
theorem d9_8 : decode prog_7_method_3_code 8 = .ok (.if_icmp .ge 24, 3) := by decide +kernel
theorem d9_11 : decode prog_7_method_3_code 11 = .ok (.aload_n 0, 1) := by decide +kernel
theorem d9_12 : decode prog_7_method_3_code 12 = .ok (.getfield 17, 3) := by decide +kernel
theorem d9_15 : decode prog_7_method_3_code 15 = .ok (.iload_n 2, 1) := by decide +kernel
theorem d9_16 : decode prog_7_method_3_code 16 = .ok (.dup2, 1) := by decide +kernel
theorem d9_17 : decode prog_7_method_3_code 17 = .ok (.laload, 1) := by decide +kernel
theorem d9_18 : decode prog_7_method_3_code 18 = .ok (.aload_n 1, 1) := by decide +kernel
theorem d9_19 : decode prog_7_method_3_code 19 = .ok (.getfield 17, 3) := by decide +kernel
theorem d9_22 : decode prog_7_method_3_code 22 = .ok (.iload_n 2, 1) := by decide +kernel
theorem d9_23 : decode prog_7_method_3_code 23 = .ok (.laload, 1) := by decide +kernel
theorem d9_24 : decode prog_7_method_3_code 24 = .ok (.ladd, 1) := by decide +kernel
theorem d9_25 : decode prog_7_method_3_code 25 = .ok (.lastore, 1) := by decide +kernel
theorem d9_26 : decode prog_7_method_3_code 26 = .ok (.iinc 2 1, 3) := by decide +kernel
theorem d9_29 : decode prog_7_method_3_code 29 = .ok (.goto (-27), 3) := by decide +kernel
theorem d9_32 : decode prog_7_method_3_code 32 = .ok (.aload_n 0, 1) := by decide +kernel
theorem d9_33 : decode prog_7_method_3_code 33 = .ok (.dup, 1) := by decide +kernel
theorem d9_34 : decode prog_7_method_3_code 34 = .ok (.getfield 29, 3) := by decide +kernel
theorem d9_37 : decode prog_7_method_3_code 37 = .ok (.aload_n 1, 1) := by decide +kernel
theorem d9_38 : decode prog_7_method_3_code 38 = .ok (.getfield 29, 3) := by decide +kernel
theorem d9_41 : decode prog_7_method_3_code 41 = .ok (.ladd, 1) := by decide +kernel
theorem d9_42 : decode prog_7_method_3_code 42 = .ok (.putfield 29, 3) := by decide +kernel
theorem d9_45 : decode prog_7_method_3_code 45 = .ok (.return_, 1) := by decide +kernel
theorem ef_ad (m : MethodId) (r0 : Addr) (r1 : Addr) : entryFrame m #[(.ref r0), (.ref r1)] 3 = mkF m 0 #[.val (.ref r0), .val (.ref r1), .unset] [] := by first | (simp [entryFrame, mkF, argsToLocals, Value.category]; done) | rfl
def Qad (Z : State) (r0 : Addr) (r1 : Addr) (ea : Addr) (eb : Addr) (f : Int32 → Int64) (g : Int32 → Int64) (tA : Int64) (tB : Int64) (h0 : Heap) (n0 : Nat) (v : Option Value) (h : Heap) (L : List Loc) : Prop := v = none ∧ Fr n0 L ∧ Keep h0 h [r0, ea] ∧ Exa Z h r0 "com/example/convene/convene/bench/Latencies" ∧ Fld Z h r0 "com/example/convene/convene/bench/Latencies" "counts" "[J" (.ref ea) ∧ Fld Z h r0 "com/example/convene/convene/bench/Latencies" "total" "J" (.long (tA + tB)) ∧ own_A Z h ea (own_pl f g)
set_option maxRecDepth 65536 in
set_option maxHeartbeats 40000000 in
theorem rmad (l : Launch) (Z : State) (a0 : Array Value) (hw : ∀ d ∈ tables_1, d.before a0 Z = true) (ws : List Jvm.Cond) (r0 : Addr) (r1 : Addr) (ea : Addr) (eb : Addr) (f : Int32 → Int64) (g : Int32 → Int64) (tA : Int64) (tB : Int64) (h0 : Heap) (n0 : Nat) (Z0 : n0 ≤ h0.size) (E_r0 : Exa Z h0 r0 "com/example/convene/convene/bench/Latencies") (F_c : Fld Z h0 r0 "com/example/convene/convene/bench/Latencies" "counts" "[J" (.ref ea)) (F_t : Fld Z h0 r0 "com/example/convene/convene/bench/Latencies" "total" "J" (.long tA)) (A_e : own_A Z h0 ea f) (G_c : Fld Z h0 r1 "com/example/convene/convene/bench/Latencies" "counts" "[J" (.ref eb)) (G_t : Fld Z h0 r1 "com/example/convene/convene/bench/Latencies" "total" "J" (.long tB)) (B_e : own_A Z h0 eb g) (g_r0 : n0 ≤ r0) (g_ea : n0 ≤ ea) (n1 : r0 ≠ ea) (n2 : r1 ≠ ea) (n3 : ea ≠ eb) (n4 : r0 ≠ r1) (n5 : r0 ≠ eb) (n6 : r1 ≠ eb) :
    MetFree l (⟨"com/example/convene/convene/bench/Latencies", "add", "(Lcom/example/convene/convene/bench/Latencies;)V"⟩ : MethodName) (head1 (Jvm.Cond.code (⟨"com/example/convene/convene/bench/Latencies", "add", "(Lcom/example/convene/convene/bench/Latencies;)V"⟩ : MethodName) prog_7_method_3_code 3 none :: ws) ({ frames := 0, cells := 0, slots := 0, locals := 0 } : Room)) (fun a U => a = #[(.ref r0), (.ref r1)] ∧ Z.Warmed39 U.vm ∧ U.heap = h0) (fun _ _ _ _ _ => True) (fun _ U o U' => ∃ v L, o = .returned v ∧ Qad Z r0 r1 ea eb f g tA tB h0 n0 v U'.heap L ∧ FrameEnd U o U' L ({ frames := 0, cells := 0, slots := 0, locals := 0 } : Room).cells ({ frames := 0, cells := 0, slots := 0, locals := 0 } : Room).slots) := by
  refine MetFree.of_bodySF (plainFor_of_name pn_3) hisR ?_
  intro p e s m args below meth c s₁ Bd hml0 hP hK
  obtain ⟨rfl, hZ, hh⟩ := hP
  have hx := Bd.exec
  have hby := Bd.bytes
  have hml : c.maxLocals = 3 := hml0
  have hown : s.vm.findClass "com/example/convene/convene/bench/Latencies" = some m.cls := findClass_of_methodNamed Bd.named
  have hnm := (name_of_methodNamed Bd.named Bd.method).1
  have X0 : Stand p l e ({ frames := 0, cells := 0, slots := 0, locals := 0 } : Room) s m #[(.ref r0), (.ref r1)] below meth c s₁ [] 0 0 := Stand.of_body Bd
  have e0 : s₁.heap = h0 := by rw [← hh, Bd.state]; rfl
  have N0 := Fr.nil n0
  have K0 : ∀ t, Steps p.tables e below (s₁.setTop (mkF m 0 #[.val (.ref r0), .val (.ref r1), .unset] [])) t → Steps p.tables e below (s₁.setTop (entryFrame m #[(.ref r0), (.ref r1)] 3)) t := fun t k => castTop (ef_ad m r0 r1) k
  generalize s₁.setTop (entryFrame m #[(.ref r0), (.ref r1)] 3) = SE at K0 ⊢
  have K21 : own_K p e below SE s₁ (mkF m 2 #[.val (.ref r0), .val (.ref r1), .val (.int (0 : Int32))] []) := by
    intro t k
    refine K0 _ ?_
    refine XS.iconst X0.here hx rfl (hb hby d9_0) ?_
    show own_S p e below s₁ (mkF m 1 #[.val (.ref r0), .val (.ref r1), .unset] [(.int (0 : Int32))]) _
    refine XS.istoreN X0.here hx rfl (hb hby d9_1) rfl (l' := #[.val (.ref r0), .val (.ref r1), .val (.int (0 : Int32))]) rfl ?_
    exact k
  obtain ⟨d9, T9, h9, L9, i9, X9, e9, N9, Kp9, E9, C9, U9, A9, D9, V9, B9, hi9, hd9, K9⟩ : ∃ (d9 : Nat) (T9 : State) (h9 : Heap) (L9 : List Loc) (i9 : Int32), Stand p l e ({ frames := 0, cells := 0, slots := 0, locals := 0 } : Room) s m #[(.ref r0), (.ref r1)] below meth c T9 L9 0 0 ∧ T9.heap = h9 ∧ Fr n0 L9 ∧ Keep h0 h9 [r0, ea] ∧ Exa Z h9 r0 "com/example/convene/convene/bench/Latencies" ∧ Fld Z h9 r0 "com/example/convene/convene/bench/Latencies" "counts" "[J" (.ref ea) ∧ Fld Z h9 r0 "com/example/convene/convene/bench/Latencies" "total" "J" (.long tA) ∧ own_A Z h9 ea (own_ad f g i9) ∧ Fld Z h9 r1 "com/example/convene/convene/bench/Latencies" "counts" "[J" (.ref eb) ∧ Fld Z h9 r1 "com/example/convene/convene/bench/Latencies" "total" "J" (.long tB) ∧ own_A Z h9 eb g ∧ 0 ≤ i9.toInt ∧ i9.toInt + d9 = 55296 ∧ own_K p e below SE T9 (mkF m 2 #[.val (.ref r0), .val (.ref r1), .val (.int i9)] []) := ⟨55296, s₁, _, [], (0 : Int32), X0, e0, N0, Keep.refl h0 _, E_r0, F_c, F_t, (own_ad0 A_e), G_c, G_t, B_e, by decide, by decide, K21⟩
  induction d9 generalizing T9 h9 L9 i9 with
  | zero =>
    have he9 : i9.toInt = 55296 := by omega
    have hx9 : ¬ i9 < (55296 : Int32) := own_eqn he9
    have K22 : own_K p e below SE T9 (mkF m 4 #[.val (.ref r0), .val (.ref r1), .val (.int i9)] [(.ref r0), (.int i9)]) := by
      intro t k
      refine K9 _ ?_
      refine XS.iloadN X9.here hx rfl (hb hby d9_2) rfl ?_
      show own_S p e below T9 (mkF m 3 #[.val (.ref r0), .val (.ref r1), .val (.int i9)] [(.int i9)]) _
      refine XS.aloadN X9.here hx rfl (hb hby d9_3) rfl rfl ?_
      exact k
    obtain ⟨T23, X23, e23, st23⟩ := getF X9 hx hZ hown (host := "") (Or.inl (hw _ (List.mem_of_getElem? (i := 28) rfl))) Via.refl e9 C9 (g := (mkF m 4 #[.val (.ref r0), .val (.ref r1), .val (.int i9)] [(.ref r0), (.int i9)])) rfl rfl (hb hby d9_4)
    have K23 : own_K p e below SE T23 (mkF m 7 #[.val (.ref r0), .val (.ref r1), .val (.int i9)] [(.ref ea), (.int i9)]) := fun t k => K22 _ (st23 _ k)
    obtain ⟨cl24, Ar24, Sz24, -⟩ := id A9
    have K25 : own_K p e below SE T23 (mkF m 34 #[.val (.ref r0), .val (.ref r1), .val (.int i9)] [(.ref r0), (.ref r0)]) := by
      intro t k
      refine K23 _ ?_
      refine X23.arraylength hx (by rw [e23]; exact Ar24.1) (State.isArrayOf_alike hZ.alike Ar24.2.1) (g := (mkF m 7 #[.val (.ref r0), .val (.ref r1), .val (.int i9)] [(.ref ea), (.int i9)])) rfl rfl (hb hby d9_7) _ ?_
      rw [own_len Sz24]
      show own_S p e below T23 (mkF m 8 #[.val (.ref r0), .val (.ref r1), .val (.int i9)] [(.int (55296 : Int32)), (.int i9)]) _
      refine XS.icmpYes X23.here hx rfl (pc0 := 8) (pc' := 32) rfl (hb hby d9_8) rfl (XT.ii_ge_t hx9) (by decide) (by decide) ?_
      show own_S p e below T23 (mkF m 32 #[.val (.ref r0), .val (.ref r1), .val (.int i9)] []) _
      refine XS.aloadN X23.here hx rfl (hb hby d9_32) rfl rfl ?_
      show own_S p e below T23 (mkF m 33 #[.val (.ref r0), .val (.ref r1), .val (.int i9)] [(.ref r0)]) _
      refine XS.dup X23.here hx rfl (hb hby d9_33) rfl rfl ?_
      exact k
    obtain ⟨T26, X26, e26, st26⟩ := getF X23 hx hZ hown (host := "") (Or.inl (hw _ (List.mem_of_getElem? (i := 39) rfl))) Via.refl e23 U9 (g := (mkF m 34 #[.val (.ref r0), .val (.ref r1), .val (.int i9)] [(.ref r0), (.ref r0)])) rfl rfl (hb hby d9_34)
    have K26 : own_K p e below SE T26 (mkF m 37 #[.val (.ref r0), .val (.ref r1), .val (.int i9)] [(.long tA), (.ref r0)]) := fun t k => K25 _ (st26 _ k)
    have K27 : own_K p e below SE T26 (mkF m 38 #[.val (.ref r0), .val (.ref r1), .val (.int i9)] [(.ref r1), (.long tA), (.ref r0)]) := by
      intro t k
      refine K26 _ ?_
      refine XS.aloadN X26.here hx rfl (hb hby d9_37) rfl rfl ?_
      exact k
    obtain ⟨T28, X28, e28, st28⟩ := getF X26 hx hZ hown (host := "") (Or.inl (hw _ (List.mem_of_getElem? (i := 39) rfl))) Via.refl e26 V9 (g := (mkF m 38 #[.val (.ref r0), .val (.ref r1), .val (.int i9)] [(.ref r1), (.long tA), (.ref r0)])) rfl rfl (hb hby d9_38)
    have K28 : own_K p e below SE T28 (mkF m 41 #[.val (.ref r0), .val (.ref r1), .val (.int i9)] [(.long tB), (.long tA), (.ref r0)]) := fun t k => K27 _ (st28 _ k)
    have K29 : own_K p e below SE T28 (mkF m 42 #[.val (.ref r0), .val (.ref r1), .val (.int i9)] [(.long (tA + tB)), (.ref r0)]) := by
      intro t k
      refine K28 _ ?_
      refine XS.ladd X28.here hx rfl (hb hby d9_41) rfl ?_
      exact k
    obtain ⟨T30, h30, X30, e30, W30, st30⟩ := putF X28 hx hZ hown (host := "") (Or.inl (hw _ (List.mem_of_getElem? (i := 39) rfl))) Via.refl e28 U9 E9 (Or.inl (hw _ (List.mem_of_getElem? (i := 40) rfl))) (hw _ (List.mem_of_getElem? (i := 2) rfl)) (ty := .long) (by decide) rfl rfl (g := (mkF m 42 #[.val (.ref r0), .val (.ref r1), .val (.int i9)] [(.long (tA + tB)), (.ref r0)])) rfl rfl (hb hby d9_42)
    have Fw30 := Fld.same W30 U9
    have N30 := Fr.snoc X30 N9 g_r0
    have Kp30 : Keep h0 h30 [r0, ea] := Keep.wr Kp9 W30 (Or.inl (List.mem_of_getElem? (i := 0) rfl))
    have K30 : own_K p e below SE T30 (mkF m 45 #[.val (.ref r0), .val (.ref r1), .val (.int i9)] []) := fun t k => K29 _ (st30 _ k)
    have hA : own_A Z h30 ea (own_pl f g) := (A9.other W30 (Ne.symm n1)).congr (fun k hk => by
      have e5 : i9 = (55296 : Int32) := Int32.toInt_inj.mp (he9.trans (by decide))
      exact if_pos (by rw [e5]; exact hk))
    obtain ⟨fs, hr, hrun, hended, hW, hsame⟩ := X30.leave (v := none) (fun _ => rfl)
    refine ⟨_, _, K30 _ ?_, hrun, hended, _, _, rfl, ?_, ⟨_, rfl⟩, hW, hsame.mono (by decide) (by decide)⟩
    · exact X30.returnOut hx Bd.returns (hb hby d9_45) hr
    · show Qad Z r0 r1 ea eb f g tA tB h0 n0 _ T30.heap _
      rw [e30]
      exact ⟨rfl, N30, Kp30, (E9.wr W30), (C9.other W30 (Or.inr (slot_ne (Or.inr (hw _ (List.mem_of_getElem? (i := 29) rfl))) (Or.inl (hw _ (List.mem_of_getElem? (i := 40) rfl))) (by decide) (t := (.array .long)) (t' := .long) (by decide) (by decide)))), Fw30, hA⟩
  | succ d9 ih =>
    have hl9 : i9.toInt < 55296 := by omega
    have hr9 := own_rng hi9 hl9
    have K31 : own_K p e below SE T9 (mkF m 4 #[.val (.ref r0), .val (.ref r1), .val (.int i9)] [(.ref r0), (.int i9)]) := by
      intro t k
      refine K9 _ ?_
      refine XS.iloadN X9.here hx rfl (hb hby d9_2) rfl ?_
      show own_S p e below T9 (mkF m 3 #[.val (.ref r0), .val (.ref r1), .val (.int i9)] [(.int i9)]) _
      refine XS.aloadN X9.here hx rfl (hb hby d9_3) rfl rfl ?_
      exact k
    obtain ⟨T32, X32, e32, st32⟩ := getF X9 hx hZ hown (host := "") (Or.inl (hw _ (List.mem_of_getElem? (i := 28) rfl))) Via.refl e9 C9 (g := (mkF m 4 #[.val (.ref r0), .val (.ref r1), .val (.int i9)] [(.ref r0), (.int i9)])) rfl rfl (hb hby d9_4)
    have K32 : own_K p e below SE T32 (mkF m 7 #[.val (.ref r0), .val (.ref r1), .val (.int i9)] [(.ref ea), (.int i9)]) := fun t k => K31 _ (st32 _ k)
    obtain ⟨cl33, Ar33, Sz33, -⟩ := id A9
    have K34 : own_K p e below SE T32 (mkF m 12 #[.val (.ref r0), .val (.ref r1), .val (.int i9)] [(.ref r0)]) := by
      intro t k
      refine K32 _ ?_
      refine X32.arraylength hx (by rw [e32]; exact Ar33.1) (State.isArrayOf_alike hZ.alike Ar33.2.1) (g := (mkF m 7 #[.val (.ref r0), .val (.ref r1), .val (.int i9)] [(.ref ea), (.int i9)])) rfl rfl (hb hby d9_7) _ ?_
      rw [own_len Sz33]
      show own_S p e below T32 (mkF m 8 #[.val (.ref r0), .val (.ref r1), .val (.int i9)] [(.int (55296 : Int32)), (.int i9)]) _
      refine XS.icmpNo X32.here hx rfl (hb hby d9_8) rfl (XT.ii_ge_f hr9.2) ?_
      show own_S p e below T32 (mkF m 11 #[.val (.ref r0), .val (.ref r1), .val (.int i9)] []) _
      refine XS.aloadN X32.here hx rfl (hb hby d9_11) rfl rfl ?_
      exact k
    obtain ⟨T35, X35, e35, st35⟩ := getF X32 hx hZ hown (host := "") (Or.inl (hw _ (List.mem_of_getElem? (i := 28) rfl))) Via.refl e32 C9 (g := (mkF m 12 #[.val (.ref r0), .val (.ref r1), .val (.int i9)] [(.ref r0)])) rfl rfl (hb hby d9_12)
    have K35 : own_K p e below SE T35 (mkF m 15 #[.val (.ref r0), .val (.ref r1), .val (.int i9)] [(.ref ea)]) := fun t k => K34 _ (st35 _ k)
    have K36 : own_K p e below SE T35 (mkF m 17 #[.val (.ref r0), .val (.ref r1), .val (.int i9)] [(.int i9), (.ref ea), (.int i9), (.ref ea)]) := by
      intro t k
      refine K35 _ ?_
      refine XS.iloadN X35.here hx rfl (hb hby d9_15) rfl ?_
      show own_S p e below T35 (mkF m 16 #[.val (.ref r0), .val (.ref r1), .val (.int i9)] [(.int i9), (.ref ea)]) _
      refine XT.dup2 X35.here hx rfl (hb hby d9_16) rfl rfl rfl ?_
      exact k
    obtain ⟨cl37, Ar37, Sz37, Hh37⟩ := id A9
    have K38 : own_K p e below SE T35 (mkF m 19 #[.val (.ref r0), .val (.ref r1), .val (.int i9)] [(.ref r1), (.long ((own_ad f g i9) i9)), (.int i9), (.ref ea)]) := by
      intro t k
      refine K36 _ ?_
      refine X35.laload hx (j := i9) (v := (.long ((own_ad f g i9) i9))) (by rw [e35]; exact Ar37.1) (State.isArrayOf_alike hZ.alike Ar37.2.1) Ar37.2.2 (own_inb Sz37 hr9) (Hh37 _ (hr9).1 (hr9).2) (g := (mkF m 17 #[.val (.ref r0), .val (.ref r1), .val (.int i9)] [(.int i9), (.ref ea), (.int i9), (.ref ea)])) rfl rfl (hb hby d9_17) _ ?_
      show own_S p e below T35 (mkF m 18 #[.val (.ref r0), .val (.ref r1), .val (.int i9)] [(.long ((own_ad f g i9) i9)), (.int i9), (.ref ea)]) _
      refine XS.aloadN X35.here hx rfl (hb hby d9_18) rfl rfl ?_
      exact k
    obtain ⟨T39, X39, e39, st39⟩ := getF X35 hx hZ hown (host := "") (Or.inl (hw _ (List.mem_of_getElem? (i := 28) rfl))) Via.refl e35 D9 (g := (mkF m 19 #[.val (.ref r0), .val (.ref r1), .val (.int i9)] [(.ref r1), (.long ((own_ad f g i9) i9)), (.int i9), (.ref ea)])) rfl rfl (hb hby d9_19)
    have K39 : own_K p e below SE T39 (mkF m 22 #[.val (.ref r0), .val (.ref r1), .val (.int i9)] [(.ref eb), (.long ((own_ad f g i9) i9)), (.int i9), (.ref ea)]) := fun t k => K38 _ (st39 _ k)
    have K40 : own_K p e below SE T39 (mkF m 23 #[.val (.ref r0), .val (.ref r1), .val (.int i9)] [(.int i9), (.ref eb), (.long ((own_ad f g i9) i9)), (.int i9), (.ref ea)]) := by
      intro t k
      refine K39 _ ?_
      refine XS.iloadN X39.here hx rfl (hb hby d9_22) rfl ?_
      exact k
    obtain ⟨cl41, Ar41, Sz41, Hh41⟩ := id B9
    have K42 : own_K p e below SE T39 (mkF m 25 #[.val (.ref r0), .val (.ref r1), .val (.int i9)] [(.long (((own_ad f g i9) i9) + (g i9))), (.int i9), (.ref ea)]) := by
      intro t k
      refine K40 _ ?_
      refine X39.laload hx (j := i9) (v := (.long (g i9))) (by rw [e39]; exact Ar41.1) (State.isArrayOf_alike hZ.alike Ar41.2.1) Ar41.2.2 (own_inb Sz41 hr9) (Hh41 _ (hr9).1 (hr9).2) (g := (mkF m 23 #[.val (.ref r0), .val (.ref r1), .val (.int i9)] [(.int i9), (.ref eb), (.long ((own_ad f g i9) i9)), (.int i9), (.ref ea)])) rfl rfl (hb hby d9_23) _ ?_
      show own_S p e below T39 (mkF m 24 #[.val (.ref r0), .val (.ref r1), .val (.int i9)] [(.long (g i9)), (.long ((own_ad f g i9) i9)), (.int i9), (.ref ea)]) _
      refine XS.ladd X39.here hx rfl (hb hby d9_24) rfl ?_
      exact k
    obtain ⟨cl43, Ar43, Sz43, Hh43⟩ := id A9
    obtain ⟨T44, h44, X44, e44, W44, st44⟩ := stJ X39 hx hZ e39 Ar43 (j := i9) (own_inb Sz43 hr9) (g := (mkF m 25 #[.val (.ref r0), .val (.ref r1), .val (.int i9)] [(.long (((own_ad f g i9) i9) + (g i9))), (.int i9), (.ref ea)])) rfl rfl (hb hby d9_25)
    have V44 : own_A Z h44 ea (own_set (own_ad f g i9) i9 (((own_ad f g i9) i9) + (g i9))) := own_A.put Ar43 Sz43 Hh43 hr9 W44
    have N44 := Fr.snoc X44 N9 g_ea
    have Kp44 : Keep h0 h44 [r0, ea] := Keep.wr Kp9 W44 (Or.inl (List.mem_of_getElem? (i := 1) rfl))
    have K44 : own_K p e below SE T44 (mkF m 26 #[.val (.ref r0), .val (.ref r1), .val (.int i9)] []) := fun t k => K42 _ (st44 _ k)
    have K45 : own_K p e below SE T44 (mkF m 29 #[.val (.ref r0), .val (.ref r1), .val (.int (i9 + (1 : Int32)))] []) := by
      intro t k
      refine K44 _ ?_
      refine XS.iinc X44.here hx rfl (hb hby d9_26) rfl (l' := #[.val (.ref r0), .val (.ref r1), .val (.int (i9 + (1 : Int32)))]) rfl ?_
      exact k
    have K46 : own_K p e below SE T44 (mkF m 2 #[.val (.ref r0), .val (.ref r1), .val (.int (i9 + (1 : Int32)))] []) := by
      intro t k
      refine K45 _ ?_
      refine XS.goto X44.here hx rfl (pc0 := 29) (pc' := 2) rfl (hb hby d9_29) (by decide) (by decide) ?_
      exact k
    have hA : own_A Z h44 ea (own_ad f g (i9 + (1 : Int32))) := by
      rw [← own_ads f g hi9 hl9]
      exact V44
    exact ih T44 h44 _ (i9 + (1 : Int32)) X44 e44 N44 Kp44 (E9.wr W44) (C9.other W44 (Or.inl n1)) (U9.other W44 (Or.inl n1)) hA (D9.other W44 (Or.inl n2)) (V9.other W44 (Or.inl n2)) (B9.other W44 (Ne.symm n3)) (by rw [own_i1 hi9 hl9]; omega) (by rw [own_i1 hi9 hl9]; omega) K46
def own_rank (p1 : Int32) : Int64 := (if (1 : Int64) < (((((p1).toInt64) * (3 : Int64)) + (99 : Int64)) / (100 : Int64)) then (((((p1).toInt64) * (3 : Int64)) + (99 : Int64)) / (100 : Int64)) else (1 : Int64))
theorem own_two : Fin64 (4611686018427387904 : UInt64) ∧ Nz64 (4611686018427387904 : UInt64) := by
  unfold Fin64 Nz64
  decide +kernel
theorem own_thou : Fin64 (4652007308841189376 : UInt64) ∧ Nz64 (4652007308841189376 : UInt64) := by
  unfold Fin64 Nz64
  decide +kernel
theorem own_zero : Fin64 FP.dconst0 := by
  unfold Fin64
  decide +kernel
def own_mic (i9 : Int32) : UInt64 := (FP.dadd (FP.l2d ((((i9 - ((if (0 : Int32) < ((i9 / (1024 : Int32)) - (1 : Int32)) then ((i9 / (1024 : Int32)) - (1 : Int32)) else (0 : Int32)) * (1024 : Int32)))).toInt64) <<< ((if (0 : Int32) < ((i9 / (1024 : Int32)) - (1 : Int32)) then ((i9 / (1024 : Int32)) - (1 : Int32)) else (0 : Int32)) &&& 0x3f).toInt64)) (FP.ddiv (FP.l2d (((1 : Int64) <<< ((if (0 : Int32) < ((i9 / (1024 : Int32)) - (1 : Int32)) then ((i9 / (1024 : Int32)) - (1 : Int32)) else (0 : Int32)) &&& 0x3f).toInt64) - (1 : Int64))) (4611686018427387904 : UInt64)))
theorem own_mic_nn (i9 : Int32) : NoNaN64 (own_mic i9) := dadd_out' (l2d_fin _) (ddiv_out (l2d_fin _).noNaN own_two.1 own_two.2)
def own_scan (f : Int32 → Int64) (r : Int64) : Nat → Int32 → Int64 → UInt64
  | 0, _, _ => FP.dconst0
  | d + 1, i, s => if (s + (f i)) < r then own_scan f r d (i + (1 : Int32)) (s + (f i)) else own_mic i
theorem own_scanS (f : Int32 → Int64) (r : Int64) (d : Nat) (i : Int32) (s : Int64) : own_scan f r (d + 1) i s = (if (s + (f i)) < r then own_scan f r d (i + (1 : Int32)) (s + (f i)) else own_mic i) := rfl
theorem own_scan_nn (f : Int32 → Int64) (r : Int64) : ∀ (d : Nat) (i : Int32) (s : Int64), NoNaN64 (own_scan f r d i s) := by
  intro d
  induction d with
  | zero => intro i s; exact own_zero.noNaN
  | succ d ih =>
    intro i s
    rw [own_scanS]
    split
    · exact ih _ _
    · exact own_mic_nn i
def own_pm (f : Int32 → Int64) (p : Int32) : UInt64 := own_scan f (own_rank p) 55296 (0 : Int32) (0 : Int64)
theorem own_pm_nn2 (f : Int32 → Int64) (p : Int32) : NoNaN64 (FP.ddiv (own_pm f p) (4652007308841189376 : UInt64)) := ddiv_out (own_scan_nn f _ _ _ _) own_thou.1 own_thou.2
def own_res (f : Int32 → Int64) (p : Int32) : UInt64 := FP.ddiv (own_pm f p) (4652007308841189376 : UInt64)
theorem own_res_nn (f : Int32 → Int64) (p : Int32) : NoNaN64 (own_res f p) := own_pm_nn2 f p
theorem own_feq (f : Int32 → Int64) (q : Int64) (k : Int32) : own_pl (own_up own_z q) f k = own_up f q k := by
  have u0 : own_pl (own_up own_z q) f k = own_up own_z q k + f k := rfl
  rw [u0]
  by_cases e : k = own_bk q
  · have u1 : own_up own_z q k = own_z (own_bk q) + (1 : Int64) := if_pos e
    have u2 : own_up f q k = f (own_bk q) + (1 : Int64) := if_pos e
    have u3 : own_z (own_bk q) = (0 : Int64) := rfl
    rw [u1, u2, u3, e, show ((0 : Int64) + 1) = 1 from by decide, Int64.add_comm]
  · have u1 : own_up own_z q k = own_z k := if_neg e
    have u2 : own_up f q k = f k := if_neg e
    have u3 : own_z k = (0 : Int64) := rfl
    rw [u1, u2, u3, Int64.zero_add]
theorem d10_0 : decode prog_7_method_4_code 0 = .ok (.lconst 1, 1) := by decide +kernel
theorem d10_1 : decode prog_7_method_4_code 1 = .ok (.iload_n 1, 1) := by decide +kernel
theorem d10_2 : decode prog_7_method_4_code 2 = .ok (.i2l, 1) := by decide +kernel
theorem d10_3 : decode prog_7_method_4_code 3 = .ok (.aload_n 0, 1) := by decide +kernel
theorem d10_4 : decode prog_7_method_4_code 4 = .ok (.getfield 29, 3) := by decide +kernel
theorem d10_7 : decode prog_7_method_4_code 7 = .ok (.lmul, 1) := by decide +kernel
theorem d10_8 : decode prog_7_method_4_code 8 = .ok (.ldc2_w 33, 3) := by decide +kernel
theorem d10_11 : decode prog_7_method_4_code 11 = .ok (.ladd, 1) := by decide +kernel
theorem d10_12 : decode prog_7_method_4_code 12 = .ok (.ldc2_w 35, 3) := by decide +kernel
theorem d10_15 : decode prog_7_method_4_code 15 = .ok (.ldiv, 1) := by decide +kernel
theorem d10_16 : decode prog_7_method_4_code 16 = .ok (.invokestatic 21, 3) := by decide +kernel
theorem d10_19 : decode prog_7_method_4_code 19 = .ok (.lstore_n 2, 1) := by decide +kernel
theorem d10_20 : decode prog_7_method_4_code 20 = .ok (.dconst 0, 1) := by decide +kernel
theorem d10_21 : decode prog_7_method_4_code 21 = .ok (.dstore 4, 2) := by decide +kernel
theorem d10_23 : decode prog_7_method_4_code 23 = .ok (.lconst 0, 1) := by decide +kernel
theorem d10_24 : decode prog_7_method_4_code 24 = .ok (.lstore 6, 2) := by decide +kernel
theorem d10_26 : decode prog_7_method_4_code 26 = .ok (.iconst 0, 1) := by decide +kernel
theorem d10_27 : decode prog_7_method_4_code 27 = .ok (.istore 8, 2) := by decide +kernel
theorem d10_29 : decode prog_7_method_4_code 29 = .ok (.iload 8, 2) := by decide +kernel
theorem d10_31 : decode prog_7_method_4_code 31 = .ok (.aload_n 0, 1) := by decide +kernel
theorem d10_32 : decode prog_7_method_4_code 32 = .ok (.getfield 17, 3) := by decide +kernel
theorem d10_35 : decode prog_7_method_4_code 35 = .ok (.arraylength, 1) := by decide +kernel
theorem d10_36 : decode prog_7_method_4_code 36 = .ok (.if_icmp .ge 86, 3) := by decide +kernel
theorem d10_39 : decode prog_7_method_4_code 39 = .ok (.aload_n 0, 1) := by decide +kernel
theorem d10_40 : decode prog_7_method_4_code 40 = .ok (.getfield 29, 3) := by decide +kernel
theorem d10_43 : decode prog_7_method_4_code 43 = .ok (.lconst 0, 1) := by decide +kernel
theorem d10_44 : decode prog_7_method_4_code 44 = .ok (.lcmp, 1) := by decide +kernel
theorem d10_45 : decode prog_7_method_4_code 45 = .ok (.ifCond .le 77, 3) := by decide +kernel
theorem d10_48 : decode prog_7_method_4_code 48 = .ok (.lload 6, 2) := by decide +kernel
theorem d10_50 : decode prog_7_method_4_code 50 = .ok (.aload_n 0, 1) := by decide +kernel
theorem d10_51 : decode prog_7_method_4_code 51 = .ok (.getfield 17, 3) := by decide +kernel
theorem d10_54 : decode prog_7_method_4_code 54 = .ok (.iload 8, 2) := by decide +kernel
theorem d10_56 : decode prog_7_method_4_code 56 = .ok (.laload, 1) := by decide +kernel
theorem d10_57 : decode prog_7_method_4_code 57 = .ok (.ladd, 1) := by decide +kernel
theorem d10_58 : decode prog_7_method_4_code 58 = .ok (.lstore 6, 2) := by decide +kernel
theorem d10_60 : decode prog_7_method_4_code 60 = .ok (.lload 6, 2) := by decide +kernel
theorem d10_62 : decode prog_7_method_4_code 62 = .ok (.lload_n 2, 1) := by decide +kernel
theorem d10_63 : decode prog_7_method_4_code 63 = .ok (.lcmp, 1) := by decide +kernel
theorem d10_64 : decode prog_7_method_4_code 64 = .ok (.ifCond .lt 52, 3) := by decide +kernel
theorem d10_67 : decode prog_7_method_4_code 67 = .ok (.iconst 0, 1) := by decide +kernel
theorem d10_68 : decode prog_7_method_4_code 68 = .ok (.iload 8, 2) := by decide +kernel
theorem d10_70 : decode prog_7_method_4_code 70 = .ok (.sipush 1024, 3) := by decide +kernel
theorem d10_73 : decode prog_7_method_4_code 73 = .ok (.idiv, 1) := by decide +kernel
theorem d10_74 : decode prog_7_method_4_code 74 = .ok (.iconst 1, 1) := by decide +kernel
theorem d10_75 : decode prog_7_method_4_code 75 = .ok (.isub, 1) := by decide +kernel
theorem d10_76 : decode prog_7_method_4_code 76 = .ok (.invokestatic 37, 3) := by decide +kernel
theorem d10_79 : decode prog_7_method_4_code 79 = .ok (.istore 9, 2) := by decide +kernel
theorem d10_81 : decode prog_7_method_4_code 81 = .ok (.iload 8, 2) := by decide +kernel
theorem d10_83 : decode prog_7_method_4_code 83 = .ok (.iload 9, 2) := by decide +kernel
theorem d10_85 : decode prog_7_method_4_code 85 = .ok (.sipush 1024, 3) := by decide +kernel
theorem d10_88 : decode prog_7_method_4_code 88 = .ok (.imul, 1) := by decide +kernel
theorem d10_89 : decode prog_7_method_4_code 89 = .ok (.isub, 1) := by decide +kernel
theorem d10_90 : decode prog_7_method_4_code 90 = .ok (.i2l, 1) := by decide +kernel
theorem d10_91 : decode prog_7_method_4_code 91 = .ok (.iload 9, 2) := by decide +kernel
theorem d10_93 : decode prog_7_method_4_code 93 = .ok (.lshl, 1) := by decide +kernel
theorem d10_94 : decode prog_7_method_4_code 94 = .ok (.lstore 10, 2) := by decide +kernel
theorem d10_96 : decode prog_7_method_4_code 96 = .ok (.lload 10, 2) := by decide +kernel
theorem d10_98 : decode prog_7_method_4_code 98 = .ok (.l2d, 1) := by decide +kernel
theorem d10_99 : decode prog_7_method_4_code 99 = .ok (.lconst 1, 1) := by decide +kernel
theorem d10_100 : decode prog_7_method_4_code 100 = .ok (.iload 9, 2) := by decide +kernel
theorem d10_102 : decode prog_7_method_4_code 102 = .ok (.lshl, 1) := by decide +kernel
theorem d10_103 : decode prog_7_method_4_code 103 = .ok (.lconst 1, 1) := by decide +kernel
theorem d10_104 : decode prog_7_method_4_code 104 = .ok (.lsub, 1) := by decide +kernel
theorem d10_105 : decode prog_7_method_4_code 105 = .ok (.l2d, 1) := by decide +kernel
theorem d10_106 : decode prog_7_method_4_code 106 = .ok (.ldc2_w 40, 3) := by decide +kernel
theorem d10_109 : decode prog_7_method_4_code 109 = .ok (.ddiv, 1) := by decide +kernel
theorem d10_110 : decode prog_7_method_4_code 110 = .ok (.dadd, 1) := by decide +kernel
theorem d10_111 : decode prog_7_method_4_code 111 = .ok (.dstore 4, 2) := by decide +kernel
theorem d10_113 : decode prog_7_method_4_code 113 = .ok (.goto 9, 3) := by decide +kernel
theorem d10_116 : decode prog_7_method_4_code 116 = .ok (.iinc 8 1, 3) := by decide +kernel
theorem d10_119 : decode prog_7_method_4_code 119 = .ok (.goto (-90), 3) := by decide +kernel
theorem d10_122 : decode prog_7_method_4_code 122 = .ok (.dload 4, 2) := by decide +kernel
theorem d10_124 : decode prog_7_method_4_code 124 = .ok (.ldc2_w 42, 3) := by decide +kernel
theorem d10_127 : decode prog_7_method_4_code 127 = .ok (.ddiv, 1) := by decide +kernel
theorem d10_128 : decode prog_7_method_4_code 128 = .ok (.dreturn, 1) := by decide +kernel
theorem pd_pm_0 : parseMethodDescriptor "(JJ)J" = some ⟨[.long, .long], some .long⟩ := by decide +kernel
theorem pd_pm_1 : parseMethodDescriptor "(II)I" = some ⟨[.int, .int], some .int⟩ := by decide +kernel
theorem ef_pm (m : MethodId) (r0 : Addr) (p1 : Int32) : entryFrame m #[(.ref r0), (.int p1)] 12 = mkF m 0 #[.val (.ref r0), .val (.int p1), .unset, .unset, .unset, .unset, .unset, .unset, .unset, .unset, .unset, .unset] [] := by first | (simp [entryFrame, mkF, argsToLocals, Value.category]; done) | rfl
def Qpm (Z : State) (r0 : Addr) (p1 : Int32) (ea : Addr) (f : Int32 → Int64) (h0 : Heap) (n0 : Nat) (v : Option Value) (h : Heap) (L : List Loc) : Prop := v = some (.double (own_res f p1)) ∧ Fr n0 L ∧ h = h0
set_option maxRecDepth 65536 in
set_option maxHeartbeats 40000000 in
theorem rmpm (l : Launch) (Z : State) (a0 : Array Value) (hw : ∀ d ∈ tables_1, d.before a0 Z = true) (ws : List Jvm.Cond) (r0 : Addr) (p1 : Int32) (ea : Addr) (f : Int32 → Int64) (h0 : Heap) (n0 : Nat) (Z0 : n0 ≤ h0.size) (F_c : Fld Z h0 r0 "com/example/convene/convene/bench/Latencies" "counts" "[J" (.ref ea)) (F_t : Fld Z h0 r0 "com/example/convene/convene/bench/Latencies" "total" "J" (.long (3 : Int64))) (A_e : own_A Z h0 ea f) :
    MetFree l (⟨"com/example/convene/convene/bench/Latencies", "percentileMs", "(I)D"⟩ : MethodName) (head1 (Jvm.Cond.code (⟨"com/example/convene/convene/bench/Latencies", "percentileMs", "(I)D"⟩ : MethodName) prog_7_method_4_code 12 (some .double) :: ws) ({ frames := 2, cells := 0, slots := 0, locals := 40 } : Room)) (fun a U => a = #[(.ref r0), (.int p1)] ∧ Z.Warmed39 U.vm ∧ U.heap = h0) (fun _ _ _ _ _ => True) (fun _ U o U' => ∃ v L, o = .returned v ∧ Qpm Z r0 p1 ea f h0 n0 v U'.heap L ∧ FrameEnd U o U' L ({ frames := 2, cells := 0, slots := 0, locals := 40 } : Room).cells ({ frames := 2, cells := 0, slots := 0, locals := 40 } : Room).slots) := by
  refine MetFree.of_bodySF (plainFor_of_name pn_3) hisR ?_
  intro p e s m args below meth c s₁ Bd hml0 hP hK
  obtain ⟨rfl, hZ, hh⟩ := hP
  have hx := Bd.exec
  have hby := Bd.bytes
  have hml : c.maxLocals = 12 := hml0
  have hown : s.vm.findClass "com/example/convene/convene/bench/Latencies" = some m.cls := findClass_of_methodNamed Bd.named
  have hnm := (name_of_methodNamed Bd.named Bd.method).1
  have X0 : Stand p l e ({ frames := 2, cells := 0, slots := 0, locals := 40 } : Room) s m #[(.ref r0), (.int p1)] below meth c s₁ [] 0 0 := Stand.of_body Bd
  have e0 : s₁.heap = h0 := by rw [← hh, Bd.state]; rfl
  have N0 := Fr.nil n0
  have K0 : ∀ t, Steps p.tables e below (s₁.setTop (mkF m 0 #[.val (.ref r0), .val (.int p1), .unset, .unset, .unset, .unset, .unset, .unset, .unset, .unset, .unset, .unset] [])) t → Steps p.tables e below (s₁.setTop (entryFrame m #[(.ref r0), (.int p1)] 12)) t := fun t k => castTop (ef_pm m r0 p1) k
  generalize s₁.setTop (entryFrame m #[(.ref r0), (.int p1)] 12) = SE at K0 ⊢
  have K21 : own_K p e below SE s₁ (mkF m 4 #[.val (.ref r0), .val (.int p1), .unset, .unset, .unset, .unset, .unset, .unset, .unset, .unset, .unset, .unset] [(.ref r0), (.long ((p1).toInt64)), (.long (1 : Int64))]) := by
    intro t k
    refine K0 _ ?_
    refine XS.lconst X0.here hx rfl (hb hby d10_0) ?_
    show own_S p e below s₁ (mkF m 1 #[.val (.ref r0), .val (.int p1), .unset, .unset, .unset, .unset, .unset, .unset, .unset, .unset, .unset, .unset] [(.long (1 : Int64))]) _
    refine XS.iloadN X0.here hx rfl (hb hby d10_1) rfl ?_
    show own_S p e below s₁ (mkF m 2 #[.val (.ref r0), .val (.int p1), .unset, .unset, .unset, .unset, .unset, .unset, .unset, .unset, .unset, .unset] [(.int p1), (.long (1 : Int64))]) _
    refine XS.i2l X0.here hx rfl (hb hby d10_2) rfl ?_
    show own_S p e below s₁ (mkF m 3 #[.val (.ref r0), .val (.int p1), .unset, .unset, .unset, .unset, .unset, .unset, .unset, .unset, .unset, .unset] [(.long ((p1).toInt64)), (.long (1 : Int64))]) _
    refine XS.aloadN X0.here hx rfl (hb hby d10_3) rfl rfl ?_
    exact k
  obtain ⟨T22, X22, e22, st22⟩ := getF X0 hx hZ hown (host := "") (Or.inl (hw _ (List.mem_of_getElem? (i := 39) rfl))) Via.refl e0 F_t (g := (mkF m 4 #[.val (.ref r0), .val (.int p1), .unset, .unset, .unset, .unset, .unset, .unset, .unset, .unset, .unset, .unset] [(.ref r0), (.long ((p1).toInt64)), (.long (1 : Int64))])) rfl rfl (hb hby d10_4)
  have K22 : own_K p e below SE T22 (mkF m 7 #[.val (.ref r0), .val (.int p1), .unset, .unset, .unset, .unset, .unset, .unset, .unset, .unset, .unset, .unset] [(.long (3 : Int64)), (.long ((p1).toInt64)), (.long (1 : Int64))]) := fun t k => K21 _ (st22 _ k)
  have K23 : own_K p e below SE T22 (mkF m 16 #[.val (.ref r0), .val (.int p1), .unset, .unset, .unset, .unset, .unset, .unset, .unset, .unset, .unset, .unset] [(.long (((((p1).toInt64) * (3 : Int64)) + (99 : Int64)) / (100 : Int64))), (.long (1 : Int64))]) := by
    intro t k
    refine K22 _ ?_
    refine XS.lmul X22.here hx rfl (hb hby d10_7) rfl ?_
    show own_S p e below T22 (mkF m 8 #[.val (.ref r0), .val (.int p1), .unset, .unset, .unset, .unset, .unset, .unset, .unset, .unset, .unset, .unset] [(.long (((p1).toInt64) * (3 : Int64))), (.long (1 : Int64))]) _
    refine Stand.ldc2J X22 hx hown (mvT hZ (hw _ (List.mem_of_getElem? (i := 51) rfl))) (v := (99 : Int64)) (g := (mkF m 8 #[.val (.ref r0), .val (.int p1), .unset, .unset, .unset, .unset, .unset, .unset, .unset, .unset, .unset, .unset] [(.long (((p1).toInt64) * (3 : Int64))), (.long (1 : Int64))])) rfl (hb hby d10_8) ?_
    show own_S p e below T22 (mkF m 11 #[.val (.ref r0), .val (.int p1), .unset, .unset, .unset, .unset, .unset, .unset, .unset, .unset, .unset, .unset] [(.long (99 : Int64)), (.long (((p1).toInt64) * (3 : Int64))), (.long (1 : Int64))]) _
    refine XS.ladd X22.here hx rfl (hb hby d10_11) rfl ?_
    show own_S p e below T22 (mkF m 12 #[.val (.ref r0), .val (.int p1), .unset, .unset, .unset, .unset, .unset, .unset, .unset, .unset, .unset, .unset] [(.long ((((p1).toInt64) * (3 : Int64)) + (99 : Int64))), (.long (1 : Int64))]) _
    refine Stand.ldc2J X22 hx hown (mvT hZ (hw _ (List.mem_of_getElem? (i := 52) rfl))) (v := (100 : Int64)) (g := (mkF m 12 #[.val (.ref r0), .val (.int p1), .unset, .unset, .unset, .unset, .unset, .unset, .unset, .unset, .unset, .unset] [(.long ((((p1).toInt64) * (3 : Int64)) + (99 : Int64))), (.long (1 : Int64))])) rfl (hb hby d10_12) ?_
    show own_S p e below T22 (mkF m 15 #[.val (.ref r0), .val (.int p1), .unset, .unset, .unset, .unset, .unset, .unset, .unset, .unset, .unset, .unset] [(.long (100 : Int64)), (.long ((((p1).toInt64) * (3 : Int64)) + (99 : Int64))), (.long (1 : Int64))]) _
    refine XS.ldiv X22.here hx rfl (hb hby d10_15) rfl (by decide) ?_
    exact k
  obtain ⟨_, _, ⟨T24, L24, k24, n24⟩, -, X24, ⟨Lc24, hQ24, l24, y24, z24⟩, st24⟩ := Jvm.LawKit.callS X22 hx (y := (⟨"java/lang/Math", "max", "(JJ)J"⟩ : MethodName)) hown (mvT hZ (hw _ (List.mem_of_getElem? (i := 35) rfl))) (mvT hZ (hw _ (List.mem_of_getElem? (i := 36) rfl))) (mvT hZ (hw _ (List.mem_of_getElem? (i := 25) rfl))) (mvT hZ (hw _ (List.mem_of_getElem? (i := 37) rfl))) (by decide) (backOf (W := 0) (rmmxj l Z a0 hw [] (1 : Int64) (((((p1).toInt64) * (3 : Int64)) + (99 : Int64)) / (100 : Int64)) h0 n0 Z0) hZ (hw _ (List.mem_of_getElem? (i := 37) rfl)) (hw _ (List.mem_of_getElem? (i := 25) rfl)) (by decide) (by decide)) (g := (mkF m 16 #[.val (.ref r0), .val (.int p1), .unset, .unset, .unset, .unset, .unset, .unset, .unset, .unset, .unset, .unset] [(.long (((((p1).toInt64) * (3 : Int64)) + (99 : Int64)) / (100 : Int64))), (.long (1 : Int64))])) rfl (by rw [hml]; rfl) (argsL := [(.long (1 : Int64)), (.long (((((p1).toInt64) * (3 : Int64)) + (99 : Int64)) / (100 : Int64)))]) (rest := []) (lenOf pd_pm_0 rfl) rfl (by show 2 * 0 + _ ≤ _; exact Nat.le_of_eq rfl) (hb hby d10_16) (fun _ _ => ⟨rfl, e22, (by decide : 0 + 0 ≤ _), (by decide : 0 + 0 ≤ _)⟩)
  dsimp only [Pt.U, Pt.locs, Pt.cells, Pt.slots] at X24 l24 y24 z24 st24 hQ24
  rw [y24, z24] at X24
  obtain ⟨rfl, Nq24, e24⟩ := hQ24
  have N24 : Fr n0 L24 := by rw [l24]; exact Fr.app N0 Nq24
  have K24 : own_K p e below SE T24 (mkF m 19 #[.val (.ref r0), .val (.int p1), .unset, .unset, .unset, .unset, .unset, .unset, .unset, .unset, .unset, .unset] [(.long (if (1 : Int64) < (((((p1).toInt64) * (3 : Int64)) + (99 : Int64)) / (100 : Int64)) then (((((p1).toInt64) * (3 : Int64)) + (99 : Int64)) / (100 : Int64)) else (1 : Int64)))]) := fun t k => K23 _ (st24 _ k)
  rw [(show (if (1 : Int64) < (((((p1).toInt64) * (3 : Int64)) + (99 : Int64)) / (100 : Int64)) then (((((p1).toInt64) * (3 : Int64)) + (99 : Int64)) / (100 : Int64)) else (1 : Int64)) = own_rank p1 from rfl)] at K24
  have K25 : own_K p e below SE T24 (mkF m 29 #[.val (.ref r0), .val (.int p1), .val (.long (own_rank p1)), .second, .val (.double FP.dconst0), .second, .val (.long (0 : Int64)), .second, .val (.int (0 : Int32)), .unset, .unset, .unset] []) := by
    intro t k
    refine K24 _ ?_
    refine XS.lstoreN X24.here hx rfl (hb hby d10_19) rfl (l' := #[.val (.ref r0), .val (.int p1), .val (.long (own_rank p1)), .second, .unset, .unset, .unset, .unset, .unset, .unset, .unset, .unset]) rfl ?_
    show own_S p e below T24 (mkF m 20 #[.val (.ref r0), .val (.int p1), .val (.long (own_rank p1)), .second, .unset, .unset, .unset, .unset, .unset, .unset, .unset, .unset] []) _
    refine XS.dconst0 X24.here hx rfl (hb hby d10_20) rfl ?_
    show own_S p e below T24 (mkF m 21 #[.val (.ref r0), .val (.int p1), .val (.long (own_rank p1)), .second, .unset, .unset, .unset, .unset, .unset, .unset, .unset, .unset] [(.double FP.dconst0)]) _
    refine XS.dstore X24.here hx rfl (hb hby d10_21) rfl (l' := #[.val (.ref r0), .val (.int p1), .val (.long (own_rank p1)), .second, .val (.double FP.dconst0), .second, .unset, .unset, .unset, .unset, .unset, .unset]) rfl ?_
    show own_S p e below T24 (mkF m 23 #[.val (.ref r0), .val (.int p1), .val (.long (own_rank p1)), .second, .val (.double FP.dconst0), .second, .unset, .unset, .unset, .unset, .unset, .unset] []) _
    refine XS.lconst X24.here hx rfl (hb hby d10_23) ?_
    show own_S p e below T24 (mkF m 24 #[.val (.ref r0), .val (.int p1), .val (.long (own_rank p1)), .second, .val (.double FP.dconst0), .second, .unset, .unset, .unset, .unset, .unset, .unset] [(.long (0 : Int64))]) _
    refine XS.lstore X24.here hx rfl (hb hby d10_24) rfl (l' := #[.val (.ref r0), .val (.int p1), .val (.long (own_rank p1)), .second, .val (.double FP.dconst0), .second, .val (.long (0 : Int64)), .second, .unset, .unset, .unset, .unset]) rfl ?_
    show own_S p e below T24 (mkF m 26 #[.val (.ref r0), .val (.int p1), .val (.long (own_rank p1)), .second, .val (.double FP.dconst0), .second, .val (.long (0 : Int64)), .second, .unset, .unset, .unset, .unset] []) _
    refine XS.iconst X24.here hx rfl (hb hby d10_26) ?_
    show own_S p e below T24 (mkF m 27 #[.val (.ref r0), .val (.int p1), .val (.long (own_rank p1)), .second, .val (.double FP.dconst0), .second, .val (.long (0 : Int64)), .second, .unset, .unset, .unset, .unset] [(.int (0 : Int32))]) _
    refine XS.istore X24.here hx rfl (hb hby d10_27) rfl (l' := #[.val (.ref r0), .val (.int p1), .val (.long (own_rank p1)), .second, .val (.double FP.dconst0), .second, .val (.long (0 : Int64)), .second, .val (.int (0 : Int32)), .unset, .unset, .unset]) rfl ?_
    exact k
  obtain ⟨d9, T9, i9, s9, X9, e9, hi9, hd9, hv9, K9⟩ : ∃ (d9 : Nat) (T9 : State) (i9 : Int32) (s9 : Int64), Stand p l e ({ frames := 2, cells := 0, slots := 0, locals := 40 } : Room) s m #[(.ref r0), (.int p1)] below meth c T9 L24 0 0 ∧ T9.heap = h0 ∧ 0 ≤ i9.toInt ∧ i9.toInt + d9 = 55296 ∧ own_scan f (own_rank p1) d9 i9 s9 = own_pm f p1 ∧ own_K p e below SE T9 (mkF m 29 #[.val (.ref r0), .val (.int p1), .val (.long (own_rank p1)), .second, .val (.double FP.dconst0), .second, .val (.long s9), .second, .val (.int i9), .unset, .unset, .unset] []) := ⟨55296, T24, (0 : Int32), (0 : Int64), X24, e24, by decide, by decide, rfl, K25⟩
  induction d9 generalizing T9 i9 s9 with
  | zero =>
    have he9 : i9.toInt = 55296 := by omega
    have hx9 : ¬ i9 < (55296 : Int32) := own_eqn he9
    have hz9 : FP.dconst0 = own_pm f p1 := hv9
    have K26 : own_K p e below SE T9 (mkF m 32 #[.val (.ref r0), .val (.int p1), .val (.long (own_rank p1)), .second, .val (.double FP.dconst0), .second, .val (.long s9), .second, .val (.int i9), .unset, .unset, .unset] [(.ref r0), (.int i9)]) := by
      intro t k
      refine K9 _ ?_
      refine XS.iload X9.here hx rfl (hb hby d10_29) rfl ?_
      show own_S p e below T9 (mkF m 31 #[.val (.ref r0), .val (.int p1), .val (.long (own_rank p1)), .second, .val (.double FP.dconst0), .second, .val (.long s9), .second, .val (.int i9), .unset, .unset, .unset] [(.int i9)]) _
      refine XS.aloadN X9.here hx rfl (hb hby d10_31) rfl rfl ?_
      exact k
    obtain ⟨T27, X27, e27, st27⟩ := getF X9 hx hZ hown (host := "") (Or.inl (hw _ (List.mem_of_getElem? (i := 28) rfl))) Via.refl e9 F_c (g := (mkF m 32 #[.val (.ref r0), .val (.int p1), .val (.long (own_rank p1)), .second, .val (.double FP.dconst0), .second, .val (.long s9), .second, .val (.int i9), .unset, .unset, .unset] [(.ref r0), (.int i9)])) rfl rfl (hb hby d10_32)
    have K27 : own_K p e below SE T27 (mkF m 35 #[.val (.ref r0), .val (.int p1), .val (.long (own_rank p1)), .second, .val (.double FP.dconst0), .second, .val (.long s9), .second, .val (.int i9), .unset, .unset, .unset] [(.ref ea), (.int i9)]) := fun t k => K26 _ (st27 _ k)
    obtain ⟨cl28, Ar28, Sz28, -⟩ := id A_e
    have K29 : own_K p e below SE T27 (mkF m 122 #[.val (.ref r0), .val (.int p1), .val (.long (own_rank p1)), .second, .val (.double FP.dconst0), .second, .val (.long s9), .second, .val (.int i9), .unset, .unset, .unset] []) := by
      intro t k
      refine K27 _ ?_
      refine X27.arraylength hx (by rw [e27]; exact Ar28.1) (State.isArrayOf_alike hZ.alike Ar28.2.1) (g := (mkF m 35 #[.val (.ref r0), .val (.int p1), .val (.long (own_rank p1)), .second, .val (.double FP.dconst0), .second, .val (.long s9), .second, .val (.int i9), .unset, .unset, .unset] [(.ref ea), (.int i9)])) rfl rfl (hb hby d10_35) _ ?_
      rw [own_len Sz28]
      show own_S p e below T27 (mkF m 36 #[.val (.ref r0), .val (.int p1), .val (.long (own_rank p1)), .second, .val (.double FP.dconst0), .second, .val (.long s9), .second, .val (.int i9), .unset, .unset, .unset] [(.int (55296 : Int32)), (.int i9)]) _
      refine XS.icmpYes X27.here hx rfl (pc0 := 36) (pc' := 122) rfl (hb hby d10_36) rfl (XT.ii_ge_t hx9) (by decide) (by decide) ?_
      exact k
    rw [hz9] at K29
    have K30 : own_K p e below SE T27 (mkF m 128 #[.val (.ref r0), .val (.int p1), .val (.long (own_rank p1)), .second, .val (.double (own_pm f p1)), .second, .val (.long s9), .second, .val (.int i9), .unset, .unset, .unset] [(.double (FP.ddiv (own_pm f p1) (4652007308841189376 : UInt64)))]) := by
      intro t k
      refine K29 _ ?_
      refine XS.dload X27.here hx rfl (hb hby d10_122) rfl ?_
      show own_S p e below T27 (mkF m 124 #[.val (.ref r0), .val (.int p1), .val (.long (own_rank p1)), .second, .val (.double (own_pm f p1)), .second, .val (.long s9), .second, .val (.int i9), .unset, .unset, .unset] [(.double (own_pm f p1))]) _
      refine X27.ldc2DoubleC hx hown (mvT hZ (hw _ (List.mem_of_getElem? (i := 54) rfl))) (g := (mkF m 124 #[.val (.ref r0), .val (.int p1), .val (.long (own_rank p1)), .second, .val (.double (own_pm f p1)), .second, .val (.long s9), .second, .val (.int i9), .unset, .unset, .unset] [(.double (own_pm f p1))])) rfl (hb hby d10_124) _ ?_
      show own_S p e below T27 (mkF m 127 #[.val (.ref r0), .val (.int p1), .val (.long (own_rank p1)), .second, .val (.double (own_pm f p1)), .second, .val (.long s9), .second, .val (.int i9), .unset, .unset, .unset] [(.double (4652007308841189376 : UInt64)), (.double (own_pm f p1))]) _
      refine XS.ddivS X27.here hx rfl (hb hby d10_127) rfl (own_pm_nn2 f p1) rfl ?_
      exact k
    obtain ⟨fs, hr, hrun, hended, hW, hsame⟩ := X27.leave (v := some (.double (FP.ddiv (own_pm f p1) (4652007308841189376 : UInt64)))) (fun h => by rw [Bd.returns] at h; cases h)
    refine ⟨_, _, K30 _ ?_, hrun, hended, _, _, rfl, ?_, ⟨_, rfl⟩, hW, hsame.mono (by decide) (by decide)⟩
    · show Steps p.tables e below (T27.setTop (mkF m 128 #[.val (.ref r0), .val (.int p1), .val (.long (own_rank p1)), .second, .val (.double (own_pm f p1)), .second, .val (.long s9), .second, .val (.int i9), .unset, .unset, .unset] [(.double (FP.ddiv (own_pm f p1) (4652007308841189376 : UInt64)))])) _
      jvm_step X27.here [X27.here.top, hx, (hb hby d10_128), X27.method', Bd.returns, narrow]
      first | (intro acts; rw [hr _ acts rfl rfl rfl]) | rw [hr _ _ rfl rfl rfl]
      exact Steps.refl _
    · show Qpm Z r0 p1 ea f h0 n0 _ T27.heap _
      rw [e27]
      exact ⟨rfl, N24, rfl⟩
  | succ d9 ih =>
    have hl9 : i9.toInt < 55296 := by omega
    have hr9 := own_rng hi9 hl9
    rw [own_scanS] at hv9
    have K31 : own_K p e below SE T9 (mkF m 32 #[.val (.ref r0), .val (.int p1), .val (.long (own_rank p1)), .second, .val (.double FP.dconst0), .second, .val (.long s9), .second, .val (.int i9), .unset, .unset, .unset] [(.ref r0), (.int i9)]) := by
      intro t k
      refine K9 _ ?_
      refine XS.iload X9.here hx rfl (hb hby d10_29) rfl ?_
      show own_S p e below T9 (mkF m 31 #[.val (.ref r0), .val (.int p1), .val (.long (own_rank p1)), .second, .val (.double FP.dconst0), .second, .val (.long s9), .second, .val (.int i9), .unset, .unset, .unset] [(.int i9)]) _
      refine XS.aloadN X9.here hx rfl (hb hby d10_31) rfl rfl ?_
      exact k
    obtain ⟨T32, X32, e32, st32⟩ := getF X9 hx hZ hown (host := "") (Or.inl (hw _ (List.mem_of_getElem? (i := 28) rfl))) Via.refl e9 F_c (g := (mkF m 32 #[.val (.ref r0), .val (.int p1), .val (.long (own_rank p1)), .second, .val (.double FP.dconst0), .second, .val (.long s9), .second, .val (.int i9), .unset, .unset, .unset] [(.ref r0), (.int i9)])) rfl rfl (hb hby d10_32)
    have K32 : own_K p e below SE T32 (mkF m 35 #[.val (.ref r0), .val (.int p1), .val (.long (own_rank p1)), .second, .val (.double FP.dconst0), .second, .val (.long s9), .second, .val (.int i9), .unset, .unset, .unset] [(.ref ea), (.int i9)]) := fun t k => K31 _ (st32 _ k)
    obtain ⟨cl33, Ar33, Sz33, -⟩ := id A_e
    have K34 : own_K p e below SE T32 (mkF m 40 #[.val (.ref r0), .val (.int p1), .val (.long (own_rank p1)), .second, .val (.double FP.dconst0), .second, .val (.long s9), .second, .val (.int i9), .unset, .unset, .unset] [(.ref r0)]) := by
      intro t k
      refine K32 _ ?_
      refine X32.arraylength hx (by rw [e32]; exact Ar33.1) (State.isArrayOf_alike hZ.alike Ar33.2.1) (g := (mkF m 35 #[.val (.ref r0), .val (.int p1), .val (.long (own_rank p1)), .second, .val (.double FP.dconst0), .second, .val (.long s9), .second, .val (.int i9), .unset, .unset, .unset] [(.ref ea), (.int i9)])) rfl rfl (hb hby d10_35) _ ?_
      rw [own_len Sz33]
      show own_S p e below T32 (mkF m 36 #[.val (.ref r0), .val (.int p1), .val (.long (own_rank p1)), .second, .val (.double FP.dconst0), .second, .val (.long s9), .second, .val (.int i9), .unset, .unset, .unset] [(.int (55296 : Int32)), (.int i9)]) _
      refine XS.icmpNo X32.here hx rfl (hb hby d10_36) rfl (XT.ii_ge_f hr9.2) ?_
      show own_S p e below T32 (mkF m 39 #[.val (.ref r0), .val (.int p1), .val (.long (own_rank p1)), .second, .val (.double FP.dconst0), .second, .val (.long s9), .second, .val (.int i9), .unset, .unset, .unset] []) _
      refine XS.aloadN X32.here hx rfl (hb hby d10_39) rfl rfl ?_
      exact k
    obtain ⟨T35, X35, e35, st35⟩ := getF X32 hx hZ hown (host := "") (Or.inl (hw _ (List.mem_of_getElem? (i := 39) rfl))) Via.refl e32 F_t (g := (mkF m 40 #[.val (.ref r0), .val (.int p1), .val (.long (own_rank p1)), .second, .val (.double FP.dconst0), .second, .val (.long s9), .second, .val (.int i9), .unset, .unset, .unset] [(.ref r0)])) rfl rfl (hb hby d10_40)
    have K35 : own_K p e below SE T35 (mkF m 43 #[.val (.ref r0), .val (.int p1), .val (.long (own_rank p1)), .second, .val (.double FP.dconst0), .second, .val (.long s9), .second, .val (.int i9), .unset, .unset, .unset] [(.long (3 : Int64))]) := fun t k => K34 _ (st35 _ k)
    have K36 : own_K p e below SE T35 (mkF m 51 #[.val (.ref r0), .val (.int p1), .val (.long (own_rank p1)), .second, .val (.double FP.dconst0), .second, .val (.long s9), .second, .val (.int i9), .unset, .unset, .unset] [(.ref r0), (.long s9)]) := by
      intro t k
      refine K35 _ ?_
      refine XS.lconst X35.here hx rfl (hb hby d10_43) ?_
      show own_S p e below T35 (mkF m 44 #[.val (.ref r0), .val (.int p1), .val (.long (own_rank p1)), .second, .val (.double FP.dconst0), .second, .val (.long s9), .second, .val (.int i9), .unset, .unset, .unset] [(.long (0 : Int64)), (.long (3 : Int64))]) _
      refine XT.lcmp X35.here hx rfl (hb hby d10_44) rfl ?_
      show own_S p e below T35 (mkF m 45 #[.val (.ref r0), .val (.int p1), .val (.long (own_rank p1)), .second, .val (.double FP.dconst0), .second, .val (.long s9), .second, .val (.int i9), .unset, .unset, .unset] [(.int (XT.cmpL (3 : Int64) (0 : Int64)))]) _
      refine XS.ifNo X35.here hx rfl (hb hby d10_45) rfl (XT.ll_le_f (by decide : (0 : Int64) < (3 : Int64))) ?_
      show own_S p e below T35 (mkF m 48 #[.val (.ref r0), .val (.int p1), .val (.long (own_rank p1)), .second, .val (.double FP.dconst0), .second, .val (.long s9), .second, .val (.int i9), .unset, .unset, .unset] []) _
      refine XS.lload X35.here hx rfl (hb hby d10_48) rfl ?_
      show own_S p e below T35 (mkF m 50 #[.val (.ref r0), .val (.int p1), .val (.long (own_rank p1)), .second, .val (.double FP.dconst0), .second, .val (.long s9), .second, .val (.int i9), .unset, .unset, .unset] [(.long s9)]) _
      refine XS.aloadN X35.here hx rfl (hb hby d10_50) rfl rfl ?_
      exact k
    obtain ⟨T37, X37, e37, st37⟩ := getF X35 hx hZ hown (host := "") (Or.inl (hw _ (List.mem_of_getElem? (i := 28) rfl))) Via.refl e35 F_c (g := (mkF m 51 #[.val (.ref r0), .val (.int p1), .val (.long (own_rank p1)), .second, .val (.double FP.dconst0), .second, .val (.long s9), .second, .val (.int i9), .unset, .unset, .unset] [(.ref r0), (.long s9)])) rfl rfl (hb hby d10_51)
    have K37 : own_K p e below SE T37 (mkF m 54 #[.val (.ref r0), .val (.int p1), .val (.long (own_rank p1)), .second, .val (.double FP.dconst0), .second, .val (.long s9), .second, .val (.int i9), .unset, .unset, .unset] [(.ref ea), (.long s9)]) := fun t k => K36 _ (st37 _ k)
    have K38 : own_K p e below SE T37 (mkF m 56 #[.val (.ref r0), .val (.int p1), .val (.long (own_rank p1)), .second, .val (.double FP.dconst0), .second, .val (.long s9), .second, .val (.int i9), .unset, .unset, .unset] [(.int i9), (.ref ea), (.long s9)]) := by
      intro t k
      refine K37 _ ?_
      refine XS.iload X37.here hx rfl (hb hby d10_54) rfl ?_
      exact k
    obtain ⟨cl39, Ar39, Sz39, Hh39⟩ := id A_e
    have K40 : own_K p e below SE T37 (mkF m 64 #[.val (.ref r0), .val (.int p1), .val (.long (own_rank p1)), .second, .val (.double FP.dconst0), .second, .val (.long (s9 + (f i9))), .second, .val (.int i9), .unset, .unset, .unset] [(.int (XT.cmpL (s9 + (f i9)) (own_rank p1)))]) := by
      intro t k
      refine K38 _ ?_
      refine X37.laload hx (j := i9) (v := (.long (f i9))) (by rw [e37]; exact Ar39.1) (State.isArrayOf_alike hZ.alike Ar39.2.1) Ar39.2.2 (own_inb Sz39 hr9) (Hh39 _ (hr9).1 (hr9).2) (g := (mkF m 56 #[.val (.ref r0), .val (.int p1), .val (.long (own_rank p1)), .second, .val (.double FP.dconst0), .second, .val (.long s9), .second, .val (.int i9), .unset, .unset, .unset] [(.int i9), (.ref ea), (.long s9)])) rfl rfl (hb hby d10_56) _ ?_
      show own_S p e below T37 (mkF m 57 #[.val (.ref r0), .val (.int p1), .val (.long (own_rank p1)), .second, .val (.double FP.dconst0), .second, .val (.long s9), .second, .val (.int i9), .unset, .unset, .unset] [(.long (f i9)), (.long s9)]) _
      refine XS.ladd X37.here hx rfl (hb hby d10_57) rfl ?_
      show own_S p e below T37 (mkF m 58 #[.val (.ref r0), .val (.int p1), .val (.long (own_rank p1)), .second, .val (.double FP.dconst0), .second, .val (.long s9), .second, .val (.int i9), .unset, .unset, .unset] [(.long (s9 + (f i9)))]) _
      refine XS.lstore X37.here hx rfl (hb hby d10_58) rfl (l' := #[.val (.ref r0), .val (.int p1), .val (.long (own_rank p1)), .second, .val (.double FP.dconst0), .second, .val (.long (s9 + (f i9))), .second, .val (.int i9), .unset, .unset, .unset]) rfl ?_
      show own_S p e below T37 (mkF m 60 #[.val (.ref r0), .val (.int p1), .val (.long (own_rank p1)), .second, .val (.double FP.dconst0), .second, .val (.long (s9 + (f i9))), .second, .val (.int i9), .unset, .unset, .unset] []) _
      refine XS.lload X37.here hx rfl (hb hby d10_60) rfl ?_
      show own_S p e below T37 (mkF m 62 #[.val (.ref r0), .val (.int p1), .val (.long (own_rank p1)), .second, .val (.double FP.dconst0), .second, .val (.long (s9 + (f i9))), .second, .val (.int i9), .unset, .unset, .unset] [(.long (s9 + (f i9)))]) _
      refine XS.lloadN X37.here hx rfl (hb hby d10_62) rfl ?_
      show own_S p e below T37 (mkF m 63 #[.val (.ref r0), .val (.int p1), .val (.long (own_rank p1)), .second, .val (.double FP.dconst0), .second, .val (.long (s9 + (f i9))), .second, .val (.int i9), .unset, .unset, .unset] [(.long (own_rank p1)), (.long (s9 + (f i9)))]) _
      refine XT.lcmp X37.here hx rfl (hb hby d10_63) rfl ?_
      exact k
    by_cases clt : (s9 + (f i9)) < (own_rank p1)
    · skip
      have K41 : own_K p e below SE T37 (mkF m 119 #[.val (.ref r0), .val (.int p1), .val (.long (own_rank p1)), .second, .val (.double FP.dconst0), .second, .val (.long (s9 + (f i9))), .second, .val (.int (i9 + (1 : Int32))), .unset, .unset, .unset] []) := by
        intro t k
        refine K40 _ ?_
        refine XS.ifYes X37.here hx rfl (pc0 := 64) (pc' := 116) rfl (hb hby d10_64) rfl (XT.ll_lt_t clt) (by decide) (by decide) ?_
        show own_S p e below T37 (mkF m 116 #[.val (.ref r0), .val (.int p1), .val (.long (own_rank p1)), .second, .val (.double FP.dconst0), .second, .val (.long (s9 + (f i9))), .second, .val (.int i9), .unset, .unset, .unset] []) _
        refine XS.iinc X37.here hx rfl (hb hby d10_116) rfl (l' := #[.val (.ref r0), .val (.int p1), .val (.long (own_rank p1)), .second, .val (.double FP.dconst0), .second, .val (.long (s9 + (f i9))), .second, .val (.int (i9 + (1 : Int32))), .unset, .unset, .unset]) rfl ?_
        exact k
      have K42 : own_K p e below SE T37 (mkF m 29 #[.val (.ref r0), .val (.int p1), .val (.long (own_rank p1)), .second, .val (.double FP.dconst0), .second, .val (.long (s9 + (f i9))), .second, .val (.int (i9 + (1 : Int32))), .unset, .unset, .unset] []) := by
        intro t k
        refine K41 _ ?_
        refine XS.goto X37.here hx rfl (pc0 := 119) (pc' := 29) rfl (hb hby d10_119) (by decide) (by decide) ?_
        exact k
      rw [if_pos clt] at hv9
      exact ih T37 (i9 + (1 : Int32)) (s9 + (f i9)) X37 e37 (by rw [own_i1 hi9 hl9]; omega) (by rw [own_i1 hi9 hl9]; omega) hv9 K42
    · skip
      have K43 : own_K p e below SE T37 (mkF m 76 #[.val (.ref r0), .val (.int p1), .val (.long (own_rank p1)), .second, .val (.double FP.dconst0), .second, .val (.long (s9 + (f i9))), .second, .val (.int i9), .unset, .unset, .unset] [(.int ((i9 / (1024 : Int32)) - (1 : Int32))), (.int (0 : Int32))]) := by
        intro t k
        refine K40 _ ?_
        refine XS.ifNo X37.here hx rfl (hb hby d10_64) rfl (XT.ll_lt_f clt) ?_
        show own_S p e below T37 (mkF m 67 #[.val (.ref r0), .val (.int p1), .val (.long (own_rank p1)), .second, .val (.double FP.dconst0), .second, .val (.long (s9 + (f i9))), .second, .val (.int i9), .unset, .unset, .unset] []) _
        refine XS.iconst X37.here hx rfl (hb hby d10_67) ?_
        show own_S p e below T37 (mkF m 68 #[.val (.ref r0), .val (.int p1), .val (.long (own_rank p1)), .second, .val (.double FP.dconst0), .second, .val (.long (s9 + (f i9))), .second, .val (.int i9), .unset, .unset, .unset] [(.int (0 : Int32))]) _
        refine XS.iload X37.here hx rfl (hb hby d10_68) rfl ?_
        show own_S p e below T37 (mkF m 70 #[.val (.ref r0), .val (.int p1), .val (.long (own_rank p1)), .second, .val (.double FP.dconst0), .second, .val (.long (s9 + (f i9))), .second, .val (.int i9), .unset, .unset, .unset] [(.int i9), (.int (0 : Int32))]) _
        refine XS.sipush X37.here hx rfl (hb hby d10_70) ?_
        show own_S p e below T37 (mkF m 73 #[.val (.ref r0), .val (.int p1), .val (.long (own_rank p1)), .second, .val (.double FP.dconst0), .second, .val (.long (s9 + (f i9))), .second, .val (.int i9), .unset, .unset, .unset] [(.int (1024 : Int32)), (.int i9), (.int (0 : Int32))]) _
        refine XS.idiv X37.here hx rfl (hb hby d10_73) rfl (by decide) ?_
        show own_S p e below T37 (mkF m 74 #[.val (.ref r0), .val (.int p1), .val (.long (own_rank p1)), .second, .val (.double FP.dconst0), .second, .val (.long (s9 + (f i9))), .second, .val (.int i9), .unset, .unset, .unset] [(.int (i9 / (1024 : Int32))), (.int (0 : Int32))]) _
        refine XS.iconst X37.here hx rfl (hb hby d10_74) ?_
        show own_S p e below T37 (mkF m 75 #[.val (.ref r0), .val (.int p1), .val (.long (own_rank p1)), .second, .val (.double FP.dconst0), .second, .val (.long (s9 + (f i9))), .second, .val (.int i9), .unset, .unset, .unset] [(.int (1 : Int32)), (.int (i9 / (1024 : Int32))), (.int (0 : Int32))]) _
        refine XS.isub X37.here hx rfl (hb hby d10_75) rfl ?_
        exact k
      obtain ⟨_, _, ⟨T44, L44, k44, n44⟩, -, X44, ⟨Lc44, hQ44, l44, y44, z44⟩, st44⟩ := Jvm.LawKit.callS X37 hx (y := (⟨"java/lang/Math", "max", "(II)I"⟩ : MethodName)) hown (mvT hZ (hw _ (List.mem_of_getElem? (i := 23) rfl))) (mvT hZ (hw _ (List.mem_of_getElem? (i := 24) rfl))) (mvT hZ (hw _ (List.mem_of_getElem? (i := 25) rfl))) (mvT hZ (hw _ (List.mem_of_getElem? (i := 26) rfl))) (by decide) (backOf (W := 0) (rmmxi l Z a0 hw [] (0 : Int32) ((i9 / (1024 : Int32)) - (1 : Int32)) h0 n0 Z0) hZ (hw _ (List.mem_of_getElem? (i := 26) rfl)) (hw _ (List.mem_of_getElem? (i := 25) rfl)) (by decide) (by decide)) (g := (mkF m 76 #[.val (.ref r0), .val (.int p1), .val (.long (own_rank p1)), .second, .val (.double FP.dconst0), .second, .val (.long (s9 + (f i9))), .second, .val (.int i9), .unset, .unset, .unset] [(.int ((i9 / (1024 : Int32)) - (1 : Int32))), (.int (0 : Int32))])) rfl (by rw [hml]; rfl) (argsL := [(.int (0 : Int32)), (.int ((i9 / (1024 : Int32)) - (1 : Int32)))]) (rest := []) (lenOf pd_pm_1 rfl) rfl (by show 2 * 0 + _ ≤ _; exact Nat.le_of_eq rfl) (hb hby d10_76) (fun _ _ => ⟨rfl, e37, (by decide : 0 + 0 ≤ _), (by decide : 0 + 0 ≤ _)⟩)
      dsimp only [Pt.U, Pt.locs, Pt.cells, Pt.slots] at X44 l44 y44 z44 st44 hQ44
      rw [y44, z44] at X44
      obtain ⟨rfl, Nq44, e44⟩ := hQ44
      have N44 : Fr n0 L44 := by rw [l44]; exact Fr.app N24 Nq44
      have K44 : own_K p e below SE T44 (mkF m 79 #[.val (.ref r0), .val (.int p1), .val (.long (own_rank p1)), .second, .val (.double FP.dconst0), .second, .val (.long (s9 + (f i9))), .second, .val (.int i9), .unset, .unset, .unset] [(.int (if (0 : Int32) < ((i9 / (1024 : Int32)) - (1 : Int32)) then ((i9 / (1024 : Int32)) - (1 : Int32)) else (0 : Int32)))]) := fun t k => K43 _ (st44 _ k)
      rw [if_neg clt] at hv9
      have K45 : own_K p e below SE T44 (mkF m 122 #[.val (.ref r0), .val (.int p1), .val (.long (own_rank p1)), .second, .val (.double (FP.dadd (FP.l2d ((((i9 - ((if (0 : Int32) < ((i9 / (1024 : Int32)) - (1 : Int32)) then ((i9 / (1024 : Int32)) - (1 : Int32)) else (0 : Int32)) * (1024 : Int32)))).toInt64) <<< ((if (0 : Int32) < ((i9 / (1024 : Int32)) - (1 : Int32)) then ((i9 / (1024 : Int32)) - (1 : Int32)) else (0 : Int32)) &&& 0x3f).toInt64)) (FP.ddiv (FP.l2d (((1 : Int64) <<< ((if (0 : Int32) < ((i9 / (1024 : Int32)) - (1 : Int32)) then ((i9 / (1024 : Int32)) - (1 : Int32)) else (0 : Int32)) &&& 0x3f).toInt64) - (1 : Int64))) (4611686018427387904 : UInt64)))), .second, .val (.long (s9 + (f i9))), .second, .val (.int i9), .val (.int (if (0 : Int32) < ((i9 / (1024 : Int32)) - (1 : Int32)) then ((i9 / (1024 : Int32)) - (1 : Int32)) else (0 : Int32))), .val (.long ((((i9 - ((if (0 : Int32) < ((i9 / (1024 : Int32)) - (1 : Int32)) then ((i9 / (1024 : Int32)) - (1 : Int32)) else (0 : Int32)) * (1024 : Int32)))).toInt64) <<< ((if (0 : Int32) < ((i9 / (1024 : Int32)) - (1 : Int32)) then ((i9 / (1024 : Int32)) - (1 : Int32)) else (0 : Int32)) &&& 0x3f).toInt64)), .second] []) := by
        intro t k
        refine K44 _ ?_
        refine XS.istore X44.here hx rfl (hb hby d10_79) rfl (l' := #[.val (.ref r0), .val (.int p1), .val (.long (own_rank p1)), .second, .val (.double FP.dconst0), .second, .val (.long (s9 + (f i9))), .second, .val (.int i9), .val (.int (if (0 : Int32) < ((i9 / (1024 : Int32)) - (1 : Int32)) then ((i9 / (1024 : Int32)) - (1 : Int32)) else (0 : Int32))), .unset, .unset]) rfl ?_
        show own_S p e below T44 (mkF m 81 #[.val (.ref r0), .val (.int p1), .val (.long (own_rank p1)), .second, .val (.double FP.dconst0), .second, .val (.long (s9 + (f i9))), .second, .val (.int i9), .val (.int (if (0 : Int32) < ((i9 / (1024 : Int32)) - (1 : Int32)) then ((i9 / (1024 : Int32)) - (1 : Int32)) else (0 : Int32))), .unset, .unset] []) _
        refine XS.iload X44.here hx rfl (hb hby d10_81) rfl ?_
        show own_S p e below T44 (mkF m 83 #[.val (.ref r0), .val (.int p1), .val (.long (own_rank p1)), .second, .val (.double FP.dconst0), .second, .val (.long (s9 + (f i9))), .second, .val (.int i9), .val (.int (if (0 : Int32) < ((i9 / (1024 : Int32)) - (1 : Int32)) then ((i9 / (1024 : Int32)) - (1 : Int32)) else (0 : Int32))), .unset, .unset] [(.int i9)]) _
        refine XS.iload X44.here hx rfl (hb hby d10_83) rfl ?_
        show own_S p e below T44 (mkF m 85 #[.val (.ref r0), .val (.int p1), .val (.long (own_rank p1)), .second, .val (.double FP.dconst0), .second, .val (.long (s9 + (f i9))), .second, .val (.int i9), .val (.int (if (0 : Int32) < ((i9 / (1024 : Int32)) - (1 : Int32)) then ((i9 / (1024 : Int32)) - (1 : Int32)) else (0 : Int32))), .unset, .unset] [(.int (if (0 : Int32) < ((i9 / (1024 : Int32)) - (1 : Int32)) then ((i9 / (1024 : Int32)) - (1 : Int32)) else (0 : Int32))), (.int i9)]) _
        refine XS.sipush X44.here hx rfl (hb hby d10_85) ?_
        show own_S p e below T44 (mkF m 88 #[.val (.ref r0), .val (.int p1), .val (.long (own_rank p1)), .second, .val (.double FP.dconst0), .second, .val (.long (s9 + (f i9))), .second, .val (.int i9), .val (.int (if (0 : Int32) < ((i9 / (1024 : Int32)) - (1 : Int32)) then ((i9 / (1024 : Int32)) - (1 : Int32)) else (0 : Int32))), .unset, .unset] [(.int (1024 : Int32)), (.int (if (0 : Int32) < ((i9 / (1024 : Int32)) - (1 : Int32)) then ((i9 / (1024 : Int32)) - (1 : Int32)) else (0 : Int32))), (.int i9)]) _
        refine XS.imul X44.here hx rfl (hb hby d10_88) rfl ?_
        show own_S p e below T44 (mkF m 89 #[.val (.ref r0), .val (.int p1), .val (.long (own_rank p1)), .second, .val (.double FP.dconst0), .second, .val (.long (s9 + (f i9))), .second, .val (.int i9), .val (.int (if (0 : Int32) < ((i9 / (1024 : Int32)) - (1 : Int32)) then ((i9 / (1024 : Int32)) - (1 : Int32)) else (0 : Int32))), .unset, .unset] [(.int ((if (0 : Int32) < ((i9 / (1024 : Int32)) - (1 : Int32)) then ((i9 / (1024 : Int32)) - (1 : Int32)) else (0 : Int32)) * (1024 : Int32))), (.int i9)]) _
        refine XS.isub X44.here hx rfl (hb hby d10_89) rfl ?_
        show own_S p e below T44 (mkF m 90 #[.val (.ref r0), .val (.int p1), .val (.long (own_rank p1)), .second, .val (.double FP.dconst0), .second, .val (.long (s9 + (f i9))), .second, .val (.int i9), .val (.int (if (0 : Int32) < ((i9 / (1024 : Int32)) - (1 : Int32)) then ((i9 / (1024 : Int32)) - (1 : Int32)) else (0 : Int32))), .unset, .unset] [(.int (i9 - ((if (0 : Int32) < ((i9 / (1024 : Int32)) - (1 : Int32)) then ((i9 / (1024 : Int32)) - (1 : Int32)) else (0 : Int32)) * (1024 : Int32))))]) _
        refine XS.i2l X44.here hx rfl (hb hby d10_90) rfl ?_
        show own_S p e below T44 (mkF m 91 #[.val (.ref r0), .val (.int p1), .val (.long (own_rank p1)), .second, .val (.double FP.dconst0), .second, .val (.long (s9 + (f i9))), .second, .val (.int i9), .val (.int (if (0 : Int32) < ((i9 / (1024 : Int32)) - (1 : Int32)) then ((i9 / (1024 : Int32)) - (1 : Int32)) else (0 : Int32))), .unset, .unset] [(.long (((i9 - ((if (0 : Int32) < ((i9 / (1024 : Int32)) - (1 : Int32)) then ((i9 / (1024 : Int32)) - (1 : Int32)) else (0 : Int32)) * (1024 : Int32)))).toInt64))]) _
        refine XS.iload X44.here hx rfl (hb hby d10_91) rfl ?_
        show own_S p e below T44 (mkF m 93 #[.val (.ref r0), .val (.int p1), .val (.long (own_rank p1)), .second, .val (.double FP.dconst0), .second, .val (.long (s9 + (f i9))), .second, .val (.int i9), .val (.int (if (0 : Int32) < ((i9 / (1024 : Int32)) - (1 : Int32)) then ((i9 / (1024 : Int32)) - (1 : Int32)) else (0 : Int32))), .unset, .unset] [(.int (if (0 : Int32) < ((i9 / (1024 : Int32)) - (1 : Int32)) then ((i9 / (1024 : Int32)) - (1 : Int32)) else (0 : Int32))), (.long (((i9 - ((if (0 : Int32) < ((i9 / (1024 : Int32)) - (1 : Int32)) then ((i9 / (1024 : Int32)) - (1 : Int32)) else (0 : Int32)) * (1024 : Int32)))).toInt64))]) _
        refine XS.lshl X44.here hx rfl (hb hby d10_93) rfl ?_
        show own_S p e below T44 (mkF m 94 #[.val (.ref r0), .val (.int p1), .val (.long (own_rank p1)), .second, .val (.double FP.dconst0), .second, .val (.long (s9 + (f i9))), .second, .val (.int i9), .val (.int (if (0 : Int32) < ((i9 / (1024 : Int32)) - (1 : Int32)) then ((i9 / (1024 : Int32)) - (1 : Int32)) else (0 : Int32))), .unset, .unset] [(.long ((((i9 - ((if (0 : Int32) < ((i9 / (1024 : Int32)) - (1 : Int32)) then ((i9 / (1024 : Int32)) - (1 : Int32)) else (0 : Int32)) * (1024 : Int32)))).toInt64) <<< ((if (0 : Int32) < ((i9 / (1024 : Int32)) - (1 : Int32)) then ((i9 / (1024 : Int32)) - (1 : Int32)) else (0 : Int32)) &&& 0x3f).toInt64))]) _
        refine XS.lstore X44.here hx rfl (hb hby d10_94) rfl (l' := #[.val (.ref r0), .val (.int p1), .val (.long (own_rank p1)), .second, .val (.double FP.dconst0), .second, .val (.long (s9 + (f i9))), .second, .val (.int i9), .val (.int (if (0 : Int32) < ((i9 / (1024 : Int32)) - (1 : Int32)) then ((i9 / (1024 : Int32)) - (1 : Int32)) else (0 : Int32))), .val (.long ((((i9 - ((if (0 : Int32) < ((i9 / (1024 : Int32)) - (1 : Int32)) then ((i9 / (1024 : Int32)) - (1 : Int32)) else (0 : Int32)) * (1024 : Int32)))).toInt64) <<< ((if (0 : Int32) < ((i9 / (1024 : Int32)) - (1 : Int32)) then ((i9 / (1024 : Int32)) - (1 : Int32)) else (0 : Int32)) &&& 0x3f).toInt64)), .second]) rfl ?_
        show own_S p e below T44 (mkF m 96 #[.val (.ref r0), .val (.int p1), .val (.long (own_rank p1)), .second, .val (.double FP.dconst0), .second, .val (.long (s9 + (f i9))), .second, .val (.int i9), .val (.int (if (0 : Int32) < ((i9 / (1024 : Int32)) - (1 : Int32)) then ((i9 / (1024 : Int32)) - (1 : Int32)) else (0 : Int32))), .val (.long ((((i9 - ((if (0 : Int32) < ((i9 / (1024 : Int32)) - (1 : Int32)) then ((i9 / (1024 : Int32)) - (1 : Int32)) else (0 : Int32)) * (1024 : Int32)))).toInt64) <<< ((if (0 : Int32) < ((i9 / (1024 : Int32)) - (1 : Int32)) then ((i9 / (1024 : Int32)) - (1 : Int32)) else (0 : Int32)) &&& 0x3f).toInt64)), .second] []) _
        refine XS.lload X44.here hx rfl (hb hby d10_96) rfl ?_
        show own_S p e below T44 (mkF m 98 #[.val (.ref r0), .val (.int p1), .val (.long (own_rank p1)), .second, .val (.double FP.dconst0), .second, .val (.long (s9 + (f i9))), .second, .val (.int i9), .val (.int (if (0 : Int32) < ((i9 / (1024 : Int32)) - (1 : Int32)) then ((i9 / (1024 : Int32)) - (1 : Int32)) else (0 : Int32))), .val (.long ((((i9 - ((if (0 : Int32) < ((i9 / (1024 : Int32)) - (1 : Int32)) then ((i9 / (1024 : Int32)) - (1 : Int32)) else (0 : Int32)) * (1024 : Int32)))).toInt64) <<< ((if (0 : Int32) < ((i9 / (1024 : Int32)) - (1 : Int32)) then ((i9 / (1024 : Int32)) - (1 : Int32)) else (0 : Int32)) &&& 0x3f).toInt64)), .second] [(.long ((((i9 - ((if (0 : Int32) < ((i9 / (1024 : Int32)) - (1 : Int32)) then ((i9 / (1024 : Int32)) - (1 : Int32)) else (0 : Int32)) * (1024 : Int32)))).toInt64) <<< ((if (0 : Int32) < ((i9 / (1024 : Int32)) - (1 : Int32)) then ((i9 / (1024 : Int32)) - (1 : Int32)) else (0 : Int32)) &&& 0x3f).toInt64))]) _
        refine XS.l2dS X44.here hx rfl (hb hby d10_98) rfl rfl ?_
        show own_S p e below T44 (mkF m 99 #[.val (.ref r0), .val (.int p1), .val (.long (own_rank p1)), .second, .val (.double FP.dconst0), .second, .val (.long (s9 + (f i9))), .second, .val (.int i9), .val (.int (if (0 : Int32) < ((i9 / (1024 : Int32)) - (1 : Int32)) then ((i9 / (1024 : Int32)) - (1 : Int32)) else (0 : Int32))), .val (.long ((((i9 - ((if (0 : Int32) < ((i9 / (1024 : Int32)) - (1 : Int32)) then ((i9 / (1024 : Int32)) - (1 : Int32)) else (0 : Int32)) * (1024 : Int32)))).toInt64) <<< ((if (0 : Int32) < ((i9 / (1024 : Int32)) - (1 : Int32)) then ((i9 / (1024 : Int32)) - (1 : Int32)) else (0 : Int32)) &&& 0x3f).toInt64)), .second] [(.double (FP.l2d ((((i9 - ((if (0 : Int32) < ((i9 / (1024 : Int32)) - (1 : Int32)) then ((i9 / (1024 : Int32)) - (1 : Int32)) else (0 : Int32)) * (1024 : Int32)))).toInt64) <<< ((if (0 : Int32) < ((i9 / (1024 : Int32)) - (1 : Int32)) then ((i9 / (1024 : Int32)) - (1 : Int32)) else (0 : Int32)) &&& 0x3f).toInt64)))]) _
        refine XS.lconst X44.here hx rfl (hb hby d10_99) ?_
        show own_S p e below T44 (mkF m 100 #[.val (.ref r0), .val (.int p1), .val (.long (own_rank p1)), .second, .val (.double FP.dconst0), .second, .val (.long (s9 + (f i9))), .second, .val (.int i9), .val (.int (if (0 : Int32) < ((i9 / (1024 : Int32)) - (1 : Int32)) then ((i9 / (1024 : Int32)) - (1 : Int32)) else (0 : Int32))), .val (.long ((((i9 - ((if (0 : Int32) < ((i9 / (1024 : Int32)) - (1 : Int32)) then ((i9 / (1024 : Int32)) - (1 : Int32)) else (0 : Int32)) * (1024 : Int32)))).toInt64) <<< ((if (0 : Int32) < ((i9 / (1024 : Int32)) - (1 : Int32)) then ((i9 / (1024 : Int32)) - (1 : Int32)) else (0 : Int32)) &&& 0x3f).toInt64)), .second] [(.long (1 : Int64)), (.double (FP.l2d ((((i9 - ((if (0 : Int32) < ((i9 / (1024 : Int32)) - (1 : Int32)) then ((i9 / (1024 : Int32)) - (1 : Int32)) else (0 : Int32)) * (1024 : Int32)))).toInt64) <<< ((if (0 : Int32) < ((i9 / (1024 : Int32)) - (1 : Int32)) then ((i9 / (1024 : Int32)) - (1 : Int32)) else (0 : Int32)) &&& 0x3f).toInt64)))]) _
        refine XS.iload X44.here hx rfl (hb hby d10_100) rfl ?_
        show own_S p e below T44 (mkF m 102 #[.val (.ref r0), .val (.int p1), .val (.long (own_rank p1)), .second, .val (.double FP.dconst0), .second, .val (.long (s9 + (f i9))), .second, .val (.int i9), .val (.int (if (0 : Int32) < ((i9 / (1024 : Int32)) - (1 : Int32)) then ((i9 / (1024 : Int32)) - (1 : Int32)) else (0 : Int32))), .val (.long ((((i9 - ((if (0 : Int32) < ((i9 / (1024 : Int32)) - (1 : Int32)) then ((i9 / (1024 : Int32)) - (1 : Int32)) else (0 : Int32)) * (1024 : Int32)))).toInt64) <<< ((if (0 : Int32) < ((i9 / (1024 : Int32)) - (1 : Int32)) then ((i9 / (1024 : Int32)) - (1 : Int32)) else (0 : Int32)) &&& 0x3f).toInt64)), .second] [(.int (if (0 : Int32) < ((i9 / (1024 : Int32)) - (1 : Int32)) then ((i9 / (1024 : Int32)) - (1 : Int32)) else (0 : Int32))), (.long (1 : Int64)), (.double (FP.l2d ((((i9 - ((if (0 : Int32) < ((i9 / (1024 : Int32)) - (1 : Int32)) then ((i9 / (1024 : Int32)) - (1 : Int32)) else (0 : Int32)) * (1024 : Int32)))).toInt64) <<< ((if (0 : Int32) < ((i9 / (1024 : Int32)) - (1 : Int32)) then ((i9 / (1024 : Int32)) - (1 : Int32)) else (0 : Int32)) &&& 0x3f).toInt64)))]) _
        refine XS.lshl X44.here hx rfl (hb hby d10_102) rfl ?_
        show own_S p e below T44 (mkF m 103 #[.val (.ref r0), .val (.int p1), .val (.long (own_rank p1)), .second, .val (.double FP.dconst0), .second, .val (.long (s9 + (f i9))), .second, .val (.int i9), .val (.int (if (0 : Int32) < ((i9 / (1024 : Int32)) - (1 : Int32)) then ((i9 / (1024 : Int32)) - (1 : Int32)) else (0 : Int32))), .val (.long ((((i9 - ((if (0 : Int32) < ((i9 / (1024 : Int32)) - (1 : Int32)) then ((i9 / (1024 : Int32)) - (1 : Int32)) else (0 : Int32)) * (1024 : Int32)))).toInt64) <<< ((if (0 : Int32) < ((i9 / (1024 : Int32)) - (1 : Int32)) then ((i9 / (1024 : Int32)) - (1 : Int32)) else (0 : Int32)) &&& 0x3f).toInt64)), .second] [(.long ((1 : Int64) <<< ((if (0 : Int32) < ((i9 / (1024 : Int32)) - (1 : Int32)) then ((i9 / (1024 : Int32)) - (1 : Int32)) else (0 : Int32)) &&& 0x3f).toInt64)), (.double (FP.l2d ((((i9 - ((if (0 : Int32) < ((i9 / (1024 : Int32)) - (1 : Int32)) then ((i9 / (1024 : Int32)) - (1 : Int32)) else (0 : Int32)) * (1024 : Int32)))).toInt64) <<< ((if (0 : Int32) < ((i9 / (1024 : Int32)) - (1 : Int32)) then ((i9 / (1024 : Int32)) - (1 : Int32)) else (0 : Int32)) &&& 0x3f).toInt64)))]) _
        refine XS.lconst X44.here hx rfl (hb hby d10_103) ?_
        show own_S p e below T44 (mkF m 104 #[.val (.ref r0), .val (.int p1), .val (.long (own_rank p1)), .second, .val (.double FP.dconst0), .second, .val (.long (s9 + (f i9))), .second, .val (.int i9), .val (.int (if (0 : Int32) < ((i9 / (1024 : Int32)) - (1 : Int32)) then ((i9 / (1024 : Int32)) - (1 : Int32)) else (0 : Int32))), .val (.long ((((i9 - ((if (0 : Int32) < ((i9 / (1024 : Int32)) - (1 : Int32)) then ((i9 / (1024 : Int32)) - (1 : Int32)) else (0 : Int32)) * (1024 : Int32)))).toInt64) <<< ((if (0 : Int32) < ((i9 / (1024 : Int32)) - (1 : Int32)) then ((i9 / (1024 : Int32)) - (1 : Int32)) else (0 : Int32)) &&& 0x3f).toInt64)), .second] [(.long (1 : Int64)), (.long ((1 : Int64) <<< ((if (0 : Int32) < ((i9 / (1024 : Int32)) - (1 : Int32)) then ((i9 / (1024 : Int32)) - (1 : Int32)) else (0 : Int32)) &&& 0x3f).toInt64)), (.double (FP.l2d ((((i9 - ((if (0 : Int32) < ((i9 / (1024 : Int32)) - (1 : Int32)) then ((i9 / (1024 : Int32)) - (1 : Int32)) else (0 : Int32)) * (1024 : Int32)))).toInt64) <<< ((if (0 : Int32) < ((i9 / (1024 : Int32)) - (1 : Int32)) then ((i9 / (1024 : Int32)) - (1 : Int32)) else (0 : Int32)) &&& 0x3f).toInt64)))]) _
        refine XS.lsub X44.here hx rfl (hb hby d10_104) rfl ?_
        show own_S p e below T44 (mkF m 105 #[.val (.ref r0), .val (.int p1), .val (.long (own_rank p1)), .second, .val (.double FP.dconst0), .second, .val (.long (s9 + (f i9))), .second, .val (.int i9), .val (.int (if (0 : Int32) < ((i9 / (1024 : Int32)) - (1 : Int32)) then ((i9 / (1024 : Int32)) - (1 : Int32)) else (0 : Int32))), .val (.long ((((i9 - ((if (0 : Int32) < ((i9 / (1024 : Int32)) - (1 : Int32)) then ((i9 / (1024 : Int32)) - (1 : Int32)) else (0 : Int32)) * (1024 : Int32)))).toInt64) <<< ((if (0 : Int32) < ((i9 / (1024 : Int32)) - (1 : Int32)) then ((i9 / (1024 : Int32)) - (1 : Int32)) else (0 : Int32)) &&& 0x3f).toInt64)), .second] [(.long (((1 : Int64) <<< ((if (0 : Int32) < ((i9 / (1024 : Int32)) - (1 : Int32)) then ((i9 / (1024 : Int32)) - (1 : Int32)) else (0 : Int32)) &&& 0x3f).toInt64) - (1 : Int64))), (.double (FP.l2d ((((i9 - ((if (0 : Int32) < ((i9 / (1024 : Int32)) - (1 : Int32)) then ((i9 / (1024 : Int32)) - (1 : Int32)) else (0 : Int32)) * (1024 : Int32)))).toInt64) <<< ((if (0 : Int32) < ((i9 / (1024 : Int32)) - (1 : Int32)) then ((i9 / (1024 : Int32)) - (1 : Int32)) else (0 : Int32)) &&& 0x3f).toInt64)))]) _
        refine XS.l2dS X44.here hx rfl (hb hby d10_105) rfl rfl ?_
        show own_S p e below T44 (mkF m 106 #[.val (.ref r0), .val (.int p1), .val (.long (own_rank p1)), .second, .val (.double FP.dconst0), .second, .val (.long (s9 + (f i9))), .second, .val (.int i9), .val (.int (if (0 : Int32) < ((i9 / (1024 : Int32)) - (1 : Int32)) then ((i9 / (1024 : Int32)) - (1 : Int32)) else (0 : Int32))), .val (.long ((((i9 - ((if (0 : Int32) < ((i9 / (1024 : Int32)) - (1 : Int32)) then ((i9 / (1024 : Int32)) - (1 : Int32)) else (0 : Int32)) * (1024 : Int32)))).toInt64) <<< ((if (0 : Int32) < ((i9 / (1024 : Int32)) - (1 : Int32)) then ((i9 / (1024 : Int32)) - (1 : Int32)) else (0 : Int32)) &&& 0x3f).toInt64)), .second] [(.double (FP.l2d (((1 : Int64) <<< ((if (0 : Int32) < ((i9 / (1024 : Int32)) - (1 : Int32)) then ((i9 / (1024 : Int32)) - (1 : Int32)) else (0 : Int32)) &&& 0x3f).toInt64) - (1 : Int64)))), (.double (FP.l2d ((((i9 - ((if (0 : Int32) < ((i9 / (1024 : Int32)) - (1 : Int32)) then ((i9 / (1024 : Int32)) - (1 : Int32)) else (0 : Int32)) * (1024 : Int32)))).toInt64) <<< ((if (0 : Int32) < ((i9 / (1024 : Int32)) - (1 : Int32)) then ((i9 / (1024 : Int32)) - (1 : Int32)) else (0 : Int32)) &&& 0x3f).toInt64)))]) _
        refine X44.ldc2DoubleC hx hown (mvT hZ (hw _ (List.mem_of_getElem? (i := 53) rfl))) (g := (mkF m 106 #[.val (.ref r0), .val (.int p1), .val (.long (own_rank p1)), .second, .val (.double FP.dconst0), .second, .val (.long (s9 + (f i9))), .second, .val (.int i9), .val (.int (if (0 : Int32) < ((i9 / (1024 : Int32)) - (1 : Int32)) then ((i9 / (1024 : Int32)) - (1 : Int32)) else (0 : Int32))), .val (.long ((((i9 - ((if (0 : Int32) < ((i9 / (1024 : Int32)) - (1 : Int32)) then ((i9 / (1024 : Int32)) - (1 : Int32)) else (0 : Int32)) * (1024 : Int32)))).toInt64) <<< ((if (0 : Int32) < ((i9 / (1024 : Int32)) - (1 : Int32)) then ((i9 / (1024 : Int32)) - (1 : Int32)) else (0 : Int32)) &&& 0x3f).toInt64)), .second] [(.double (FP.l2d (((1 : Int64) <<< ((if (0 : Int32) < ((i9 / (1024 : Int32)) - (1 : Int32)) then ((i9 / (1024 : Int32)) - (1 : Int32)) else (0 : Int32)) &&& 0x3f).toInt64) - (1 : Int64)))), (.double (FP.l2d ((((i9 - ((if (0 : Int32) < ((i9 / (1024 : Int32)) - (1 : Int32)) then ((i9 / (1024 : Int32)) - (1 : Int32)) else (0 : Int32)) * (1024 : Int32)))).toInt64) <<< ((if (0 : Int32) < ((i9 / (1024 : Int32)) - (1 : Int32)) then ((i9 / (1024 : Int32)) - (1 : Int32)) else (0 : Int32)) &&& 0x3f).toInt64)))])) rfl (hb hby d10_106) _ ?_
        show own_S p e below T44 (mkF m 109 #[.val (.ref r0), .val (.int p1), .val (.long (own_rank p1)), .second, .val (.double FP.dconst0), .second, .val (.long (s9 + (f i9))), .second, .val (.int i9), .val (.int (if (0 : Int32) < ((i9 / (1024 : Int32)) - (1 : Int32)) then ((i9 / (1024 : Int32)) - (1 : Int32)) else (0 : Int32))), .val (.long ((((i9 - ((if (0 : Int32) < ((i9 / (1024 : Int32)) - (1 : Int32)) then ((i9 / (1024 : Int32)) - (1 : Int32)) else (0 : Int32)) * (1024 : Int32)))).toInt64) <<< ((if (0 : Int32) < ((i9 / (1024 : Int32)) - (1 : Int32)) then ((i9 / (1024 : Int32)) - (1 : Int32)) else (0 : Int32)) &&& 0x3f).toInt64)), .second] [(.double (4611686018427387904 : UInt64)), (.double (FP.l2d (((1 : Int64) <<< ((if (0 : Int32) < ((i9 / (1024 : Int32)) - (1 : Int32)) then ((i9 / (1024 : Int32)) - (1 : Int32)) else (0 : Int32)) &&& 0x3f).toInt64) - (1 : Int64)))), (.double (FP.l2d ((((i9 - ((if (0 : Int32) < ((i9 / (1024 : Int32)) - (1 : Int32)) then ((i9 / (1024 : Int32)) - (1 : Int32)) else (0 : Int32)) * (1024 : Int32)))).toInt64) <<< ((if (0 : Int32) < ((i9 / (1024 : Int32)) - (1 : Int32)) then ((i9 / (1024 : Int32)) - (1 : Int32)) else (0 : Int32)) &&& 0x3f).toInt64)))]) _
        refine XS.ddivS X44.here hx rfl (hb hby d10_109) rfl (ddiv_out (l2d_fin _).noNaN own_two.1 own_two.2) rfl ?_
        show own_S p e below T44 (mkF m 110 #[.val (.ref r0), .val (.int p1), .val (.long (own_rank p1)), .second, .val (.double FP.dconst0), .second, .val (.long (s9 + (f i9))), .second, .val (.int i9), .val (.int (if (0 : Int32) < ((i9 / (1024 : Int32)) - (1 : Int32)) then ((i9 / (1024 : Int32)) - (1 : Int32)) else (0 : Int32))), .val (.long ((((i9 - ((if (0 : Int32) < ((i9 / (1024 : Int32)) - (1 : Int32)) then ((i9 / (1024 : Int32)) - (1 : Int32)) else (0 : Int32)) * (1024 : Int32)))).toInt64) <<< ((if (0 : Int32) < ((i9 / (1024 : Int32)) - (1 : Int32)) then ((i9 / (1024 : Int32)) - (1 : Int32)) else (0 : Int32)) &&& 0x3f).toInt64)), .second] [(.double (FP.ddiv (FP.l2d (((1 : Int64) <<< ((if (0 : Int32) < ((i9 / (1024 : Int32)) - (1 : Int32)) then ((i9 / (1024 : Int32)) - (1 : Int32)) else (0 : Int32)) &&& 0x3f).toInt64) - (1 : Int64))) (4611686018427387904 : UInt64))), (.double (FP.l2d ((((i9 - ((if (0 : Int32) < ((i9 / (1024 : Int32)) - (1 : Int32)) then ((i9 / (1024 : Int32)) - (1 : Int32)) else (0 : Int32)) * (1024 : Int32)))).toInt64) <<< ((if (0 : Int32) < ((i9 / (1024 : Int32)) - (1 : Int32)) then ((i9 / (1024 : Int32)) - (1 : Int32)) else (0 : Int32)) &&& 0x3f).toInt64)))]) _
        refine XS.daddS X44.here hx rfl (hb hby d10_110) rfl (dadd_out' (l2d_fin _) (ddiv_out (l2d_fin _).noNaN own_two.1 own_two.2)) rfl ?_
        show own_S p e below T44 (mkF m 111 #[.val (.ref r0), .val (.int p1), .val (.long (own_rank p1)), .second, .val (.double FP.dconst0), .second, .val (.long (s9 + (f i9))), .second, .val (.int i9), .val (.int (if (0 : Int32) < ((i9 / (1024 : Int32)) - (1 : Int32)) then ((i9 / (1024 : Int32)) - (1 : Int32)) else (0 : Int32))), .val (.long ((((i9 - ((if (0 : Int32) < ((i9 / (1024 : Int32)) - (1 : Int32)) then ((i9 / (1024 : Int32)) - (1 : Int32)) else (0 : Int32)) * (1024 : Int32)))).toInt64) <<< ((if (0 : Int32) < ((i9 / (1024 : Int32)) - (1 : Int32)) then ((i9 / (1024 : Int32)) - (1 : Int32)) else (0 : Int32)) &&& 0x3f).toInt64)), .second] [(.double (FP.dadd (FP.l2d ((((i9 - ((if (0 : Int32) < ((i9 / (1024 : Int32)) - (1 : Int32)) then ((i9 / (1024 : Int32)) - (1 : Int32)) else (0 : Int32)) * (1024 : Int32)))).toInt64) <<< ((if (0 : Int32) < ((i9 / (1024 : Int32)) - (1 : Int32)) then ((i9 / (1024 : Int32)) - (1 : Int32)) else (0 : Int32)) &&& 0x3f).toInt64)) (FP.ddiv (FP.l2d (((1 : Int64) <<< ((if (0 : Int32) < ((i9 / (1024 : Int32)) - (1 : Int32)) then ((i9 / (1024 : Int32)) - (1 : Int32)) else (0 : Int32)) &&& 0x3f).toInt64) - (1 : Int64))) (4611686018427387904 : UInt64))))]) _
        refine XS.dstore X44.here hx rfl (hb hby d10_111) rfl (l' := #[.val (.ref r0), .val (.int p1), .val (.long (own_rank p1)), .second, .val (.double (FP.dadd (FP.l2d ((((i9 - ((if (0 : Int32) < ((i9 / (1024 : Int32)) - (1 : Int32)) then ((i9 / (1024 : Int32)) - (1 : Int32)) else (0 : Int32)) * (1024 : Int32)))).toInt64) <<< ((if (0 : Int32) < ((i9 / (1024 : Int32)) - (1 : Int32)) then ((i9 / (1024 : Int32)) - (1 : Int32)) else (0 : Int32)) &&& 0x3f).toInt64)) (FP.ddiv (FP.l2d (((1 : Int64) <<< ((if (0 : Int32) < ((i9 / (1024 : Int32)) - (1 : Int32)) then ((i9 / (1024 : Int32)) - (1 : Int32)) else (0 : Int32)) &&& 0x3f).toInt64) - (1 : Int64))) (4611686018427387904 : UInt64)))), .second, .val (.long (s9 + (f i9))), .second, .val (.int i9), .val (.int (if (0 : Int32) < ((i9 / (1024 : Int32)) - (1 : Int32)) then ((i9 / (1024 : Int32)) - (1 : Int32)) else (0 : Int32))), .val (.long ((((i9 - ((if (0 : Int32) < ((i9 / (1024 : Int32)) - (1 : Int32)) then ((i9 / (1024 : Int32)) - (1 : Int32)) else (0 : Int32)) * (1024 : Int32)))).toInt64) <<< ((if (0 : Int32) < ((i9 / (1024 : Int32)) - (1 : Int32)) then ((i9 / (1024 : Int32)) - (1 : Int32)) else (0 : Int32)) &&& 0x3f).toInt64)), .second]) rfl ?_
        show own_S p e below T44 (mkF m 113 #[.val (.ref r0), .val (.int p1), .val (.long (own_rank p1)), .second, .val (.double (FP.dadd (FP.l2d ((((i9 - ((if (0 : Int32) < ((i9 / (1024 : Int32)) - (1 : Int32)) then ((i9 / (1024 : Int32)) - (1 : Int32)) else (0 : Int32)) * (1024 : Int32)))).toInt64) <<< ((if (0 : Int32) < ((i9 / (1024 : Int32)) - (1 : Int32)) then ((i9 / (1024 : Int32)) - (1 : Int32)) else (0 : Int32)) &&& 0x3f).toInt64)) (FP.ddiv (FP.l2d (((1 : Int64) <<< ((if (0 : Int32) < ((i9 / (1024 : Int32)) - (1 : Int32)) then ((i9 / (1024 : Int32)) - (1 : Int32)) else (0 : Int32)) &&& 0x3f).toInt64) - (1 : Int64))) (4611686018427387904 : UInt64)))), .second, .val (.long (s9 + (f i9))), .second, .val (.int i9), .val (.int (if (0 : Int32) < ((i9 / (1024 : Int32)) - (1 : Int32)) then ((i9 / (1024 : Int32)) - (1 : Int32)) else (0 : Int32))), .val (.long ((((i9 - ((if (0 : Int32) < ((i9 / (1024 : Int32)) - (1 : Int32)) then ((i9 / (1024 : Int32)) - (1 : Int32)) else (0 : Int32)) * (1024 : Int32)))).toInt64) <<< ((if (0 : Int32) < ((i9 / (1024 : Int32)) - (1 : Int32)) then ((i9 / (1024 : Int32)) - (1 : Int32)) else (0 : Int32)) &&& 0x3f).toInt64)), .second] []) _
        refine XS.goto X44.here hx rfl (pc0 := 113) (pc' := 122) rfl (hb hby d10_113) (by decide) (by decide) ?_
        exact k
      rw [(show (FP.dadd (FP.l2d ((((i9 - ((if (0 : Int32) < ((i9 / (1024 : Int32)) - (1 : Int32)) then ((i9 / (1024 : Int32)) - (1 : Int32)) else (0 : Int32)) * (1024 : Int32)))).toInt64) <<< ((if (0 : Int32) < ((i9 / (1024 : Int32)) - (1 : Int32)) then ((i9 / (1024 : Int32)) - (1 : Int32)) else (0 : Int32)) &&& 0x3f).toInt64)) (FP.ddiv (FP.l2d (((1 : Int64) <<< ((if (0 : Int32) < ((i9 / (1024 : Int32)) - (1 : Int32)) then ((i9 / (1024 : Int32)) - (1 : Int32)) else (0 : Int32)) &&& 0x3f).toInt64) - (1 : Int64))) (4611686018427387904 : UInt64))) = own_pm f p1 from hv9)] at K45
      have K46 : own_K p e below SE T44 (mkF m 128 #[.val (.ref r0), .val (.int p1), .val (.long (own_rank p1)), .second, .val (.double (own_pm f p1)), .second, .val (.long (s9 + (f i9))), .second, .val (.int i9), .val (.int (if (0 : Int32) < ((i9 / (1024 : Int32)) - (1 : Int32)) then ((i9 / (1024 : Int32)) - (1 : Int32)) else (0 : Int32))), .val (.long ((((i9 - ((if (0 : Int32) < ((i9 / (1024 : Int32)) - (1 : Int32)) then ((i9 / (1024 : Int32)) - (1 : Int32)) else (0 : Int32)) * (1024 : Int32)))).toInt64) <<< ((if (0 : Int32) < ((i9 / (1024 : Int32)) - (1 : Int32)) then ((i9 / (1024 : Int32)) - (1 : Int32)) else (0 : Int32)) &&& 0x3f).toInt64)), .second] [(.double (FP.ddiv (own_pm f p1) (4652007308841189376 : UInt64)))]) := by
        intro t k
        refine K45 _ ?_
        refine XS.dload X44.here hx rfl (hb hby d10_122) rfl ?_
        show own_S p e below T44 (mkF m 124 #[.val (.ref r0), .val (.int p1), .val (.long (own_rank p1)), .second, .val (.double (own_pm f p1)), .second, .val (.long (s9 + (f i9))), .second, .val (.int i9), .val (.int (if (0 : Int32) < ((i9 / (1024 : Int32)) - (1 : Int32)) then ((i9 / (1024 : Int32)) - (1 : Int32)) else (0 : Int32))), .val (.long ((((i9 - ((if (0 : Int32) < ((i9 / (1024 : Int32)) - (1 : Int32)) then ((i9 / (1024 : Int32)) - (1 : Int32)) else (0 : Int32)) * (1024 : Int32)))).toInt64) <<< ((if (0 : Int32) < ((i9 / (1024 : Int32)) - (1 : Int32)) then ((i9 / (1024 : Int32)) - (1 : Int32)) else (0 : Int32)) &&& 0x3f).toInt64)), .second] [(.double (own_pm f p1))]) _
        refine X44.ldc2DoubleC hx hown (mvT hZ (hw _ (List.mem_of_getElem? (i := 54) rfl))) (g := (mkF m 124 #[.val (.ref r0), .val (.int p1), .val (.long (own_rank p1)), .second, .val (.double (own_pm f p1)), .second, .val (.long (s9 + (f i9))), .second, .val (.int i9), .val (.int (if (0 : Int32) < ((i9 / (1024 : Int32)) - (1 : Int32)) then ((i9 / (1024 : Int32)) - (1 : Int32)) else (0 : Int32))), .val (.long ((((i9 - ((if (0 : Int32) < ((i9 / (1024 : Int32)) - (1 : Int32)) then ((i9 / (1024 : Int32)) - (1 : Int32)) else (0 : Int32)) * (1024 : Int32)))).toInt64) <<< ((if (0 : Int32) < ((i9 / (1024 : Int32)) - (1 : Int32)) then ((i9 / (1024 : Int32)) - (1 : Int32)) else (0 : Int32)) &&& 0x3f).toInt64)), .second] [(.double (own_pm f p1))])) rfl (hb hby d10_124) _ ?_
        show own_S p e below T44 (mkF m 127 #[.val (.ref r0), .val (.int p1), .val (.long (own_rank p1)), .second, .val (.double (own_pm f p1)), .second, .val (.long (s9 + (f i9))), .second, .val (.int i9), .val (.int (if (0 : Int32) < ((i9 / (1024 : Int32)) - (1 : Int32)) then ((i9 / (1024 : Int32)) - (1 : Int32)) else (0 : Int32))), .val (.long ((((i9 - ((if (0 : Int32) < ((i9 / (1024 : Int32)) - (1 : Int32)) then ((i9 / (1024 : Int32)) - (1 : Int32)) else (0 : Int32)) * (1024 : Int32)))).toInt64) <<< ((if (0 : Int32) < ((i9 / (1024 : Int32)) - (1 : Int32)) then ((i9 / (1024 : Int32)) - (1 : Int32)) else (0 : Int32)) &&& 0x3f).toInt64)), .second] [(.double (4652007308841189376 : UInt64)), (.double (own_pm f p1))]) _
        refine XS.ddivS X44.here hx rfl (hb hby d10_127) rfl (own_pm_nn2 f p1) rfl ?_
        exact k
      obtain ⟨fs, hr, hrun, hended, hW, hsame⟩ := X44.leave (v := some (.double (FP.ddiv (own_pm f p1) (4652007308841189376 : UInt64)))) (fun h => by rw [Bd.returns] at h; cases h)
      refine ⟨_, _, K46 _ ?_, hrun, hended, _, _, rfl, ?_, ⟨_, rfl⟩, hW, hsame.mono (by decide) (by decide)⟩
      · show Steps p.tables e below (T44.setTop (mkF m 128 #[.val (.ref r0), .val (.int p1), .val (.long (own_rank p1)), .second, .val (.double (own_pm f p1)), .second, .val (.long (s9 + (f i9))), .second, .val (.int i9), .val (.int (if (0 : Int32) < ((i9 / (1024 : Int32)) - (1 : Int32)) then ((i9 / (1024 : Int32)) - (1 : Int32)) else (0 : Int32))), .val (.long ((((i9 - ((if (0 : Int32) < ((i9 / (1024 : Int32)) - (1 : Int32)) then ((i9 / (1024 : Int32)) - (1 : Int32)) else (0 : Int32)) * (1024 : Int32)))).toInt64) <<< ((if (0 : Int32) < ((i9 / (1024 : Int32)) - (1 : Int32)) then ((i9 / (1024 : Int32)) - (1 : Int32)) else (0 : Int32)) &&& 0x3f).toInt64)), .second] [(.double (FP.ddiv (own_pm f p1) (4652007308841189376 : UInt64)))])) _
        jvm_step X44.here [X44.here.top, hx, (hb hby d10_128), X44.method', Bd.returns, narrow]
        first | (intro acts; rw [hr _ acts rfl rfl rfl]) | rw [hr _ _ rfl rfl rfl]
        exact Steps.refl _
      · show Qpm Z r0 p1 ea f h0 n0 _ T44.heap _
        rw [e44]
        exact ⟨rfl, N44, rfl⟩
theorem pn_0 : plainName "com/example/convene/convene/bench/LatenciesAddPinLaw" = true := by first | (simp [plainName, overriddenIn]; done) | decide +kernel
theorem pd_0_0 : parseMethodDescriptor "()V" = some ⟨[], none⟩ := by decide +kernel
theorem pd_0_1 : parseMethodDescriptor "(J)V" = some ⟨[.long], none⟩ := by decide +kernel
theorem pd_0_2 : parseMethodDescriptor "(Lcom/example/convene/convene/bench/Latencies;)V" = some ⟨[(.object "com/example/convene/convene/bench/Latencies")], none⟩ := by decide +kernel
theorem pd_0_3 : parseMethodDescriptor "(I)D" = some ⟨[.int], some .double⟩ := by decide +kernel
theorem ef_0 (m : MethodId) (q0 : Int64) (q1 : Int64) (q2 : Int64) (p3 : Int32) : entryFrame m #[(.long q0), (.long q1), (.long q2), (.int p3)] maxLocals = mkF m 0 #[.val (.long q0), .second, .val (.long q1), .second, .val (.long q2), .second, .val (.int p3), .unset, .unset, .unset] [] := by first | (simp [entryFrame, mkF, argsToLocals, Value.category, maxLocals]; done) | rfl
def Q0 (Z : State) (q0 : Int64) (q1 : Int64) (q2 : Int64) (p3 : Int32) (h0 : Heap) (n0 : Nat) (v : Option Value) (h : Heap) (L : List Loc) : Prop := v = some (.int 1) ∧ Fr n0 L
set_option maxRecDepth 65536 in
set_option maxHeartbeats 40000000 in
theorem rm0 (l : Launch) (Z : State) (a0 : Array Value) (hw : ∀ d ∈ tables_1, d.before a0 Z = true) (ws : List Jvm.Cond) (q0 : Int64) (q1 : Int64) (q2 : Int64) (p3 : Int32) (h0 : Heap) (n0 : Nat) (Z0 : n0 ≤ h0.size) :
    MetFree l x (head1 (Jvm.Cond.code x code maxLocals ret :: ws) room_1) (fun a U => a = #[(.long q0), (.long q1), (.long q2), (.int p3)] ∧ Z.Warmed39 U.vm ∧ U.heap = h0) (fun _ _ _ _ _ => True) (fun _ U o U' => ∃ v L, o = .returned v ∧ Q0 Z q0 q1 q2 p3 h0 n0 v U'.heap L ∧ FrameEnd U o U' L room_1.cells room_1.slots) := by
  refine MetFree.of_bodySF (plainFor_of_name pn_0) hisR ?_
  intro p e s m args below meth c s₁ Bd hml0 hP hK
  obtain ⟨rfl, hZ, hh⟩ := hP
  have hx := Bd.exec
  have hby := Bd.bytes
  have hml : c.maxLocals = 10 := hml0
  have hown : s.vm.findClass "com/example/convene/convene/bench/LatenciesAddPinLaw" = some m.cls := findClass_of_methodNamed Bd.named
  have hnm := (name_of_methodNamed Bd.named Bd.method).1
  have X0 : Stand p l e room_1 s m #[(.long q0), (.long q1), (.long q2), (.int p3)] below meth c s₁ [] 0 0 := Stand.of_body Bd
  have e0 : s₁.heap = h0 := by rw [← hh, Bd.state]; rfl
  have N0 := Fr.nil n0
  have K0 : ∀ t, Steps p.tables e below (s₁.setTop (mkF m 0 #[.val (.long q0), .second, .val (.long q1), .second, .val (.long q2), .second, .val (.int p3), .unset, .unset, .unset] [])) t → Steps p.tables e below (s₁.setTop (entryFrame m #[(.long q0), (.long q1), (.long q2), (.int p3)] maxLocals)) t := fun t k => castTop (ef_0 m q0 q1 q2 p3) k
  generalize s₁.setTop (entryFrame m #[(.long q0), (.long q1), (.long q2), (.int p3)] maxLocals) = SE at K0 ⊢
  have K1 : own_K p e below SE s₁ (mkF m 8 #[.val (.long q0), .second, .val (.long q1), .second, .val (.long q2), .second, .val (.int p3), .unset, .unset, .unset] [(.int ((p3 &&& (2147483647 : Int32)) % (101 : Int32)))]) := by
    intro t k
    refine K0 _ ?_
    refine XS.iload X0.here hx rfl (hb hby at_0) rfl ?_
    show own_S p e below s₁ (mkF m 2 #[.val (.long q0), .second, .val (.long q1), .second, .val (.long q2), .second, .val (.int p3), .unset, .unset, .unset] [(.int p3)]) _
    refine Stand.ldcI X0 hx hown (mvT hZ (hw _ (List.mem_of_getElem? (i := 0) rfl))) (v := (2147483647 : Int32)) (g := (mkF m 2 #[.val (.long q0), .second, .val (.long q1), .second, .val (.long q2), .second, .val (.int p3), .unset, .unset, .unset] [(.int p3)])) rfl (hb hby at_2) ?_
    show own_S p e below s₁ (mkF m 4 #[.val (.long q0), .second, .val (.long q1), .second, .val (.long q2), .second, .val (.int p3), .unset, .unset, .unset] [(.int (2147483647 : Int32)), (.int p3)]) _
    refine XS.iand X0.here hx rfl (hb hby at_4) rfl ?_
    show own_S p e below s₁ (mkF m 5 #[.val (.long q0), .second, .val (.long q1), .second, .val (.long q2), .second, .val (.int p3), .unset, .unset, .unset] [(.int (p3 &&& (2147483647 : Int32)))]) _
    refine XS.bipush X0.here hx rfl (hb hby at_5) ?_
    show own_S p e below s₁ (mkF m 7 #[.val (.long q0), .second, .val (.long q1), .second, .val (.long q2), .second, .val (.int p3), .unset, .unset, .unset] [(.int (101 : Int32)), (.int (p3 &&& (2147483647 : Int32)))]) _
    refine iremM X0 hx rfl (hb hby at_7) rfl (by decide) ?_
    exact k
  obtain ⟨pct, hpct⟩ : ∃ z : Int32, z = ((p3 &&& (2147483647 : Int32)) % (101 : Int32)) := ⟨_, rfl⟩
  rw [← hpct] at K1
  have K2 : own_K p e below SE s₁ (mkF m 10 #[.val (.long q0), .second, .val (.long q1), .second, .val (.long q2), .second, .val (.int p3), .val (.int pct), .unset, .unset] []) := by
    intro t k
    refine K1 _ ?_
    refine XS.istore X0.here hx rfl (hb hby at_8) rfl (l' := #[.val (.long q0), .second, .val (.long q1), .second, .val (.long q2), .second, .val (.int p3), .val (.int pct), .unset, .unset]) rfl ?_
    exact k
  obtain ⟨T3, h3, X3, e3, E3, A3, D3, -, st3⟩ := newO X0 hx hZ hown (hw _ (List.mem_of_getElem? (i := 1) rfl)) (hw _ (List.mem_of_getElem? (i := 2) rfl)) (hw _ (List.mem_of_getElem? (i := 3) rfl)) e0 (g := (mkF m 10 #[.val (.long q0), .second, .val (.long q1), .second, .val (.long q2), .second, .val (.int p3), .val (.int pct), .unset, .unset] [])) rfl (hb hby at_10) (by decide) (by decide)
  obtain ⟨b3, g3⟩ : ∃ z, z = h0.size := ⟨_, rfl⟩
  rw [← g3] at A3 D3 st3
  have g_b3 : n0 ≤ b3 := Nat.le_trans Z0 (Nat.le_of_eq g3.symm)
  have sz_b3 : h0.size ≤ b3 := Nat.le_trans (Nat.le_refl _) (Nat.le_of_eq g3.symm)
  have Kp3 : Keep h0 h3 [] := Keep.ext (Keep.refl h0 []) E3
  have F_counts_b3 : Fld Z h3 b3 "com/example/convene/convene/bench/Latencies" "counts" "[J" .null := D3 (Or.inr (hw _ (List.mem_of_getElem? (i := 29) rfl))) (ty := (.array .long)) (by decide)
  have F_total_b3 : Fld Z h3 b3 "com/example/convene/convene/bench/Latencies" "total" "J" (.long (0 : Int64)) := D3 (Or.inl (hw _ (List.mem_of_getElem? (i := 40) rfl))) (ty := .long) (by decide)
  have K3 : own_K p e below SE T3 (mkF m 13 #[.val (.long q0), .second, .val (.long q1), .second, .val (.long q2), .second, .val (.int p3), .val (.int pct), .unset, .unset] [(.ref b3)]) := fun t k => K2 _ (st3 _ k)
  have K4 : own_K p e below SE T3 (mkF m 14 #[.val (.long q0), .second, .val (.long q1), .second, .val (.long q2), .second, .val (.int p3), .val (.int pct), .unset, .unset] [(.ref b3), (.ref b3)]) := by
    intro t k
    refine K3 _ ?_
    refine XS.dup X3.here hx rfl (hb hby at_13) rfl rfl ?_
    exact k
  obtain ⟨_, _, ⟨T5, L5, k5, n5⟩, -, X5, ⟨Lc5, hQ5, l5, y5, z5⟩, st5⟩ := X3.specialBack hx (y := (⟨"com/example/convene/convene/bench/Latencies", "<init>", "()V"⟩ : MethodName)) rfl hown (mvT hZ (hw _ (List.mem_of_getElem? (i := 4) rfl))) (mvT hZ (hw _ (List.mem_of_getElem? (i := 5) rfl))) (mvT hZ (hw _ (List.mem_of_getElem? (i := 6) rfl))) (by decide) (backOf (W := 1) (rmti l Z a0 hw [] b3 h3 n0 (Nat.le_trans Z0 Kp3.1) A3 F_counts_b3 F_total_b3 g_b3) hZ (hw _ (List.mem_of_getElem? (i := 6) rfl)) (hw _ (List.mem_of_getElem? (i := 3) rfl)) (by decide) (by decide)) (g := (mkF m 14 #[.val (.long q0), .second, .val (.long q1), .second, .val (.long q2), .second, .val (.int p3), .val (.int pct), .unset, .unset] [(.ref b3), (.ref b3)])) rfl (by rw [hml]; rfl) (Steps.refl _) (a := b3) (argsL := []) (rest := [(.ref b3)]) (lenOf pd_0_0 rfl) rfl (by show 2 * 0 + _ ≤ _; exact Nat.le_of_eq rfl) (hb hby at_14) (fun _ _ => ⟨rfl, e3, (by decide : 1 + 1 ≤ _), (by decide : 2 + 55296 ≤ _)⟩)
  dsimp only [Pt.U, Pt.locs, Pt.cells, Pt.slots] at X5 l5 y5 z5 st5 hQ5
  rw [y5, z5] at X5
  obtain ⟨rfl, Nq5, Kq5, Ex5, Ft5, ea1, hs_ea1, Fc5, Va5⟩ := hQ5
  have N5 : Fr n0 L5 := by rw [l5]; exact Fr.app N0 Nq5
  have Kp5 : Keep h0 T5.heap [] := Keep.trans Kp3 Kq5 (allS (Or.inr sz_b3) all0)
  have K5 : own_K p e below SE T5 (mkF m 17 #[.val (.long q0), .second, .val (.long q1), .second, .val (.long q2), .second, .val (.int p3), .val (.int pct), .unset, .unset] [(.ref b3)]) := fun t k => K4 _ (st5.trans k)
  have own_ne_b3_ea1 : b3 ≠ ea1 := Nat.ne_of_lt (Nat.lt_of_lt_of_le A3.lt hs_ea1)
  have g_ea1 : n0 ≤ ea1 := Nat.le_trans (Nat.le_trans Z0 Kp3.1) hs_ea1
  have sz_ea1 : h0.size ≤ ea1 := Nat.le_trans Kp3.1 hs_ea1
  have K6 : own_K p e below SE T5 (mkF m 19 #[.val (.long q0), .second, .val (.long q1), .second, .val (.long q2), .second, .val (.int p3), .val (.int pct), .val (.ref b3), .unset] []) := by
    intro t k
    refine K5 _ ?_
    refine XS.astore X5.here hx rfl (hb hby at_17) rfl rfl (l' := #[.val (.long q0), .second, .val (.long q1), .second, .val (.long q2), .second, .val (.int p3), .val (.int pct), .val (.ref b3), .unset]) rfl ?_
    exact k
  obtain ⟨T7, h7, X7, e7, E7, A7, D7, -, st7⟩ := newO X5 hx hZ hown (hw _ (List.mem_of_getElem? (i := 1) rfl)) (hw _ (List.mem_of_getElem? (i := 2) rfl)) (hw _ (List.mem_of_getElem? (i := 3) rfl)) rfl (g := (mkF m 19 #[.val (.long q0), .second, .val (.long q1), .second, .val (.long q2), .second, .val (.int p3), .val (.int pct), .val (.ref b3), .unset] [])) rfl (hb hby at_19) (by decide) (by decide)
  obtain ⟨b7, g7⟩ : ∃ z, z = T5.heap.size := ⟨_, rfl⟩
  rw [← g7] at A7 D7 st7
  have g_b7 : n0 ≤ b7 := Nat.le_trans (Nat.le_trans Z0 Kp5.1) (Nat.le_of_eq g7.symm)
  have sz_b7 : h0.size ≤ b7 := Nat.le_trans Kp5.1 (Nat.le_of_eq g7.symm)
  have own_ne_b3_b7 : b3 ≠ b7 := Nat.ne_of_lt (Nat.lt_of_lt_of_le Ex5.lt (Nat.le_of_eq g7.symm))
  have own_ne_ea1_b7 : ea1 ≠ b7 := Nat.ne_of_lt (Nat.lt_of_lt_of_le Va5.lt (Nat.le_of_eq g7.symm))
  have Kp7 : Keep h0 h7 [] := Keep.ext Kp5 E7
  have F_counts_b7 : Fld Z h7 b7 "com/example/convene/convene/bench/Latencies" "counts" "[J" .null := D7 (Or.inr (hw _ (List.mem_of_getElem? (i := 29) rfl))) (ty := (.array .long)) (by decide)
  have F_total_b7 : Fld Z h7 b7 "com/example/convene/convene/bench/Latencies" "total" "J" (.long (0 : Int64)) := D7 (Or.inl (hw _ (List.mem_of_getElem? (i := 40) rfl))) (ty := .long) (by decide)
  have K7 : own_K p e below SE T7 (mkF m 22 #[.val (.long q0), .second, .val (.long q1), .second, .val (.long q2), .second, .val (.int p3), .val (.int pct), .val (.ref b3), .unset] [(.ref b7)]) := fun t k => K6 _ (st7 _ k)
  have K8 : own_K p e below SE T7 (mkF m 23 #[.val (.long q0), .second, .val (.long q1), .second, .val (.long q2), .second, .val (.int p3), .val (.int pct), .val (.ref b3), .unset] [(.ref b7), (.ref b7)]) := by
    intro t k
    refine K7 _ ?_
    refine XS.dup X7.here hx rfl (hb hby at_22) rfl rfl ?_
    exact k
  obtain ⟨_, _, ⟨T9, L9, k9, n9⟩, -, X9, ⟨Lc9, hQ9, l9, y9, z9⟩, st9⟩ := X7.specialBack hx (y := (⟨"com/example/convene/convene/bench/Latencies", "<init>", "()V"⟩ : MethodName)) rfl hown (mvT hZ (hw _ (List.mem_of_getElem? (i := 4) rfl))) (mvT hZ (hw _ (List.mem_of_getElem? (i := 5) rfl))) (mvT hZ (hw _ (List.mem_of_getElem? (i := 6) rfl))) (by decide) (backOf (W := 1) (rmti l Z a0 hw [] b7 h7 n0 (Nat.le_trans Z0 Kp7.1) A7 F_counts_b7 F_total_b7 g_b7) hZ (hw _ (List.mem_of_getElem? (i := 6) rfl)) (hw _ (List.mem_of_getElem? (i := 3) rfl)) (by decide) (by decide)) (g := (mkF m 23 #[.val (.long q0), .second, .val (.long q1), .second, .val (.long q2), .second, .val (.int p3), .val (.int pct), .val (.ref b3), .unset] [(.ref b7), (.ref b7)])) rfl (by rw [hml]; rfl) (Steps.refl _) (a := b7) (argsL := []) (rest := [(.ref b7)]) (lenOf pd_0_0 rfl) rfl (by show 2 * 0 + _ ≤ _; exact Nat.le_of_eq rfl) (hb hby at_23) (fun _ _ => ⟨rfl, e7, (by decide : 3 + 1 ≤ _), (by decide : 55300 + 55296 ≤ _)⟩)
  dsimp only [Pt.U, Pt.locs, Pt.cells, Pt.slots] at X9 l9 y9 z9 st9 hQ9
  rw [y9, z9] at X9
  obtain ⟨rfl, Nq9, Kq9, Ex9, Ft9, ea2, hs_ea2, Fc9, Va9⟩ := hQ9
  have N9 : Fr n0 L9 := by rw [l9]; exact Fr.app N5 Nq9
  have Kp9 : Keep h0 T9.heap [] := Keep.trans Kp7 Kq9 (allS (Or.inr sz_b7) all0)
  have K9 : own_K p e below SE T9 (mkF m 26 #[.val (.long q0), .second, .val (.long q1), .second, .val (.long q2), .second, .val (.int p3), .val (.int pct), .val (.ref b3), .unset] [(.ref b7)]) := fun t k => K8 _ (st9.trans k)
  have own_ne_b3_ea2 : b3 ≠ ea2 := Nat.ne_of_lt (Nat.lt_of_lt_of_le (Ex5.ext E7).lt hs_ea2)
  have own_ne_ea1_ea2 : ea1 ≠ ea2 := Nat.ne_of_lt (Nat.lt_of_lt_of_le (Va5.ext E7).lt hs_ea2)
  have own_ne_b7_ea2 : b7 ≠ ea2 := Nat.ne_of_lt (Nat.lt_of_lt_of_le A7.lt hs_ea2)
  have g_ea2 : n0 ≤ ea2 := Nat.le_trans (Nat.le_trans Z0 Kp7.1) hs_ea2
  have sz_ea2 : h0.size ≤ ea2 := Nat.le_trans Kp7.1 hs_ea2
  have K10 : own_K p e below SE T9 (mkF m 31 #[.val (.long q0), .second, .val (.long q1), .second, .val (.long q2), .second, .val (.int p3), .val (.int pct), .val (.ref b3), .val (.ref b7)] [(.long q0), (.ref b3)]) := by
    intro t k
    refine K9 _ ?_
    refine XS.astore X9.here hx rfl (hb hby at_26) rfl rfl (l' := #[.val (.long q0), .second, .val (.long q1), .second, .val (.long q2), .second, .val (.int p3), .val (.int pct), .val (.ref b3), .val (.ref b7)]) rfl ?_
    show own_S p e below T9 (mkF m 28 #[.val (.long q0), .second, .val (.long q1), .second, .val (.long q2), .second, .val (.int p3), .val (.int pct), .val (.ref b3), .val (.ref b7)] []) _
    refine XS.aload X9.here hx rfl (hb hby at_28) rfl rfl ?_
    show own_S p e below T9 (mkF m 30 #[.val (.long q0), .second, .val (.long q1), .second, .val (.long q2), .second, .val (.int p3), .val (.int pct), .val (.ref b3), .val (.ref b7)] [(.ref b3)]) _
    refine XS.lloadN X9.here hx rfl (hb hby at_30) rfl ?_
    exact k
  obtain ⟨cq11, kq11, q11a, q11b, q11c⟩ := isOf hZ rfl ((Ex5.ext E7).keep Kq9)
  obtain ⟨_, _, ⟨T11, L11, k11, n11⟩, -, X11, ⟨Lc11, hQ11, l11, y11, z11⟩, st11⟩ := X9.virtualBack hx (y := (⟨"com/example/convene/convene/bench/Latencies", "record", "(J)V"⟩ : MethodName)) (z := (⟨"com/example/convene/convene/bench/Latencies", "record", "(J)V"⟩ : MethodName)) hown (mvT hZ (hw _ (List.mem_of_getElem? (i := 30) rfl))) (mvT hZ (hw _ (List.mem_of_getElem? (i := 31) rfl))) (notFace_of_selects (args := #[]) (mvT hZ (hw _ (List.mem_of_getElem? (i := 33) rfl)))) (mvT hZ (hw _ (List.mem_of_getElem? (i := 33) rfl))) (mvT hZ (hw _ (List.mem_of_getElem? (i := 32) rfl))) (by decide) (backOf (W := 0) (rmre l Z a0 hw [] b3 q0 ea1 own_z (0 : Int64) T9.heap n0 (Nat.le_trans Z0 Kp9.1) ((Ex5.ext E7).keep Kq9) ((Fc5.ext E7).keep Kq9 (ninS (own_ne_b3_b7) nin0)) ((Ft5.ext E7).keep Kq9 (ninS (own_ne_b3_b7) nin0)) ((Va5.ext E7).keep Kq9 (ninS (own_ne_ea1_b7) nin0)) g_b3 g_ea1 own_ne_b3_ea1) hZ (hw _ (List.mem_of_getElem? (i := 34) rfl)) (hw _ (List.mem_of_getElem? (i := 3) rfl)) (by decide) (by decide)) q11a q11c (g := (mkF m 31 #[.val (.long q0), .second, .val (.long q1), .second, .val (.long q2), .second, .val (.int p3), .val (.int pct), .val (.ref b3), .val (.ref b7)] [(.long q0), (.ref b3)])) rfl (by rw [hml]; rfl) (Steps.refl _) (argsL := [(.long q0)]) (rest := []) (lenOf pd_0_1 rfl) rfl (by show 2 * 0 + _ ≤ _; exact Nat.le_of_eq rfl) (hb hby at_31) (fun _ _ => ⟨rfl, rfl, (by decide : 4 + 0 ≤ _), (by decide : 110596 + 0 ≤ _)⟩)
  dsimp only [Pt.U, Pt.locs, Pt.cells, Pt.slots] at X11 l11 y11 z11 st11 hQ11
  rw [y11, z11] at X11
  obtain ⟨rfl, Nq11, Kq11, Ex11, Fc11, Ft11, Va11⟩ := hQ11
  have N11 : Fr n0 L11 := by rw [l11]; exact Fr.app N9 Nq11
  have Kp11 : Keep h0 T11.heap [] := Keep.trans Kp9 Kq11 (allS (Or.inr sz_b3) (allS (Or.inr sz_ea1) all0))
  have K11 : own_K p e below SE T11 (mkF m 34 #[.val (.long q0), .second, .val (.long q1), .second, .val (.long q2), .second, .val (.int p3), .val (.int pct), .val (.ref b3), .val (.ref b7)] []) := fun t k => K10 _ (st11.trans k)
  have Nt11 : Fld Z T11.heap b3 "com/example/convene/convene/bench/Latencies" "total" "J" (.long (1 : Int64)) := by
    have w := Ft11
    rw [show ((0 : Int64) + (1 : Int64)) = (1 : Int64) from by decide] at w
    exact w
  have K12 : own_K p e below SE T11 (mkF m 37 #[.val (.long q0), .second, .val (.long q1), .second, .val (.long q2), .second, .val (.int p3), .val (.int pct), .val (.ref b3), .val (.ref b7)] [(.long q1), (.ref b7)]) := by
    intro t k
    refine K11 _ ?_
    refine XS.aload X11.here hx rfl (hb hby at_34) rfl rfl ?_
    show own_S p e below T11 (mkF m 36 #[.val (.long q0), .second, .val (.long q1), .second, .val (.long q2), .second, .val (.int p3), .val (.int pct), .val (.ref b3), .val (.ref b7)] [(.ref b7)]) _
    refine XS.lloadN X11.here hx rfl (hb hby at_36) rfl ?_
    exact k
  obtain ⟨cq13, kq13, q13a, q13b, q13c⟩ := isOf hZ rfl (Ex9.keep Kq11)
  obtain ⟨_, _, ⟨T13, L13, k13, n13⟩, -, X13, ⟨Lc13, hQ13, l13, y13, z13⟩, st13⟩ := X11.virtualBack hx (y := (⟨"com/example/convene/convene/bench/Latencies", "record", "(J)V"⟩ : MethodName)) (z := (⟨"com/example/convene/convene/bench/Latencies", "record", "(J)V"⟩ : MethodName)) hown (mvT hZ (hw _ (List.mem_of_getElem? (i := 30) rfl))) (mvT hZ (hw _ (List.mem_of_getElem? (i := 31) rfl))) (notFace_of_selects (args := #[]) (mvT hZ (hw _ (List.mem_of_getElem? (i := 33) rfl)))) (mvT hZ (hw _ (List.mem_of_getElem? (i := 33) rfl))) (mvT hZ (hw _ (List.mem_of_getElem? (i := 32) rfl))) (by decide) (backOf (W := 0) (rmre l Z a0 hw [] b7 q1 ea2 own_z (0 : Int64) T11.heap n0 (Nat.le_trans Z0 Kp11.1) (Ex9.keep Kq11) (Fc9.keep Kq11 (ninS (Ne.symm (own_ne_b3_b7)) (ninS (Ne.symm (own_ne_ea1_b7)) nin0))) (Ft9.keep Kq11 (ninS (Ne.symm (own_ne_b3_b7)) (ninS (Ne.symm (own_ne_ea1_b7)) nin0))) (Va9.keep Kq11 (ninS (Ne.symm (own_ne_b3_ea2)) (ninS (Ne.symm (own_ne_ea1_ea2)) nin0))) g_b7 g_ea2 own_ne_b7_ea2) hZ (hw _ (List.mem_of_getElem? (i := 34) rfl)) (hw _ (List.mem_of_getElem? (i := 3) rfl)) (by decide) (by decide)) q13a q13c (g := (mkF m 37 #[.val (.long q0), .second, .val (.long q1), .second, .val (.long q2), .second, .val (.int p3), .val (.int pct), .val (.ref b3), .val (.ref b7)] [(.long q1), (.ref b7)])) rfl (by rw [hml]; rfl) (Steps.refl _) (argsL := [(.long q1)]) (rest := []) (lenOf pd_0_1 rfl) rfl (by show 2 * 0 + _ ≤ _; exact Nat.le_of_eq rfl) (hb hby at_37) (fun _ _ => ⟨rfl, rfl, (by decide : 4 + 0 ≤ _), (by decide : 110596 + 0 ≤ _)⟩)
  dsimp only [Pt.U, Pt.locs, Pt.cells, Pt.slots] at X13 l13 y13 z13 st13 hQ13
  rw [y13, z13] at X13
  obtain ⟨rfl, Nq13, Kq13, Ex13, Fc13, Ft13, Va13⟩ := hQ13
  have N13 : Fr n0 L13 := by rw [l13]; exact Fr.app N11 Nq13
  have Kp13 : Keep h0 T13.heap [] := Keep.trans Kp11 Kq13 (allS (Or.inr sz_b7) (allS (Or.inr sz_ea2) all0))
  have K13 : own_K p e below SE T13 (mkF m 40 #[.val (.long q0), .second, .val (.long q1), .second, .val (.long q2), .second, .val (.int p3), .val (.int pct), .val (.ref b3), .val (.ref b7)] []) := fun t k => K12 _ (st13.trans k)
  have Nt13 : Fld Z T13.heap b7 "com/example/convene/convene/bench/Latencies" "total" "J" (.long (1 : Int64)) := by
    have w := Ft13
    rw [show ((0 : Int64) + (1 : Int64)) = (1 : Int64) from by decide] at w
    exact w
  have K14 : own_K p e below SE T13 (mkF m 44 #[.val (.long q0), .second, .val (.long q1), .second, .val (.long q2), .second, .val (.int p3), .val (.int pct), .val (.ref b3), .val (.ref b7)] [(.long q2), (.ref b7)]) := by
    intro t k
    refine K13 _ ?_
    refine XS.aload X13.here hx rfl (hb hby at_40) rfl rfl ?_
    show own_S p e below T13 (mkF m 42 #[.val (.long q0), .second, .val (.long q1), .second, .val (.long q2), .second, .val (.int p3), .val (.int pct), .val (.ref b3), .val (.ref b7)] [(.ref b7)]) _
    refine XS.lload X13.here hx rfl (hb hby at_42) rfl ?_
    exact k
  obtain ⟨cq15, kq15, q15a, q15b, q15c⟩ := isOf hZ rfl Ex13
  obtain ⟨_, _, ⟨T15, L15, k15, n15⟩, -, X15, ⟨Lc15, hQ15, l15, y15, z15⟩, st15⟩ := X13.virtualBack hx (y := (⟨"com/example/convene/convene/bench/Latencies", "record", "(J)V"⟩ : MethodName)) (z := (⟨"com/example/convene/convene/bench/Latencies", "record", "(J)V"⟩ : MethodName)) hown (mvT hZ (hw _ (List.mem_of_getElem? (i := 30) rfl))) (mvT hZ (hw _ (List.mem_of_getElem? (i := 31) rfl))) (notFace_of_selects (args := #[]) (mvT hZ (hw _ (List.mem_of_getElem? (i := 33) rfl)))) (mvT hZ (hw _ (List.mem_of_getElem? (i := 33) rfl))) (mvT hZ (hw _ (List.mem_of_getElem? (i := 32) rfl))) (by decide) (backOf (W := 0) (rmre l Z a0 hw [] b7 q2 ea2 (own_up own_z q1) (1 : Int64) T13.heap n0 (Nat.le_trans Z0 Kp13.1) Ex13 Fc13 Nt13 Va13 g_b7 g_ea2 own_ne_b7_ea2) hZ (hw _ (List.mem_of_getElem? (i := 34) rfl)) (hw _ (List.mem_of_getElem? (i := 3) rfl)) (by decide) (by decide)) q15a q15c (g := (mkF m 44 #[.val (.long q0), .second, .val (.long q1), .second, .val (.long q2), .second, .val (.int p3), .val (.int pct), .val (.ref b3), .val (.ref b7)] [(.long q2), (.ref b7)])) rfl (by rw [hml]; rfl) (Steps.refl _) (argsL := [(.long q2)]) (rest := []) (lenOf pd_0_1 rfl) rfl (by show 2 * 0 + _ ≤ _; exact Nat.le_of_eq rfl) (hb hby at_44) (fun _ _ => ⟨rfl, rfl, (by decide : 4 + 0 ≤ _), (by decide : 110596 + 0 ≤ _)⟩)
  dsimp only [Pt.U, Pt.locs, Pt.cells, Pt.slots] at X15 l15 y15 z15 st15 hQ15
  rw [y15, z15] at X15
  obtain ⟨rfl, Nq15, Kq15, Ex15, Fc15, Ft15, Va15⟩ := hQ15
  have N15 : Fr n0 L15 := by rw [l15]; exact Fr.app N13 Nq15
  have Kp15 : Keep h0 T15.heap [] := Keep.trans Kp13 Kq15 (allS (Or.inr sz_b7) (allS (Or.inr sz_ea2) all0))
  have K15 : own_K p e below SE T15 (mkF m 47 #[.val (.long q0), .second, .val (.long q1), .second, .val (.long q2), .second, .val (.int p3), .val (.int pct), .val (.ref b3), .val (.ref b7)] []) := fun t k => K14 _ (st15.trans k)
  have Nt15 : Fld Z T15.heap b7 "com/example/convene/convene/bench/Latencies" "total" "J" (.long (2 : Int64)) := by
    have w := Ft15
    rw [show ((1 : Int64) + (1 : Int64)) = (2 : Int64) from by decide] at w
    exact w
  have K16 : own_K p e below SE T15 (mkF m 51 #[.val (.long q0), .second, .val (.long q1), .second, .val (.long q2), .second, .val (.int p3), .val (.int pct), .val (.ref b3), .val (.ref b7)] [(.ref b7), (.ref b3)]) := by
    intro t k
    refine K15 _ ?_
    refine XS.aload X15.here hx rfl (hb hby at_47) rfl rfl ?_
    show own_S p e below T15 (mkF m 49 #[.val (.long q0), .second, .val (.long q1), .second, .val (.long q2), .second, .val (.int p3), .val (.int pct), .val (.ref b3), .val (.ref b7)] [(.ref b3)]) _
    refine XS.aload X15.here hx rfl (hb hby at_49) rfl rfl ?_
    exact k
  obtain ⟨cq17, kq17, q17a, q17b, q17c⟩ := isOf hZ rfl ((Ex11.keep Kq13).keep Kq15)
  obtain ⟨_, _, ⟨T17, L17, k17, n17⟩, -, X17, ⟨Lc17, hQ17, l17, y17, z17⟩, st17⟩ := X15.virtualBack hx (y := (⟨"com/example/convene/convene/bench/Latencies", "add", "(Lcom/example/convene/convene/bench/Latencies;)V"⟩ : MethodName)) (z := (⟨"com/example/convene/convene/bench/Latencies", "add", "(Lcom/example/convene/convene/bench/Latencies;)V"⟩ : MethodName)) hown (mvT hZ (hw _ (List.mem_of_getElem? (i := 41) rfl))) (mvT hZ (hw _ (List.mem_of_getElem? (i := 42) rfl))) (notFace_of_selects (args := #[]) (mvT hZ (hw _ (List.mem_of_getElem? (i := 44) rfl)))) (mvT hZ (hw _ (List.mem_of_getElem? (i := 44) rfl))) (mvT hZ (hw _ (List.mem_of_getElem? (i := 43) rfl))) (by decide) (backOf (W := 0) (rmad l Z a0 hw [] b3 b7 ea1 ea2 (own_up own_z q0) (own_up (own_up own_z q1) q2) (1 : Int64) (2 : Int64) T15.heap n0 (Nat.le_trans Z0 Kp15.1) ((Ex11.keep Kq13).keep Kq15) ((Fc11.keep Kq13 (ninS (own_ne_b3_b7) (ninS (own_ne_b3_ea2) nin0))).keep Kq15 (ninS (own_ne_b3_b7) (ninS (own_ne_b3_ea2) nin0))) ((Nt11.keep Kq13 (ninS (own_ne_b3_b7) (ninS (own_ne_b3_ea2) nin0))).keep Kq15 (ninS (own_ne_b3_b7) (ninS (own_ne_b3_ea2) nin0))) ((Va11.keep Kq13 (ninS (own_ne_ea1_b7) (ninS (own_ne_ea1_ea2) nin0))).keep Kq15 (ninS (own_ne_ea1_b7) (ninS (own_ne_ea1_ea2) nin0))) Fc15 Nt15 Va15 g_b3 g_ea1 (own_ne_b3_ea1) (Ne.symm (own_ne_ea1_b7)) (own_ne_ea1_ea2) (own_ne_b3_b7) (own_ne_b3_ea2) (own_ne_b7_ea2)) hZ (hw _ (List.mem_of_getElem? (i := 45) rfl)) (hw _ (List.mem_of_getElem? (i := 3) rfl)) (by decide) (by decide)) q17a q17c (g := (mkF m 51 #[.val (.long q0), .second, .val (.long q1), .second, .val (.long q2), .second, .val (.int p3), .val (.int pct), .val (.ref b3), .val (.ref b7)] [(.ref b7), (.ref b3)])) rfl (by rw [hml]; rfl) (Steps.refl _) (argsL := [(.ref b7)]) (rest := []) (lenOf pd_0_2 rfl) rfl (by show 2 * 0 + _ ≤ _; exact Nat.le_of_eq rfl) (hb hby at_51) (fun _ _ => ⟨rfl, rfl, (by decide : 4 + 0 ≤ _), (by decide : 110596 + 0 ≤ _)⟩)
  dsimp only [Pt.U, Pt.locs, Pt.cells, Pt.slots] at X17 l17 y17 z17 st17 hQ17
  rw [y17, z17] at X17
  obtain ⟨rfl, Nq17, Kq17, Ex17, Fc17, Ft17, Va17⟩ := hQ17
  have N17 : Fr n0 L17 := by rw [l17]; exact Fr.app N15 Nq17
  have Kp17 : Keep h0 T17.heap [] := Keep.trans Kp15 Kq17 (allS (Or.inr sz_b3) (allS (Or.inr sz_ea1) all0))
  have K17 : own_K p e below SE T17 (mkF m 54 #[.val (.long q0), .second, .val (.long q1), .second, .val (.long q2), .second, .val (.int p3), .val (.int pct), .val (.ref b3), .val (.ref b7)] []) := fun t k => K16 _ (st17.trans k)
  have Nt17 : Fld Z T17.heap b3 "com/example/convene/convene/bench/Latencies" "total" "J" (.long (3 : Int64)) := by
    have w := Ft17
    rw [show ((1 : Int64) + (2 : Int64)) = (3 : Int64) from by decide] at w
    exact w
  have K18 : own_K p e below SE T17 (mkF m 57 #[.val (.long q0), .second, .val (.long q1), .second, .val (.long q2), .second, .val (.int p3), .val (.int pct), .val (.ref b3), .val (.ref b7)] [(.long q0), (.ref b7)]) := by
    intro t k
    refine K17 _ ?_
    refine XS.aload X17.here hx rfl (hb hby at_54) rfl rfl ?_
    show own_S p e below T17 (mkF m 56 #[.val (.long q0), .second, .val (.long q1), .second, .val (.long q2), .second, .val (.int p3), .val (.int pct), .val (.ref b3), .val (.ref b7)] [(.ref b7)]) _
    refine XS.lloadN X17.here hx rfl (hb hby at_56) rfl ?_
    exact k
  obtain ⟨cq19, kq19, q19a, q19b, q19c⟩ := isOf hZ rfl (Ex15.keep Kq17)
  obtain ⟨_, _, ⟨T19, L19, k19, n19⟩, -, X19, ⟨Lc19, hQ19, l19, y19, z19⟩, st19⟩ := X17.virtualBack hx (y := (⟨"com/example/convene/convene/bench/Latencies", "record", "(J)V"⟩ : MethodName)) (z := (⟨"com/example/convene/convene/bench/Latencies", "record", "(J)V"⟩ : MethodName)) hown (mvT hZ (hw _ (List.mem_of_getElem? (i := 30) rfl))) (mvT hZ (hw _ (List.mem_of_getElem? (i := 31) rfl))) (notFace_of_selects (args := #[]) (mvT hZ (hw _ (List.mem_of_getElem? (i := 33) rfl)))) (mvT hZ (hw _ (List.mem_of_getElem? (i := 33) rfl))) (mvT hZ (hw _ (List.mem_of_getElem? (i := 32) rfl))) (by decide) (backOf (W := 0) (rmre l Z a0 hw [] b7 q0 ea2 (own_up (own_up own_z q1) q2) (2 : Int64) T17.heap n0 (Nat.le_trans Z0 Kp17.1) (Ex15.keep Kq17) (Fc15.keep Kq17 (ninS (Ne.symm (own_ne_b3_b7)) (ninS (Ne.symm (own_ne_ea1_b7)) nin0))) (Nt15.keep Kq17 (ninS (Ne.symm (own_ne_b3_b7)) (ninS (Ne.symm (own_ne_ea1_b7)) nin0))) (Va15.keep Kq17 (ninS (Ne.symm (own_ne_b3_ea2)) (ninS (Ne.symm (own_ne_ea1_ea2)) nin0))) g_b7 g_ea2 own_ne_b7_ea2) hZ (hw _ (List.mem_of_getElem? (i := 34) rfl)) (hw _ (List.mem_of_getElem? (i := 3) rfl)) (by decide) (by decide)) q19a q19c (g := (mkF m 57 #[.val (.long q0), .second, .val (.long q1), .second, .val (.long q2), .second, .val (.int p3), .val (.int pct), .val (.ref b3), .val (.ref b7)] [(.long q0), (.ref b7)])) rfl (by rw [hml]; rfl) (Steps.refl _) (argsL := [(.long q0)]) (rest := []) (lenOf pd_0_1 rfl) rfl (by show 2 * 0 + _ ≤ _; exact Nat.le_of_eq rfl) (hb hby at_57) (fun _ _ => ⟨rfl, rfl, (by decide : 4 + 0 ≤ _), (by decide : 110596 + 0 ≤ _)⟩)
  dsimp only [Pt.U, Pt.locs, Pt.cells, Pt.slots] at X19 l19 y19 z19 st19 hQ19
  rw [y19, z19] at X19
  obtain ⟨rfl, Nq19, Kq19, Ex19, Fc19, Ft19, Va19⟩ := hQ19
  have N19 : Fr n0 L19 := by rw [l19]; exact Fr.app N17 Nq19
  have Kp19 : Keep h0 T19.heap [] := Keep.trans Kp17 Kq19 (allS (Or.inr sz_b7) (allS (Or.inr sz_ea2) all0))
  have K19 : own_K p e below SE T19 (mkF m 60 #[.val (.long q0), .second, .val (.long q1), .second, .val (.long q2), .second, .val (.int p3), .val (.int pct), .val (.ref b3), .val (.ref b7)] []) := fun t k => K18 _ (st19.trans k)
  have Nt19 : Fld Z T19.heap b7 "com/example/convene/convene/bench/Latencies" "total" "J" (.long (3 : Int64)) := by
    have w := Ft19
    rw [show ((2 : Int64) + (1 : Int64)) = (3 : Int64) from by decide] at w
    exact w
  have K20 : own_K p e below SE T19 (mkF m 64 #[.val (.long q0), .second, .val (.long q1), .second, .val (.long q2), .second, .val (.int p3), .val (.int pct), .val (.ref b3), .val (.ref b7)] [(.int pct), (.ref b3)]) := by
    intro t k
    refine K19 _ ?_
    refine XS.aload X19.here hx rfl (hb hby at_60) rfl rfl ?_
    show own_S p e below T19 (mkF m 62 #[.val (.long q0), .second, .val (.long q1), .second, .val (.long q2), .second, .val (.int p3), .val (.int pct), .val (.ref b3), .val (.ref b7)] [(.ref b3)]) _
    refine XS.iload X19.here hx rfl (hb hby at_62) rfl ?_
    exact k
  have hAf : own_A Z T19.heap ea1 (own_up (own_up (own_up own_z q1) q2) q0) := (Va17.keep Kq19 (ninS (own_ne_ea1_b7) (ninS (own_ne_ea1_ea2) nin0))).congr (fun k _ => own_feq (own_up (own_up own_z q1) q2) q0 k)
  obtain ⟨cq21, kq21, q21a, q21b, q21c⟩ := isOf hZ rfl (Ex17.keep Kq19)
  obtain ⟨_, _, ⟨T21, L21, k21, n21⟩, -, X21, ⟨Lc21, hQ21, l21, y21, z21⟩, st21⟩ := X19.virtualBack hx (y := (⟨"com/example/convene/convene/bench/Latencies", "percentileMs", "(I)D"⟩ : MethodName)) (z := (⟨"com/example/convene/convene/bench/Latencies", "percentileMs", "(I)D"⟩ : MethodName)) hown (mvT hZ (hw _ (List.mem_of_getElem? (i := 46) rfl))) (mvT hZ (hw _ (List.mem_of_getElem? (i := 47) rfl))) (notFace_of_selects (args := #[]) (mvT hZ (hw _ (List.mem_of_getElem? (i := 49) rfl)))) (mvT hZ (hw _ (List.mem_of_getElem? (i := 49) rfl))) (mvT hZ (hw _ (List.mem_of_getElem? (i := 48) rfl))) (by decide) (backOf (W := 0) (rmpm l Z a0 hw [] b3 pct ea1 (own_up (own_up (own_up own_z q1) q2) q0) T19.heap n0 (Nat.le_trans Z0 Kp19.1) (Fc17.keep Kq19 (ninS (own_ne_b3_b7) (ninS (own_ne_b3_ea2) nin0))) (Nt17.keep Kq19 (ninS (own_ne_b3_b7) (ninS (own_ne_b3_ea2) nin0))) hAf) hZ (hw _ (List.mem_of_getElem? (i := 50) rfl)) (hw _ (List.mem_of_getElem? (i := 3) rfl)) (by decide) (by decide)) q21a q21c (g := (mkF m 64 #[.val (.long q0), .second, .val (.long q1), .second, .val (.long q2), .second, .val (.int p3), .val (.int pct), .val (.ref b3), .val (.ref b7)] [(.int pct), (.ref b3)])) rfl (by rw [hml]; rfl) (Steps.refl _) (argsL := [(.int pct)]) (rest := []) (lenOf pd_0_3 rfl) rfl (by show 2 * 0 + _ ≤ _; exact Nat.le_of_eq rfl) (hb hby at_64) (fun _ _ => ⟨rfl, rfl, (by decide : 4 + 0 ≤ _), (by decide : 110596 + 0 ≤ _)⟩)
  dsimp only [Pt.U, Pt.locs, Pt.cells, Pt.slots] at X21 l21 y21 z21 st21 hQ21
  rw [y21, z21] at X21
  obtain ⟨rfl, Nq21, e21⟩ := hQ21
  have N21 : Fr n0 L21 := by rw [l21]; exact Fr.app N19 Nq21
  have K21 : own_K p e below SE T21 (mkF m 67 #[.val (.long q0), .second, .val (.long q1), .second, .val (.long q2), .second, .val (.int p3), .val (.int pct), .val (.ref b3), .val (.ref b7)] [(.double (own_res (own_up (own_up (own_up own_z q1) q2) q0) pct))]) := fun t k => K20 _ (st21.trans k)
  have K22 : own_K p e below SE T21 (mkF m 71 #[.val (.long q0), .second, .val (.long q1), .second, .val (.long q2), .second, .val (.int p3), .val (.int pct), .val (.ref b3), .val (.ref b7)] [(.int pct), (.ref b7), (.double (own_res (own_up (own_up (own_up own_z q1) q2) q0) pct))]) := by
    intro t k
    refine K21 _ ?_
    refine XS.aload X21.here hx rfl (hb hby at_67) rfl rfl ?_
    show own_S p e below T21 (mkF m 69 #[.val (.long q0), .second, .val (.long q1), .second, .val (.long q2), .second, .val (.int p3), .val (.int pct), .val (.ref b3), .val (.ref b7)] [(.ref b7), (.double (own_res (own_up (own_up (own_up own_z q1) q2) q0) pct))]) _
    refine XS.iload X21.here hx rfl (hb hby at_69) rfl ?_
    exact k
  obtain ⟨cq23, kq23, q23a, q23b, q23c⟩ := isOf hZ e21 Ex19
  obtain ⟨_, _, ⟨T23, L23, k23, n23⟩, -, X23, ⟨Lc23, hQ23, l23, y23, z23⟩, st23⟩ := X21.virtualBack hx (y := (⟨"com/example/convene/convene/bench/Latencies", "percentileMs", "(I)D"⟩ : MethodName)) (z := (⟨"com/example/convene/convene/bench/Latencies", "percentileMs", "(I)D"⟩ : MethodName)) hown (mvT hZ (hw _ (List.mem_of_getElem? (i := 46) rfl))) (mvT hZ (hw _ (List.mem_of_getElem? (i := 47) rfl))) (notFace_of_selects (args := #[]) (mvT hZ (hw _ (List.mem_of_getElem? (i := 49) rfl)))) (mvT hZ (hw _ (List.mem_of_getElem? (i := 49) rfl))) (mvT hZ (hw _ (List.mem_of_getElem? (i := 48) rfl))) (by decide) (backOf (W := 2) (rmpm l Z a0 hw [] b7 pct ea2 (own_up (own_up (own_up own_z q1) q2) q0) T19.heap n0 (Nat.le_trans Z0 Kp19.1) Fc19 Nt19 Va19) hZ (hw _ (List.mem_of_getElem? (i := 50) rfl)) (hw _ (List.mem_of_getElem? (i := 3) rfl)) (by decide) (by decide)) q23a q23c (g := (mkF m 71 #[.val (.long q0), .second, .val (.long q1), .second, .val (.long q2), .second, .val (.int p3), .val (.int pct), .val (.ref b3), .val (.ref b7)] [(.int pct), (.ref b7), (.double (own_res (own_up (own_up (own_up own_z q1) q2) q0) pct))])) rfl (by rw [hml]; rfl) (Steps.refl _) (argsL := [(.int pct)]) (rest := [(.double (own_res (own_up (own_up (own_up own_z q1) q2) q0) pct))]) (lenOf pd_0_3 rfl) rfl (by show 2 * 0 + _ ≤ _; exact Nat.le_of_eq rfl) (hb hby at_71) (fun _ _ => ⟨rfl, e21, (by decide : 4 + 0 ≤ _), (by decide : 110596 + 0 ≤ _)⟩)
  dsimp only [Pt.U, Pt.locs, Pt.cells, Pt.slots] at X23 l23 y23 z23 st23 hQ23
  rw [y23, z23] at X23
  obtain ⟨rfl, Nq23, e23⟩ := hQ23
  have N23 : Fr n0 L23 := by rw [l23]; exact Fr.app N21 Nq23
  have K23 : own_K p e below SE T23 (mkF m 74 #[.val (.long q0), .second, .val (.long q1), .second, .val (.long q2), .second, .val (.int p3), .val (.int pct), .val (.ref b3), .val (.ref b7)] [(.double (own_res (own_up (own_up (own_up own_z q1) q2) q0) pct)), (.double (own_res (own_up (own_up (own_up own_z q1) q2) q0) pct))]) := fun t k => K22 _ (st23.trans k)
  have K24 : own_K p e below SE T23 (mkF m 75 #[.val (.long q0), .second, .val (.long q1), .second, .val (.long q2), .second, .val (.int p3), .val (.int pct), .val (.ref b3), .val (.ref b7)] [(.int (cmpValue (FP.dcmp (own_res (own_up (own_up (own_up own_z q1) q2) q0) pct) (own_res (own_up (own_up (own_up own_z q1) q2) q0) pct)) CmpOp.l))]) := by
    intro t k
    refine K23 _ ?_
    refine XS.dcmpS X23.here hx rfl (hb hby at_74) rfl rfl ?_
    exact k
  rw [(dcmpV_self (own_res_nn (own_up (own_up (own_up own_z q1) q2) q0) pct) CmpOp.l : (cmpValue (FP.dcmp (own_res (own_up (own_up (own_up own_z q1) q2) q0) pct) (own_res (own_up (own_up (own_up own_z q1) q2) q0) pct)) CmpOp.l) = (0 : Int32))] at K24
  have K25 : own_K p e below SE T23 (mkF m 83 #[.val (.long q0), .second, .val (.long q1), .second, .val (.long q2), .second, .val (.int p3), .val (.int pct), .val (.ref b3), .val (.ref b7)] [(.int (1 : Int32))]) := by
    intro t k
    refine K24 _ ?_
    refine XS.ifNo X23.here hx rfl (hb hby at_75) rfl (XT.i0_ne_f (by decide : (0 : Int32) = 0)) ?_
    show own_S p e below T23 (mkF m 78 #[.val (.long q0), .second, .val (.long q1), .second, .val (.long q2), .second, .val (.int p3), .val (.int pct), .val (.ref b3), .val (.ref b7)] []) _
    refine XS.iconst X23.here hx rfl (hb hby at_78) ?_
    show own_S p e below T23 (mkF m 79 #[.val (.long q0), .second, .val (.long q1), .second, .val (.long q2), .second, .val (.int p3), .val (.int pct), .val (.ref b3), .val (.ref b7)] [(.int (1 : Int32))]) _
    refine XS.goto X23.here hx rfl (pc0 := 79) (pc' := 83) rfl (hb hby at_79) (by decide) (by decide) ?_
    exact k
  obtain ⟨fs, hr, hrun, hended, hW, hsame⟩ := X23.leave (v := some (.int (1 : Int32))) (fun h => by rw [Bd.returns] at h; cases h)
  refine ⟨_, _, K25 _ ?_, hrun, hended, _, _, rfl, ?_, ⟨_, rfl⟩, hW, hsame.mono (by decide) (by decide)⟩
  · exact retN X23 hx (t := .boolean) Bd.returns (by simp) (hb hby at_83) hr
  · show Q0 Z q0 q1 q2 p3 h0 n0 _ T23.heap _
    rw [e23]
    exact ⟨rfl, N23⟩
set_option maxRecDepth 65536 in
set_option maxHeartbeats 40000000 in
theorem comes_1 {Post : Tables → Env → Array Value → State → Outcome → State → Prop} (hpost : ∀ tb e args s v u, (limb_1_1.after args s (.returned v) u = true ∧ limb_1_2.after args s (.returned v) u = true ∧ True) → FrameEnd s (.returned v) u (Jvm.fieldLocs frame_1_writes args s ++ Jvm.arrayLocs frame_1_arrays args s ++ Jvm.staticLocs frame_1_statics s) 16 132736 → Post tb e args s (.returned v) u) :
    ArmFor flags0 classFile x code maxLocals ret World_1 tables_1 room_1 Calls_1 rest_1 Pre_1 Post := by
  intro l hfl _ _ p e ha hc hk s m args below hf hA hF happ hP
  obtain ⟨hcalls, hrest, hpre⟩ := hP
  obtain ⟨-, -, -, hnamed, -, -, -, hat⟩ := (Spec.applies_iff hf).mp happ
  obtain ⟨hg, hn⟩ := and_e (Cond.before_iff.mp (show (Jvm.Cond.and given_1 narrow_1).before args s = true from hpre))
  obtain ⟨hcount, hg0⟩ := and_e hg
  obtain ⟨ha0, hg1⟩ := and_e hg0
  obtain ⟨ha1, hg2⟩ := and_e hg1
  obtain ⟨ha2, hg3⟩ := and_e hg2
  obtain ⟨w0, w1, w2, w3, rfl⟩ : ∃ w0 w1 w2 w3 : Value, args = #[w0, w1, w2, w3] := by
    have hs : args.size = 4 := by simpa [Cond.value, given_1] using hcount
    obtain ⟨L⟩ := args
    match L, hs with
    | [w0, w1, w2, w3], _ => exact ⟨w0, w1, w2, w3, rfl⟩
  have hw := fun d (hd : d ∈ tables_1) => atoms_spec (ws := Jvm.Cond.code x code maxLocals ret :: tables_1) hat d (List.mem_cons_of_mem _ hd)
  have hfit : Fit s := fun {y c} hc i hi => by
    obtain ⟨ha, rfl⟩ := Array.getElem?_eq_some_iff.mp hc
    have q := List.all_eq_true.mp ((Array.all_eq_true_iff_forall_mem.mp hF) _ (Array.getElem_mem ha)) i (List.mem_range.mpr hi)
    simpa [Array.getElem?_eq_getElem hi] using q
  obtain ⟨i0, ei0⟩ := isL_v ha0
  obtain rfl : w0 = (.long i0) := Option.some.inj ei0
  obtain ⟨i1, ei1⟩ := isL_v ha1
  obtain rfl : w1 = (.long i1) := Option.some.inj ei1
  obtain ⟨i2, ei2⟩ := isL_v ha2
  obtain rfl : w2 = (.long i2) := Option.some.inj ei2
  obtain ⟨i3, ei3⟩ := is_v hg3
  obtain rfl : w3 = (.int i3) := Option.some.inj ei3
  obtain ⟨n, o, h1, h2, h3, _, L, rfl, ⟨rfl, N⟩, hq⟩ := rm0 l s _ hw tables_1 i0 i1 i2 i3  s.heap s.heap.size (Nat.le_refl _)  p e ha hc hk s m _ below hf ((Spec.applies_iff_loose hf).mp happ).1 ⟨rfl, State.Warmed39.refl s, rfl⟩ trivial
  refine ⟨n, _, h1, h2, h3, hpost _ _ _ _ _ _ ⟨Cond.after_iff.mpr rfl, Cond.after_iff.mpr (eq_i res_at (Term.int_eval (1)) rfl), trivial⟩ ⟨hq.1, hq.2.1, (hq.2.2.sift fun y hy => Or.inr (N y hy)).mono (by decide) (by decide)⟩⟩
theorem main_1_1 : Claimed_1_1 := comes_1 fun _ _ _ _ _ _ h hF => ⟨h.1, hF⟩
theorem main_1_2 : Claimed_1_2 := comes_1 fun _ _ _ _ _ _ h hF => ⟨h.2.1, hF⟩
end Jvm.Pilot.@@N@@
namespace Jvm.Pilot.@@N@@
open Jvm Jvm.ClassFile Sem Op Lib Jvm.Free Jvm.Stand Jvm.Pilot.@@N@@.Jvm.D
/-! MADE BY PROGRAM (witnessworld.py) out of the Statement's table words and the real class files: 18 classes; the members and pool entries that the words name. The judged class is class 1, her method 1. -/
namespace start1
open Jvm.ClassFile
def u (s : String) : CpInfo := .utf8 (stringToUtf16 s)
/-- a pool by its gaps: so many unusable entries, then the entry; so many at the end -/
def gap : Nat → List CpInfo → List CpInfo
  | 0, r => r
  | n + 1, r => .unusable :: gap n r
def poolList (es : List (Nat × CpInfo)) (last : Nat) : List CpInfo := es.foldr (fun e r => gap e.1 (e.2 :: r)) (gap last [])
def pool (es : List (Nat × CpInfo)) (last : Nat) : Array CpInfo := ⟨poolList es last⟩
def fileOf (pool : Array CpInfo) (this : Nat) (attrs : Array Attribute := #[]) (ms : Array MethodInfo := #[]) (fl : Nat := 33) (sup : Nat := 0) (ifs : Array Nat := #[]) (fds : Array FieldInfo := #[]) : ClassFile where
  minorVersion := 0
  majorVersion := 65
  constantPool := pool
  accessFlags := fl
  thisClass := this
  superClass := sup
  interfaces := ifs
  fields := fds
  methods := ms
  attributes := attrs
def plain (name : String) (sup : Option ClassId) : Class where
  name := name
  kind := .ordinary
  loader := none
  accessFlags := 33
  super := sup
  interfaces := #[]
  cf := none
  fields := #[]
  methods := #[]
  instanceTypes := #[]
  staticTypes := #[]
  resolved := #[]
  callSites := []
  init := .initialized
  statics := none
  mirror := none

def pool0 : Array CpInfo := pool [(5, u "<init>"), (0, u "()V"), (1, .class_ 10), (1, u "java/lang/Object")] 113

def k0c0 : Code := { maxStack := 0, maxLocals := 1, code := object_method_1_code, exceptionTable := #[], attributes := #[] }
def k0m0 : Method := { name := "<init>", desc := "()V", sig := { parameters := [], returnType := none }, accessFlags := 1, code := some k0c0 }
/-- java/lang/Object -/
def k0 : Class := { plain "java/lang/Object" none with
  accessFlags := 33
  interfaces := #[]
  cf := some (fileOf pool0 8 #[] #[{ accessFlags := 1, nameIndex := 5, descriptorIndex := 6, attributes := #[] }] 33 0 #[] #[])
  fields := #[]
  methods := #[k0m0]
  instanceTypes := #[]
  staticTypes := #[]
  resolved := Array.replicate 124 none
  statics := none }

def pool1 : Array CpInfo := pool [(2, .class_ 4), (0, .nameAndType 5 6), (0, u "java/lang/Object"), (0, u "<init>"), (0, u "()V"), (0, .integer 2147483647), (0, .class_ 9), (0, u "com/example/convene/convene/bench/Latencies"), (0, .methodref 8 3), (0, .methodref 8 12), (0, .nameAndType 13 14), (0, u "record"), (0, u "(J)V"), (0, .methodref 8 16), (0, .nameAndType 17 18), (0, u "add"), (0, u "(Lcom/example/convene/convene/bench/Latencies;)V"), (0, .methodref 8 20), (0, .nameAndType 21 22), (0, u "percentileMs"), (0, u "(I)D"), (0, .class_ 24), (0, u "com/example/convene/convene/bench/LatenciesAddPinLaw"), (2, u "law"), (0, u "(JJJI)Z")] 3

def k1m0 : Method := { name := "<init>", desc := "()V", sig := { parameters := [], returnType := none }, accessFlags := 1, code := none }
def k1c1 : Code := { maxStack := 4, maxLocals := 10, code := code, exceptionTable := #[], attributes := #[] }
def k1m1 : Method := { name := "law", desc := "(JJJI)Z", sig := { parameters := [.long, .long, .long, .int], returnType := some .boolean }, accessFlags := 9, code := some k1c1 }
/-- com/example/convene/convene/bench/LatenciesAddPinLaw -/
def k1 : Class := { plain "com/example/convene/convene/bench/LatenciesAddPinLaw" (some 0) with
  accessFlags := 49
  interfaces := #[]
  cf := some (fileOf pool1 23 #[] #[{ accessFlags := 1, nameIndex := 5, descriptorIndex := 6, attributes := #[] }, { accessFlags := 9, nameIndex := 27, descriptorIndex := 28, attributes := #[] }] 49 2 #[] #[])
  fields := #[]
  methods := #[k1m0, k1m1]
  instanceTypes := #[]
  staticTypes := #[]
  resolved := Array.replicate 32 none
  statics := none }

def pool2 : Array CpInfo := pool [(1, .class_ 2), (0, u "com/example/convene/convene/bench/Latencies"), (0, .methodref 4 5), (0, .class_ 6), (0, .nameAndType 7 8), (0, u "java/lang/Object"), (0, u "<init>"), (0, u "()V"), (0, .class_ 10), (0, u "java/lang/Long"), (0, .long 9223372036854775807), (1, .methodref 1 14), (0, .nameAndType 15 16), (0, u "bucket"), (0, u "(J)I"), (0, .fieldref 1 18), (0, .nameAndType 19 20), (0, u "counts"), (0, u "[J"), (0, .methodref 22 23), (0, .class_ 24), (0, .nameAndType 25 26), (0, u "java/lang/Math"), (0, u "max"), (0, u "(JJ)J"), (0, .long 1000), (1, .fieldref 1 30), (0, .nameAndType 31 32), (0, u "total"), (0, u "J"), (0, .long 99), (1, .long 100), (1, .methodref 22 38), (0, .nameAndType 25 39), (0, u "(II)I"), (0, .double 4611686018427387904), (1, .double 4652007308841189376), (1, .methodref 9 45), (0, .nameAndType 46 16), (0, u "numberOfLeadingZeros"), (0, u "EXACT_BITS"), (0, u "I"), (2, u "HALF"), (3, u "record"), (0, u "(J)V"), (0, u "add"), (0, u "(Lcom/example/convene/convene/bench/Latencies;)V"), (1, u "percentileMs"), (0, u "(I)D")] 2

def k2c0 : Code := { maxStack := 3, maxLocals := 1, code := prog_7_method_1_code, exceptionTable := #[], attributes := #[] }
def k2m0 : Method := { name := "<init>", desc := "()V", sig := { parameters := [], returnType := none }, accessFlags := 0, code := some k2c0 }
def k2c1 : Code := { maxStack := 6, maxLocals := 3, code := prog_7_method_2_code, exceptionTable := #[], attributes := #[] }
def k2m1 : Method := { name := "record", desc := "(J)V", sig := { parameters := [.long], returnType := none }, accessFlags := 0, code := some k2c1 }
def k2c2 : Code := { maxStack := 6, maxLocals := 3, code := prog_7_method_3_code, exceptionTable := #[], attributes := #[] }
def k2m2 : Method := { name := "add", desc := "(Lcom/example/convene/convene/bench/Latencies;)V", sig := { parameters := [(.object "com/example/convene/convene/bench/Latencies")], returnType := none }, accessFlags := 0, code := some k2c2 }
def k2c3 : Code := { maxStack := 6, maxLocals := 12, code := prog_7_method_4_code, exceptionTable := #[], attributes := #[] }
def k2m3 : Method := { name := "percentileMs", desc := "(I)D", sig := { parameters := [.int], returnType := some .double }, accessFlags := 0, code := some k2c3 }
def k2c4 : Code := { maxStack := 4, maxLocals := 3, code := prog_7_method_5_code, exceptionTable := #[], attributes := #[] }
def k2m4 : Method := { name := "bucket", desc := "(J)I", sig := { parameters := [.long], returnType := some .int }, accessFlags := 10, code := some k2c4 }
/-- com/example/convene/convene/bench/Latencies -/
def k2 : Class := { plain "com/example/convene/convene/bench/Latencies" (some 0) with
  accessFlags := 32
  interfaces := #[]
  cf := some (fileOf pool2 1 #[] #[{ accessFlags := 0, nameIndex := 7, descriptorIndex := 8, attributes := #[] }, { accessFlags := 0, nameIndex := 55, descriptorIndex := 56, attributes := #[] }, { accessFlags := 0, nameIndex := 57, descriptorIndex := 58, attributes := #[] }, { accessFlags := 0, nameIndex := 60, descriptorIndex := 61, attributes := #[] }, { accessFlags := 10, nameIndex := 15, descriptorIndex := 16, attributes := #[] }] 32 4 #[] #[{ accessFlags := 26, nameIndex := 47, descriptorIndex := 48, attributes := #[] }, { accessFlags := 26, nameIndex := 51, descriptorIndex := 48, attributes := #[] }, { accessFlags := 18, nameIndex := 19, descriptorIndex := 20, attributes := #[] }, { accessFlags := 2, nameIndex := 31, descriptorIndex := 32, attributes := #[] }])
  fields := #[{ name := "EXACT_BITS", type := .int, accessFlags := 26, slot := 0, constantValue := 0 }, { name := "HALF", type := .int, accessFlags := 26, slot := 1, constantValue := 0 }, { name := "counts", type := (.array .long), accessFlags := 18, slot := 0, constantValue := 0 }, { name := "total", type := .long, accessFlags := 2, slot := 1, constantValue := 0 }]
  methods := #[k2m0, k2m1, k2m2, k2m3, k2m4]
  instanceTypes := #[(.array .long), .long]
  staticTypes := #[.int, .int]
  resolved := Array.replicate 64 none
  statics := none }

def pool3 : Array CpInfo := pool [(1, .class_ 2), (0, u "java/io/Serializable"), (0, .class_ 4), (0, u "java/lang/Object")] 2

/-- java/io/Serializable -/
def k3 : Class := { plain "java/io/Serializable" (some 0) with
  accessFlags := 1537
  interfaces := #[]
  cf := some (fileOf pool3 1 #[] #[] 1537 3 #[] #[])
  fields := #[]
  methods := #[]
  instanceTypes := #[]
  staticTypes := #[]
  resolved := Array.replicate 7 none
  statics := none }

def pool4 : Array CpInfo := pool [(2, .class_ 4), (1, u "java/lang/Object"), (0, u "<init>"), (0, u "()V"), (1, .class_ 10), (1, u "java/lang/Number"), (2, .class_ 14), (0, u "java/io/Serializable"), (0, u "serialVersionUID"), (0, u "J")] 20

def k4m0 : Method := { name := "<init>", desc := "()V", sig := { parameters := [], returnType := none }, accessFlags := 1, code := none }
/-- java/lang/Number -/
def k4 : Class := { plain "java/lang/Number" (some 0) with
  accessFlags := 1057
  interfaces := #[3]
  cf := some (fileOf pool4 8 #[] #[{ accessFlags := 1, nameIndex := 5, descriptorIndex := 6, attributes := #[] }] 1057 2 #[13] #[{ accessFlags := 26, nameIndex := 15, descriptorIndex := 16, attributes := #[] }])
  fields := #[{ name := "serialVersionUID", type := .long, accessFlags := 26, slot := 0, constantValue := 0 }]
  methods := #[k4m0]
  instanceTypes := #[]
  staticTypes := #[.long]
  resolved := Array.replicate 37 none
  statics := none }

def pool5 : Array CpInfo := pool [(1, .class_ 2), (0, u "java/lang/Comparable"), (0, .class_ 4), (0, u "java/lang/Object")] 7

/-- java/lang/Comparable -/
def k5 : Class := { plain "java/lang/Comparable" (some 0) with
  accessFlags := 1537
  interfaces := #[]
  cf := some (fileOf pool5 1 #[] #[] 1537 3 #[] #[])
  fields := #[]
  methods := #[]
  instanceTypes := #[]
  staticTypes := #[]
  resolved := Array.replicate 12 none
  statics := none }

def pool6 : Array CpInfo := pool [(1, .class_ 2), (0, u "java/lang/constant/Constable"), (0, .class_ 4), (0, u "java/lang/Object")] 6

/-- java/lang/constant/Constable -/
def k6 : Class := { plain "java/lang/constant/Constable" (some 0) with
  accessFlags := 1537
  interfaces := #[]
  cf := some (fileOf pool6 1 #[] #[] 1537 3 #[] #[])
  fields := #[]
  methods := #[]
  instanceTypes := #[]
  staticTypes := #[]
  resolved := Array.replicate 11 none
  statics := none }

def pool7 : Array CpInfo := pool [(1, .class_ 2), (0, u "java/lang/constant/ConstantDesc"), (0, .class_ 4), (0, u "java/lang/Object")] 32

/-- java/lang/constant/ConstantDesc -/
def k7 : Class := { plain "java/lang/constant/ConstantDesc" (some 0) with
  accessFlags := 1537
  interfaces := #[]
  cf := some (fileOf pool7 1 #[] #[] 1537 3 #[] #[])
  fields := #[]
  methods := #[]
  instanceTypes := #[]
  staticTypes := #[]
  resolved := Array.replicate 37 none
  statics := none }

def pool8 : Array CpInfo := pool [(1, .class_ 2), (0, u "java/lang/Long"), (15, .class_ 20), (1, u "java/lang/Integer"), (79, u "numberOfLeadingZeros"), (0, u "(J)I"), (133, .class_ 237), (1, u "java/lang/Long$LongCache"), (33, .class_ 272), (0, u "java/lang/Number"), (2, u "value"), (0, u "J"), (31, .methodref 18 309), (0, .nameAndType 100 310), (0, u "(I)I"), (50, u "TYPE"), (0, u "Ljava/lang/Class;"), (0, .class_ 364), (0, u "java/lang/Comparable"), (0, .class_ 366), (0, u "java/lang/constant/Constable"), (0, .class_ 368), (0, u "java/lang/constant/ConstantDesc"), (0, u "MIN_VALUE"), (1, u "MAX_VALUE"), (4, u "SIZE"), (0, u "I"), (1, u "BYTES"), (1, u "serialVersionUID")] 142

def k8c0 : Code := { maxStack := 3, maxLocals := 3, code := jdk_35_method_48_code, exceptionTable := #[], attributes := #[] }
def k8m0 : Method := { name := "numberOfLeadingZeros", desc := "(J)I", sig := { parameters := [.long], returnType := some .int }, accessFlags := 9, code := some k8c0 }
/-- java/lang/Long -/
def k8 : Class := { plain "java/lang/Long" (some 4) with
  accessFlags := 49
  interfaces := #[5, 6, 7]
  cf := some (fileOf pool8 1 #[.nestMembers #[235]] #[{ accessFlags := 9, nameIndex := 100, descriptorIndex := 101, attributes := #[] }] 49 271 #[363, 365, 367] #[{ accessFlags := 25, nameIndex := 369, descriptorIndex := 276, attributes := #[] }, { accessFlags := 25, nameIndex := 371, descriptorIndex := 276, attributes := #[] }, { accessFlags := 25, nameIndex := 361, descriptorIndex := 362, attributes := #[] }, { accessFlags := 18, nameIndex := 275, descriptorIndex := 276, attributes := #[] }, { accessFlags := 25, nameIndex := 376, descriptorIndex := 377, attributes := #[] }, { accessFlags := 25, nameIndex := 379, descriptorIndex := 377, attributes := #[] }, { accessFlags := 26, nameIndex := 381, descriptorIndex := 276, attributes := #[] }])
  fields := #[{ name := "MIN_VALUE", type := .long, accessFlags := 25, slot := 0, constantValue := 0 }, { name := "MAX_VALUE", type := .long, accessFlags := 25, slot := 1, constantValue := 0 }, { name := "TYPE", type := (.object "java/lang/Class"), accessFlags := 25, slot := 2, constantValue := 0 }, { name := "value", type := .long, accessFlags := 18, slot := 0, constantValue := 0 }, { name := "SIZE", type := .int, accessFlags := 25, slot := 3, constantValue := 0 }, { name := "BYTES", type := .int, accessFlags := 25, slot := 4, constantValue := 0 }, { name := "serialVersionUID", type := .long, accessFlags := 26, slot := 5, constantValue := 0 }]
  methods := #[k8m0]
  instanceTypes := #[.long]
  staticTypes := #[.long, .long, (.object "java/lang/Class"), .int, .int, .long]
  resolved := Array.replicate 524 none
  statics := none }

def pool9 : Array CpInfo := pool [(1, .class_ 2), (0, u "java/lang/Integer"), (16, u "digits"), (0, u "[C"), (32, u "numberOfLeadingZeros"), (0, u "(I)I"), (30, u "DigitOnes"), (0, u "[B"), (2, u "DigitTens"), (99, .class_ 190), (0, u "java/lang/Integer$IntegerCache"), (3, u "I"), (8, .class_ 204), (0, u "java/lang/Number"), (2, u "value"), (56, .integer 65536), (37, u "TYPE"), (0, u "Ljava/lang/Class;"), (0, .class_ 305), (0, u "java/lang/Comparable"), (0, .class_ 307), (0, u "java/lang/constant/Constable"), (0, .class_ 309), (0, u "java/lang/constant/ConstantDesc"), (0, u "MIN_VALUE"), (1, u "MAX_VALUE"), (3, u "SIZE"), (1, u "BYTES"), (1, u "serialVersionUID"), (0, u "J")] 131

def k9c0 : Code := { maxStack := 3, maxLocals := 2, code := jdk_33_method_47_code, exceptionTable := #[], attributes := #[] }
def k9m0 : Method := { name := "numberOfLeadingZeros", desc := "(I)I", sig := { parameters := [.int], returnType := some .int }, accessFlags := 9, code := some k9c0 }
/-- java/lang/Integer -/
def k9 : Class := { plain "java/lang/Integer" (some 4) with
  accessFlags := 49
  interfaces := #[5, 6, 7]
  cf := some (fileOf pool9 1 #[.nestMembers #[189]] #[{ accessFlags := 9, nameIndex := 53, descriptorIndex := 54, attributes := #[] }] 49 203 #[304, 306, 308] #[{ accessFlags := 25, nameIndex := 310, descriptorIndex := 194, attributes := #[] }, { accessFlags := 25, nameIndex := 312, descriptorIndex := 194, attributes := #[] }, { accessFlags := 25, nameIndex := 302, descriptorIndex := 303, attributes := #[] }, { accessFlags := 24, nameIndex := 19, descriptorIndex := 20, attributes := #[] }, { accessFlags := 24, nameIndex := 89, descriptorIndex := 86, attributes := #[] }, { accessFlags := 24, nameIndex := 85, descriptorIndex := 86, attributes := #[] }, { accessFlags := 18, nameIndex := 207, descriptorIndex := 194, attributes := #[] }, { accessFlags := 25, nameIndex := 316, descriptorIndex := 194, attributes := #[] }, { accessFlags := 25, nameIndex := 318, descriptorIndex := 194, attributes := #[] }, { accessFlags := 26, nameIndex := 320, descriptorIndex := 321, attributes := #[] }])
  fields := #[{ name := "MIN_VALUE", type := .int, accessFlags := 25, slot := 0, constantValue := 0 }, { name := "MAX_VALUE", type := .int, accessFlags := 25, slot := 1, constantValue := 0 }, { name := "TYPE", type := (.object "java/lang/Class"), accessFlags := 25, slot := 2, constantValue := 0 }, { name := "digits", type := (.array .char), accessFlags := 24, slot := 3, constantValue := 0 }, { name := "DigitTens", type := (.array .byte), accessFlags := 24, slot := 4, constantValue := 0 }, { name := "DigitOnes", type := (.array .byte), accessFlags := 24, slot := 5, constantValue := 0 }, { name := "value", type := .int, accessFlags := 18, slot := 0, constantValue := 0 }, { name := "SIZE", type := .int, accessFlags := 25, slot := 6, constantValue := 0 }, { name := "BYTES", type := .int, accessFlags := 25, slot := 7, constantValue := 0 }, { name := "serialVersionUID", type := .long, accessFlags := 26, slot := 8, constantValue := 0 }]
  methods := #[k9m0]
  instanceTypes := #[.int]
  staticTypes := #[.int, .int, (.object "java/lang/Class"), (.array .char), (.array .byte), (.array .byte), .int, .int, .long]
  resolved := Array.replicate 453 none
  statics := none }

def pool10 : Array CpInfo := pool [(1, .class_ 2), (0, u "java/lang/Math"), (1, .class_ 6), (1, u "java/lang/Object"), (0, u "<init>"), (0, u "()V"), (89, .class_ 100), (1, u "java/lang/Math$RandomNumberGeneratorHolder"), (20, u "(JJ)J"), (50, u "negativeZeroFloatBits"), (0, u "J"), (2, u "negativeZeroDoubleBits"), (21, u "max"), (46, u "$assertionsDisabled"), (0, u "Z"), (88, u "(II)I"), (2, u "twoToTheDoubleScaleDown"), (0, u "D"), (4, u "twoToTheDoubleScaleUp"), (9, u "E"), (3, u "PI"), (2, u "TAU"), (2, u "DEGREES_TO_RADIANS"), (0, u "RADIANS_TO_DEGREES")] 94

def k10m0 : Method := { name := "<init>", desc := "()V", sig := { parameters := [], returnType := none }, accessFlags := 2, code := none }
def k10c1 : Code := { maxStack := 2, maxLocals := 2, code := jdk_29_method_65_code, exceptionTable := #[], attributes := #[] }
def k10m1 : Method := { name := "max", desc := "(II)I", sig := { parameters := [.int, .int], returnType := some .int }, accessFlags := 9, code := some k10c1 }
def k10c2 : Code := { maxStack := 4, maxLocals := 4, code := jdk_29_method_66_code, exceptionTable := #[], attributes := #[] }
def k10m2 : Method := { name := "max", desc := "(JJ)J", sig := { parameters := [.long, .long], returnType := some .long }, accessFlags := 9, code := some k10c2 }
/-- java/lang/Math -/
def k10 : Class := { plain "java/lang/Math" (some 0) with
  accessFlags := 49
  interfaces := #[]
  cf := some (fileOf pool10 1 #[.nestMembers #[98]] #[{ accessFlags := 2, nameIndex := 7, descriptorIndex := 8, attributes := #[] }, { accessFlags := 9, nameIndex := 198, descriptorIndex := 335, attributes := #[] }, { accessFlags := 9, nameIndex := 198, descriptorIndex := 121, attributes := #[] }] 49 4 #[] #[{ accessFlags := 25, nameIndex := 354, descriptorIndex := 339, attributes := #[] }, { accessFlags := 25, nameIndex := 358, descriptorIndex := 339, attributes := #[] }, { accessFlags := 25, nameIndex := 361, descriptorIndex := 339, attributes := #[] }, { accessFlags := 26, nameIndex := 364, descriptorIndex := 339, attributes := #[] }, { accessFlags := 26, nameIndex := 365, descriptorIndex := 339, attributes := #[] }, { accessFlags := 26, nameIndex := 172, descriptorIndex := 173, attributes := #[] }, { accessFlags := 26, nameIndex := 176, descriptorIndex := 173, attributes := #[] }, { accessFlags := 8, nameIndex := 344, descriptorIndex := 339, attributes := #[] }, { accessFlags := 8, nameIndex := 338, descriptorIndex := 339, attributes := #[] }, { accessFlags := 4120, nameIndex := 245, descriptorIndex := 246, attributes := #[] }])
  fields := #[{ name := "E", type := .double, accessFlags := 25, slot := 0, constantValue := 0 }, { name := "PI", type := .double, accessFlags := 25, slot := 1, constantValue := 0 }, { name := "TAU", type := .double, accessFlags := 25, slot := 2, constantValue := 0 }, { name := "DEGREES_TO_RADIANS", type := .double, accessFlags := 26, slot := 3, constantValue := 0 }, { name := "RADIANS_TO_DEGREES", type := .double, accessFlags := 26, slot := 4, constantValue := 0 }, { name := "negativeZeroFloatBits", type := .long, accessFlags := 26, slot := 5, constantValue := 0 }, { name := "negativeZeroDoubleBits", type := .long, accessFlags := 26, slot := 6, constantValue := 0 }, { name := "twoToTheDoubleScaleUp", type := .double, accessFlags := 8, slot := 7, constantValue := 0 }, { name := "twoToTheDoubleScaleDown", type := .double, accessFlags := 8, slot := 8, constantValue := 0 }, { name := "$assertionsDisabled", type := .boolean, accessFlags := 4120, slot := 9, constantValue := 0 }]
  methods := #[k10m0, k10m1, k10m2]
  instanceTypes := #[]
  staticTypes := #[.double, .double, .double, .double, .double, .long, .long, .double, .double, .boolean]
  resolved := Array.replicate 460 none
  statics := none }

def pool11 : Array CpInfo := pool [(1, u "java/lang/Cloneable"), (0, .class_ 1), (0, u "java/lang/Object"), (0, .class_ 3)] 3

/-- java/lang/Cloneable -/
def k11 : Class := { plain "java/lang/Cloneable" (some 0) with
  accessFlags := 1537
  interfaces := #[]
  cf := some (fileOf pool11 2 #[] #[] 1537 4 #[] #[])
  fields := #[]
  methods := #[]
  instanceTypes := #[]
  staticTypes := #[]
  resolved := Array.replicate 8 none
  statics := none }

/-- the primitive byte -/
def k12 : Class := { plain "byte" none with kind := .primitive 'B', accessFlags := 0x411 }
/-- [B -/
def k13 : Class := { plain "[B" (some 0) with kind := .array 12 .byte, interfaces := #[11, 3], accessFlags := 1041 }

/-- the primitive int -/
def k14 : Class := { plain "int" none with kind := .primitive 'I', accessFlags := 0x411 }
/-- [I -/
def k15 : Class := { plain "[I" (some 0) with kind := .array 14 .int, interfaces := #[11, 3], accessFlags := 1041 }

/-- the primitive long -/
def k16 : Class := { plain "long" none with kind := .primitive 'J', accessFlags := 0x411 }
/-- [J -/
def k17 : Class := { plain "[J" (some 0) with kind := .array 16 .long, interfaces := #[11, 3], accessFlags := 1041 }

def heap : Heap := #[]
def classes : Array Class := #[k0, k1, k2, k3, k4, k5, k6, k7, k8, k9, k10, k11, k12, k13, k14, k15, k16, k17]
def interned : List (Array UInt16 × Addr) := []
def slotsUsed : Nat := 0
def theMethod : MethodId := ⟨1, 1⟩
def args0 : Array Value := #[.long 5, .long 6, .long 7, .int 3]
def aboutOver (below : List Frame) : State where
  vm := { classes := classes, interned := interned.toArray }
  heap := heap
  slotsUsed := slotsUsed
  threads := #[{ frames := .invoking theMethod args0 :: below }]
def below0 : List Frame := [.native { method := ⟨0, 0⟩, args := #[] }]
def about1 : State := aboutOver below0
def p0 : Program := .bare "" "" ""
def e0 : Env := launch0.env 0 0 0
theorem w_frames : about1.frames = Frame.invoking theMethod args0 :: below0 := rfl
set_option maxRecDepth 65536 in
theorem w_args : argsFit about1.vm theMethod args0 = true := by decide +kernel
set_option maxRecDepth 65536 in
theorem w_heap : heapFits about1 = true := by decide +kernel
set_option maxRecDepth 65536 in
theorem w_runnable : about1.curStatus? = some .runnable := by decide +kernel
set_option maxRecDepth 65536 in
theorem w_alone : about1.alone = true := by decide +kernel
set_option maxRecDepth 65536 in
theorem w_named : about1.methodNamed? x = some theMethod := by decide +kernel
set_option maxRecDepth 65536 in
theorem w_hears : about1.hears theMethod below0 = true := by decide +kernel
set_option maxRecDepth 65536 in
theorem w_ripe : about1.ripe theMethod args0 below0 = true := by decide +kernel
theorem w_running : about1.status = .running := rfl
set_option maxRecDepth 65536 in
theorem w_room : about1.hasRoom e0.platform room_1 = true :=
  launch0.hasRoom_least _ room_1 (by decide +kernel) (by decide +kernel) (by decide +kernel) (by decide +kernel) (by decide +kernel) (by decide +kernel)
theorem allAtoms_all (ts : List Jvm.Cond) (a : Array Jvm.Value) (st : Jvm.State) : (allAtoms ts).before a st = ts.all (fun c => c.before a st) := by
  induction ts with
  | nil => rfl
  | cons c t ih =>
    show (Jvm.Cond.and c (allAtoms t)).before a st = _
    rw [Jvm.Cond.before_and, ih, List.all_cons]
def words1 : List Jvm.Cond := Jvm.Cond.code x code maxLocals ret :: tables_1
/-- a 'code' word, met by the world's own term for the bytes: nothing is compared byte by byte -/
theorem code_word {y : MethodName} {bytes : ByteArray} {mx : Nat} {rt : Option FieldType} {a : Array Value} {s : State} {m : MethodId} {meth : Method} {c : Code} (h1 : s.methodNamed? y = some m) (h2 : s.vm.method? m = some meth) (h3 : meth.code = some c) (h4 : c.code = bytes)
    (h5 : (c.maxLocals == mx && c.exceptionTable.isEmpty && decide (c.maxStack ≤ mostOperands) && decide (meth.sig.returnType = rt) && !meth.locks && decide (parseMethodDescriptor y.desc = some meth.sig)) = true) : (Jvm.Cond.code y bytes mx rt).before a s = true := by
  simp only [Bool.and_eq_true, beq_iff_eq, Bool.not_eq_true', decide_eq_true_eq] at h5
  obtain ⟨⟨⟨⟨⟨g1, g2⟩, g3⟩, g4⟩, g5⟩, g6⟩ := h5
  simp [Cond.before, Cond.holds, Cond.value, h1, h2, h3, h4, g1, g2, g3, g4, g5, g6]
def isCode : Jvm.Cond → Bool
  | .code _ _ _ _ => true
  | _ => false
theorem all_split {L : List Jvm.Cond} {P : Jvm.Cond → Bool} (h1 : L.all (fun c => isCode c || P c) = true) (h2 : ∀ c ∈ L.filter isCode, P c = true) : L.all P = true := by
  refine List.all_eq_true.mpr fun c hc => ?_
  have h := List.all_eq_true.mp h1 c hc
  rcases Bool.eq_false_or_eq_true (isCode c) with hi | hi
  · exact h2 c (List.mem_filter.mpr ⟨hc, hi⟩)
  · simpa [hi] using h
set_option maxRecDepth 65536 in
theorem w_c0 : (Jvm.Cond.code x code maxLocals ret).before args0 about1 = true := code_word (m := ⟨1, 1⟩) (meth := k1m1) (c := k1c1) (by decide +kernel) rfl rfl rfl (by decide +kernel)
set_option maxRecDepth 65536 in
theorem w_c1 : (Jvm.Cond.code ({ cls := "com/example/convene/convene/bench/Latencies", name := "<init>", desc := "()V" } : Jvm.MethodName) prog_7_method_1_code (1 : Nat) (Option.none : Option Jvm.ClassFile.FieldType)).before args0 about1 = true := code_word (m := ⟨2, 0⟩) (meth := k2m0) (c := k2c0) (by decide +kernel) rfl rfl rfl (by decide +kernel)
set_option maxRecDepth 65536 in
theorem w_c2 : (Jvm.Cond.code ({ cls := "java/lang/Object", name := "<init>", desc := "()V" } : Jvm.MethodName) object_method_1_code (1 : Nat) (Option.none : Option Jvm.ClassFile.FieldType)).before args0 about1 = true := code_word (m := ⟨0, 0⟩) (meth := k0m0) (c := k0c0) (by decide +kernel) rfl rfl rfl (by decide +kernel)
set_option maxRecDepth 65536 in
theorem w_c3 : (Jvm.Cond.code ({ cls := "com/example/convene/convene/bench/Latencies", name := "bucket", desc := "(J)I" } : Jvm.MethodName) prog_7_method_5_code (3 : Nat) (Option.some Jvm.ClassFile.FieldType.int)).before args0 about1 = true := code_word (m := ⟨2, 4⟩) (meth := k2m4) (c := k2c4) (by decide +kernel) rfl rfl rfl (by decide +kernel)
set_option maxRecDepth 65536 in
theorem w_c4 : (Jvm.Cond.code ({ cls := "java/lang/Long", name := "numberOfLeadingZeros", desc := "(J)I" } : Jvm.MethodName) jdk_35_method_48_code (3 : Nat) (Option.some Jvm.ClassFile.FieldType.int)).before args0 about1 = true := code_word (m := ⟨8, 0⟩) (meth := k8m0) (c := k8c0) (by decide +kernel) rfl rfl rfl (by decide +kernel)
set_option maxRecDepth 65536 in
theorem w_c5 : (Jvm.Cond.code ({ cls := "java/lang/Integer", name := "numberOfLeadingZeros", desc := "(I)I" } : Jvm.MethodName) jdk_33_method_47_code (2 : Nat) (Option.some Jvm.ClassFile.FieldType.int)).before args0 about1 = true := code_word (m := ⟨9, 0⟩) (meth := k9m0) (c := k9c0) (by decide +kernel) rfl rfl rfl (by decide +kernel)
set_option maxRecDepth 65536 in
theorem w_c6 : (Jvm.Cond.code ({ cls := "java/lang/Math", name := "max", desc := "(II)I" } : Jvm.MethodName) jdk_29_method_65_code (2 : Nat) (Option.some Jvm.ClassFile.FieldType.int)).before args0 about1 = true := code_word (m := ⟨10, 1⟩) (meth := k10m1) (c := k10c1) (by decide +kernel) rfl rfl rfl (by decide +kernel)
set_option maxRecDepth 65536 in
theorem w_c7 : (Jvm.Cond.code ({ cls := "com/example/convene/convene/bench/Latencies", name := "record", desc := "(J)V" } : Jvm.MethodName) prog_7_method_2_code (3 : Nat) (Option.none : Option Jvm.ClassFile.FieldType)).before args0 about1 = true := code_word (m := ⟨2, 1⟩) (meth := k2m1) (c := k2c1) (by decide +kernel) rfl rfl rfl (by decide +kernel)
set_option maxRecDepth 65536 in
theorem w_c8 : (Jvm.Cond.code ({ cls := "java/lang/Math", name := "max", desc := "(JJ)J" } : Jvm.MethodName) jdk_29_method_66_code (4 : Nat) (Option.some Jvm.ClassFile.FieldType.long)).before args0 about1 = true := code_word (m := ⟨10, 2⟩) (meth := k10m2) (c := k10c2) (by decide +kernel) rfl rfl rfl (by decide +kernel)
set_option maxRecDepth 65536 in
theorem w_c9 : (Jvm.Cond.code ({ cls := "com/example/convene/convene/bench/Latencies", name := "add", desc := "(Lcom/example/convene/convene/bench/Latencies;)V" } : Jvm.MethodName) prog_7_method_3_code (3 : Nat) (Option.none : Option Jvm.ClassFile.FieldType)).before args0 about1 = true := code_word (m := ⟨2, 2⟩) (meth := k2m2) (c := k2c2) (by decide +kernel) rfl rfl rfl (by decide +kernel)
set_option maxRecDepth 65536 in
theorem w_c10 : (Jvm.Cond.code ({ cls := "com/example/convene/convene/bench/Latencies", name := "percentileMs", desc := "(I)D" } : Jvm.MethodName) prog_7_method_4_code (12 : Nat) (Option.some Jvm.ClassFile.FieldType.double)).before args0 about1 = true := code_word (m := ⟨2, 3⟩) (meth := k2m3) (c := k2c3) (by decide +kernel) rfl rfl rfl (by decide +kernel)
def codes1 : List Jvm.Cond := [Jvm.Cond.code x code maxLocals ret, Jvm.Cond.code ({ cls := "com/example/convene/convene/bench/Latencies", name := "<init>", desc := "()V" } : Jvm.MethodName) prog_7_method_1_code (1 : Nat) (Option.none : Option Jvm.ClassFile.FieldType), Jvm.Cond.code ({ cls := "java/lang/Object", name := "<init>", desc := "()V" } : Jvm.MethodName) object_method_1_code (1 : Nat) (Option.none : Option Jvm.ClassFile.FieldType), Jvm.Cond.code ({ cls := "com/example/convene/convene/bench/Latencies", name := "bucket", desc := "(J)I" } : Jvm.MethodName) prog_7_method_5_code (3 : Nat) (Option.some Jvm.ClassFile.FieldType.int), Jvm.Cond.code ({ cls := "java/lang/Long", name := "numberOfLeadingZeros", desc := "(J)I" } : Jvm.MethodName) jdk_35_method_48_code (3 : Nat) (Option.some Jvm.ClassFile.FieldType.int), Jvm.Cond.code ({ cls := "java/lang/Integer", name := "numberOfLeadingZeros", desc := "(I)I" } : Jvm.MethodName) jdk_33_method_47_code (2 : Nat) (Option.some Jvm.ClassFile.FieldType.int), Jvm.Cond.code ({ cls := "java/lang/Math", name := "max", desc := "(II)I" } : Jvm.MethodName) jdk_29_method_65_code (2 : Nat) (Option.some Jvm.ClassFile.FieldType.int), Jvm.Cond.code ({ cls := "com/example/convene/convene/bench/Latencies", name := "record", desc := "(J)V" } : Jvm.MethodName) prog_7_method_2_code (3 : Nat) (Option.none : Option Jvm.ClassFile.FieldType), Jvm.Cond.code ({ cls := "java/lang/Math", name := "max", desc := "(JJ)J" } : Jvm.MethodName) jdk_29_method_66_code (4 : Nat) (Option.some Jvm.ClassFile.FieldType.long), Jvm.Cond.code ({ cls := "com/example/convene/convene/bench/Latencies", name := "add", desc := "(Lcom/example/convene/convene/bench/Latencies;)V" } : Jvm.MethodName) prog_7_method_3_code (3 : Nat) (Option.none : Option Jvm.ClassFile.FieldType), Jvm.Cond.code ({ cls := "com/example/convene/convene/bench/Latencies", name := "percentileMs", desc := "(I)D" } : Jvm.MethodName) prog_7_method_4_code (12 : Nat) (Option.some Jvm.ClassFile.FieldType.double)]
set_option maxRecDepth 65536 in
theorem codes_eq : words1.filter isCode = codes1 := rfl
theorem w_codes : ∀ c ∈ words1.filter isCode, c.before args0 about1 = true := by
  rw [codes_eq]
  intro c hc
  simp only [codes1, List.mem_cons, List.not_mem_nil, or_false] at hc
  rcases hc with rfl | rfl | rfl | rfl | rfl | rfl | rfl | rfl | rfl | rfl | rfl
  · exact w_c0
  · exact w_c1
  · exact w_c2
  · exact w_c3
  · exact w_c4
  · exact w_c5
  · exact w_c6
  · exact w_c7
  · exact w_c8
  · exact w_c9
  · exact w_c10
set_option maxRecDepth 65536 in
theorem w_t1 : (words1.take 24).all (fun c => isCode c || c.before args0 about1) = true := by decide +kernel
set_option maxRecDepth 65536 in
theorem w_t2 : ((words1.drop 24).take 24).all (fun c => isCode c || c.before args0 about1) = true := by decide +kernel
set_option maxRecDepth 65536 in
theorem w_t3 : ((words1.drop 24).drop 24).all (fun c => isCode c || c.before args0 about1) = true := by decide +kernel
theorem w_tables : (allAtoms (Jvm.Cond.code x code maxLocals ret :: tables_1)).before args0 about1 = true := by
  rw [allAtoms_all]
  show words1.all (fun c => c.before args0 about1) = true
  refine all_split ?_ w_codes
  rw [← List.take_append_drop 24 words1, List.all_append, w_t1, ← List.take_append_drop 24 (words1.drop 24), List.all_append, w_t2, w_t3]
  rfl
set_option maxRecDepth 65536 in
theorem w_case : (Jvm.Cond.and given_1 narrow_1).before args0 about1 = true := by decide +kernel
theorem w_applies : (headSpec (Jvm.Cond.code x code maxLocals ret :: tables_1) room_1).applies x e0.platform about1 = true :=
  (Spec.applies_iff w_frames).mpr ⟨w_running, w_runnable, w_alone, w_named, w_hears, w_ripe, w_room, w_tables⟩
theorem atStart : AtStart classFile x code maxLocals ret World_1 tables_1 room_1 Calls_1 rest_1 Pre_1 launch0 p0 e0 about1 theMethod args0 below0 :=
  ⟨lists_1, trivial, launch0.admits_env _ _ _, launch0.least_env, fairChoices_fair.cas, fairChoices_fair.clock, w_frames, w_args, w_heap, w_applies, trivial, trivial, w_case⟩
end start1
theorem witness_1 : WitnessClaimed_1 := ⟨start1.p0, start1.e0, start1.about1, start1.theMethod, start1.args0, start1.below0, start1.atStart⟩
end Jvm.Pilot.@@N@@
