import JvmDerived
import JvmDerived.Pilot.@@N@@Statement
import JvmDerived.Pilot.@@N@@Code
set_option linter.unusedVariables false
set_option linter.unusedSimpArgs false
namespace Jvm.RoadKit
open Sem ClassFile Op Lib Jvm.Stand Jvm.Free Jvm.LawKit
section New
variable {p : Program} {l : Launch} {e : Env} {R : Room} {s : State} {m : MethodId} {args : Array Value} {below : List Frame} {meth : Method} {c : Code} {T : State} {locs : List Loc} {cells slots : Nat}
theorem retI (X : Stand p l e R s m args below meth c T locs cells slots) (hx : p.tables.exec = Jvm.exec) {pc : Nat} {Ls : Array Slot} {z : Int32} {rest : List Value} (hret : meth.sig.returnType = some .int) (hd : decode c.code pc = .ok (.ireturn, 1)) {fs : List Frame}
    (hl : ∀ (f : JFrame) (acts : List Action), f.method = m → f.locked = none → f.entered = [] → (doReturn e (T.setTop f) acts (some (.int z))).1 = T.setFrames fs) : Steps p.tables e below (T.setTop (mkF m pc Ls (.int z :: rest))) (T.setFrames fs) := by
  have hm' : T.vm.method? m = some meth := X.method'
  have hn : narrow .int (.int z) = .int z := rfl
  show Steps p.tables e below (T.setTop { method := m, pc := pc, locals := Ls, stack := _ :: rest, locked := none }) _
  jvm_step X.here [X.here.top, hx, hd, hm', hret, hn]
  first | (intro acts; rw [hl _ acts rfl rfl rfl]) | rw [hl _ _ rfl rfl rfl]
  exact Steps.refl _
end New
end Jvm.RoadKit
@@BLOCK:NumsL.lean.txt@@
namespace Jvm.Pilot.@@N@@
open Jvm Jvm.ClassFile Sem Op Lib Jvm.Free Jvm.Stand Jvm.LawKit Jvm.RoadKit Bundle Jvm.Pilot.@@N@@.Jvm.D
abbrev own_S (p : Program) (e : Env) (below : List Frame) (T : State) (g : JFrame) (t : State) : Prop := Steps p.tables e below (T.setTop g) t
abbrev own_K (p : Program) (e : Env) (below : List Frame) (S T : State) (g : JFrame) : Prop := ∀ t, Steps p.tables e below (T.setTop g) t → Steps p.tables e below S t
theorem own_ext {h h' : Heap} (K : Keep h h' []) : Ext h h' := ⟨K.1, fun a c q => K.2.1 a c q nin0⟩
theorem own_eqI {args : Array Value} {s : State} {t : Term} {n : Int32} (h : (Jvm.Cond.eq t (.int n)).value args s none s [] = some true) : t.eval args s none [] s = some (.int n) := by
  obtain ⟨x, y, h1, h2, h3, h4⟩ := cmp_v (Or.inl h)
  cases (Term.int_eval n (args := args) (s := s) (first := s) (o := none) (idx := [])).symm.trans h2
  obtain ⟨z, rfl⟩ : ∃ z, x = .int z := h4
  rw [h1]
  simp [Cond.value, h1, Term.eval] at h
  rw [h]
theorem own_eqJ {args : Array Value} {s : State} {t : Term} {n : Int64} (h : (Jvm.Cond.eq t (.long n)).value args s none s [] = some true) : t.eval args s none [] s = some (.long n) := by
  obtain ⟨x, y, h1, h2, h3, h4⟩ := cmp_v (Or.inl h)
  cases (long_at n (args := args) (s := s) (first := s) (o := none) (idx := [])).symm.trans h2
  obtain ⟨z, rfl⟩ : ∃ z, x = .long z := h4
  rw [h1]
  simp [Cond.value, h1, Term.eval] at h
  rw [h]
theorem own_eqR {args : Array Value} {s : State} {t u : Term} {x : Addr} (hu : u.eval args s none [] s = some (.ref x)) (h : (Jvm.Cond.eq t u).value args s none s [] = some true) : t.eval args s none [] s = some (.ref x) := by
  obtain ⟨z, y, h1, h2, h3, h4⟩ := cmp_v (Or.inl h)
  cases hu.symm.trans h2
  have hz : z.isRef = true := h4.2
  have e := gotT (eq_R h1 hu hz rfl) h
  rw [h1, e]

def own_oct (b : Int64) (i n : Int32) : Int32 := if i < n then ((((b.toUInt64 >>> (((8 : Int32) * i) &&& 0x3f).toInt64.toUInt64).toInt64) &&& (255 : Int64)).toInt32) else (0 : Int32)
def own_sx (b : Int64) (n g j : Int32) : Int32 :=
  if j = 0 then (own_oct b ((3 : Int32) * g) n >>> ((2 : Int32) &&& 31))
  else if j = (1 : Int32) then (((own_oct b ((3 : Int32) * g) n &&& (3 : Int32)) <<< ((4 : Int32) &&& 31)) ||| (own_oct b (((3 : Int32) * g) + (1 : Int32)) n >>> ((4 : Int32) &&& 31)))
  else if j = (2 : Int32) then (((own_oct b (((3 : Int32) * g) + (1 : Int32)) n &&& (15 : Int32)) <<< ((2 : Int32) &&& 31)) ||| (own_oct b (((3 : Int32) * g) + (2 : Int32)) n >>> ((6 : Int32) &&& 31)))
  else (own_oct b (((3 : Int32) * g) + (2 : Int32)) n &&& (63 : Int32))
def own_ch (s : Int32) : Int32 :=
  if s < (26 : Int32) then ((65 : Int32) + s) else if s < (52 : Int32) then ((97 : Int32) + (s - (26 : Int32))) else if s < (62 : Int32) then ((48 : Int32) + (s - (52 : Int32))) else if s = (62 : Int32) then (45 : Int32) else (95 : Int32)
theorem own_c (k : Nat) (h : k < 2 ^ 31) : (Int32.ofNat k).toInt = k := Int32.toInt_ofNat_of_lt h
theorem own_or_add (a b : Int32) (k : Nat) (hk : k < 31) (ha : 0 ≤ a.toInt) (ham : a.toInt % 2 ^ k = 0) (hb : 0 ≤ b.toInt) (hbl : b.toInt < 2 ^ k) : (a ||| b).toInt = a.toInt + b.toInt := by
  have h : (a.toBitVec &&& b.toBitVec) = 0#32 := by
    apply BitVec.eq_of_toNat_eq
    rw [BitVec.toNat_and]
    have e1 : (a.toBitVec.toNat : Int) = a.toInt := by
      have : a.toInt = a.toBitVec.toInt := rfl
      rw [this, BitVec.toInt_eq_toNat_of_lt]
      have r := a.toInt_lt
      rw [this, BitVec.toInt_eq_toNat_cond] at ha
      split at ha <;> omega
    have e2 : (b.toBitVec.toNat : Int) = b.toInt := by
      have : b.toInt = b.toBitVec.toInt := rfl
      rw [this, BitVec.toInt_eq_toNat_of_lt]
      have r := b.toInt_lt
      rw [this, BitVec.toInt_eq_toNat_cond] at hb
      split at hb <;> omega
    have h1 : a.toBitVec.toNat % 2 ^ k = 0 := by
      have : ((a.toBitVec.toNat % 2 ^ k : Nat) : Int) = 0 := by rw [Int.natCast_emod, e1]; simpa using ham
      omega
    have h2 : b.toBitVec.toNat < 2 ^ k := by
      have : ((b.toBitVec.toNat : Nat) : Int) < ((2 ^ k : Nat) : Int) := by rw [e2]; simpa using hbl
      omega
    generalize a.toBitVec.toNat = x at h1
    generalize b.toBitVec.toNat = y at h2
    show x &&& y = 0
    apply Nat.eq_of_testBit_eq
    intro i
    rw [Nat.testBit_and, Nat.zero_testBit]
    by_cases q : i < k
    · have : x.testBit i = false := by
        have e3 : (x % 2 ^ k).testBit i = x.testBit i := by rw [Nat.testBit_mod_two_pow]; simp [q]
        rw [← e3, h1, Nat.zero_testBit]
      rw [this, Bool.false_and]
    · have : y.testBit i = false := Nat.testBit_lt_two_pow (Nat.lt_of_lt_of_le h2 (Nat.pow_le_pow_right (by decide) (by omega)))
      rw [this, Bool.and_false]
  have e : (a ||| b) = a + b := by
    apply Int32.toBitVec_inj.mp
    rw [Int32.toBitVec_or, Int32.toBitVec_add]
    exact (BitVec.add_eq_or_of_and_eq_zero _ _ h).symm
  have r1 := a.toInt_lt
  have hp : (2 : Int) ^ k ≤ 2 ^ 30 := by
    have := Nat.pow_le_pow_right (n := 2) (by decide) (show k ≤ 30 by omega)
    exact_mod_cast this
  rw [e]
  refine Jvm.Kit.i32_add (by omega) ?_
  obtain ⟨m, hm⟩ : ∃ m : Int, a.toInt = m * 2 ^ k := ⟨a.toInt / 2 ^ k, by rw [Int.ediv_mul_cancel (Int.dvd_of_emod_eq_zero ham)]⟩
  have hpow : (2 : Int) ^ 31 = 2 ^ (31 - k) * 2 ^ k := by rw [← Int.pow_add]; congr 1; omega
  have hm2 : m < 2 ^ (31 - k) := by
    rw [hm, hpow] at r1
    exact Int.lt_of_mul_lt_mul_right r1 (Int.le_of_lt (Int.pow_pos (by decide)))
  have h3 : (m + 1) * 2 ^ k ≤ 2 ^ (31 - k) * 2 ^ k := Int.mul_le_mul_of_nonneg_right (by omega) (Int.le_of_lt (Int.pow_pos (by decide)))
  rw [Int.add_mul, Int.one_mul] at h3
  rw [hm, hpow]
  omega
theorem own_bv (y : Int64) : ((((y.toInt32).toInt8.toInt32).toInt8.toInt32) &&& (255 : Int32)) = (y &&& (255 : Int64)).toInt32 := by
  rw [Int8.toInt8_toInt32]
  apply Int32.toInt_inj.mp
  have h1 : (y &&& (255 : Int64)).toInt = y.toInt % 2 ^ 8 := Jvm.Kit.i64_mask y 255 (k := 8) (by decide) (by decide)
  have h2 : (y &&& (255 : Int64)).toInt32.toInt = (y &&& (255 : Int64)).toInt := Jvm.Kit.i32_of_i64 (by omega) (by omega)
  have h3 : ((y.toInt32.toInt8.toInt32) &&& (255 : Int32)).toInt = (y.toInt32.toInt8.toInt32).toInt % 2 ^ 8 := Jvm.Kit.i32_mask _ 255 (k := 8) (by decide) (by decide)
  rw [h2, h1, h3, Int8.toInt_toInt32, Int32.toInt_toInt8, Int64.toInt_toInt32]
  have b1 := Int.bmod_emod (x := y.toInt.bmod (2 ^ 32)) (m := 2 ^ 8)
  have b2 := Int.bmod_emod (x := y.toInt) (m := 2 ^ 32)
  omega
def own_x3 (a b c : Int32) : Int32 := (((a &&& (255 : Int32)) <<< ((16 : Int32) &&& 31)) ||| ((b &&& (255 : Int32)) <<< ((8 : Int32) &&& 31))) ||| (c &&& (255 : Int32))
theorem own_m255 (a : Int32) : 0 ≤ (a &&& (255 : Int32)).toInt ∧ (a &&& (255 : Int32)).toInt < 256 := by
  have e : (a &&& (255 : Int32)).toInt = a.toInt % 2 ^ 8 := Jvm.Kit.i32_mask a 255 (k := 8) (by decide) (by decide)
  omega
theorem own_xint (p q r : Int32) (h1 : 0 ≤ p.toInt ∧ p.toInt < 256) (h2 : 0 ≤ q.toInt ∧ q.toInt < 256) (h3 : 0 ≤ r.toInt ∧ r.toInt < 256) : ((((p <<< ((16 : Int32) &&& 31)) ||| (q <<< ((8 : Int32) &&& 31))) ||| r)).toInt = p.toInt * 65536 + q.toInt * 256 + r.toInt := by
  have e1 : (p <<< ((16 : Int32) &&& 31)).toInt = p.toInt * 2 ^ 16 := Jvm.Kit.i32_shl p _ (k := 16) (by decide) (by omega) (by omega)
  have e2 : (q <<< ((8 : Int32) &&& 31)).toInt = q.toInt * 2 ^ 8 := Jvm.Kit.i32_shl q _ (k := 8) (by decide) (by omega) (by omega)
  have e3 : ((p <<< ((16 : Int32) &&& 31)) ||| (q <<< ((8 : Int32) &&& 31))).toInt = (p <<< ((16 : Int32) &&& 31)).toInt + (q <<< ((8 : Int32) &&& 31)).toInt := own_or_add _ _ 16 (by decide) (by omega) (by omega) (by omega) (by omega)
  rw [own_or_add _ _ 8 (by decide) (by omega) (by omega) (by omega) (by omega), e3, e1, e2]
  omega
theorem own_i0 (p q r x : Int32) (h1 : 0 ≤ p.toInt ∧ p.toInt < 256) (h2 : 0 ≤ q.toInt ∧ q.toInt < 256) (h3 : 0 ≤ r.toInt ∧ r.toInt < 256) (hx : x.toInt = p.toInt * 65536 + q.toInt * 256 + r.toInt) : ((x.toUInt32 >>> ((18 : Int32) &&& 31).toUInt32).toInt32) = (p >>> ((2 : Int32) &&& 31)) := by
  apply Int32.toInt_inj.mp
  have e1 : ((x.toUInt32 >>> ((18 : Int32) &&& 31).toUInt32).toInt32).toInt = x.toInt / 2 ^ 18 := Jvm.Kit.i32_iushr (Jvm.Kit.i32_nonneg.mpr (by omega)) (k := 18) (by decide) (by decide)
  have e2 : (p >>> ((2 : Int32) &&& 31)).toInt = p.toInt / 2 ^ 2 := Jvm.Kit.i32_shr p _ (k := 2) (by decide)
  rw [e1, e2]; omega
theorem own_i1 (p q r x : Int32) (h1 : 0 ≤ p.toInt ∧ p.toInt < 256) (h2 : 0 ≤ q.toInt ∧ q.toInt < 256) (h3 : 0 ≤ r.toInt ∧ r.toInt < 256) (hx : x.toInt = p.toInt * 65536 + q.toInt * 256 + r.toInt) : (((x.toUInt32 >>> ((12 : Int32) &&& 31).toUInt32).toInt32) &&& (63 : Int32)) = (((p &&& (3 : Int32)) <<< ((4 : Int32) &&& 31)) ||| (q >>> ((4 : Int32) &&& 31))) := by
  apply Int32.toInt_inj.mp
  have e1 : ((x.toUInt32 >>> ((12 : Int32) &&& 31).toUInt32).toInt32).toInt = x.toInt / 2 ^ 12 := Jvm.Kit.i32_iushr (Jvm.Kit.i32_nonneg.mpr (by omega)) (k := 12) (by decide) (by decide)
  have e2 : (((x.toUInt32 >>> ((12 : Int32) &&& 31).toUInt32).toInt32) &&& (63 : Int32)).toInt = ((x.toUInt32 >>> ((12 : Int32) &&& 31).toUInt32).toInt32).toInt % 2 ^ 6 := Jvm.Kit.i32_mask _ 63 (k := 6) (by decide) (by decide)
  have e3 : (p &&& (3 : Int32)).toInt = p.toInt % 2 ^ 2 := Jvm.Kit.i32_mask p 3 (k := 2) (by decide) (by decide)
  have e4 : ((p &&& (3 : Int32)) <<< ((4 : Int32) &&& 31)).toInt = (p &&& (3 : Int32)).toInt * 2 ^ 4 := Jvm.Kit.i32_shl _ _ (k := 4) (by decide) (by omega) (by omega)
  have e5 : (q >>> ((4 : Int32) &&& 31)).toInt = q.toInt / 2 ^ 4 := Jvm.Kit.i32_shr q _ (k := 4) (by decide)
  rw [e2, e1, own_or_add _ _ 4 (by decide) (by omega) (by omega) (by omega) (by omega), e4, e3, e5]; omega
theorem own_i2 (p q r x : Int32) (h1 : 0 ≤ p.toInt ∧ p.toInt < 256) (h2 : 0 ≤ q.toInt ∧ q.toInt < 256) (h3 : 0 ≤ r.toInt ∧ r.toInt < 256) (hx : x.toInt = p.toInt * 65536 + q.toInt * 256 + r.toInt) : (((x.toUInt32 >>> ((6 : Int32) &&& 31).toUInt32).toInt32) &&& (63 : Int32)) = (((q &&& (15 : Int32)) <<< ((2 : Int32) &&& 31)) ||| (r >>> ((6 : Int32) &&& 31))) := by
  apply Int32.toInt_inj.mp
  have e1 : ((x.toUInt32 >>> ((6 : Int32) &&& 31).toUInt32).toInt32).toInt = x.toInt / 2 ^ 6 := Jvm.Kit.i32_iushr (Jvm.Kit.i32_nonneg.mpr (by omega)) (k := 6) (by decide) (by decide)
  have e2 : (((x.toUInt32 >>> ((6 : Int32) &&& 31).toUInt32).toInt32) &&& (63 : Int32)).toInt = ((x.toUInt32 >>> ((6 : Int32) &&& 31).toUInt32).toInt32).toInt % 2 ^ 6 := Jvm.Kit.i32_mask _ 63 (k := 6) (by decide) (by decide)
  have e3 : (q &&& (15 : Int32)).toInt = q.toInt % 2 ^ 4 := Jvm.Kit.i32_mask q 15 (k := 4) (by decide) (by decide)
  have e4 : ((q &&& (15 : Int32)) <<< ((2 : Int32) &&& 31)).toInt = (q &&& (15 : Int32)).toInt * 2 ^ 2 := Jvm.Kit.i32_shl _ _ (k := 2) (by decide) (by omega) (by omega)
  have e5 : (r >>> ((6 : Int32) &&& 31)).toInt = r.toInt / 2 ^ 6 := Jvm.Kit.i32_shr r _ (k := 6) (by decide)
  rw [e2, e1, own_or_add _ _ 2 (by decide) (by omega) (by omega) (by omega) (by omega), e4, e3, e5]; omega
theorem own_i3 (p q r x : Int32) (h1 : 0 ≤ p.toInt ∧ p.toInt < 256) (h2 : 0 ≤ q.toInt ∧ q.toInt < 256) (h3 : 0 ≤ r.toInt ∧ r.toInt < 256) (hx : x.toInt = p.toInt * 65536 + q.toInt * 256 + r.toInt) : (x &&& (63 : Int32)) = (r &&& (63 : Int32)) := by
  apply Int32.toInt_inj.mp
  have e1 : (x &&& (63 : Int32)).toInt = x.toInt % 2 ^ 6 := Jvm.Kit.i32_mask _ 63 (k := 6) (by decide) (by decide)
  have e2 : (r &&& (63 : Int32)).toInt = r.toInt % 2 ^ 6 := Jvm.Kit.i32_mask _ 63 (k := 6) (by decide) (by decide)
  rw [e1, e2]; omega
theorem own_b18 (x : Int32) (h : 0 ≤ x.toInt ∧ x.toInt < 16777216) : ¬ ((x.toUInt32 >>> ((18 : Int32) &&& 31).toUInt32).toInt32) < 0 ∧ ((x.toUInt32 >>> ((18 : Int32) &&& 31).toUInt32).toInt32) < (64 : Int32) := by
  have e1 : ((x.toUInt32 >>> ((18 : Int32) &&& 31).toUInt32).toInt32).toInt = x.toInt / 2 ^ 18 := Jvm.Kit.i32_iushr (Jvm.Kit.i32_nonneg.mpr (by omega)) (k := 18) (by decide) (by decide)
  have c0 : (0 : Int32).toInt = 0 := by decide
  have c64 : (64 : Int32).toInt = 64 := by decide
  rw [Int32.lt_iff_toInt_lt, Int32.lt_iff_toInt_lt, e1, c0, c64]; omega
theorem own_b63 (y : Int32) : ¬ (y &&& (63 : Int32)) < 0 ∧ (y &&& (63 : Int32)) < (64 : Int32) := by
  have e1 : (y &&& (63 : Int32)).toInt = y.toInt % 2 ^ 6 := Jvm.Kit.i32_mask _ 63 (k := 6) (by decide) (by decide)
  have c0 : (0 : Int32).toInt = 0 := by decide
  have c64 : (64 : Int32).toInt = 64 := by decide
  rw [Int32.lt_iff_toInt_lt, Int32.lt_iff_toInt_lt, e1, c0, c64]; omega
theorem d5_0 : decode method_4_code 0 = .ok (.iload_n 2, 1) := by decide +kernel
theorem d5_1 : decode method_4_code 1 = .ok (.iload_n 3, 1) := by decide +kernel
theorem d5_2 : decode method_4_code 2 = .ok (.if_icmp .ge 15, 3) := by decide +kernel
theorem d5_5 : decode method_4_code 5 = .ok (.lload_n 0, 1) := by decide +kernel
theorem d5_6 : decode method_4_code 6 = .ok (.bipush 8, 2) := by decide +kernel
theorem d5_8 : decode method_4_code 8 = .ok (.iload_n 2, 1) := by decide +kernel
theorem d5_9 : decode method_4_code 9 = .ok (.imul, 1) := by decide +kernel
theorem d5_10 : decode method_4_code 10 = .ok (.lushr, 1) := by decide +kernel
theorem d5_11 : decode method_4_code 11 = .ok (.ldc2_w 24, 3) := by decide +kernel
theorem d5_14 : decode method_4_code 14 = .ok (.land, 1) := by decide +kernel
theorem d5_15 : decode method_4_code 15 = .ok (.l2i, 1) := by decide +kernel
theorem d5_16 : decode method_4_code 16 = .ok (.ireturn, 1) := by decide +kernel
theorem d5_17 : decode method_4_code 17 = .ok (.iconst 0, 1) := by decide +kernel
theorem d5_18 : decode method_4_code 18 = .ok (.ireturn, 1) := by decide +kernel
theorem pn_5 : plainName "com/example/whorl/whorl/Base64urlTextPinLaw" = true := by first | (simp [plainName, overriddenIn]; done) | decide +kernel
theorem ef_5 (m : MethodId) (q0 : Int64) (p1 : Int32) (p2 : Int32) : entryFrame m #[(.long q0), (.int p1), (.int p2)] 4 = mkF m 0 #[.val (.long q0), .second, .val (.int p1), .val (.int p2)] [] := by first | (simp [entryFrame, mkF, argsToLocals, Value.category]; done) | rfl
def Q5 (Z : State) (q0 : Int64) (p1 : Int32) (p2 : Int32) (h0 : Heap) (n0 : Nat) (v : Option Value) (h : Heap) (L : List Loc) : Prop := v = some (.int (own_oct q0 p1 p2)) ∧ Fr n0 L ∧ h = h0
set_option maxRecDepth 65536 in
set_option maxHeartbeats 40000000 in
theorem rm5 (l : Launch) (Z : State) (a0 : Array Value) (hw : ∀ d ∈ tables_1, d.before a0 Z = true) (ws : List Jvm.Cond) (q0 : Int64) (p1 : Int32) (p2 : Int32) (h0 : Heap) (n0 : Nat) (Z0 : n0 ≤ h0.size) :
    MetFree l (⟨"com/example/whorl/whorl/Base64urlTextPinLaw", "oct", "(JII)I"⟩ : MethodName) (head1 (Jvm.Cond.code (⟨"com/example/whorl/whorl/Base64urlTextPinLaw", "oct", "(JII)I"⟩ : MethodName) method_4_code 4 (some .int) :: ws) ({ frames := 0, cells := 0, slots := 0, locals := 0 } : Room)) (fun a U => a = #[(.long q0), (.int p1), (.int p2)] ∧ Z.Warmed39 U.vm ∧ U.heap = h0) (fun _ _ _ _ _ => True) (fun _ U o U' => ∃ v L, o = .returned v ∧ Q5 Z q0 p1 p2 h0 n0 v U'.heap L ∧ FrameEnd U o U' L ({ frames := 0, cells := 0, slots := 0, locals := 0 } : Room).cells ({ frames := 0, cells := 0, slots := 0, locals := 0 } : Room).slots) := by
  refine MetFree.of_bodySF (plainFor_of_name pn_5) hisR ?_
  intro p e s m args below meth c s₁ Bd hml0 hP hK
  obtain ⟨rfl, hZ, hh⟩ := hP
  have hx := Bd.exec
  have hby := Bd.bytes
  have hml : c.maxLocals = 4 := hml0
  have hown : s.vm.findClass "com/example/whorl/whorl/Base64urlTextPinLaw" = some m.cls := findClass_of_methodNamed Bd.named
  have hnm := (name_of_methodNamed Bd.named Bd.method).1
  have X0 : Stand p l e ({ frames := 0, cells := 0, slots := 0, locals := 0 } : Room) s m #[(.long q0), (.int p1), (.int p2)] below meth c s₁ [] 0 0 := Stand.of_body Bd
  have e0 : s₁.heap = h0 := by rw [← hh, Bd.state]; rfl
  have N0 := Fr.nil n0
  have K0 : ∀ t, Steps p.tables e below (s₁.setTop (mkF m 0 #[.val (.long q0), .second, .val (.int p1), .val (.int p2)] [])) t → Steps p.tables e below (s₁.setTop (entryFrame m #[(.long q0), (.int p1), (.int p2)] 4)) t := fun t k => castTop (ef_5 m q0 p1 p2) k
  generalize s₁.setTop (entryFrame m #[(.long q0), (.int p1), (.int p2)] 4) = SE at K0 ⊢
  have K2 : own_K p e below SE s₁ (mkF m 2 #[.val (.long q0), .second, .val (.int p1), .val (.int p2)] [(.int p2), (.int p1)]) := by
    intro t k
    refine K0 _ ?_
    refine XS.iloadN X0.here hx rfl (hb hby d5_0) rfl ?_
    show own_S p e below s₁ (mkF m 1 #[.val (.long q0), .second, .val (.int p1), .val (.int p2)] [(.int p1)]) _
    refine XS.iloadN X0.here hx rfl (hb hby d5_1) rfl ?_
    exact k
  by_cases c2_1 : p1 < p2
  · skip
    have K3 : own_K p e below SE s₁ (mkF m 16 #[.val (.long q0), .second, .val (.int p1), .val (.int p2)] [(.int (((((q0.toUInt64 >>> (((8 : Int32) * p1) &&& 0x3f).toInt64.toUInt64).toInt64) &&& (255 : Int64))).toInt32))]) := by
      intro t k
      refine K2 _ ?_
      refine XS.icmpNo X0.here hx rfl (hb hby d5_2) rfl (XT.ii_ge_f c2_1) ?_
      show own_S p e below s₁ (mkF m 5 #[.val (.long q0), .second, .val (.int p1), .val (.int p2)] []) _
      refine XS.lloadN X0.here hx rfl (hb hby d5_5) rfl ?_
      show own_S p e below s₁ (mkF m 6 #[.val (.long q0), .second, .val (.int p1), .val (.int p2)] [(.long q0)]) _
      refine XS.bipush X0.here hx rfl (hb hby d5_6) ?_
      show own_S p e below s₁ (mkF m 8 #[.val (.long q0), .second, .val (.int p1), .val (.int p2)] [(.int (8 : Int32)), (.long q0)]) _
      refine XS.iloadN X0.here hx rfl (hb hby d5_8) rfl ?_
      show own_S p e below s₁ (mkF m 9 #[.val (.long q0), .second, .val (.int p1), .val (.int p2)] [(.int p1), (.int (8 : Int32)), (.long q0)]) _
      refine XS.imul X0.here hx rfl (hb hby d5_9) rfl ?_
      show own_S p e below s₁ (mkF m 10 #[.val (.long q0), .second, .val (.int p1), .val (.int p2)] [(.int ((8 : Int32) * p1)), (.long q0)]) _
      refine XS.lushr X0.here hx rfl (hb hby d5_10) rfl ?_
      show own_S p e below s₁ (mkF m 11 #[.val (.long q0), .second, .val (.int p1), .val (.int p2)] [(.long ((q0.toUInt64 >>> (((8 : Int32) * p1) &&& 0x3f).toInt64.toUInt64).toInt64))]) _
      refine Stand.ldc2J X0 hx hown (mvT hZ (hw _ (List.mem_of_getElem? (i := 24) rfl))) (v := (255 : Int64)) (g := (mkF m 11 #[.val (.long q0), .second, .val (.int p1), .val (.int p2)] [(.long ((q0.toUInt64 >>> (((8 : Int32) * p1) &&& 0x3f).toInt64.toUInt64).toInt64))])) rfl (hb hby d5_11) ?_
      show own_S p e below s₁ (mkF m 14 #[.val (.long q0), .second, .val (.int p1), .val (.int p2)] [(.long (255 : Int64)), (.long ((q0.toUInt64 >>> (((8 : Int32) * p1) &&& 0x3f).toInt64.toUInt64).toInt64))]) _
      refine XS.land X0.here hx rfl (hb hby d5_14) rfl ?_
      show own_S p e below s₁ (mkF m 15 #[.val (.long q0), .second, .val (.int p1), .val (.int p2)] [(.long (((q0.toUInt64 >>> (((8 : Int32) * p1) &&& 0x3f).toInt64.toUInt64).toInt64) &&& (255 : Int64)))]) _
      refine XS.l2i X0.here hx rfl (hb hby d5_15) rfl ?_
      exact k
    obtain ⟨fs, hr, hrun, hended, hW, hsame⟩ := X0.leave (v := some (.int (((((q0.toUInt64 >>> (((8 : Int32) * p1) &&& 0x3f).toInt64.toUInt64).toInt64) &&& (255 : Int64))).toInt32))) (fun h => by rw [Bd.returns] at h; cases h)
    refine ⟨_, _, K3 _ ?_, hrun, hended, _, _, rfl, ?_, ⟨_, rfl⟩, hW, hsame.mono (by decide) (by decide)⟩
    · exact retI X0 hx Bd.returns (hb hby d5_16) hr
    · show Q5 Z q0 p1 p2 h0 n0 _ s₁.heap _
      rw [e0]
      exact ⟨(by unfold own_oct; simp only [if_pos c2_1]), N0, rfl⟩
  · skip
    have K4 : own_K p e below SE s₁ (mkF m 18 #[.val (.long q0), .second, .val (.int p1), .val (.int p2)] [(.int (0 : Int32))]) := by
      intro t k
      refine K2 _ ?_
      refine XS.icmpYes X0.here hx rfl (pc0 := 2) (pc' := 17) rfl (hb hby d5_2) rfl (XT.ii_ge_t c2_1) (by decide) (by decide) ?_
      show own_S p e below s₁ (mkF m 17 #[.val (.long q0), .second, .val (.int p1), .val (.int p2)] []) _
      refine XS.iconst X0.here hx rfl (hb hby d5_17) ?_
      exact k
    obtain ⟨fs, hr, hrun, hended, hW, hsame⟩ := X0.leave (v := some (.int (0 : Int32))) (fun h => by rw [Bd.returns] at h; cases h)
    refine ⟨_, _, K4 _ ?_, hrun, hended, _, _, rfl, ?_, ⟨_, rfl⟩, hW, hsame.mono (by decide) (by decide)⟩
    · exact retI X0 hx Bd.returns (hb hby d5_18) hr
    · show Q5 Z q0 p1 p2 h0 n0 _ s₁.heap _
      rw [e0]
      exact ⟨(by unfold own_oct; simp only [if_neg c2_1]), N0, rfl⟩
theorem d4_0 : decode method_5_code 0 = .ok (.lload_n 0, 1) := by decide +kernel
theorem d4_1 : decode method_5_code 1 = .ok (.iconst 3, 1) := by decide +kernel
theorem d4_2 : decode method_5_code 2 = .ok (.iload_n 3, 1) := by decide +kernel
theorem d4_3 : decode method_5_code 3 = .ok (.imul, 1) := by decide +kernel
theorem d4_4 : decode method_5_code 4 = .ok (.iload_n 2, 1) := by decide +kernel
theorem d4_5 : decode method_5_code 5 = .ok (.invokestatic 26, 3) := by decide +kernel
theorem d4_8 : decode method_5_code 8 = .ok (.istore 5, 2) := by decide +kernel
theorem d4_10 : decode method_5_code 10 = .ok (.lload_n 0, 1) := by decide +kernel
theorem d4_11 : decode method_5_code 11 = .ok (.iconst 3, 1) := by decide +kernel
theorem d4_12 : decode method_5_code 12 = .ok (.iload_n 3, 1) := by decide +kernel
theorem d4_13 : decode method_5_code 13 = .ok (.imul, 1) := by decide +kernel
theorem d4_14 : decode method_5_code 14 = .ok (.iconst 1, 1) := by decide +kernel
theorem d4_15 : decode method_5_code 15 = .ok (.iadd, 1) := by decide +kernel
theorem d4_16 : decode method_5_code 16 = .ok (.iload_n 2, 1) := by decide +kernel
theorem d4_17 : decode method_5_code 17 = .ok (.invokestatic 26, 3) := by decide +kernel
theorem d4_20 : decode method_5_code 20 = .ok (.istore 6, 2) := by decide +kernel
theorem d4_22 : decode method_5_code 22 = .ok (.lload_n 0, 1) := by decide +kernel
theorem d4_23 : decode method_5_code 23 = .ok (.iconst 3, 1) := by decide +kernel
theorem d4_24 : decode method_5_code 24 = .ok (.iload_n 3, 1) := by decide +kernel
theorem d4_25 : decode method_5_code 25 = .ok (.imul, 1) := by decide +kernel
theorem d4_26 : decode method_5_code 26 = .ok (.iconst 2, 1) := by decide +kernel
theorem d4_27 : decode method_5_code 27 = .ok (.iadd, 1) := by decide +kernel
theorem d4_28 : decode method_5_code 28 = .ok (.iload_n 2, 1) := by decide +kernel
theorem d4_29 : decode method_5_code 29 = .ok (.invokestatic 26, 3) := by decide +kernel
theorem d4_32 : decode method_5_code 32 = .ok (.istore 7, 2) := by decide +kernel
theorem d4_34 : decode method_5_code 34 = .ok (.iload 4, 2) := by decide +kernel
theorem d4_36 : decode method_5_code 36 = .ok (.ifCond .ne 8, 3) := by decide +kernel
theorem d4_39 : decode method_5_code 39 = .ok (.iload 5, 2) := by decide +kernel
theorem d4_41 : decode method_5_code 41 = .ok (.iconst 2, 1) := by decide +kernel
theorem d4_42 : decode method_5_code 42 = .ok (.ishr, 1) := by decide +kernel
theorem d4_43 : decode method_5_code 43 = .ok (.ireturn, 1) := by decide +kernel
theorem d4_44 : decode method_5_code 44 = .ok (.iload 4, 2) := by decide +kernel
theorem d4_46 : decode method_5_code 46 = .ok (.iconst 1, 1) := by decide +kernel
theorem d4_47 : decode method_5_code 47 = .ok (.if_icmp .ne 15, 3) := by decide +kernel
theorem d4_50 : decode method_5_code 50 = .ok (.iload 5, 2) := by decide +kernel
theorem d4_52 : decode method_5_code 52 = .ok (.iconst 3, 1) := by decide +kernel
theorem d4_53 : decode method_5_code 53 = .ok (.iand, 1) := by decide +kernel
theorem d4_54 : decode method_5_code 54 = .ok (.iconst 4, 1) := by decide +kernel
theorem d4_55 : decode method_5_code 55 = .ok (.ishl, 1) := by decide +kernel
theorem d4_56 : decode method_5_code 56 = .ok (.iload 6, 2) := by decide +kernel
theorem d4_58 : decode method_5_code 58 = .ok (.iconst 4, 1) := by decide +kernel
theorem d4_59 : decode method_5_code 59 = .ok (.ishr, 1) := by decide +kernel
theorem d4_60 : decode method_5_code 60 = .ok (.ior, 1) := by decide +kernel
theorem d4_61 : decode method_5_code 61 = .ok (.ireturn, 1) := by decide +kernel
theorem d4_62 : decode method_5_code 62 = .ok (.iload 4, 2) := by decide +kernel
theorem d4_64 : decode method_5_code 64 = .ok (.iconst 2, 1) := by decide +kernel
theorem d4_65 : decode method_5_code 65 = .ok (.if_icmp .ne 17, 3) := by decide +kernel
theorem d4_68 : decode method_5_code 68 = .ok (.iload 6, 2) := by decide +kernel
theorem d4_70 : decode method_5_code 70 = .ok (.bipush 15, 2) := by decide +kernel
theorem d4_72 : decode method_5_code 72 = .ok (.iand, 1) := by decide +kernel
theorem d4_73 : decode method_5_code 73 = .ok (.iconst 2, 1) := by decide +kernel
theorem d4_74 : decode method_5_code 74 = .ok (.ishl, 1) := by decide +kernel
theorem d4_75 : decode method_5_code 75 = .ok (.iload 7, 2) := by decide +kernel
theorem d4_77 : decode method_5_code 77 = .ok (.bipush 6, 2) := by decide +kernel
theorem d4_79 : decode method_5_code 79 = .ok (.ishr, 1) := by decide +kernel
theorem d4_80 : decode method_5_code 80 = .ok (.ior, 1) := by decide +kernel
theorem d4_81 : decode method_5_code 81 = .ok (.ireturn, 1) := by decide +kernel
theorem d4_82 : decode method_5_code 82 = .ok (.iload 7, 2) := by decide +kernel
theorem d4_84 : decode method_5_code 84 = .ok (.bipush 63, 2) := by decide +kernel
theorem d4_86 : decode method_5_code 86 = .ok (.iand, 1) := by decide +kernel
theorem d4_87 : decode method_5_code 87 = .ok (.ireturn, 1) := by decide +kernel
theorem pd_4_0 : parseMethodDescriptor "(JII)I" = some ⟨[.long, .int, .int], some .int⟩ := by decide +kernel
theorem ef_4 (m : MethodId) (q0 : Int64) (p1 : Int32) (p2 : Int32) (p3 : Int32) : entryFrame m #[(.long q0), (.int p1), (.int p2), (.int p3)] 8 = mkF m 0 #[.val (.long q0), .second, .val (.int p1), .val (.int p2), .val (.int p3), .unset, .unset, .unset] [] := by first | (simp [entryFrame, mkF, argsToLocals, Value.category]; done) | rfl
def Q4 (Z : State) (q0 : Int64) (p1 : Int32) (p2 : Int32) (p3 : Int32) (h0 : Heap) (n0 : Nat) (v : Option Value) (h : Heap) (L : List Loc) : Prop := v = some (.int (own_sx q0 p1 p2 p3)) ∧ Fr n0 L ∧ h = h0
set_option maxRecDepth 65536 in
set_option maxHeartbeats 40000000 in
theorem rm4 (l : Launch) (Z : State) (a0 : Array Value) (hw : ∀ d ∈ tables_1, d.before a0 Z = true) (ws : List Jvm.Cond) (q0 : Int64) (p1 : Int32) (p2 : Int32) (p3 : Int32) (h0 : Heap) (n0 : Nat) (Z0 : n0 ≤ h0.size) :
    MetFree l (⟨"com/example/whorl/whorl/Base64urlTextPinLaw", "sextet", "(JIII)I"⟩ : MethodName) (head1 (Jvm.Cond.code (⟨"com/example/whorl/whorl/Base64urlTextPinLaw", "sextet", "(JIII)I"⟩ : MethodName) method_5_code 8 (some .int) :: ws) ({ frames := 1, cells := 0, slots := 0, locals := 15 } : Room)) (fun a U => a = #[(.long q0), (.int p1), (.int p2), (.int p3)] ∧ Z.Warmed39 U.vm ∧ U.heap = h0) (fun _ _ _ _ _ => True) (fun _ U o U' => ∃ v L, o = .returned v ∧ Q4 Z q0 p1 p2 p3 h0 n0 v U'.heap L ∧ FrameEnd U o U' L ({ frames := 1, cells := 0, slots := 0, locals := 15 } : Room).cells ({ frames := 1, cells := 0, slots := 0, locals := 15 } : Room).slots) := by
  refine MetFree.of_bodySF (plainFor_of_name pn_5) hisR ?_
  intro p e s m args below meth c s₁ Bd hml0 hP hK
  obtain ⟨rfl, hZ, hh⟩ := hP
  have hx := Bd.exec
  have hby := Bd.bytes
  have hml : c.maxLocals = 8 := hml0
  have hown : s.vm.findClass "com/example/whorl/whorl/Base64urlTextPinLaw" = some m.cls := findClass_of_methodNamed Bd.named
  have hnm := (name_of_methodNamed Bd.named Bd.method).1
  have X0 : Stand p l e ({ frames := 1, cells := 0, slots := 0, locals := 15 } : Room) s m #[(.long q0), (.int p1), (.int p2), (.int p3)] below meth c s₁ [] 0 0 := Stand.of_body Bd
  have e0 : s₁.heap = h0 := by rw [← hh, Bd.state]; rfl
  have N0 := Fr.nil n0
  have K0 : ∀ t, Steps p.tables e below (s₁.setTop (mkF m 0 #[.val (.long q0), .second, .val (.int p1), .val (.int p2), .val (.int p3), .unset, .unset, .unset] [])) t → Steps p.tables e below (s₁.setTop (entryFrame m #[(.long q0), (.int p1), (.int p2), (.int p3)] 8)) t := fun t k => castTop (ef_4 m q0 p1 p2 p3) k
  generalize s₁.setTop (entryFrame m #[(.long q0), (.int p1), (.int p2), (.int p3)] 8) = SE at K0 ⊢
  have K1 : own_K p e below SE s₁ (mkF m 5 #[.val (.long q0), .second, .val (.int p1), .val (.int p2), .val (.int p3), .unset, .unset, .unset] [(.int p1), (.int ((3 : Int32) * p2)), (.long q0)]) := by
    intro t k
    refine K0 _ ?_
    refine XS.lloadN X0.here hx rfl (hb hby d4_0) rfl ?_
    show own_S p e below s₁ (mkF m 1 #[.val (.long q0), .second, .val (.int p1), .val (.int p2), .val (.int p3), .unset, .unset, .unset] [(.long q0)]) _
    refine XS.iconst X0.here hx rfl (hb hby d4_1) ?_
    show own_S p e below s₁ (mkF m 2 #[.val (.long q0), .second, .val (.int p1), .val (.int p2), .val (.int p3), .unset, .unset, .unset] [(.int (3 : Int32)), (.long q0)]) _
    refine XS.iloadN X0.here hx rfl (hb hby d4_2) rfl ?_
    show own_S p e below s₁ (mkF m 3 #[.val (.long q0), .second, .val (.int p1), .val (.int p2), .val (.int p3), .unset, .unset, .unset] [(.int p2), (.int (3 : Int32)), (.long q0)]) _
    refine XS.imul X0.here hx rfl (hb hby d4_3) rfl ?_
    show own_S p e below s₁ (mkF m 4 #[.val (.long q0), .second, .val (.int p1), .val (.int p2), .val (.int p3), .unset, .unset, .unset] [(.int ((3 : Int32) * p2)), (.long q0)]) _
    refine XS.iloadN X0.here hx rfl (hb hby d4_4) rfl ?_
    exact k
  obtain ⟨_, _, ⟨T2, L2, k2, n2⟩, -, X2, ⟨Lc2, hQ2, l2, y2, z2⟩, st2⟩ := Jvm.LawKit.callS X0 hx (y := (⟨"com/example/whorl/whorl/Base64urlTextPinLaw", "oct", "(JII)I"⟩ : MethodName)) hown (mvT hZ (hw _ (List.mem_of_getElem? (i := 21) rfl))) (mvT hZ (hw _ (List.mem_of_getElem? (i := 22) rfl))) (mvT hZ (hw _ (List.mem_of_getElem? (i := 4) rfl))) (mvT hZ (hw _ (List.mem_of_getElem? (i := 23) rfl))) (by decide) (backOf (W := 0) (rm5 l Z a0 hw [] q0 ((3 : Int32) * p2) p1 h0 n0 Z0) hZ (hw _ (List.mem_of_getElem? (i := 23) rfl)) (hw _ (List.mem_of_getElem? (i := 4) rfl)) (by decide) (by decide)) (g := (mkF m 5 #[.val (.long q0), .second, .val (.int p1), .val (.int p2), .val (.int p3), .unset, .unset, .unset] [(.int p1), (.int ((3 : Int32) * p2)), (.long q0)])) rfl (by rw [hml]; rfl) (argsL := [(.long q0), (.int ((3 : Int32) * p2)), (.int p1)]) (rest := []) (lenOf pd_4_0 rfl) rfl (by show 2 * 0 + _ ≤ _; exact Nat.le_of_eq rfl) (hb hby d4_5) (fun _ _ => ⟨rfl, e0, (by decide : 0 + 0 ≤ _), (by decide : 0 + 0 ≤ _)⟩)
  dsimp only [Pt.U, Pt.locs, Pt.cells, Pt.slots] at X2 l2 y2 z2 st2 hQ2
  rw [y2, z2] at X2
  obtain ⟨rfl, Nq2, e2⟩ := hQ2
  have N2 : Fr n0 L2 := by rw [l2]; exact Fr.app N0 Nq2
  have K2 : own_K p e below SE T2 (mkF m 8 #[.val (.long q0), .second, .val (.int p1), .val (.int p2), .val (.int p3), .unset, .unset, .unset] [(.int (own_oct q0 ((3 : Int32) * p2) p1))]) := fun t k => K1 _ (st2 _ k)
  have K3 : own_K p e below SE T2 (mkF m 17 #[.val (.long q0), .second, .val (.int p1), .val (.int p2), .val (.int p3), .val (.int (own_oct q0 ((3 : Int32) * p2) p1)), .unset, .unset] [(.int p1), (.int (((3 : Int32) * p2) + (1 : Int32))), (.long q0)]) := by
    intro t k
    refine K2 _ ?_
    refine XS.istore X2.here hx rfl (hb hby d4_8) rfl (l' := #[.val (.long q0), .second, .val (.int p1), .val (.int p2), .val (.int p3), .val (.int (own_oct q0 ((3 : Int32) * p2) p1)), .unset, .unset]) rfl ?_
    show own_S p e below T2 (mkF m 10 #[.val (.long q0), .second, .val (.int p1), .val (.int p2), .val (.int p3), .val (.int (own_oct q0 ((3 : Int32) * p2) p1)), .unset, .unset] []) _
    refine XS.lloadN X2.here hx rfl (hb hby d4_10) rfl ?_
    show own_S p e below T2 (mkF m 11 #[.val (.long q0), .second, .val (.int p1), .val (.int p2), .val (.int p3), .val (.int (own_oct q0 ((3 : Int32) * p2) p1)), .unset, .unset] [(.long q0)]) _
    refine XS.iconst X2.here hx rfl (hb hby d4_11) ?_
    show own_S p e below T2 (mkF m 12 #[.val (.long q0), .second, .val (.int p1), .val (.int p2), .val (.int p3), .val (.int (own_oct q0 ((3 : Int32) * p2) p1)), .unset, .unset] [(.int (3 : Int32)), (.long q0)]) _
    refine XS.iloadN X2.here hx rfl (hb hby d4_12) rfl ?_
    show own_S p e below T2 (mkF m 13 #[.val (.long q0), .second, .val (.int p1), .val (.int p2), .val (.int p3), .val (.int (own_oct q0 ((3 : Int32) * p2) p1)), .unset, .unset] [(.int p2), (.int (3 : Int32)), (.long q0)]) _
    refine XS.imul X2.here hx rfl (hb hby d4_13) rfl ?_
    show own_S p e below T2 (mkF m 14 #[.val (.long q0), .second, .val (.int p1), .val (.int p2), .val (.int p3), .val (.int (own_oct q0 ((3 : Int32) * p2) p1)), .unset, .unset] [(.int ((3 : Int32) * p2)), (.long q0)]) _
    refine XS.iconst X2.here hx rfl (hb hby d4_14) ?_
    show own_S p e below T2 (mkF m 15 #[.val (.long q0), .second, .val (.int p1), .val (.int p2), .val (.int p3), .val (.int (own_oct q0 ((3 : Int32) * p2) p1)), .unset, .unset] [(.int (1 : Int32)), (.int ((3 : Int32) * p2)), (.long q0)]) _
    refine XS.iadd X2.here hx rfl (hb hby d4_15) rfl ?_
    show own_S p e below T2 (mkF m 16 #[.val (.long q0), .second, .val (.int p1), .val (.int p2), .val (.int p3), .val (.int (own_oct q0 ((3 : Int32) * p2) p1)), .unset, .unset] [(.int (((3 : Int32) * p2) + (1 : Int32))), (.long q0)]) _
    refine XS.iloadN X2.here hx rfl (hb hby d4_16) rfl ?_
    exact k
  obtain ⟨_, _, ⟨T4, L4, k4, n4⟩, -, X4, ⟨Lc4, hQ4, l4, y4, z4⟩, st4⟩ := Jvm.LawKit.callS X2 hx (y := (⟨"com/example/whorl/whorl/Base64urlTextPinLaw", "oct", "(JII)I"⟩ : MethodName)) hown (mvT hZ (hw _ (List.mem_of_getElem? (i := 21) rfl))) (mvT hZ (hw _ (List.mem_of_getElem? (i := 22) rfl))) (mvT hZ (hw _ (List.mem_of_getElem? (i := 4) rfl))) (mvT hZ (hw _ (List.mem_of_getElem? (i := 23) rfl))) (by decide) (backOf (W := 0) (rm5 l Z a0 hw [] q0 (((3 : Int32) * p2) + (1 : Int32)) p1 h0 n0 Z0) hZ (hw _ (List.mem_of_getElem? (i := 23) rfl)) (hw _ (List.mem_of_getElem? (i := 4) rfl)) (by decide) (by decide)) (g := (mkF m 17 #[.val (.long q0), .second, .val (.int p1), .val (.int p2), .val (.int p3), .val (.int (own_oct q0 ((3 : Int32) * p2) p1)), .unset, .unset] [(.int p1), (.int (((3 : Int32) * p2) + (1 : Int32))), (.long q0)])) rfl (by rw [hml]; rfl) (argsL := [(.long q0), (.int (((3 : Int32) * p2) + (1 : Int32))), (.int p1)]) (rest := []) (lenOf pd_4_0 rfl) rfl (by show 2 * 0 + _ ≤ _; exact Nat.le_of_eq rfl) (hb hby d4_17) (fun _ _ => ⟨rfl, e2, (by decide : 0 + 0 ≤ _), (by decide : 0 + 0 ≤ _)⟩)
  dsimp only [Pt.U, Pt.locs, Pt.cells, Pt.slots] at X4 l4 y4 z4 st4 hQ4
  rw [y4, z4] at X4
  obtain ⟨rfl, Nq4, e4⟩ := hQ4
  have N4 : Fr n0 L4 := by rw [l4]; exact Fr.app N2 Nq4
  have K4 : own_K p e below SE T4 (mkF m 20 #[.val (.long q0), .second, .val (.int p1), .val (.int p2), .val (.int p3), .val (.int (own_oct q0 ((3 : Int32) * p2) p1)), .unset, .unset] [(.int (own_oct q0 (((3 : Int32) * p2) + (1 : Int32)) p1))]) := fun t k => K3 _ (st4 _ k)
  have K5 : own_K p e below SE T4 (mkF m 29 #[.val (.long q0), .second, .val (.int p1), .val (.int p2), .val (.int p3), .val (.int (own_oct q0 ((3 : Int32) * p2) p1)), .val (.int (own_oct q0 (((3 : Int32) * p2) + (1 : Int32)) p1)), .unset] [(.int p1), (.int (((3 : Int32) * p2) + (2 : Int32))), (.long q0)]) := by
    intro t k
    refine K4 _ ?_
    refine XS.istore X4.here hx rfl (hb hby d4_20) rfl (l' := #[.val (.long q0), .second, .val (.int p1), .val (.int p2), .val (.int p3), .val (.int (own_oct q0 ((3 : Int32) * p2) p1)), .val (.int (own_oct q0 (((3 : Int32) * p2) + (1 : Int32)) p1)), .unset]) rfl ?_
    show own_S p e below T4 (mkF m 22 #[.val (.long q0), .second, .val (.int p1), .val (.int p2), .val (.int p3), .val (.int (own_oct q0 ((3 : Int32) * p2) p1)), .val (.int (own_oct q0 (((3 : Int32) * p2) + (1 : Int32)) p1)), .unset] []) _
    refine XS.lloadN X4.here hx rfl (hb hby d4_22) rfl ?_
    show own_S p e below T4 (mkF m 23 #[.val (.long q0), .second, .val (.int p1), .val (.int p2), .val (.int p3), .val (.int (own_oct q0 ((3 : Int32) * p2) p1)), .val (.int (own_oct q0 (((3 : Int32) * p2) + (1 : Int32)) p1)), .unset] [(.long q0)]) _
    refine XS.iconst X4.here hx rfl (hb hby d4_23) ?_
    show own_S p e below T4 (mkF m 24 #[.val (.long q0), .second, .val (.int p1), .val (.int p2), .val (.int p3), .val (.int (own_oct q0 ((3 : Int32) * p2) p1)), .val (.int (own_oct q0 (((3 : Int32) * p2) + (1 : Int32)) p1)), .unset] [(.int (3 : Int32)), (.long q0)]) _
    refine XS.iloadN X4.here hx rfl (hb hby d4_24) rfl ?_
    show own_S p e below T4 (mkF m 25 #[.val (.long q0), .second, .val (.int p1), .val (.int p2), .val (.int p3), .val (.int (own_oct q0 ((3 : Int32) * p2) p1)), .val (.int (own_oct q0 (((3 : Int32) * p2) + (1 : Int32)) p1)), .unset] [(.int p2), (.int (3 : Int32)), (.long q0)]) _
    refine XS.imul X4.here hx rfl (hb hby d4_25) rfl ?_
    show own_S p e below T4 (mkF m 26 #[.val (.long q0), .second, .val (.int p1), .val (.int p2), .val (.int p3), .val (.int (own_oct q0 ((3 : Int32) * p2) p1)), .val (.int (own_oct q0 (((3 : Int32) * p2) + (1 : Int32)) p1)), .unset] [(.int ((3 : Int32) * p2)), (.long q0)]) _
    refine XS.iconst X4.here hx rfl (hb hby d4_26) ?_
    show own_S p e below T4 (mkF m 27 #[.val (.long q0), .second, .val (.int p1), .val (.int p2), .val (.int p3), .val (.int (own_oct q0 ((3 : Int32) * p2) p1)), .val (.int (own_oct q0 (((3 : Int32) * p2) + (1 : Int32)) p1)), .unset] [(.int (2 : Int32)), (.int ((3 : Int32) * p2)), (.long q0)]) _
    refine XS.iadd X4.here hx rfl (hb hby d4_27) rfl ?_
    show own_S p e below T4 (mkF m 28 #[.val (.long q0), .second, .val (.int p1), .val (.int p2), .val (.int p3), .val (.int (own_oct q0 ((3 : Int32) * p2) p1)), .val (.int (own_oct q0 (((3 : Int32) * p2) + (1 : Int32)) p1)), .unset] [(.int (((3 : Int32) * p2) + (2 : Int32))), (.long q0)]) _
    refine XS.iloadN X4.here hx rfl (hb hby d4_28) rfl ?_
    exact k
  obtain ⟨_, _, ⟨T6, L6, k6, n6⟩, -, X6, ⟨Lc6, hQ6, l6, y6, z6⟩, st6⟩ := Jvm.LawKit.callS X4 hx (y := (⟨"com/example/whorl/whorl/Base64urlTextPinLaw", "oct", "(JII)I"⟩ : MethodName)) hown (mvT hZ (hw _ (List.mem_of_getElem? (i := 21) rfl))) (mvT hZ (hw _ (List.mem_of_getElem? (i := 22) rfl))) (mvT hZ (hw _ (List.mem_of_getElem? (i := 4) rfl))) (mvT hZ (hw _ (List.mem_of_getElem? (i := 23) rfl))) (by decide) (backOf (W := 0) (rm5 l Z a0 hw [] q0 (((3 : Int32) * p2) + (2 : Int32)) p1 h0 n0 Z0) hZ (hw _ (List.mem_of_getElem? (i := 23) rfl)) (hw _ (List.mem_of_getElem? (i := 4) rfl)) (by decide) (by decide)) (g := (mkF m 29 #[.val (.long q0), .second, .val (.int p1), .val (.int p2), .val (.int p3), .val (.int (own_oct q0 ((3 : Int32) * p2) p1)), .val (.int (own_oct q0 (((3 : Int32) * p2) + (1 : Int32)) p1)), .unset] [(.int p1), (.int (((3 : Int32) * p2) + (2 : Int32))), (.long q0)])) rfl (by rw [hml]; rfl) (argsL := [(.long q0), (.int (((3 : Int32) * p2) + (2 : Int32))), (.int p1)]) (rest := []) (lenOf pd_4_0 rfl) rfl (by show 2 * 0 + _ ≤ _; exact Nat.le_of_eq rfl) (hb hby d4_29) (fun _ _ => ⟨rfl, e4, (by decide : 0 + 0 ≤ _), (by decide : 0 + 0 ≤ _)⟩)
  dsimp only [Pt.U, Pt.locs, Pt.cells, Pt.slots] at X6 l6 y6 z6 st6 hQ6
  rw [y6, z6] at X6
  obtain ⟨rfl, Nq6, e6⟩ := hQ6
  have N6 : Fr n0 L6 := by rw [l6]; exact Fr.app N4 Nq6
  have K6 : own_K p e below SE T6 (mkF m 32 #[.val (.long q0), .second, .val (.int p1), .val (.int p2), .val (.int p3), .val (.int (own_oct q0 ((3 : Int32) * p2) p1)), .val (.int (own_oct q0 (((3 : Int32) * p2) + (1 : Int32)) p1)), .unset] [(.int (own_oct q0 (((3 : Int32) * p2) + (2 : Int32)) p1))]) := fun t k => K5 _ (st6 _ k)
  have K8 : own_K p e below SE T6 (mkF m 36 #[.val (.long q0), .second, .val (.int p1), .val (.int p2), .val (.int p3), .val (.int (own_oct q0 ((3 : Int32) * p2) p1)), .val (.int (own_oct q0 (((3 : Int32) * p2) + (1 : Int32)) p1)), .val (.int (own_oct q0 (((3 : Int32) * p2) + (2 : Int32)) p1))] [(.int p3)]) := by
    intro t k
    refine K6 _ ?_
    refine XS.istore X6.here hx rfl (hb hby d4_32) rfl (l' := #[.val (.long q0), .second, .val (.int p1), .val (.int p2), .val (.int p3), .val (.int (own_oct q0 ((3 : Int32) * p2) p1)), .val (.int (own_oct q0 (((3 : Int32) * p2) + (1 : Int32)) p1)), .val (.int (own_oct q0 (((3 : Int32) * p2) + (2 : Int32)) p1))]) rfl ?_
    show own_S p e below T6 (mkF m 34 #[.val (.long q0), .second, .val (.int p1), .val (.int p2), .val (.int p3), .val (.int (own_oct q0 ((3 : Int32) * p2) p1)), .val (.int (own_oct q0 (((3 : Int32) * p2) + (1 : Int32)) p1)), .val (.int (own_oct q0 (((3 : Int32) * p2) + (2 : Int32)) p1))] []) _
    refine XS.iload X6.here hx rfl (hb hby d4_34) rfl ?_
    exact k
  by_cases c36_7 : p3 = 0
  · skip
    have K9 : own_K p e below SE T6 (mkF m 43 #[.val (.long q0), .second, .val (.int p1), .val (.int p2), .val (.int p3), .val (.int (own_oct q0 ((3 : Int32) * p2) p1)), .val (.int (own_oct q0 (((3 : Int32) * p2) + (1 : Int32)) p1)), .val (.int (own_oct q0 (((3 : Int32) * p2) + (2 : Int32)) p1))] [(.int ((own_oct q0 ((3 : Int32) * p2) p1) >>> ((2 : Int32) &&& 31)))]) := by
      intro t k
      refine K8 _ ?_
      refine XS.ifNo X6.here hx rfl (hb hby d4_36) rfl (XT.i0_ne_f c36_7) ?_
      show own_S p e below T6 (mkF m 39 #[.val (.long q0), .second, .val (.int p1), .val (.int p2), .val (.int p3), .val (.int (own_oct q0 ((3 : Int32) * p2) p1)), .val (.int (own_oct q0 (((3 : Int32) * p2) + (1 : Int32)) p1)), .val (.int (own_oct q0 (((3 : Int32) * p2) + (2 : Int32)) p1))] []) _
      refine XS.iload X6.here hx rfl (hb hby d4_39) rfl ?_
      show own_S p e below T6 (mkF m 41 #[.val (.long q0), .second, .val (.int p1), .val (.int p2), .val (.int p3), .val (.int (own_oct q0 ((3 : Int32) * p2) p1)), .val (.int (own_oct q0 (((3 : Int32) * p2) + (1 : Int32)) p1)), .val (.int (own_oct q0 (((3 : Int32) * p2) + (2 : Int32)) p1))] [(.int (own_oct q0 ((3 : Int32) * p2) p1))]) _
      refine XS.iconst X6.here hx rfl (hb hby d4_41) ?_
      show own_S p e below T6 (mkF m 42 #[.val (.long q0), .second, .val (.int p1), .val (.int p2), .val (.int p3), .val (.int (own_oct q0 ((3 : Int32) * p2) p1)), .val (.int (own_oct q0 (((3 : Int32) * p2) + (1 : Int32)) p1)), .val (.int (own_oct q0 (((3 : Int32) * p2) + (2 : Int32)) p1))] [(.int (2 : Int32)), (.int (own_oct q0 ((3 : Int32) * p2) p1))]) _
      refine XS.ishr X6.here hx rfl (hb hby d4_42) rfl ?_
      exact k
    obtain ⟨fs, hr, hrun, hended, hW, hsame⟩ := X6.leave (v := some (.int ((own_oct q0 ((3 : Int32) * p2) p1) >>> ((2 : Int32) &&& 31)))) (fun h => by rw [Bd.returns] at h; cases h)
    refine ⟨_, _, K9 _ ?_, hrun, hended, _, _, rfl, ?_, ⟨_, rfl⟩, hW, hsame.mono (by decide) (by decide)⟩
    · exact retI X6 hx Bd.returns (hb hby d4_43) hr
    · show Q4 Z q0 p1 p2 p3 h0 n0 _ T6.heap _
      rw [e6]
      exact ⟨(by unfold own_sx; simp only [if_pos c36_7]), N6, rfl⟩
  · skip
    have K11 : own_K p e below SE T6 (mkF m 47 #[.val (.long q0), .second, .val (.int p1), .val (.int p2), .val (.int p3), .val (.int (own_oct q0 ((3 : Int32) * p2) p1)), .val (.int (own_oct q0 (((3 : Int32) * p2) + (1 : Int32)) p1)), .val (.int (own_oct q0 (((3 : Int32) * p2) + (2 : Int32)) p1))] [(.int (1 : Int32)), (.int p3)]) := by
      intro t k
      refine K8 _ ?_
      refine XS.ifYes X6.here hx rfl (pc0 := 36) (pc' := 44) rfl (hb hby d4_36) rfl (XT.i0_ne_t c36_7) (by decide) (by decide) ?_
      show own_S p e below T6 (mkF m 44 #[.val (.long q0), .second, .val (.int p1), .val (.int p2), .val (.int p3), .val (.int (own_oct q0 ((3 : Int32) * p2) p1)), .val (.int (own_oct q0 (((3 : Int32) * p2) + (1 : Int32)) p1)), .val (.int (own_oct q0 (((3 : Int32) * p2) + (2 : Int32)) p1))] []) _
      refine XS.iload X6.here hx rfl (hb hby d4_44) rfl ?_
      show own_S p e below T6 (mkF m 46 #[.val (.long q0), .second, .val (.int p1), .val (.int p2), .val (.int p3), .val (.int (own_oct q0 ((3 : Int32) * p2) p1)), .val (.int (own_oct q0 (((3 : Int32) * p2) + (1 : Int32)) p1)), .val (.int (own_oct q0 (((3 : Int32) * p2) + (2 : Int32)) p1))] [(.int p3)]) _
      refine XS.iconst X6.here hx rfl (hb hby d4_46) ?_
      exact k
    by_cases c47_10 : p3 = (1 : Int32)
    · skip
      have K12 : own_K p e below SE T6 (mkF m 61 #[.val (.long q0), .second, .val (.int p1), .val (.int p2), .val (.int p3), .val (.int (own_oct q0 ((3 : Int32) * p2) p1)), .val (.int (own_oct q0 (((3 : Int32) * p2) + (1 : Int32)) p1)), .val (.int (own_oct q0 (((3 : Int32) * p2) + (2 : Int32)) p1))] [(.int ((((own_oct q0 ((3 : Int32) * p2) p1) &&& (3 : Int32)) <<< ((4 : Int32) &&& 31)) ||| ((own_oct q0 (((3 : Int32) * p2) + (1 : Int32)) p1) >>> ((4 : Int32) &&& 31))))]) := by
        intro t k
        refine K11 _ ?_
        refine XS.icmpNo X6.here hx rfl (hb hby d4_47) rfl (XT.ii_ne_f c47_10) ?_
        show own_S p e below T6 (mkF m 50 #[.val (.long q0), .second, .val (.int p1), .val (.int p2), .val (.int p3), .val (.int (own_oct q0 ((3 : Int32) * p2) p1)), .val (.int (own_oct q0 (((3 : Int32) * p2) + (1 : Int32)) p1)), .val (.int (own_oct q0 (((3 : Int32) * p2) + (2 : Int32)) p1))] []) _
        refine XS.iload X6.here hx rfl (hb hby d4_50) rfl ?_
        show own_S p e below T6 (mkF m 52 #[.val (.long q0), .second, .val (.int p1), .val (.int p2), .val (.int p3), .val (.int (own_oct q0 ((3 : Int32) * p2) p1)), .val (.int (own_oct q0 (((3 : Int32) * p2) + (1 : Int32)) p1)), .val (.int (own_oct q0 (((3 : Int32) * p2) + (2 : Int32)) p1))] [(.int (own_oct q0 ((3 : Int32) * p2) p1))]) _
        refine XS.iconst X6.here hx rfl (hb hby d4_52) ?_
        show own_S p e below T6 (mkF m 53 #[.val (.long q0), .second, .val (.int p1), .val (.int p2), .val (.int p3), .val (.int (own_oct q0 ((3 : Int32) * p2) p1)), .val (.int (own_oct q0 (((3 : Int32) * p2) + (1 : Int32)) p1)), .val (.int (own_oct q0 (((3 : Int32) * p2) + (2 : Int32)) p1))] [(.int (3 : Int32)), (.int (own_oct q0 ((3 : Int32) * p2) p1))]) _
        refine XS.iand X6.here hx rfl (hb hby d4_53) rfl ?_
        show own_S p e below T6 (mkF m 54 #[.val (.long q0), .second, .val (.int p1), .val (.int p2), .val (.int p3), .val (.int (own_oct q0 ((3 : Int32) * p2) p1)), .val (.int (own_oct q0 (((3 : Int32) * p2) + (1 : Int32)) p1)), .val (.int (own_oct q0 (((3 : Int32) * p2) + (2 : Int32)) p1))] [(.int ((own_oct q0 ((3 : Int32) * p2) p1) &&& (3 : Int32)))]) _
        refine XS.iconst X6.here hx rfl (hb hby d4_54) ?_
        show own_S p e below T6 (mkF m 55 #[.val (.long q0), .second, .val (.int p1), .val (.int p2), .val (.int p3), .val (.int (own_oct q0 ((3 : Int32) * p2) p1)), .val (.int (own_oct q0 (((3 : Int32) * p2) + (1 : Int32)) p1)), .val (.int (own_oct q0 (((3 : Int32) * p2) + (2 : Int32)) p1))] [(.int (4 : Int32)), (.int ((own_oct q0 ((3 : Int32) * p2) p1) &&& (3 : Int32)))]) _
        refine XS.ishl X6.here hx rfl (hb hby d4_55) rfl ?_
        show own_S p e below T6 (mkF m 56 #[.val (.long q0), .second, .val (.int p1), .val (.int p2), .val (.int p3), .val (.int (own_oct q0 ((3 : Int32) * p2) p1)), .val (.int (own_oct q0 (((3 : Int32) * p2) + (1 : Int32)) p1)), .val (.int (own_oct q0 (((3 : Int32) * p2) + (2 : Int32)) p1))] [(.int (((own_oct q0 ((3 : Int32) * p2) p1) &&& (3 : Int32)) <<< ((4 : Int32) &&& 31)))]) _
        refine XS.iload X6.here hx rfl (hb hby d4_56) rfl ?_
        show own_S p e below T6 (mkF m 58 #[.val (.long q0), .second, .val (.int p1), .val (.int p2), .val (.int p3), .val (.int (own_oct q0 ((3 : Int32) * p2) p1)), .val (.int (own_oct q0 (((3 : Int32) * p2) + (1 : Int32)) p1)), .val (.int (own_oct q0 (((3 : Int32) * p2) + (2 : Int32)) p1))] [(.int (own_oct q0 (((3 : Int32) * p2) + (1 : Int32)) p1)), (.int (((own_oct q0 ((3 : Int32) * p2) p1) &&& (3 : Int32)) <<< ((4 : Int32) &&& 31)))]) _
        refine XS.iconst X6.here hx rfl (hb hby d4_58) ?_
        show own_S p e below T6 (mkF m 59 #[.val (.long q0), .second, .val (.int p1), .val (.int p2), .val (.int p3), .val (.int (own_oct q0 ((3 : Int32) * p2) p1)), .val (.int (own_oct q0 (((3 : Int32) * p2) + (1 : Int32)) p1)), .val (.int (own_oct q0 (((3 : Int32) * p2) + (2 : Int32)) p1))] [(.int (4 : Int32)), (.int (own_oct q0 (((3 : Int32) * p2) + (1 : Int32)) p1)), (.int (((own_oct q0 ((3 : Int32) * p2) p1) &&& (3 : Int32)) <<< ((4 : Int32) &&& 31)))]) _
        refine XS.ishr X6.here hx rfl (hb hby d4_59) rfl ?_
        show own_S p e below T6 (mkF m 60 #[.val (.long q0), .second, .val (.int p1), .val (.int p2), .val (.int p3), .val (.int (own_oct q0 ((3 : Int32) * p2) p1)), .val (.int (own_oct q0 (((3 : Int32) * p2) + (1 : Int32)) p1)), .val (.int (own_oct q0 (((3 : Int32) * p2) + (2 : Int32)) p1))] [(.int ((own_oct q0 (((3 : Int32) * p2) + (1 : Int32)) p1) >>> ((4 : Int32) &&& 31))), (.int (((own_oct q0 ((3 : Int32) * p2) p1) &&& (3 : Int32)) <<< ((4 : Int32) &&& 31)))]) _
        refine XS.ior X6.here hx rfl (hb hby d4_60) rfl ?_
        exact k
      obtain ⟨fs, hr, hrun, hended, hW, hsame⟩ := X6.leave (v := some (.int ((((own_oct q0 ((3 : Int32) * p2) p1) &&& (3 : Int32)) <<< ((4 : Int32) &&& 31)) ||| ((own_oct q0 (((3 : Int32) * p2) + (1 : Int32)) p1) >>> ((4 : Int32) &&& 31))))) (fun h => by rw [Bd.returns] at h; cases h)
      refine ⟨_, _, K12 _ ?_, hrun, hended, _, _, rfl, ?_, ⟨_, rfl⟩, hW, hsame.mono (by decide) (by decide)⟩
      · exact retI X6 hx Bd.returns (hb hby d4_61) hr
      · show Q4 Z q0 p1 p2 p3 h0 n0 _ T6.heap _
        rw [e6]
        exact ⟨(by unfold own_sx; simp only [if_neg c36_7, if_pos c47_10]), N6, rfl⟩
    · skip
      have K14 : own_K p e below SE T6 (mkF m 65 #[.val (.long q0), .second, .val (.int p1), .val (.int p2), .val (.int p3), .val (.int (own_oct q0 ((3 : Int32) * p2) p1)), .val (.int (own_oct q0 (((3 : Int32) * p2) + (1 : Int32)) p1)), .val (.int (own_oct q0 (((3 : Int32) * p2) + (2 : Int32)) p1))] [(.int (2 : Int32)), (.int p3)]) := by
        intro t k
        refine K11 _ ?_
        refine XS.icmpYes X6.here hx rfl (pc0 := 47) (pc' := 62) rfl (hb hby d4_47) rfl (XT.ii_ne_t c47_10) (by decide) (by decide) ?_
        show own_S p e below T6 (mkF m 62 #[.val (.long q0), .second, .val (.int p1), .val (.int p2), .val (.int p3), .val (.int (own_oct q0 ((3 : Int32) * p2) p1)), .val (.int (own_oct q0 (((3 : Int32) * p2) + (1 : Int32)) p1)), .val (.int (own_oct q0 (((3 : Int32) * p2) + (2 : Int32)) p1))] []) _
        refine XS.iload X6.here hx rfl (hb hby d4_62) rfl ?_
        show own_S p e below T6 (mkF m 64 #[.val (.long q0), .second, .val (.int p1), .val (.int p2), .val (.int p3), .val (.int (own_oct q0 ((3 : Int32) * p2) p1)), .val (.int (own_oct q0 (((3 : Int32) * p2) + (1 : Int32)) p1)), .val (.int (own_oct q0 (((3 : Int32) * p2) + (2 : Int32)) p1))] [(.int p3)]) _
        refine XS.iconst X6.here hx rfl (hb hby d4_64) ?_
        exact k
      by_cases c65_13 : p3 = (2 : Int32)
      · skip
        have K15 : own_K p e below SE T6 (mkF m 81 #[.val (.long q0), .second, .val (.int p1), .val (.int p2), .val (.int p3), .val (.int (own_oct q0 ((3 : Int32) * p2) p1)), .val (.int (own_oct q0 (((3 : Int32) * p2) + (1 : Int32)) p1)), .val (.int (own_oct q0 (((3 : Int32) * p2) + (2 : Int32)) p1))] [(.int ((((own_oct q0 (((3 : Int32) * p2) + (1 : Int32)) p1) &&& (15 : Int32)) <<< ((2 : Int32) &&& 31)) ||| ((own_oct q0 (((3 : Int32) * p2) + (2 : Int32)) p1) >>> ((6 : Int32) &&& 31))))]) := by
          intro t k
          refine K14 _ ?_
          refine XS.icmpNo X6.here hx rfl (hb hby d4_65) rfl (XT.ii_ne_f c65_13) ?_
          show own_S p e below T6 (mkF m 68 #[.val (.long q0), .second, .val (.int p1), .val (.int p2), .val (.int p3), .val (.int (own_oct q0 ((3 : Int32) * p2) p1)), .val (.int (own_oct q0 (((3 : Int32) * p2) + (1 : Int32)) p1)), .val (.int (own_oct q0 (((3 : Int32) * p2) + (2 : Int32)) p1))] []) _
          refine XS.iload X6.here hx rfl (hb hby d4_68) rfl ?_
          show own_S p e below T6 (mkF m 70 #[.val (.long q0), .second, .val (.int p1), .val (.int p2), .val (.int p3), .val (.int (own_oct q0 ((3 : Int32) * p2) p1)), .val (.int (own_oct q0 (((3 : Int32) * p2) + (1 : Int32)) p1)), .val (.int (own_oct q0 (((3 : Int32) * p2) + (2 : Int32)) p1))] [(.int (own_oct q0 (((3 : Int32) * p2) + (1 : Int32)) p1))]) _
          refine XS.bipush X6.here hx rfl (hb hby d4_70) ?_
          show own_S p e below T6 (mkF m 72 #[.val (.long q0), .second, .val (.int p1), .val (.int p2), .val (.int p3), .val (.int (own_oct q0 ((3 : Int32) * p2) p1)), .val (.int (own_oct q0 (((3 : Int32) * p2) + (1 : Int32)) p1)), .val (.int (own_oct q0 (((3 : Int32) * p2) + (2 : Int32)) p1))] [(.int (15 : Int32)), (.int (own_oct q0 (((3 : Int32) * p2) + (1 : Int32)) p1))]) _
          refine XS.iand X6.here hx rfl (hb hby d4_72) rfl ?_
          show own_S p e below T6 (mkF m 73 #[.val (.long q0), .second, .val (.int p1), .val (.int p2), .val (.int p3), .val (.int (own_oct q0 ((3 : Int32) * p2) p1)), .val (.int (own_oct q0 (((3 : Int32) * p2) + (1 : Int32)) p1)), .val (.int (own_oct q0 (((3 : Int32) * p2) + (2 : Int32)) p1))] [(.int ((own_oct q0 (((3 : Int32) * p2) + (1 : Int32)) p1) &&& (15 : Int32)))]) _
          refine XS.iconst X6.here hx rfl (hb hby d4_73) ?_
          show own_S p e below T6 (mkF m 74 #[.val (.long q0), .second, .val (.int p1), .val (.int p2), .val (.int p3), .val (.int (own_oct q0 ((3 : Int32) * p2) p1)), .val (.int (own_oct q0 (((3 : Int32) * p2) + (1 : Int32)) p1)), .val (.int (own_oct q0 (((3 : Int32) * p2) + (2 : Int32)) p1))] [(.int (2 : Int32)), (.int ((own_oct q0 (((3 : Int32) * p2) + (1 : Int32)) p1) &&& (15 : Int32)))]) _
          refine XS.ishl X6.here hx rfl (hb hby d4_74) rfl ?_
          show own_S p e below T6 (mkF m 75 #[.val (.long q0), .second, .val (.int p1), .val (.int p2), .val (.int p3), .val (.int (own_oct q0 ((3 : Int32) * p2) p1)), .val (.int (own_oct q0 (((3 : Int32) * p2) + (1 : Int32)) p1)), .val (.int (own_oct q0 (((3 : Int32) * p2) + (2 : Int32)) p1))] [(.int (((own_oct q0 (((3 : Int32) * p2) + (1 : Int32)) p1) &&& (15 : Int32)) <<< ((2 : Int32) &&& 31)))]) _
          refine XS.iload X6.here hx rfl (hb hby d4_75) rfl ?_
          show own_S p e below T6 (mkF m 77 #[.val (.long q0), .second, .val (.int p1), .val (.int p2), .val (.int p3), .val (.int (own_oct q0 ((3 : Int32) * p2) p1)), .val (.int (own_oct q0 (((3 : Int32) * p2) + (1 : Int32)) p1)), .val (.int (own_oct q0 (((3 : Int32) * p2) + (2 : Int32)) p1))] [(.int (own_oct q0 (((3 : Int32) * p2) + (2 : Int32)) p1)), (.int (((own_oct q0 (((3 : Int32) * p2) + (1 : Int32)) p1) &&& (15 : Int32)) <<< ((2 : Int32) &&& 31)))]) _
          refine XS.bipush X6.here hx rfl (hb hby d4_77) ?_
          show own_S p e below T6 (mkF m 79 #[.val (.long q0), .second, .val (.int p1), .val (.int p2), .val (.int p3), .val (.int (own_oct q0 ((3 : Int32) * p2) p1)), .val (.int (own_oct q0 (((3 : Int32) * p2) + (1 : Int32)) p1)), .val (.int (own_oct q0 (((3 : Int32) * p2) + (2 : Int32)) p1))] [(.int (6 : Int32)), (.int (own_oct q0 (((3 : Int32) * p2) + (2 : Int32)) p1)), (.int (((own_oct q0 (((3 : Int32) * p2) + (1 : Int32)) p1) &&& (15 : Int32)) <<< ((2 : Int32) &&& 31)))]) _
          refine XS.ishr X6.here hx rfl (hb hby d4_79) rfl ?_
          show own_S p e below T6 (mkF m 80 #[.val (.long q0), .second, .val (.int p1), .val (.int p2), .val (.int p3), .val (.int (own_oct q0 ((3 : Int32) * p2) p1)), .val (.int (own_oct q0 (((3 : Int32) * p2) + (1 : Int32)) p1)), .val (.int (own_oct q0 (((3 : Int32) * p2) + (2 : Int32)) p1))] [(.int ((own_oct q0 (((3 : Int32) * p2) + (2 : Int32)) p1) >>> ((6 : Int32) &&& 31))), (.int (((own_oct q0 (((3 : Int32) * p2) + (1 : Int32)) p1) &&& (15 : Int32)) <<< ((2 : Int32) &&& 31)))]) _
          refine XS.ior X6.here hx rfl (hb hby d4_80) rfl ?_
          exact k
        obtain ⟨fs, hr, hrun, hended, hW, hsame⟩ := X6.leave (v := some (.int ((((own_oct q0 (((3 : Int32) * p2) + (1 : Int32)) p1) &&& (15 : Int32)) <<< ((2 : Int32) &&& 31)) ||| ((own_oct q0 (((3 : Int32) * p2) + (2 : Int32)) p1) >>> ((6 : Int32) &&& 31))))) (fun h => by rw [Bd.returns] at h; cases h)
        refine ⟨_, _, K15 _ ?_, hrun, hended, _, _, rfl, ?_, ⟨_, rfl⟩, hW, hsame.mono (by decide) (by decide)⟩
        · exact retI X6 hx Bd.returns (hb hby d4_81) hr
        · show Q4 Z q0 p1 p2 p3 h0 n0 _ T6.heap _
          rw [e6]
          exact ⟨(by unfold own_sx; simp only [if_neg c36_7, if_neg c47_10, if_pos c65_13]), N6, rfl⟩
      · skip
        have K16 : own_K p e below SE T6 (mkF m 87 #[.val (.long q0), .second, .val (.int p1), .val (.int p2), .val (.int p3), .val (.int (own_oct q0 ((3 : Int32) * p2) p1)), .val (.int (own_oct q0 (((3 : Int32) * p2) + (1 : Int32)) p1)), .val (.int (own_oct q0 (((3 : Int32) * p2) + (2 : Int32)) p1))] [(.int ((own_oct q0 (((3 : Int32) * p2) + (2 : Int32)) p1) &&& (63 : Int32)))]) := by
          intro t k
          refine K14 _ ?_
          refine XS.icmpYes X6.here hx rfl (pc0 := 65) (pc' := 82) rfl (hb hby d4_65) rfl (XT.ii_ne_t c65_13) (by decide) (by decide) ?_
          show own_S p e below T6 (mkF m 82 #[.val (.long q0), .second, .val (.int p1), .val (.int p2), .val (.int p3), .val (.int (own_oct q0 ((3 : Int32) * p2) p1)), .val (.int (own_oct q0 (((3 : Int32) * p2) + (1 : Int32)) p1)), .val (.int (own_oct q0 (((3 : Int32) * p2) + (2 : Int32)) p1))] []) _
          refine XS.iload X6.here hx rfl (hb hby d4_82) rfl ?_
          show own_S p e below T6 (mkF m 84 #[.val (.long q0), .second, .val (.int p1), .val (.int p2), .val (.int p3), .val (.int (own_oct q0 ((3 : Int32) * p2) p1)), .val (.int (own_oct q0 (((3 : Int32) * p2) + (1 : Int32)) p1)), .val (.int (own_oct q0 (((3 : Int32) * p2) + (2 : Int32)) p1))] [(.int (own_oct q0 (((3 : Int32) * p2) + (2 : Int32)) p1))]) _
          refine XS.bipush X6.here hx rfl (hb hby d4_84) ?_
          show own_S p e below T6 (mkF m 86 #[.val (.long q0), .second, .val (.int p1), .val (.int p2), .val (.int p3), .val (.int (own_oct q0 ((3 : Int32) * p2) p1)), .val (.int (own_oct q0 (((3 : Int32) * p2) + (1 : Int32)) p1)), .val (.int (own_oct q0 (((3 : Int32) * p2) + (2 : Int32)) p1))] [(.int (63 : Int32)), (.int (own_oct q0 (((3 : Int32) * p2) + (2 : Int32)) p1))]) _
          refine XS.iand X6.here hx rfl (hb hby d4_86) rfl ?_
          exact k
        obtain ⟨fs, hr, hrun, hended, hW, hsame⟩ := X6.leave (v := some (.int ((own_oct q0 (((3 : Int32) * p2) + (2 : Int32)) p1) &&& (63 : Int32)))) (fun h => by rw [Bd.returns] at h; cases h)
        refine ⟨_, _, K16 _ ?_, hrun, hended, _, _, rfl, ?_, ⟨_, rfl⟩, hW, hsame.mono (by decide) (by decide)⟩
        · exact retI X6 hx Bd.returns (hb hby d4_87) hr
        · show Q4 Z q0 p1 p2 p3 h0 n0 _ T6.heap _
          rw [e6]
          exact ⟨(by unfold own_sx; simp only [if_neg c36_7, if_neg c47_10, if_neg c65_13]), N6, rfl⟩
theorem d6_0 : decode method_6_code 0 = .ok (.iload_n 0, 1) := by decide +kernel
theorem d6_1 : decode method_6_code 1 = .ok (.bipush 26, 2) := by decide +kernel
theorem d6_3 : decode method_6_code 3 = .ok (.if_icmp .ge 8, 3) := by decide +kernel
theorem d6_6 : decode method_6_code 6 = .ok (.bipush 65, 2) := by decide +kernel
theorem d6_8 : decode method_6_code 8 = .ok (.iload_n 0, 1) := by decide +kernel
theorem d6_9 : decode method_6_code 9 = .ok (.iadd, 1) := by decide +kernel
theorem d6_10 : decode method_6_code 10 = .ok (.ireturn, 1) := by decide +kernel
theorem d6_11 : decode method_6_code 11 = .ok (.iload_n 0, 1) := by decide +kernel
theorem d6_12 : decode method_6_code 12 = .ok (.bipush 52, 2) := by decide +kernel
theorem d6_14 : decode method_6_code 14 = .ok (.if_icmp .ge 11, 3) := by decide +kernel
theorem d6_17 : decode method_6_code 17 = .ok (.bipush 97, 2) := by decide +kernel
theorem d6_19 : decode method_6_code 19 = .ok (.iload_n 0, 1) := by decide +kernel
theorem d6_20 : decode method_6_code 20 = .ok (.bipush 26, 2) := by decide +kernel
theorem d6_22 : decode method_6_code 22 = .ok (.isub, 1) := by decide +kernel
theorem d6_23 : decode method_6_code 23 = .ok (.iadd, 1) := by decide +kernel
theorem d6_24 : decode method_6_code 24 = .ok (.ireturn, 1) := by decide +kernel
theorem d6_25 : decode method_6_code 25 = .ok (.iload_n 0, 1) := by decide +kernel
theorem d6_26 : decode method_6_code 26 = .ok (.bipush 62, 2) := by decide +kernel
theorem d6_28 : decode method_6_code 28 = .ok (.if_icmp .ge 11, 3) := by decide +kernel
theorem d6_31 : decode method_6_code 31 = .ok (.bipush 48, 2) := by decide +kernel
theorem d6_33 : decode method_6_code 33 = .ok (.iload_n 0, 1) := by decide +kernel
theorem d6_34 : decode method_6_code 34 = .ok (.bipush 52, 2) := by decide +kernel
theorem d6_36 : decode method_6_code 36 = .ok (.isub, 1) := by decide +kernel
theorem d6_37 : decode method_6_code 37 = .ok (.iadd, 1) := by decide +kernel
theorem d6_38 : decode method_6_code 38 = .ok (.ireturn, 1) := by decide +kernel
theorem d6_39 : decode method_6_code 39 = .ok (.iload_n 0, 1) := by decide +kernel
theorem d6_40 : decode method_6_code 40 = .ok (.bipush 62, 2) := by decide +kernel
theorem d6_42 : decode method_6_code 42 = .ok (.if_icmp .ne 6, 3) := by decide +kernel
theorem d6_45 : decode method_6_code 45 = .ok (.bipush 45, 2) := by decide +kernel
theorem d6_47 : decode method_6_code 47 = .ok (.ireturn, 1) := by decide +kernel
theorem d6_48 : decode method_6_code 48 = .ok (.bipush 95, 2) := by decide +kernel
theorem d6_50 : decode method_6_code 50 = .ok (.ireturn, 1) := by decide +kernel
theorem ef_6 (m : MethodId) (p0 : Int32) : entryFrame m #[(.int p0)] 1 = mkF m 0 #[.val (.int p0)] [] := by first | (simp [entryFrame, mkF, argsToLocals, Value.category]; done) | rfl
def Q6 (Z : State) (p0 : Int32) (h0 : Heap) (n0 : Nat) (v : Option Value) (h : Heap) (L : List Loc) : Prop := v = some (.int (own_ch p0)) ∧ Fr n0 L ∧ h = h0
set_option maxRecDepth 65536 in
set_option maxHeartbeats 40000000 in
theorem rm6 (l : Launch) (Z : State) (a0 : Array Value) (hw : ∀ d ∈ tables_1, d.before a0 Z = true) (ws : List Jvm.Cond) (p0 : Int32) (h0 : Heap) (n0 : Nat) (Z0 : n0 ≤ h0.size) :
    MetFree l (⟨"com/example/whorl/whorl/Base64urlTextPinLaw", "ch", "(I)I"⟩ : MethodName) (head1 (Jvm.Cond.code (⟨"com/example/whorl/whorl/Base64urlTextPinLaw", "ch", "(I)I"⟩ : MethodName) method_6_code 1 (some .int) :: ws) ({ frames := 0, cells := 0, slots := 0, locals := 0 } : Room)) (fun a U => a = #[(.int p0)] ∧ Z.Warmed39 U.vm ∧ U.heap = h0) (fun _ _ _ _ _ => True) (fun _ U o U' => ∃ v L, o = .returned v ∧ Q6 Z p0 h0 n0 v U'.heap L ∧ FrameEnd U o U' L ({ frames := 0, cells := 0, slots := 0, locals := 0 } : Room).cells ({ frames := 0, cells := 0, slots := 0, locals := 0 } : Room).slots) := by
  refine MetFree.of_bodySF (plainFor_of_name pn_5) hisR ?_
  intro p e s m args below meth c s₁ Bd hml0 hP hK
  obtain ⟨rfl, hZ, hh⟩ := hP
  have hx := Bd.exec
  have hby := Bd.bytes
  have hml : c.maxLocals = 1 := hml0
  have hown : s.vm.findClass "com/example/whorl/whorl/Base64urlTextPinLaw" = some m.cls := findClass_of_methodNamed Bd.named
  have hnm := (name_of_methodNamed Bd.named Bd.method).1
  have X0 : Stand p l e ({ frames := 0, cells := 0, slots := 0, locals := 0 } : Room) s m #[(.int p0)] below meth c s₁ [] 0 0 := Stand.of_body Bd
  have e0 : s₁.heap = h0 := by rw [← hh, Bd.state]; rfl
  have N0 := Fr.nil n0
  have K0 : ∀ t, Steps p.tables e below (s₁.setTop (mkF m 0 #[.val (.int p0)] [])) t → Steps p.tables e below (s₁.setTop (entryFrame m #[(.int p0)] 1)) t := fun t k => castTop (ef_6 m p0) k
  generalize s₁.setTop (entryFrame m #[(.int p0)] 1) = SE at K0 ⊢
  have K2 : own_K p e below SE s₁ (mkF m 3 #[.val (.int p0)] [(.int (26 : Int32)), (.int p0)]) := by
    intro t k
    refine K0 _ ?_
    refine XS.iloadN X0.here hx rfl (hb hby d6_0) rfl ?_
    show own_S p e below s₁ (mkF m 1 #[.val (.int p0)] [(.int p0)]) _
    refine XS.bipush X0.here hx rfl (hb hby d6_1) ?_
    exact k
  by_cases c3_1 : p0 < (26 : Int32)
  · skip
    have K3 : own_K p e below SE s₁ (mkF m 10 #[.val (.int p0)] [(.int ((65 : Int32) + p0))]) := by
      intro t k
      refine K2 _ ?_
      refine XS.icmpNo X0.here hx rfl (hb hby d6_3) rfl (XT.ii_ge_f c3_1) ?_
      show own_S p e below s₁ (mkF m 6 #[.val (.int p0)] []) _
      refine XS.bipush X0.here hx rfl (hb hby d6_6) ?_
      show own_S p e below s₁ (mkF m 8 #[.val (.int p0)] [(.int (65 : Int32))]) _
      refine XS.iloadN X0.here hx rfl (hb hby d6_8) rfl ?_
      show own_S p e below s₁ (mkF m 9 #[.val (.int p0)] [(.int p0), (.int (65 : Int32))]) _
      refine XS.iadd X0.here hx rfl (hb hby d6_9) rfl ?_
      exact k
    obtain ⟨fs, hr, hrun, hended, hW, hsame⟩ := X0.leave (v := some (.int ((65 : Int32) + p0))) (fun h => by rw [Bd.returns] at h; cases h)
    refine ⟨_, _, K3 _ ?_, hrun, hended, _, _, rfl, ?_, ⟨_, rfl⟩, hW, hsame.mono (by decide) (by decide)⟩
    · exact retI X0 hx Bd.returns (hb hby d6_10) hr
    · show Q6 Z p0 h0 n0 _ s₁.heap _
      rw [e0]
      exact ⟨(by unfold own_ch; simp only [if_pos c3_1]), N0, rfl⟩
  · skip
    have K5 : own_K p e below SE s₁ (mkF m 14 #[.val (.int p0)] [(.int (52 : Int32)), (.int p0)]) := by
      intro t k
      refine K2 _ ?_
      refine XS.icmpYes X0.here hx rfl (pc0 := 3) (pc' := 11) rfl (hb hby d6_3) rfl (XT.ii_ge_t c3_1) (by decide) (by decide) ?_
      show own_S p e below s₁ (mkF m 11 #[.val (.int p0)] []) _
      refine XS.iloadN X0.here hx rfl (hb hby d6_11) rfl ?_
      show own_S p e below s₁ (mkF m 12 #[.val (.int p0)] [(.int p0)]) _
      refine XS.bipush X0.here hx rfl (hb hby d6_12) ?_
      exact k
    by_cases c14_4 : p0 < (52 : Int32)
    · skip
      have K6 : own_K p e below SE s₁ (mkF m 24 #[.val (.int p0)] [(.int ((97 : Int32) + (p0 - (26 : Int32))))]) := by
        intro t k
        refine K5 _ ?_
        refine XS.icmpNo X0.here hx rfl (hb hby d6_14) rfl (XT.ii_ge_f c14_4) ?_
        show own_S p e below s₁ (mkF m 17 #[.val (.int p0)] []) _
        refine XS.bipush X0.here hx rfl (hb hby d6_17) ?_
        show own_S p e below s₁ (mkF m 19 #[.val (.int p0)] [(.int (97 : Int32))]) _
        refine XS.iloadN X0.here hx rfl (hb hby d6_19) rfl ?_
        show own_S p e below s₁ (mkF m 20 #[.val (.int p0)] [(.int p0), (.int (97 : Int32))]) _
        refine XS.bipush X0.here hx rfl (hb hby d6_20) ?_
        show own_S p e below s₁ (mkF m 22 #[.val (.int p0)] [(.int (26 : Int32)), (.int p0), (.int (97 : Int32))]) _
        refine XS.isub X0.here hx rfl (hb hby d6_22) rfl ?_
        show own_S p e below s₁ (mkF m 23 #[.val (.int p0)] [(.int (p0 - (26 : Int32))), (.int (97 : Int32))]) _
        refine XS.iadd X0.here hx rfl (hb hby d6_23) rfl ?_
        exact k
      obtain ⟨fs, hr, hrun, hended, hW, hsame⟩ := X0.leave (v := some (.int ((97 : Int32) + (p0 - (26 : Int32))))) (fun h => by rw [Bd.returns] at h; cases h)
      refine ⟨_, _, K6 _ ?_, hrun, hended, _, _, rfl, ?_, ⟨_, rfl⟩, hW, hsame.mono (by decide) (by decide)⟩
      · exact retI X0 hx Bd.returns (hb hby d6_24) hr
      · show Q6 Z p0 h0 n0 _ s₁.heap _
        rw [e0]
        exact ⟨(by unfold own_ch; simp only [if_neg c3_1, if_pos c14_4]), N0, rfl⟩
    · skip
      have K8 : own_K p e below SE s₁ (mkF m 28 #[.val (.int p0)] [(.int (62 : Int32)), (.int p0)]) := by
        intro t k
        refine K5 _ ?_
        refine XS.icmpYes X0.here hx rfl (pc0 := 14) (pc' := 25) rfl (hb hby d6_14) rfl (XT.ii_ge_t c14_4) (by decide) (by decide) ?_
        show own_S p e below s₁ (mkF m 25 #[.val (.int p0)] []) _
        refine XS.iloadN X0.here hx rfl (hb hby d6_25) rfl ?_
        show own_S p e below s₁ (mkF m 26 #[.val (.int p0)] [(.int p0)]) _
        refine XS.bipush X0.here hx rfl (hb hby d6_26) ?_
        exact k
      by_cases c28_7 : p0 < (62 : Int32)
      · skip
        have K9 : own_K p e below SE s₁ (mkF m 38 #[.val (.int p0)] [(.int ((48 : Int32) + (p0 - (52 : Int32))))]) := by
          intro t k
          refine K8 _ ?_
          refine XS.icmpNo X0.here hx rfl (hb hby d6_28) rfl (XT.ii_ge_f c28_7) ?_
          show own_S p e below s₁ (mkF m 31 #[.val (.int p0)] []) _
          refine XS.bipush X0.here hx rfl (hb hby d6_31) ?_
          show own_S p e below s₁ (mkF m 33 #[.val (.int p0)] [(.int (48 : Int32))]) _
          refine XS.iloadN X0.here hx rfl (hb hby d6_33) rfl ?_
          show own_S p e below s₁ (mkF m 34 #[.val (.int p0)] [(.int p0), (.int (48 : Int32))]) _
          refine XS.bipush X0.here hx rfl (hb hby d6_34) ?_
          show own_S p e below s₁ (mkF m 36 #[.val (.int p0)] [(.int (52 : Int32)), (.int p0), (.int (48 : Int32))]) _
          refine XS.isub X0.here hx rfl (hb hby d6_36) rfl ?_
          show own_S p e below s₁ (mkF m 37 #[.val (.int p0)] [(.int (p0 - (52 : Int32))), (.int (48 : Int32))]) _
          refine XS.iadd X0.here hx rfl (hb hby d6_37) rfl ?_
          exact k
        obtain ⟨fs, hr, hrun, hended, hW, hsame⟩ := X0.leave (v := some (.int ((48 : Int32) + (p0 - (52 : Int32))))) (fun h => by rw [Bd.returns] at h; cases h)
        refine ⟨_, _, K9 _ ?_, hrun, hended, _, _, rfl, ?_, ⟨_, rfl⟩, hW, hsame.mono (by decide) (by decide)⟩
        · exact retI X0 hx Bd.returns (hb hby d6_38) hr
        · show Q6 Z p0 h0 n0 _ s₁.heap _
          rw [e0]
          exact ⟨(by unfold own_ch; simp only [if_neg c3_1, if_neg c14_4, if_pos c28_7]), N0, rfl⟩
      · skip
        have K11 : own_K p e below SE s₁ (mkF m 42 #[.val (.int p0)] [(.int (62 : Int32)), (.int p0)]) := by
          intro t k
          refine K8 _ ?_
          refine XS.icmpYes X0.here hx rfl (pc0 := 28) (pc' := 39) rfl (hb hby d6_28) rfl (XT.ii_ge_t c28_7) (by decide) (by decide) ?_
          show own_S p e below s₁ (mkF m 39 #[.val (.int p0)] []) _
          refine XS.iloadN X0.here hx rfl (hb hby d6_39) rfl ?_
          show own_S p e below s₁ (mkF m 40 #[.val (.int p0)] [(.int p0)]) _
          refine XS.bipush X0.here hx rfl (hb hby d6_40) ?_
          exact k
        by_cases c42_10 : p0 = (62 : Int32)
        · skip
          have K12 : own_K p e below SE s₁ (mkF m 47 #[.val (.int p0)] [(.int (45 : Int32))]) := by
            intro t k
            refine K11 _ ?_
            refine XS.icmpNo X0.here hx rfl (hb hby d6_42) rfl (XT.ii_ne_f c42_10) ?_
            show own_S p e below s₁ (mkF m 45 #[.val (.int p0)] []) _
            refine XS.bipush X0.here hx rfl (hb hby d6_45) ?_
            exact k
          obtain ⟨fs, hr, hrun, hended, hW, hsame⟩ := X0.leave (v := some (.int (45 : Int32))) (fun h => by rw [Bd.returns] at h; cases h)
          refine ⟨_, _, K12 _ ?_, hrun, hended, _, _, rfl, ?_, ⟨_, rfl⟩, hW, hsame.mono (by decide) (by decide)⟩
          · exact retI X0 hx Bd.returns (hb hby d6_47) hr
          · show Q6 Z p0 h0 n0 _ s₁.heap _
            rw [e0]
            exact ⟨(by unfold own_ch; simp only [if_neg c3_1, if_neg c14_4, if_neg c28_7, if_pos c42_10]), N0, rfl⟩
        · skip
          have K13 : own_K p e below SE s₁ (mkF m 50 #[.val (.int p0)] [(.int (95 : Int32))]) := by
            intro t k
            refine K11 _ ?_
            refine XS.icmpYes X0.here hx rfl (pc0 := 42) (pc' := 48) rfl (hb hby d6_42) rfl (XT.ii_ne_t c42_10) (by decide) (by decide) ?_
            show own_S p e below s₁ (mkF m 48 #[.val (.int p0)] []) _
            refine XS.bipush X0.here hx rfl (hb hby d6_48) ?_
            exact k
          obtain ⟨fs, hr, hrun, hended, hW, hsame⟩ := X0.leave (v := some (.int (95 : Int32))) (fun h => by rw [Bd.returns] at h; cases h)
          refine ⟨_, _, K13 _ ?_, hrun, hended, _, _, rfl, ?_, ⟨_, rfl⟩, hW, hsame.mono (by decide) (by decide)⟩
          · exact retI X0 hx Bd.returns (hb hby d6_50) hr
          · show Q6 Z p0 h0 n0 _ s₁.heap _
            rw [e0]
            exact ⟨(by unfold own_ch; simp only [if_neg c3_1, if_neg c14_4, if_neg c28_7, if_neg c42_10]), N0, rfl⟩
theorem d3_0 : decode method_7_code 0 = .ok (.iload_n 1, 1) := by decide +kernel
theorem d3_1 : decode method_7_code 1 = .ok (.aload_n 0, 1) := by decide +kernel
theorem d3_2 : decode method_7_code 2 = .ok (.arraylength, 1) := by decide +kernel
theorem d3_3 : decode method_7_code 3 = .ok (.if_icmp .lt 5, 3) := by decide +kernel
theorem d3_6 : decode method_7_code 6 = .ok (.iconst 1, 1) := by decide +kernel
theorem d3_7 : decode method_7_code 7 = .ok (.ireturn, 1) := by decide +kernel
theorem ef_3n (m : MethodId) (r0 : Addr) (p1 : Int32) (p2 : Int32) (q3 : Int64) : entryFrame m #[(.ref r0), (.int p1), (.int p2), (.long q3)] 6 = mkF m 0 #[.val (.ref r0), .val (.int p1), .val (.int p2), .val (.long q3), .second, .unset] [] := by first | (simp [entryFrame, mkF, argsToLocals, Value.category]; done) | rfl
def Q3n (Z : State) (r0 : Addr) (p1 : Int32) (p2 : Int32) (q3 : Int64) (kA : ClassId) (zz : Int32) (vs : List Value) (h0 : Heap) (n0 : Nat) (v : Option Value) (h : Heap) (L : List Loc) : Prop := v = some (.int (1 : Int32)) ∧ Fr n0 L ∧ h = h0
set_option maxRecDepth 65536 in
set_option maxHeartbeats 40000000 in
theorem rm3n (l : Launch) (Z : State) (a0 : Array Value) (hw : ∀ d ∈ tables_1, d.before a0 Z = true) (ws : List Jvm.Cond) (r0 : Addr) (p1 : Int32) (p2 : Int32) (q3 : Int64) (kA : ClassId) (zz : Int32) (vs : List Value) (h0 : Heap) (n0 : Nat) (Z0 : n0 ≤ h0.size) (V_r0 : Arv Z h0 r0 kA .byte zz vs (.int (0 : Int32))) (hk : ¬ p1 < zz) :
    MetFree l (⟨"com/example/whorl/whorl/Base64urlTextPinLaw", "chk", "([BIIJ)Z"⟩ : MethodName) (head1 (Jvm.Cond.code (⟨"com/example/whorl/whorl/Base64urlTextPinLaw", "chk", "([BIIJ)Z"⟩ : MethodName) method_7_code 6 (some .boolean) :: ws) ({ frames := 0, cells := 0, slots := 0, locals := 0 } : Room)) (fun a U => a = #[(.ref r0), (.int p1), (.int p2), (.long q3)] ∧ Z.Warmed39 U.vm ∧ U.heap = h0) (fun _ _ _ _ _ => True) (fun _ U o U' => ∃ v L, o = .returned v ∧ Q3n Z r0 p1 p2 q3 kA zz vs h0 n0 v U'.heap L ∧ FrameEnd U o U' L ({ frames := 0, cells := 0, slots := 0, locals := 0 } : Room).cells ({ frames := 0, cells := 0, slots := 0, locals := 0 } : Room).slots) := by
  refine MetFree.of_bodySF (plainFor_of_name pn_5) hisR ?_
  intro p e s m args below meth c s₁ Bd hml0 hP hK
  obtain ⟨rfl, hZ, hh⟩ := hP
  have hx := Bd.exec
  have hby := Bd.bytes
  have hml : c.maxLocals = 6 := hml0
  have hown : s.vm.findClass "com/example/whorl/whorl/Base64urlTextPinLaw" = some m.cls := findClass_of_methodNamed Bd.named
  have hnm := (name_of_methodNamed Bd.named Bd.method).1
  have X0 : Stand p l e ({ frames := 0, cells := 0, slots := 0, locals := 0 } : Room) s m #[(.ref r0), (.int p1), (.int p2), (.long q3)] below meth c s₁ [] 0 0 := Stand.of_body Bd
  have e0 : s₁.heap = h0 := by rw [← hh, Bd.state]; rfl
  have N0 := Fr.nil n0
  have K0 : ∀ t, Steps p.tables e below (s₁.setTop (mkF m 0 #[.val (.ref r0), .val (.int p1), .val (.int p2), .val (.long q3), .second, .unset] [])) t → Steps p.tables e below (s₁.setTop (entryFrame m #[(.ref r0), (.int p1), (.int p2), (.long q3)] 6)) t := fun t k => castTop (ef_3n m r0 p1 p2 q3) k
  generalize s₁.setTop (entryFrame m #[(.ref r0), (.int p1), (.int p2), (.long q3)] 6) = SE at K0 ⊢
  have K1 : own_K p e below SE s₁ (mkF m 2 #[.val (.ref r0), .val (.int p1), .val (.int p2), .val (.long q3), .second, .unset] [(.ref r0), (.int p1)]) := by
    intro t k
    refine K0 _ ?_
    refine XS.iloadN X0.here hx rfl (hb hby d3_0) rfl ?_
    show own_S p e below s₁ (mkF m 1 #[.val (.ref r0), .val (.int p1), .val (.int p2), .val (.long q3), .second, .unset] [(.int p1)]) _
    refine XS.aloadN X0.here hx rfl (hb hby d3_1) rfl rfl ?_
    exact k
  obtain ⟨cl2, Ar2, -, S2, Ng2, -, -⟩ := id V_r0
  have K3 : own_K p e below SE s₁ (mkF m 7 #[.val (.ref r0), .val (.int p1), .val (.int p2), .val (.long q3), .second, .unset] [(.int (1 : Int32))]) := by
    intro t k
    refine K1 _ ?_
    refine X0.arraylength hx (by rw [e0]; exact Ar2.1) (State.isArrayOf_alike hZ.alike Ar2.2.1) (g := (mkF m 2 #[.val (.ref r0), .val (.int p1), .val (.int p2), .val (.long q3), .second, .unset] [(.ref r0), (.int p1)])) rfl rfl (hb hby d3_2) _ ?_
    rw [len_of S2 Ng2]
    show own_S p e below s₁ (mkF m 3 #[.val (.ref r0), .val (.int p1), .val (.int p2), .val (.long q3), .second, .unset] [(.int zz), (.int p1)]) _
    refine XS.icmpNo X0.here hx rfl (hb hby d3_3) rfl (XT.ii_lt_f hk) ?_
    show own_S p e below s₁ (mkF m 6 #[.val (.ref r0), .val (.int p1), .val (.int p2), .val (.long q3), .second, .unset] []) _
    refine XS.iconst X0.here hx rfl (hb hby d3_6) ?_
    exact k
  obtain ⟨fs, hr, hrun, hended, hW, hsame⟩ := X0.leave (v := some (.int (1 : Int32))) (fun h => by rw [Bd.returns] at h; cases h)
  refine ⟨_, _, K3 _ ?_, hrun, hended, _, _, rfl, ?_, ⟨_, rfl⟩, hW, hsame.mono (by decide) (by decide)⟩
  · exact retN X0 hx (t := .boolean) Bd.returns (by simp) (hb hby d3_7) hr
  · show Q3n Z r0 p1 p2 q3 kA zz vs h0 n0 _ s₁.heap _
    rw [e0]
    exact ⟨rfl, N0, rfl⟩
theorem d3_8 : decode method_7_code 8 = .ok (.lload_n 3, 1) := by decide +kernel
theorem d3_9 : decode method_7_code 9 = .ok (.iload_n 2, 1) := by decide +kernel
theorem d3_10 : decode method_7_code 10 = .ok (.iload_n 1, 1) := by decide +kernel
theorem d3_11 : decode method_7_code 11 = .ok (.iconst 4, 1) := by decide +kernel
theorem d3_12 : decode method_7_code 12 = .ok (.idiv, 1) := by decide +kernel
theorem d3_13 : decode method_7_code 13 = .ok (.iload_n 1, 1) := by decide +kernel
theorem d3_14 : decode method_7_code 14 = .ok (.iconst 4, 1) := by decide +kernel
theorem d3_15 : decode method_7_code 15 = .ok (.irem, 1) := by decide +kernel
theorem d3_16 : decode method_7_code 16 = .ok (.invokestatic 30, 3) := by decide +kernel
theorem d3_19 : decode method_7_code 19 = .ok (.istore 5, 2) := by decide +kernel
theorem d3_21 : decode method_7_code 21 = .ok (.aload_n 0, 1) := by decide +kernel
theorem d3_22 : decode method_7_code 22 = .ok (.iload_n 1, 1) := by decide +kernel
theorem d3_23 : decode method_7_code 23 = .ok (.baload, 1) := by decide +kernel
theorem d3_24 : decode method_7_code 24 = .ok (.iload 5, 2) := by decide +kernel
theorem d3_26 : decode method_7_code 26 = .ok (.invokestatic 34, 3) := by decide +kernel
theorem d3_29 : decode method_7_code 29 = .ok (.i2b, 1) := by decide +kernel
theorem d3_30 : decode method_7_code 30 = .ok (.if_icmp .ne 7, 3) := by decide +kernel
theorem d3_33 : decode method_7_code 33 = .ok (.iconst 1, 1) := by decide +kernel
theorem d3_34 : decode method_7_code 34 = .ok (.goto 4, 3) := by decide +kernel
theorem d3_37 : decode method_7_code 37 = .ok (.iconst 0, 1) := by decide +kernel
theorem d3_38 : decode method_7_code 38 = .ok (.ireturn, 1) := by decide +kernel
theorem pd_3y_0 : parseMethodDescriptor "(JIII)I" = some ⟨[.long, .int, .int, .int], some .int⟩ := by decide +kernel
theorem pd_3y_1 : parseMethodDescriptor "(I)I" = some ⟨[.int], some .int⟩ := by decide +kernel
theorem ef_3y (m : MethodId) (r0 : Addr) (p1 : Int32) (p2 : Int32) (q3 : Int64) : entryFrame m #[(.ref r0), (.int p1), (.int p2), (.long q3)] 6 = mkF m 0 #[.val (.ref r0), .val (.int p1), .val (.int p2), .val (.long q3), .second, .unset] [] := by first | (simp [entryFrame, mkF, argsToLocals, Value.category]; done) | rfl
def Q3y (Z : State) (r0 : Addr) (p1 : Int32) (p2 : Int32) (q3 : Int64) (kA : ClassId) (zz : Int32) (vs : List Value) (ev : Int32) (h0 : Heap) (n0 : Nat) (v : Option Value) (h : Heap) (L : List Loc) : Prop := v = some (.int (if ev = ((own_ch (own_sx q3 p2 (p1 / (4 : Int32)) (p1 % (4 : Int32))))).toInt8.toInt32 then (1 : Int32) else (0 : Int32))) ∧ Fr n0 L ∧ h = h0
set_option maxRecDepth 65536 in
set_option maxHeartbeats 40000000 in
theorem rm3y (l : Launch) (Z : State) (a0 : Array Value) (hw : ∀ d ∈ tables_1, d.before a0 Z = true) (ws : List Jvm.Cond) (r0 : Addr) (p1 : Int32) (p2 : Int32) (q3 : Int64) (kA : ClassId) (zz : Int32) (vs : List Value) (ev : Int32) (h0 : Heap) (n0 : Nat) (Z0 : n0 ≤ h0.size) (V_r0 : Arv Z h0 r0 kA .byte zz vs (.int (0 : Int32))) (hk : p1 < zz) (hk0 : ¬ p1 < 0) (hv : vs.getD p1.toNatClampNeg (.int (0 : Int32)) = (.int ev)) :
    MetFree l (⟨"com/example/whorl/whorl/Base64urlTextPinLaw", "chk", "([BIIJ)Z"⟩ : MethodName) (head1 (Jvm.Cond.code (⟨"com/example/whorl/whorl/Base64urlTextPinLaw", "chk", "([BIIJ)Z"⟩ : MethodName) method_7_code 6 (some .boolean) :: ws) ({ frames := 2, cells := 0, slots := 0, locals := 34 } : Room)) (fun a U => a = #[(.ref r0), (.int p1), (.int p2), (.long q3)] ∧ Z.Warmed39 U.vm ∧ U.heap = h0) (fun _ _ _ _ _ => True) (fun _ U o U' => ∃ v L, o = .returned v ∧ Q3y Z r0 p1 p2 q3 kA zz vs ev h0 n0 v U'.heap L ∧ FrameEnd U o U' L ({ frames := 2, cells := 0, slots := 0, locals := 34 } : Room).cells ({ frames := 2, cells := 0, slots := 0, locals := 34 } : Room).slots) := by
  refine MetFree.of_bodySF (plainFor_of_name pn_5) hisR ?_
  intro p e s m args below meth c s₁ Bd hml0 hP hK
  obtain ⟨rfl, hZ, hh⟩ := hP
  have hx := Bd.exec
  have hby := Bd.bytes
  have hml : c.maxLocals = 6 := hml0
  have hown : s.vm.findClass "com/example/whorl/whorl/Base64urlTextPinLaw" = some m.cls := findClass_of_methodNamed Bd.named
  have hnm := (name_of_methodNamed Bd.named Bd.method).1
  have X0 : Stand p l e ({ frames := 2, cells := 0, slots := 0, locals := 34 } : Room) s m #[(.ref r0), (.int p1), (.int p2), (.long q3)] below meth c s₁ [] 0 0 := Stand.of_body Bd
  have e0 : s₁.heap = h0 := by rw [← hh, Bd.state]; rfl
  have N0 := Fr.nil n0
  have K0 : ∀ t, Steps p.tables e below (s₁.setTop (mkF m 0 #[.val (.ref r0), .val (.int p1), .val (.int p2), .val (.long q3), .second, .unset] [])) t → Steps p.tables e below (s₁.setTop (entryFrame m #[(.ref r0), (.int p1), (.int p2), (.long q3)] 6)) t := fun t k => castTop (ef_3y m r0 p1 p2 q3) k
  generalize s₁.setTop (entryFrame m #[(.ref r0), (.int p1), (.int p2), (.long q3)] 6) = SE at K0 ⊢
  have K1 : own_K p e below SE s₁ (mkF m 2 #[.val (.ref r0), .val (.int p1), .val (.int p2), .val (.long q3), .second, .unset] [(.ref r0), (.int p1)]) := by
    intro t k
    refine K0 _ ?_
    refine XS.iloadN X0.here hx rfl (hb hby d3_0) rfl ?_
    show own_S p e below s₁ (mkF m 1 #[.val (.ref r0), .val (.int p1), .val (.int p2), .val (.long q3), .second, .unset] [(.int p1)]) _
    refine XS.aloadN X0.here hx rfl (hb hby d3_1) rfl rfl ?_
    exact k
  obtain ⟨cl2, Ar2, -, S2, Ng2, -, -⟩ := id V_r0
  have K3 : own_K p e below SE s₁ (mkF m 16 #[.val (.ref r0), .val (.int p1), .val (.int p2), .val (.long q3), .second, .unset] [(.int (p1 % (4 : Int32))), (.int (p1 / (4 : Int32))), (.int p2), (.long q3)]) := by
    intro t k
    refine K1 _ ?_
    refine X0.arraylength hx (by rw [e0]; exact Ar2.1) (State.isArrayOf_alike hZ.alike Ar2.2.1) (g := (mkF m 2 #[.val (.ref r0), .val (.int p1), .val (.int p2), .val (.long q3), .second, .unset] [(.ref r0), (.int p1)])) rfl rfl (hb hby d3_2) _ ?_
    rw [len_of S2 Ng2]
    show own_S p e below s₁ (mkF m 3 #[.val (.ref r0), .val (.int p1), .val (.int p2), .val (.long q3), .second, .unset] [(.int zz), (.int p1)]) _
    refine XS.icmpYes X0.here hx rfl (pc0 := 3) (pc' := 8) rfl (hb hby d3_3) rfl (XT.ii_lt_t hk) (by decide) (by decide) ?_
    show own_S p e below s₁ (mkF m 8 #[.val (.ref r0), .val (.int p1), .val (.int p2), .val (.long q3), .second, .unset] []) _
    refine XS.lloadN X0.here hx rfl (hb hby d3_8) rfl ?_
    show own_S p e below s₁ (mkF m 9 #[.val (.ref r0), .val (.int p1), .val (.int p2), .val (.long q3), .second, .unset] [(.long q3)]) _
    refine XS.iloadN X0.here hx rfl (hb hby d3_9) rfl ?_
    show own_S p e below s₁ (mkF m 10 #[.val (.ref r0), .val (.int p1), .val (.int p2), .val (.long q3), .second, .unset] [(.int p2), (.long q3)]) _
    refine XS.iloadN X0.here hx rfl (hb hby d3_10) rfl ?_
    show own_S p e below s₁ (mkF m 11 #[.val (.ref r0), .val (.int p1), .val (.int p2), .val (.long q3), .second, .unset] [(.int p1), (.int p2), (.long q3)]) _
    refine XS.iconst X0.here hx rfl (hb hby d3_11) ?_
    show own_S p e below s₁ (mkF m 12 #[.val (.ref r0), .val (.int p1), .val (.int p2), .val (.long q3), .second, .unset] [(.int (4 : Int32)), (.int p1), (.int p2), (.long q3)]) _
    refine XS.idiv X0.here hx rfl (hb hby d3_12) rfl (by decide) ?_
    show own_S p e below s₁ (mkF m 13 #[.val (.ref r0), .val (.int p1), .val (.int p2), .val (.long q3), .second, .unset] [(.int (p1 / (4 : Int32))), (.int p2), (.long q3)]) _
    refine XS.iloadN X0.here hx rfl (hb hby d3_13) rfl ?_
    show own_S p e below s₁ (mkF m 14 #[.val (.ref r0), .val (.int p1), .val (.int p2), .val (.long q3), .second, .unset] [(.int p1), (.int (p1 / (4 : Int32))), (.int p2), (.long q3)]) _
    refine XS.iconst X0.here hx rfl (hb hby d3_14) ?_
    show own_S p e below s₁ (mkF m 15 #[.val (.ref r0), .val (.int p1), .val (.int p2), .val (.long q3), .second, .unset] [(.int (4 : Int32)), (.int p1), (.int (p1 / (4 : Int32))), (.int p2), (.long q3)]) _
    refine iremM X0 hx rfl (hb hby d3_15) rfl (by decide) ?_
    exact k
  obtain ⟨_, _, ⟨T4, L4, k4, n4⟩, -, X4, ⟨Lc4, hQ4, l4, y4, z4⟩, st4⟩ := Jvm.LawKit.callS X0 hx (y := (⟨"com/example/whorl/whorl/Base64urlTextPinLaw", "sextet", "(JIII)I"⟩ : MethodName)) hown (mvT hZ (hw _ (List.mem_of_getElem? (i := 18) rfl))) (mvT hZ (hw _ (List.mem_of_getElem? (i := 19) rfl))) (mvT hZ (hw _ (List.mem_of_getElem? (i := 4) rfl))) (mvT hZ (hw _ (List.mem_of_getElem? (i := 20) rfl))) (by decide) (backOf (W := 0) (rm4 l Z a0 hw [] q3 p2 (p1 / (4 : Int32)) (p1 % (4 : Int32)) h0 n0 Z0) hZ (hw _ (List.mem_of_getElem? (i := 20) rfl)) (hw _ (List.mem_of_getElem? (i := 4) rfl)) (by decide) (by decide)) (g := (mkF m 16 #[.val (.ref r0), .val (.int p1), .val (.int p2), .val (.long q3), .second, .unset] [(.int (p1 % (4 : Int32))), (.int (p1 / (4 : Int32))), (.int p2), (.long q3)])) rfl (by rw [hml]; rfl) (argsL := [(.long q3), (.int p2), (.int (p1 / (4 : Int32))), (.int (p1 % (4 : Int32)))]) (rest := []) (lenOf pd_3y_0 rfl) rfl (by show 2 * 0 + _ ≤ _; exact Nat.le_of_eq rfl) (hb hby d3_16) (fun _ _ => ⟨rfl, e0, (by decide : 0 + 0 ≤ _), (by decide : 0 + 0 ≤ _)⟩)
  dsimp only [Pt.U, Pt.locs, Pt.cells, Pt.slots] at X4 l4 y4 z4 st4 hQ4
  rw [y4, z4] at X4
  obtain ⟨rfl, Nq4, e4⟩ := hQ4
  have N4 : Fr n0 L4 := by rw [l4]; exact Fr.app N0 Nq4
  have K4 : own_K p e below SE T4 (mkF m 19 #[.val (.ref r0), .val (.int p1), .val (.int p2), .val (.long q3), .second, .unset] [(.int (own_sx q3 p2 (p1 / (4 : Int32)) (p1 % (4 : Int32))))]) := fun t k => K3 _ (st4 _ k)
  have K5 : own_K p e below SE T4 (mkF m 23 #[.val (.ref r0), .val (.int p1), .val (.int p2), .val (.long q3), .second, .val (.int (own_sx q3 p2 (p1 / (4 : Int32)) (p1 % (4 : Int32))))] [(.int p1), (.ref r0)]) := by
    intro t k
    refine K4 _ ?_
    refine XS.istore X4.here hx rfl (hb hby d3_19) rfl (l' := #[.val (.ref r0), .val (.int p1), .val (.int p2), .val (.long q3), .second, .val (.int (own_sx q3 p2 (p1 / (4 : Int32)) (p1 % (4 : Int32))))]) rfl ?_
    show own_S p e below T4 (mkF m 21 #[.val (.ref r0), .val (.int p1), .val (.int p2), .val (.long q3), .second, .val (.int (own_sx q3 p2 (p1 / (4 : Int32)) (p1 % (4 : Int32))))] []) _
    refine XS.aloadN X4.here hx rfl (hb hby d3_21) rfl rfl ?_
    show own_S p e below T4 (mkF m 22 #[.val (.ref r0), .val (.int p1), .val (.int p2), .val (.long q3), .second, .val (.int (own_sx q3 p2 (p1 / (4 : Int32)) (p1 % (4 : Int32))))] [(.ref r0)]) _
    refine XS.iloadN X4.here hx rfl (hb hby d3_22) rfl ?_
    exact k
  obtain ⟨cl6, Ar6, qk6, S6, Ng6, Hh6, Gg6⟩ := id V_r0
  have hin6 : ¬ (p1 < 0 ∨ cl6.slots.size ≤ p1.toNatClampNeg) := inb_of S6 ⟨hk0, hk⟩
  have hat6 : cl6.slots[p1.toNatClampNeg]? = some (.int ev) := Has.at Hh6 hin6 hv
  have K7 : own_K p e below SE T4 (mkF m 26 #[.val (.ref r0), .val (.int p1), .val (.int p2), .val (.long q3), .second, .val (.int (own_sx q3 p2 (p1 / (4 : Int32)) (p1 % (4 : Int32))))] [(.int (own_sx q3 p2 (p1 / (4 : Int32)) (p1 % (4 : Int32)))), (.int ev)]) := by
    intro t k
    refine K5 _ ?_
    refine X4.baloadBytes hx (j := p1) (v := (.int ev)) (by rw [e4]; exact Ar6.1) (State.isArrayOf_alike hZ.alike Ar6.2.1) Ar6.2.2 hin6 hat6 (g := (mkF m 23 #[.val (.ref r0), .val (.int p1), .val (.int p2), .val (.long q3), .second, .val (.int (own_sx q3 p2 (p1 / (4 : Int32)) (p1 % (4 : Int32))))] [(.int p1), (.ref r0)])) rfl rfl (hb hby d3_23) _ ?_
    show own_S p e below T4 (mkF m 24 #[.val (.ref r0), .val (.int p1), .val (.int p2), .val (.long q3), .second, .val (.int (own_sx q3 p2 (p1 / (4 : Int32)) (p1 % (4 : Int32))))] [(.int ev)]) _
    refine XS.iload X4.here hx rfl (hb hby d3_24) rfl ?_
    exact k
  obtain ⟨_, _, ⟨T8, L8, k8, n8⟩, -, X8, ⟨Lc8, hQ8, l8, y8, z8⟩, st8⟩ := Jvm.LawKit.callS X4 hx (y := (⟨"com/example/whorl/whorl/Base64urlTextPinLaw", "ch", "(I)I"⟩ : MethodName)) hown (mvT hZ (hw _ (List.mem_of_getElem? (i := 25) rfl))) (mvT hZ (hw _ (List.mem_of_getElem? (i := 26) rfl))) (mvT hZ (hw _ (List.mem_of_getElem? (i := 4) rfl))) (mvT hZ (hw _ (List.mem_of_getElem? (i := 27) rfl))) (by decide) (backOf (W := 1) (rm6 l Z a0 hw [] (own_sx q3 p2 (p1 / (4 : Int32)) (p1 % (4 : Int32))) h0 n0 Z0) hZ (hw _ (List.mem_of_getElem? (i := 27) rfl)) (hw _ (List.mem_of_getElem? (i := 4) rfl)) (by decide) (by decide)) (g := (mkF m 26 #[.val (.ref r0), .val (.int p1), .val (.int p2), .val (.long q3), .second, .val (.int (own_sx q3 p2 (p1 / (4 : Int32)) (p1 % (4 : Int32))))] [(.int (own_sx q3 p2 (p1 / (4 : Int32)) (p1 % (4 : Int32)))), (.int ev)])) rfl (by rw [hml]; rfl) (argsL := [(.int (own_sx q3 p2 (p1 / (4 : Int32)) (p1 % (4 : Int32))))]) (rest := [(.int ev)]) (lenOf pd_3y_1 rfl) rfl (by show 2 * 0 + _ ≤ _; exact Nat.le_of_eq rfl) (hb hby d3_26) (fun _ _ => ⟨rfl, e4, (by decide : 0 + 0 ≤ _), (by decide : 0 + 0 ≤ _)⟩)
  dsimp only [Pt.U, Pt.locs, Pt.cells, Pt.slots] at X8 l8 y8 z8 st8 hQ8
  rw [y8, z8] at X8
  obtain ⟨rfl, Nq8, e8⟩ := hQ8
  have N8 : Fr n0 L8 := by rw [l8]; exact Fr.app N4 Nq8
  have K8 : own_K p e below SE T8 (mkF m 29 #[.val (.ref r0), .val (.int p1), .val (.int p2), .val (.long q3), .second, .val (.int (own_sx q3 p2 (p1 / (4 : Int32)) (p1 % (4 : Int32))))] [(.int (own_ch (own_sx q3 p2 (p1 / (4 : Int32)) (p1 % (4 : Int32))))), (.int ev)]) := fun t k => K7 _ (st8 _ k)
  have K10 : own_K p e below SE T8 (mkF m 30 #[.val (.ref r0), .val (.int p1), .val (.int p2), .val (.long q3), .second, .val (.int (own_sx q3 p2 (p1 / (4 : Int32)) (p1 % (4 : Int32))))] [(.int (((own_ch (own_sx q3 p2 (p1 / (4 : Int32)) (p1 % (4 : Int32))))).toInt8.toInt32)), (.int ev)]) := by
    intro t k
    refine K8 _ ?_
    refine XS.i2b X8.here hx rfl (hb hby d3_29) rfl ?_
    exact k
  by_cases c30_9 : ev = (((own_ch (own_sx q3 p2 (p1 / (4 : Int32)) (p1 % (4 : Int32))))).toInt8.toInt32)
  · skip
    have K11 : own_K p e below SE T8 (mkF m 38 #[.val (.ref r0), .val (.int p1), .val (.int p2), .val (.long q3), .second, .val (.int (own_sx q3 p2 (p1 / (4 : Int32)) (p1 % (4 : Int32))))] [(.int (1 : Int32))]) := by
      intro t k
      refine K10 _ ?_
      refine XS.icmpNo X8.here hx rfl (hb hby d3_30) rfl (XT.ii_ne_f c30_9) ?_
      show own_S p e below T8 (mkF m 33 #[.val (.ref r0), .val (.int p1), .val (.int p2), .val (.long q3), .second, .val (.int (own_sx q3 p2 (p1 / (4 : Int32)) (p1 % (4 : Int32))))] []) _
      refine XS.iconst X8.here hx rfl (hb hby d3_33) ?_
      show own_S p e below T8 (mkF m 34 #[.val (.ref r0), .val (.int p1), .val (.int p2), .val (.long q3), .second, .val (.int (own_sx q3 p2 (p1 / (4 : Int32)) (p1 % (4 : Int32))))] [(.int (1 : Int32))]) _
      refine XS.goto X8.here hx rfl (pc0 := 34) (pc' := 38) rfl (hb hby d3_34) (by decide) (by decide) ?_
      exact k
    obtain ⟨fs, hr, hrun, hended, hW, hsame⟩ := X8.leave (v := some (.int (1 : Int32))) (fun h => by rw [Bd.returns] at h; cases h)
    refine ⟨_, _, K11 _ ?_, hrun, hended, _, _, rfl, ?_, ⟨_, rfl⟩, hW, hsame.mono (by decide) (by decide)⟩
    · exact retN X8 hx (t := .boolean) Bd.returns (by simp) (hb hby d3_38) hr
    · show Q3y Z r0 p1 p2 q3 kA zz vs ev h0 n0 _ T8.heap _
      rw [e8]
      exact ⟨(by simp only [if_pos c30_9]), N8, rfl⟩
  · skip
    have K12 : own_K p e below SE T8 (mkF m 38 #[.val (.ref r0), .val (.int p1), .val (.int p2), .val (.long q3), .second, .val (.int (own_sx q3 p2 (p1 / (4 : Int32)) (p1 % (4 : Int32))))] [(.int (0 : Int32))]) := by
      intro t k
      refine K10 _ ?_
      refine XS.icmpYes X8.here hx rfl (pc0 := 30) (pc' := 37) rfl (hb hby d3_30) rfl (XT.ii_ne_t c30_9) (by decide) (by decide) ?_
      show own_S p e below T8 (mkF m 37 #[.val (.ref r0), .val (.int p1), .val (.int p2), .val (.long q3), .second, .val (.int (own_sx q3 p2 (p1 / (4 : Int32)) (p1 % (4 : Int32))))] []) _
      refine XS.iconst X8.here hx rfl (hb hby d3_37) ?_
      exact k
    obtain ⟨fs, hr, hrun, hended, hW, hsame⟩ := X8.leave (v := some (.int (0 : Int32))) (fun h => by rw [Bd.returns] at h; cases h)
    refine ⟨_, _, K12 _ ?_, hrun, hended, _, _, rfl, ?_, ⟨_, rfl⟩, hW, hsame.mono (by decide) (by decide)⟩
    · exact retN X8 hx (t := .boolean) Bd.returns (by simp) (hb hby d3_38) hr
    · show Q3y Z r0 p1 p2 q3 kA zz vs ev h0 n0 _ T8.heap _
      rw [e8]
      exact ⟨(by simp only [if_neg c30_9]), N8, rfl⟩
theorem d1_0 : decode method_3_code 0 = .ok (.iload_n 1, 1) := by decide +kernel
theorem d1_1 : decode method_3_code 1 = .ok (.aload_n 0, 1) := by decide +kernel
theorem d1_2 : decode method_3_code 2 = .ok (.arraylength, 1) := by decide +kernel
theorem d1_3 : decode method_3_code 3 = .ok (.if_icmp .ge 14, 3) := by decide +kernel
theorem d1_17 : decode method_3_code 17 = .ok (.return_, 1) := by decide +kernel
theorem ef_1n (m : MethodId) (r0 : Addr) (p1 : Int32) (q2 : Int64) : entryFrame m #[(.ref r0), (.int p1), (.long q2)] 4 = mkF m 0 #[.val (.ref r0), .val (.int p1), .val (.long q2), .second] [] := by first | (simp [entryFrame, mkF, argsToLocals, Value.category]; done) | rfl
def Q1n (Z : State) (r0 : Addr) (p1 : Int32) (q2 : Int64) (kA : ClassId) (zz : Int32) (vs : List Value) (h0 : Heap) (n0 : Nat) (v : Option Value) (h : Heap) (L : List Loc) : Prop := v = none ∧ Fr n0 L ∧ h = h0
set_option maxRecDepth 65536 in
set_option maxHeartbeats 40000000 in
theorem rm1n (l : Launch) (Z : State) (a0 : Array Value) (hw : ∀ d ∈ tables_1, d.before a0 Z = true) (ws : List Jvm.Cond) (r0 : Addr) (p1 : Int32) (q2 : Int64) (kA : ClassId) (zz : Int32) (vs : List Value) (h0 : Heap) (n0 : Nat) (Z0 : n0 ≤ h0.size) (V_r0 : Arv Z h0 r0 kA .byte zz vs (.int (0 : Int32))) (hk : ¬ p1 < zz) :
    MetFree l (⟨"com/example/whorl/whorl/Base64urlTextPinLaw", "put", "([BIJ)V"⟩ : MethodName) (head1 (Jvm.Cond.code (⟨"com/example/whorl/whorl/Base64urlTextPinLaw", "put", "([BIJ)V"⟩ : MethodName) method_3_code 4 none :: ws) ({ frames := 0, cells := 0, slots := 0, locals := 0 } : Room)) (fun a U => a = #[(.ref r0), (.int p1), (.long q2)] ∧ Z.Warmed39 U.vm ∧ U.heap = h0) (fun _ _ _ _ _ => True) (fun _ U o U' => ∃ v L, o = .returned v ∧ Q1n Z r0 p1 q2 kA zz vs h0 n0 v U'.heap L ∧ FrameEnd U o U' L ({ frames := 0, cells := 0, slots := 0, locals := 0 } : Room).cells ({ frames := 0, cells := 0, slots := 0, locals := 0 } : Room).slots) := by
  refine MetFree.of_bodySF (plainFor_of_name pn_5) hisR ?_
  intro p e s m args below meth c s₁ Bd hml0 hP hK
  obtain ⟨rfl, hZ, hh⟩ := hP
  have hx := Bd.exec
  have hby := Bd.bytes
  have hml : c.maxLocals = 4 := hml0
  have hown : s.vm.findClass "com/example/whorl/whorl/Base64urlTextPinLaw" = some m.cls := findClass_of_methodNamed Bd.named
  have hnm := (name_of_methodNamed Bd.named Bd.method).1
  have X0 : Stand p l e ({ frames := 0, cells := 0, slots := 0, locals := 0 } : Room) s m #[(.ref r0), (.int p1), (.long q2)] below meth c s₁ [] 0 0 := Stand.of_body Bd
  have e0 : s₁.heap = h0 := by rw [← hh, Bd.state]; rfl
  have N0 := Fr.nil n0
  have K0 : ∀ t, Steps p.tables e below (s₁.setTop (mkF m 0 #[.val (.ref r0), .val (.int p1), .val (.long q2), .second] [])) t → Steps p.tables e below (s₁.setTop (entryFrame m #[(.ref r0), (.int p1), (.long q2)] 4)) t := fun t k => castTop (ef_1n m r0 p1 q2) k
  generalize s₁.setTop (entryFrame m #[(.ref r0), (.int p1), (.long q2)] 4) = SE at K0 ⊢
  have K1 : own_K p e below SE s₁ (mkF m 2 #[.val (.ref r0), .val (.int p1), .val (.long q2), .second] [(.ref r0), (.int p1)]) := by
    intro t k
    refine K0 _ ?_
    refine XS.iloadN X0.here hx rfl (hb hby d1_0) rfl ?_
    show own_S p e below s₁ (mkF m 1 #[.val (.ref r0), .val (.int p1), .val (.long q2), .second] [(.int p1)]) _
    refine XS.aloadN X0.here hx rfl (hb hby d1_1) rfl rfl ?_
    exact k
  obtain ⟨cl2, Ar2, -, S2, Ng2, -, -⟩ := id V_r0
  have K3 : own_K p e below SE s₁ (mkF m 17 #[.val (.ref r0), .val (.int p1), .val (.long q2), .second] []) := by
    intro t k
    refine K1 _ ?_
    refine X0.arraylength hx (by rw [e0]; exact Ar2.1) (State.isArrayOf_alike hZ.alike Ar2.2.1) (g := (mkF m 2 #[.val (.ref r0), .val (.int p1), .val (.long q2), .second] [(.ref r0), (.int p1)])) rfl rfl (hb hby d1_2) _ ?_
    rw [len_of S2 Ng2]
    show own_S p e below s₁ (mkF m 3 #[.val (.ref r0), .val (.int p1), .val (.long q2), .second] [(.int zz), (.int p1)]) _
    refine XS.icmpYes X0.here hx rfl (pc0 := 3) (pc' := 17) rfl (hb hby d1_3) rfl (XT.ii_ge_t hk) (by decide) (by decide) ?_
    exact k
  obtain ⟨fs, hr, hrun, hended, hW, hsame⟩ := X0.leave (v := none) (fun _ => rfl)
  refine ⟨_, _, K3 _ ?_, hrun, hended, _, _, rfl, ?_, ⟨_, rfl⟩, hW, hsame.mono (by decide) (by decide)⟩
  · exact X0.returnOut hx Bd.returns (hb hby d1_17) hr
  · show Q1n Z r0 p1 q2 kA zz vs h0 n0 _ s₁.heap _
    rw [e0]
    exact ⟨rfl, N0, rfl⟩
theorem d1_6 : decode method_3_code 6 = .ok (.aload_n 0, 1) := by decide +kernel
theorem d1_7 : decode method_3_code 7 = .ok (.iload_n 1, 1) := by decide +kernel
theorem d1_8 : decode method_3_code 8 = .ok (.lload_n 2, 1) := by decide +kernel
theorem d1_9 : decode method_3_code 9 = .ok (.bipush 8, 2) := by decide +kernel
theorem d1_11 : decode method_3_code 11 = .ok (.iload_n 1, 1) := by decide +kernel
theorem d1_12 : decode method_3_code 12 = .ok (.imul, 1) := by decide +kernel
theorem d1_13 : decode method_3_code 13 = .ok (.lushr, 1) := by decide +kernel
theorem d1_14 : decode method_3_code 14 = .ok (.l2i, 1) := by decide +kernel
theorem d1_15 : decode method_3_code 15 = .ok (.i2b, 1) := by decide +kernel
theorem d1_16 : decode method_3_code 16 = .ok (.bastore, 1) := by decide +kernel
theorem ef_1y (m : MethodId) (r0 : Addr) (p1 : Int32) (q2 : Int64) : entryFrame m #[(.ref r0), (.int p1), (.long q2)] 4 = mkF m 0 #[.val (.ref r0), .val (.int p1), .val (.long q2), .second] [] := by first | (simp [entryFrame, mkF, argsToLocals, Value.category]; done) | rfl
def Q1y (Z : State) (r0 : Addr) (p1 : Int32) (q2 : Int64) (kA : ClassId) (zz : Int32) (vs : List Value) (ii : Nat) (h0 : Heap) (n0 : Nat) (v : Option Value) (h : Heap) (L : List Loc) : Prop := v = none ∧ Fr n0 L ∧ Keep h0 h [r0] ∧ Arv Z h r0 kA .byte zz (vs.set ii (.int ((((((q2.toUInt64 >>> (((8 : Int32) * p1) &&& 0x3f).toInt64.toUInt64).toInt64)).toInt32).toInt8.toInt32).toInt8.toInt32))) (.int (0 : Int32))
set_option maxRecDepth 65536 in
set_option maxHeartbeats 40000000 in
theorem rm1y (l : Launch) (Z : State) (a0 : Array Value) (hw : ∀ d ∈ tables_1, d.before a0 Z = true) (ws : List Jvm.Cond) (r0 : Addr) (p1 : Int32) (q2 : Int64) (kA : ClassId) (zz : Int32) (vs : List Value) (ii : Nat) (h0 : Heap) (n0 : Nat) (Z0 : n0 ≤ h0.size) (V_r0 : Arv Z h0 r0 kA .byte zz vs (.int (0 : Int32))) (hk : p1 < zz) (hk0 : ¬ p1 < 0) (hii : p1.toNatClampNeg = ii) (hlen : ii < vs.length) (g_r0 : n0 ≤ r0) :
    MetFree l (⟨"com/example/whorl/whorl/Base64urlTextPinLaw", "put", "([BIJ)V"⟩ : MethodName) (head1 (Jvm.Cond.code (⟨"com/example/whorl/whorl/Base64urlTextPinLaw", "put", "([BIJ)V"⟩ : MethodName) method_3_code 4 none :: ws) ({ frames := 0, cells := 0, slots := 0, locals := 0 } : Room)) (fun a U => a = #[(.ref r0), (.int p1), (.long q2)] ∧ Z.Warmed39 U.vm ∧ U.heap = h0) (fun _ _ _ _ _ => True) (fun _ U o U' => ∃ v L, o = .returned v ∧ Q1y Z r0 p1 q2 kA zz vs ii h0 n0 v U'.heap L ∧ FrameEnd U o U' L ({ frames := 0, cells := 0, slots := 0, locals := 0 } : Room).cells ({ frames := 0, cells := 0, slots := 0, locals := 0 } : Room).slots) := by
  refine MetFree.of_bodySF (plainFor_of_name pn_5) hisR ?_
  intro p e s m args below meth c s₁ Bd hml0 hP hK
  obtain ⟨rfl, hZ, hh⟩ := hP
  have hx := Bd.exec
  have hby := Bd.bytes
  have hml : c.maxLocals = 4 := hml0
  have hown : s.vm.findClass "com/example/whorl/whorl/Base64urlTextPinLaw" = some m.cls := findClass_of_methodNamed Bd.named
  have hnm := (name_of_methodNamed Bd.named Bd.method).1
  have X0 : Stand p l e ({ frames := 0, cells := 0, slots := 0, locals := 0 } : Room) s m #[(.ref r0), (.int p1), (.long q2)] below meth c s₁ [] 0 0 := Stand.of_body Bd
  have e0 : s₁.heap = h0 := by rw [← hh, Bd.state]; rfl
  have N0 := Fr.nil n0
  have K0 : ∀ t, Steps p.tables e below (s₁.setTop (mkF m 0 #[.val (.ref r0), .val (.int p1), .val (.long q2), .second] [])) t → Steps p.tables e below (s₁.setTop (entryFrame m #[(.ref r0), (.int p1), (.long q2)] 4)) t := fun t k => castTop (ef_1y m r0 p1 q2) k
  generalize s₁.setTop (entryFrame m #[(.ref r0), (.int p1), (.long q2)] 4) = SE at K0 ⊢
  have K1 : own_K p e below SE s₁ (mkF m 2 #[.val (.ref r0), .val (.int p1), .val (.long q2), .second] [(.ref r0), (.int p1)]) := by
    intro t k
    refine K0 _ ?_
    refine XS.iloadN X0.here hx rfl (hb hby d1_0) rfl ?_
    show own_S p e below s₁ (mkF m 1 #[.val (.ref r0), .val (.int p1), .val (.long q2), .second] [(.int p1)]) _
    refine XS.aloadN X0.here hx rfl (hb hby d1_1) rfl rfl ?_
    exact k
  obtain ⟨cl2, Ar2, -, S2, Ng2, -, -⟩ := id V_r0
  have K3 : own_K p e below SE s₁ (mkF m 16 #[.val (.ref r0), .val (.int p1), .val (.long q2), .second] [(.int ((((((q2.toUInt64 >>> (((8 : Int32) * p1) &&& 0x3f).toInt64.toUInt64).toInt64)).toInt32)).toInt8.toInt32)), (.int p1), (.ref r0)]) := by
    intro t k
    refine K1 _ ?_
    refine X0.arraylength hx (by rw [e0]; exact Ar2.1) (State.isArrayOf_alike hZ.alike Ar2.2.1) (g := (mkF m 2 #[.val (.ref r0), .val (.int p1), .val (.long q2), .second] [(.ref r0), (.int p1)])) rfl rfl (hb hby d1_2) _ ?_
    rw [len_of S2 Ng2]
    show own_S p e below s₁ (mkF m 3 #[.val (.ref r0), .val (.int p1), .val (.long q2), .second] [(.int zz), (.int p1)]) _
    refine XS.icmpNo X0.here hx rfl (hb hby d1_3) rfl (XT.ii_ge_f hk) ?_
    show own_S p e below s₁ (mkF m 6 #[.val (.ref r0), .val (.int p1), .val (.long q2), .second] []) _
    refine XS.aloadN X0.here hx rfl (hb hby d1_6) rfl rfl ?_
    show own_S p e below s₁ (mkF m 7 #[.val (.ref r0), .val (.int p1), .val (.long q2), .second] [(.ref r0)]) _
    refine XS.iloadN X0.here hx rfl (hb hby d1_7) rfl ?_
    show own_S p e below s₁ (mkF m 8 #[.val (.ref r0), .val (.int p1), .val (.long q2), .second] [(.int p1), (.ref r0)]) _
    refine XS.lloadN X0.here hx rfl (hb hby d1_8) rfl ?_
    show own_S p e below s₁ (mkF m 9 #[.val (.ref r0), .val (.int p1), .val (.long q2), .second] [(.long q2), (.int p1), (.ref r0)]) _
    refine XS.bipush X0.here hx rfl (hb hby d1_9) ?_
    show own_S p e below s₁ (mkF m 11 #[.val (.ref r0), .val (.int p1), .val (.long q2), .second] [(.int (8 : Int32)), (.long q2), (.int p1), (.ref r0)]) _
    refine XS.iloadN X0.here hx rfl (hb hby d1_11) rfl ?_
    show own_S p e below s₁ (mkF m 12 #[.val (.ref r0), .val (.int p1), .val (.long q2), .second] [(.int p1), (.int (8 : Int32)), (.long q2), (.int p1), (.ref r0)]) _
    refine XS.imul X0.here hx rfl (hb hby d1_12) rfl ?_
    show own_S p e below s₁ (mkF m 13 #[.val (.ref r0), .val (.int p1), .val (.long q2), .second] [(.int ((8 : Int32) * p1)), (.long q2), (.int p1), (.ref r0)]) _
    refine XS.lushr X0.here hx rfl (hb hby d1_13) rfl ?_
    show own_S p e below s₁ (mkF m 14 #[.val (.ref r0), .val (.int p1), .val (.long q2), .second] [(.long ((q2.toUInt64 >>> (((8 : Int32) * p1) &&& 0x3f).toInt64.toUInt64).toInt64)), (.int p1), (.ref r0)]) _
    refine XS.l2i X0.here hx rfl (hb hby d1_14) rfl ?_
    show own_S p e below s₁ (mkF m 15 #[.val (.ref r0), .val (.int p1), .val (.long q2), .second] [(.int ((((q2.toUInt64 >>> (((8 : Int32) * p1) &&& 0x3f).toInt64.toUInt64).toInt64)).toInt32)), (.int p1), (.ref r0)]) _
    refine XS.i2b X0.here hx rfl (hb hby d1_15) rfl ?_
    exact k
  obtain ⟨cl4, Ar4, qk4, S4, Ng4, Hh4, Gg4⟩ := id V_r0
  have hin4 : ¬ (p1 < 0 ∨ cl4.slots.size ≤ p1.toNatClampNeg) := inb_of S4 ⟨hk0, hk⟩
  obtain ⟨T5, h5, X5, e5, W5, st5⟩ := stB X0 hx hZ e0 Ar4 (j := p1) hin4 (g := (mkF m 16 #[.val (.ref r0), .val (.int p1), .val (.long q2), .second] [(.int ((((((q2.toUInt64 >>> (((8 : Int32) * p1) &&& 0x3f).toInt64.toUInt64).toInt64)).toInt32)).toInt8.toInt32)), (.int p1), (.ref r0)])) rfl rfl (hb hby d1_16)
  have V5 : Arv Z h5 r0 kA .byte zz (vs.set ii (.int ((((((q2.toUInt64 >>> (((8 : Int32) * p1) &&& 0x3f).toInt64.toUInt64).toInt64)).toInt32).toInt8.toInt32).toInt8.toInt32))) (.int (0 : Int32)) := Arv.set Ar4 qk4 S4 Ng4 Hh4 Gg4 (fits_nar_byte _) W5 ii hii hlen
  have N5 := Fr.snoc X5 N0 g_r0
  have Kp5 : Keep h0 h5 [r0] := Keep.wr (Keep.refl h0 [r0]) W5 (Or.inl (List.mem_of_getElem? (i := 0) rfl))
  have K5 : own_K p e below SE T5 (mkF m 17 #[.val (.ref r0), .val (.int p1), .val (.long q2), .second] []) := fun t k => K3 _ (st5 _ k)
  obtain ⟨fs, hr, hrun, hended, hW, hsame⟩ := X5.leave (v := none) (fun _ => rfl)
  refine ⟨_, _, K5 _ ?_, hrun, hended, _, _, rfl, ?_, ⟨_, rfl⟩, hW, hsame.mono (by decide) (by decide)⟩
  · exact X5.returnOut hx Bd.returns (hb hby d1_17) hr
  · show Q1y Z r0 p1 q2 kA zz vs ii h0 n0 _ T5.heap _
    rw [e5]
    exact ⟨rfl, N5, Kp5, V5⟩
theorem own_or0 (p : Int32) : (p ||| (0 : Int32)) = p := by
  apply Int32.toBitVec_inj.mp
  rw [Int32.toBitVec_or]
  exact BitVec.or_zero
theorem own_x2 (p q : Int32) : ((p <<< ((16 : Int32) &&& 31)) ||| (q <<< ((8 : Int32) &&& 31))) = (((p <<< ((16 : Int32) &&& 31)) ||| (q <<< ((8 : Int32) &&& 31))) ||| (0 : Int32)) := (own_or0 _).symm
theorem own_x1 (p : Int32) : ((p <<< ((16 : Int32) &&& 31)) ||| (0 : Int32)) = (((p <<< ((16 : Int32) &&& 31)) ||| ((0 : Int32) <<< ((8 : Int32) &&& 31))) ||| (0 : Int32)) := by
  rw [own_or0, show ((0 : Int32) <<< ((8 : Int32) &&& 31)) = (0 : Int32) by decide, own_or0, own_or0]
theorem own_r0 : 0 ≤ (0 : Int32).toInt ∧ (0 : Int32).toInt < 256 := by decide
theorem own_xb {p q r x : Int32} (h1 : 0 ≤ p.toInt ∧ p.toInt < 256) (h2 : 0 ≤ q.toInt ∧ q.toInt < 256) (h3 : 0 ≤ r.toInt ∧ r.toInt < 256) (hx : x.toInt = p.toInt * 65536 + q.toInt * 256 + r.toInt) : 0 ≤ x.toInt ∧ x.toInt < 16777216 := by omega
theorem own_x3i (a b c : Int32) : (((((a &&& (255 : Int32)) <<< ((16 : Int32) &&& 31)) ||| ((b &&& (255 : Int32)) <<< ((8 : Int32) &&& 31))) ||| (c &&& (255 : Int32)))).toInt = (a &&& (255 : Int32)).toInt * 65536 + (b &&& (255 : Int32)).toInt * 256 + (c &&& (255 : Int32)).toInt := own_xint _ _ _ (own_m255 a) (own_m255 b) (own_m255 c)
theorem own_x2i (a b : Int32) : ((((a &&& (255 : Int32)) <<< ((16 : Int32) &&& 31)) ||| ((b &&& (255 : Int32)) <<< ((8 : Int32) &&& 31)))).toInt = (a &&& (255 : Int32)).toInt * 65536 + (b &&& (255 : Int32)).toInt * 256 + (0 : Int32).toInt := by rw [own_x2]; exact own_xint _ _ _ (own_m255 a) (own_m255 b) own_r0
theorem own_x1i (a : Int32) : ((((a &&& (255 : Int32)) <<< ((16 : Int32) &&& 31)) ||| (0 : Int32))).toInt = (a &&& (255 : Int32)).toInt * 65536 + (0 : Int32).toInt * 256 + (0 : Int32).toInt := by rw [own_x1]; exact own_xint _ _ _ (own_m255 a) own_r0 own_r0
theorem d2_0 : decode prog_1_method_3_code 0 = .ok (.aload_n 0, 1) := by decide +kernel
theorem d2_1 : decode prog_1_method_3_code 1 = .ok (.arraylength, 1) := by decide +kernel
theorem d2_2 : decode prog_1_method_3_code 2 = .ok (.i2l, 1) := by decide +kernel
theorem d2_3 : decode prog_1_method_3_code 3 = .ok (.ldc2_w 24, 3) := by decide +kernel
theorem d2_6 : decode prog_1_method_3_code 6 = .ok (.lmul, 1) := by decide +kernel
theorem d2_7 : decode prog_1_method_3_code 7 = .ok (.ldc2_w 26, 3) := by decide +kernel
theorem d2_10 : decode prog_1_method_3_code 10 = .ok (.ladd, 1) := by decide +kernel
theorem d2_11 : decode prog_1_method_3_code 11 = .ok (.ldc2_w 28, 3) := by decide +kernel
theorem d2_14 : decode prog_1_method_3_code 14 = .ok (.ldiv, 1) := by decide +kernel
theorem d2_15 : decode prog_1_method_3_code 15 = .ok (.l2i, 1) := by decide +kernel
theorem d2_16 : decode prog_1_method_3_code 16 = .ok (.newarray .byte, 2) := by decide +kernel
theorem d2_18 : decode prog_1_method_3_code 18 = .ok (.astore_n 1, 1) := by decide +kernel
theorem d2_19 : decode prog_1_method_3_code 19 = .ok (.aload_n 0, 1) := by decide +kernel
theorem d2_20 : decode prog_1_method_3_code 20 = .ok (.arraylength, 1) := by decide +kernel
theorem d2_21 : decode prog_1_method_3_code 21 = .ok (.aload_n 0, 1) := by decide +kernel
theorem d2_22 : decode prog_1_method_3_code 22 = .ok (.arraylength, 1) := by decide +kernel
theorem d2_23 : decode prog_1_method_3_code 23 = .ok (.iconst 3, 1) := by decide +kernel
theorem d2_24 : decode prog_1_method_3_code 24 = .ok (.irem, 1) := by decide +kernel
theorem d2_25 : decode prog_1_method_3_code 25 = .ok (.isub, 1) := by decide +kernel
theorem d2_26 : decode prog_1_method_3_code 26 = .ok (.istore_n 2, 1) := by decide +kernel
theorem d2_27 : decode prog_1_method_3_code 27 = .ok (.iconst 0, 1) := by decide +kernel
theorem d2_28 : decode prog_1_method_3_code 28 = .ok (.istore_n 3, 1) := by decide +kernel
theorem d2_29 : decode prog_1_method_3_code 29 = .ok (.iconst 0, 1) := by decide +kernel
theorem d2_30 : decode prog_1_method_3_code 30 = .ok (.istore 4, 2) := by decide +kernel
theorem d2_32 : decode prog_1_method_3_code 32 = .ok (.iload 4, 2) := by decide +kernel
theorem d2_34 : decode prog_1_method_3_code 34 = .ok (.iload_n 2, 1) := by decide +kernel
theorem d2_35 : decode prog_1_method_3_code 35 = .ok (.if_icmp .ge 113, 3) := by decide +kernel
theorem d2_148 : decode prog_1_method_3_code 148 = .ok (.iload_n 2, 1) := by decide +kernel
theorem d2_149 : decode prog_1_method_3_code 149 = .ok (.aload_n 0, 1) := by decide +kernel
theorem d2_150 : decode prog_1_method_3_code 150 = .ok (.arraylength, 1) := by decide +kernel
theorem d2_151 : decode prog_1_method_3_code 151 = .ok (.if_icmp .ge 94, 3) := by decide +kernel
theorem d2_245 : decode prog_1_method_3_code 245 = .ok (.aload_n 1, 1) := by decide +kernel
theorem d2_246 : decode prog_1_method_3_code 246 = .ok (.areturn, 1) := by decide +kernel
theorem pn_2 : plainName "com/example/whorl/whorl/Base64url" = true := by first | (simp [plainName, overriddenIn]; done) | decide +kernel
theorem ef_2_0 (m : MethodId) (r0 : Addr) : entryFrame m #[(.ref r0)] 6 = mkF m 0 #[.val (.ref r0), .unset, .unset, .unset, .unset, .unset] [] := by first | (simp [entryFrame, mkF, argsToLocals, Value.category]; done) | rfl
def Q2_0 (Z : State) (r0 : Addr) (kA : ClassId) (oAL : Addr) (cA : Cell) (h0 : Heap) (n0 : Nat) (v : Option Value) (h : Heap) (L : List Loc) : Prop := v = some (.ref h0.size) ∧ Fr n0 L ∧ Keep h0 h [] ∧ ∃ kT, Arv Z h h0.size kT .byte (0 : Int32) [] (.int (0 : Int32))
set_option maxRecDepth 65536 in
set_option maxHeartbeats 40000000 in
theorem rm2_0 (l : Launch) (Z : State) (a0 : Array Value) (hw : ∀ d ∈ tables_1, d.before a0 Z = true) (ws : List Jvm.Cond) (r0 : Addr) (kA : ClassId) (oAL : Addr) (cA : Cell) (h0 : Heap) (n0 : Nat) (Z0 : n0 ≤ h0.size) (V_r0 : Arv Z h0 r0 kA .byte (0 : Int32) [] (.int (0 : Int32))) (SA : Sta Z h0 "com/example/whorl/whorl/Base64url" "ALPHABET" "[B" (.ref oAL)) (TA : Tab Z h0 oAL cA .byte (64 : Int32)) :
    MetFree l (⟨"com/example/whorl/whorl/Base64url", "text", "([B)[B"⟩ : MethodName) (head1 (Jvm.Cond.code (⟨"com/example/whorl/whorl/Base64url", "text", "([B)[B"⟩ : MethodName) prog_1_method_3_code 6 (some (.array .byte)) :: ws) ({ frames := 0, cells := 1, slots := 0, locals := 0 } : Room)) (fun a U => a = #[(.ref r0)] ∧ Z.Warmed39 U.vm ∧ U.heap = h0) (fun _ _ _ _ _ => True) (fun _ U o U' => ∃ v L, o = .returned v ∧ Q2_0 Z r0 kA oAL cA h0 n0 v U'.heap L ∧ FrameEnd U o U' L ({ frames := 0, cells := 1, slots := 0, locals := 0 } : Room).cells ({ frames := 0, cells := 1, slots := 0, locals := 0 } : Room).slots) := by
  refine MetFree.of_bodySF (plainFor_of_name pn_2) hisR ?_
  intro p e s m args below meth c s₁ Bd hml0 hP hK
  obtain ⟨rfl, hZ, hh⟩ := hP
  have hx := Bd.exec
  have hby := Bd.bytes
  have hml : c.maxLocals = 6 := hml0
  have hown : s.vm.findClass "com/example/whorl/whorl/Base64url" = some m.cls := findClass_of_methodNamed Bd.named
  have hnm := (name_of_methodNamed Bd.named Bd.method).1
  have X0 : Stand p l e ({ frames := 0, cells := 1, slots := 0, locals := 0 } : Room) s m #[(.ref r0)] below meth c s₁ [] 0 0 := Stand.of_body Bd
  have e0 : s₁.heap = h0 := by rw [← hh, Bd.state]; rfl
  have N0 := Fr.nil n0
  have K0 : ∀ t, Steps p.tables e below (s₁.setTop (mkF m 0 #[.val (.ref r0), .unset, .unset, .unset, .unset, .unset] [])) t → Steps p.tables e below (s₁.setTop (entryFrame m #[(.ref r0)] 6)) t := fun t k => castTop (ef_2_0 m r0) k
  generalize s₁.setTop (entryFrame m #[(.ref r0)] 6) = SE at K0 ⊢
  have K1 : own_K p e below SE s₁ (mkF m 1 #[.val (.ref r0), .unset, .unset, .unset, .unset, .unset] [(.ref r0)]) := by
    intro t k
    refine K0 _ ?_
    refine XS.aloadN X0.here hx rfl (hb hby d2_0) rfl rfl ?_
    exact k
  obtain ⟨cl2, Ar2, -, S2, Ng2, -, -⟩ := id V_r0
  have K3 : own_K p e below SE s₁ (mkF m 3 #[.val (.ref r0), .unset, .unset, .unset, .unset, .unset] [(.long (((0 : Int32)).toInt64))]) := by
    intro t k
    refine K1 _ ?_
    refine X0.arraylength hx (by rw [e0]; exact Ar2.1) (State.isArrayOf_alike hZ.alike Ar2.2.1) (g := (mkF m 1 #[.val (.ref r0), .unset, .unset, .unset, .unset, .unset] [(.ref r0)])) rfl rfl (hb hby d2_1) _ ?_
    rw [len_of S2 Ng2]
    show own_S p e below s₁ (mkF m 2 #[.val (.ref r0), .unset, .unset, .unset, .unset, .unset] [(.int (0 : Int32))]) _
    refine XS.i2l X0.here hx rfl (hb hby d2_2) rfl ?_
    exact k
  rw [(by decide : (((0 : Int32)).toInt64) = (0 : Int64))] at K3
  have K4 : own_K p e below SE s₁ (mkF m 15 #[.val (.ref r0), .unset, .unset, .unset, .unset, .unset] [(.long ((2 : Int64) / (3 : Int64)))]) := by
    intro t k
    refine K3 _ ?_
    refine Stand.ldc2J X0 hx hown (mvT hZ (hw _ (List.mem_of_getElem? (i := 10) rfl))) (v := (4 : Int64)) (g := (mkF m 3 #[.val (.ref r0), .unset, .unset, .unset, .unset, .unset] [(.long (0 : Int64))])) rfl (hb hby d2_3) ?_
    show own_S p e below s₁ (mkF m 6 #[.val (.ref r0), .unset, .unset, .unset, .unset, .unset] [(.long (4 : Int64)), (.long (0 : Int64))]) _
    refine XS.lmul X0.here hx rfl (hb hby d2_6) rfl ?_
    show own_S p e below s₁ (mkF m 7 #[.val (.ref r0), .unset, .unset, .unset, .unset, .unset] [(.long (0 : Int64))]) _
    refine Stand.ldc2J X0 hx hown (mvT hZ (hw _ (List.mem_of_getElem? (i := 11) rfl))) (v := (2 : Int64)) (g := (mkF m 7 #[.val (.ref r0), .unset, .unset, .unset, .unset, .unset] [(.long (0 : Int64))])) rfl (hb hby d2_7) ?_
    show own_S p e below s₁ (mkF m 10 #[.val (.ref r0), .unset, .unset, .unset, .unset, .unset] [(.long (2 : Int64)), (.long (0 : Int64))]) _
    refine XS.ladd X0.here hx rfl (hb hby d2_10) rfl ?_
    show own_S p e below s₁ (mkF m 11 #[.val (.ref r0), .unset, .unset, .unset, .unset, .unset] [(.long (2 : Int64))]) _
    refine Stand.ldc2J X0 hx hown (mvT hZ (hw _ (List.mem_of_getElem? (i := 12) rfl))) (v := (3 : Int64)) (g := (mkF m 11 #[.val (.ref r0), .unset, .unset, .unset, .unset, .unset] [(.long (2 : Int64))])) rfl (hb hby d2_11) ?_
    show own_S p e below s₁ (mkF m 14 #[.val (.ref r0), .unset, .unset, .unset, .unset, .unset] [(.long (3 : Int64)), (.long (2 : Int64))]) _
    refine XS.ldiv X0.here hx rfl (hb hby d2_14) rfl (by decide) ?_
    exact k
  rw [(by decide : ((2 : Int64) / (3 : Int64)) = (0 : Int64))] at K4
  have K5 : own_K p e below SE s₁ (mkF m 16 #[.val (.ref r0), .unset, .unset, .unset, .unset, .unset] [(.int (((0 : Int64)).toInt32))]) := by
    intro t k
    refine K4 _ ?_
    refine XS.l2i X0.here hx rfl (hb hby d2_15) rfl ?_
    exact k
  rw [(by decide : (((0 : Int64)).toInt32) = (0 : Int32))] at K5
  obtain ⟨T6, h6, k6, X6, e6, E6, A6, st6⟩ := newP X0 hx hZ (hw _ (List.mem_of_getElem? (i := 1) rfl)) e0 (g := (mkF m 16 #[.val (.ref r0), .unset, .unset, .unset, .unset, .unset] [(.int (0 : Int32))])) rfl (hb hby d2_16) rfl (by decide) (cap := 0) (by decide) (by decide) (by decide) (by decide)
  obtain ⟨b6, g6⟩ : ∃ z, z = h0.size := ⟨_, rfl⟩
  rw [← g6] at A6 st6
  have g_b6 : n0 ≤ b6 := Nat.le_trans Z0 (Nat.le_of_eq g6.symm)
  have sz_b6 : h0.size ≤ b6 := Nat.le_trans (Nat.le_refl _) (Nat.le_of_eq g6.symm)
  have own_ne_r0_b6 : r0 ≠ b6 := Nat.ne_of_lt (Nat.lt_of_lt_of_le V_r0.lt (Nat.le_of_eq g6.symm))
  have Kp6 : Keep h0 h6 [] := Keep.ext (Keep.refl h0 []) E6
  have V6 : Arv Z h6 b6 k6 .byte (0 : Int32) [] (.int (0 : Int32)) := (Arv.new A6 (by decide)).pad (pad_rep [] (.int (0 : Int32)) 0)
  have K6 : own_K p e below SE T6 (mkF m 18 #[.val (.ref r0), .unset, .unset, .unset, .unset, .unset] [(.ref b6)]) := fun t k => K5 _ (st6 _ k)
  have K7 : own_K p e below SE T6 (mkF m 20 #[.val (.ref r0), .val (.ref b6), .unset, .unset, .unset, .unset] [(.ref r0)]) := by
    intro t k
    refine K6 _ ?_
    refine XS.astoreN X6.here hx rfl (hb hby d2_18) rfl rfl (l' := #[.val (.ref r0), .val (.ref b6), .unset, .unset, .unset, .unset]) rfl ?_
    show own_S p e below T6 (mkF m 19 #[.val (.ref r0), .val (.ref b6), .unset, .unset, .unset, .unset] []) _
    refine XS.aloadN X6.here hx rfl (hb hby d2_19) rfl rfl ?_
    exact k
  obtain ⟨cl8, Ar8, -, S8, Ng8, -, -⟩ := id (V_r0.ext (own_ext Kp6))
  have K9 : own_K p e below SE T6 (mkF m 22 #[.val (.ref r0), .val (.ref b6), .unset, .unset, .unset, .unset] [(.ref r0), (.int (0 : Int32))]) := by
    intro t k
    refine K7 _ ?_
    refine X6.arraylength hx (by rw [e6]; exact Ar8.1) (State.isArrayOf_alike hZ.alike Ar8.2.1) (g := (mkF m 20 #[.val (.ref r0), .val (.ref b6), .unset, .unset, .unset, .unset] [(.ref r0)])) rfl rfl (hb hby d2_20) _ ?_
    rw [len_of S8 Ng8]
    show own_S p e below T6 (mkF m 21 #[.val (.ref r0), .val (.ref b6), .unset, .unset, .unset, .unset] [(.int (0 : Int32))]) _
    refine XS.aloadN X6.here hx rfl (hb hby d2_21) rfl rfl ?_
    exact k
  obtain ⟨cl10, Ar10, -, S10, Ng10, -, -⟩ := id (V_r0.ext (own_ext Kp6))
  have K11 : own_K p e below SE T6 (mkF m 25 #[.val (.ref r0), .val (.ref b6), .unset, .unset, .unset, .unset] [(.int ((0 : Int32) % (3 : Int32))), (.int (0 : Int32))]) := by
    intro t k
    refine K9 _ ?_
    refine X6.arraylength hx (by rw [e6]; exact Ar10.1) (State.isArrayOf_alike hZ.alike Ar10.2.1) (g := (mkF m 22 #[.val (.ref r0), .val (.ref b6), .unset, .unset, .unset, .unset] [(.ref r0), (.int (0 : Int32))])) rfl rfl (hb hby d2_22) _ ?_
    rw [len_of S10 Ng10]
    show own_S p e below T6 (mkF m 23 #[.val (.ref r0), .val (.ref b6), .unset, .unset, .unset, .unset] [(.int (0 : Int32)), (.int (0 : Int32))]) _
    refine XS.iconst X6.here hx rfl (hb hby d2_23) ?_
    show own_S p e below T6 (mkF m 24 #[.val (.ref r0), .val (.ref b6), .unset, .unset, .unset, .unset] [(.int (3 : Int32)), (.int (0 : Int32)), (.int (0 : Int32))]) _
    refine iremM X6 hx rfl (hb hby d2_24) rfl (by decide) ?_
    exact k
  rw [(by decide : ((0 : Int32) % (3 : Int32)) = (0 : Int32))] at K11
  have K12 : own_K p e below SE T6 (mkF m 150 #[.val (.ref r0), .val (.ref b6), .val (.int (0 : Int32)), .val (.int (0 : Int32)), .val (.int (0 : Int32)), .unset] [(.ref r0), (.int (0 : Int32))]) := by
    intro t k
    refine K11 _ ?_
    refine XS.isub X6.here hx rfl (hb hby d2_25) rfl ?_
    show own_S p e below T6 (mkF m 26 #[.val (.ref r0), .val (.ref b6), .unset, .unset, .unset, .unset] [(.int (0 : Int32))]) _
    refine XS.istoreN X6.here hx rfl (hb hby d2_26) rfl (l' := #[.val (.ref r0), .val (.ref b6), .val (.int (0 : Int32)), .unset, .unset, .unset]) rfl ?_
    show own_S p e below T6 (mkF m 27 #[.val (.ref r0), .val (.ref b6), .val (.int (0 : Int32)), .unset, .unset, .unset] []) _
    refine XS.iconst X6.here hx rfl (hb hby d2_27) ?_
    show own_S p e below T6 (mkF m 28 #[.val (.ref r0), .val (.ref b6), .val (.int (0 : Int32)), .unset, .unset, .unset] [(.int (0 : Int32))]) _
    refine XS.istoreN X6.here hx rfl (hb hby d2_28) rfl (l' := #[.val (.ref r0), .val (.ref b6), .val (.int (0 : Int32)), .val (.int (0 : Int32)), .unset, .unset]) rfl ?_
    show own_S p e below T6 (mkF m 29 #[.val (.ref r0), .val (.ref b6), .val (.int (0 : Int32)), .val (.int (0 : Int32)), .unset, .unset] []) _
    refine XS.iconst X6.here hx rfl (hb hby d2_29) ?_
    show own_S p e below T6 (mkF m 30 #[.val (.ref r0), .val (.ref b6), .val (.int (0 : Int32)), .val (.int (0 : Int32)), .unset, .unset] [(.int (0 : Int32))]) _
    refine XS.istore X6.here hx rfl (hb hby d2_30) rfl (l' := #[.val (.ref r0), .val (.ref b6), .val (.int (0 : Int32)), .val (.int (0 : Int32)), .val (.int (0 : Int32)), .unset]) rfl ?_
    show own_S p e below T6 (mkF m 32 #[.val (.ref r0), .val (.ref b6), .val (.int (0 : Int32)), .val (.int (0 : Int32)), .val (.int (0 : Int32)), .unset] []) _
    refine XS.iload X6.here hx rfl (hb hby d2_32) rfl ?_
    show own_S p e below T6 (mkF m 34 #[.val (.ref r0), .val (.ref b6), .val (.int (0 : Int32)), .val (.int (0 : Int32)), .val (.int (0 : Int32)), .unset] [(.int (0 : Int32))]) _
    refine XS.iloadN X6.here hx rfl (hb hby d2_34) rfl ?_
    show own_S p e below T6 (mkF m 35 #[.val (.ref r0), .val (.ref b6), .val (.int (0 : Int32)), .val (.int (0 : Int32)), .val (.int (0 : Int32)), .unset] [(.int (0 : Int32)), (.int (0 : Int32))]) _
    refine XS.icmpYes X6.here hx rfl (pc0 := 35) (pc' := 148) rfl (hb hby d2_35) rfl (XT.ii_ge_t (by decide : ¬ ((0 : Int32) < (0 : Int32)))) (by decide) (by decide) ?_
    show own_S p e below T6 (mkF m 148 #[.val (.ref r0), .val (.ref b6), .val (.int (0 : Int32)), .val (.int (0 : Int32)), .val (.int (0 : Int32)), .unset] []) _
    refine XS.iloadN X6.here hx rfl (hb hby d2_148) rfl ?_
    show own_S p e below T6 (mkF m 149 #[.val (.ref r0), .val (.ref b6), .val (.int (0 : Int32)), .val (.int (0 : Int32)), .val (.int (0 : Int32)), .unset] [(.int (0 : Int32))]) _
    refine XS.aloadN X6.here hx rfl (hb hby d2_149) rfl rfl ?_
    exact k
  obtain ⟨cl13, Ar13, -, S13, Ng13, -, -⟩ := id (V_r0.ext (own_ext Kp6))
  have K14 : own_K p e below SE T6 (mkF m 246 #[.val (.ref r0), .val (.ref b6), .val (.int (0 : Int32)), .val (.int (0 : Int32)), .val (.int (0 : Int32)), .unset] [(.ref b6)]) := by
    intro t k
    refine K12 _ ?_
    refine X6.arraylength hx (by rw [e6]; exact Ar13.1) (State.isArrayOf_alike hZ.alike Ar13.2.1) (g := (mkF m 150 #[.val (.ref r0), .val (.ref b6), .val (.int (0 : Int32)), .val (.int (0 : Int32)), .val (.int (0 : Int32)), .unset] [(.ref r0), (.int (0 : Int32))])) rfl rfl (hb hby d2_150) _ ?_
    rw [len_of S13 Ng13]
    show own_S p e below T6 (mkF m 151 #[.val (.ref r0), .val (.ref b6), .val (.int (0 : Int32)), .val (.int (0 : Int32)), .val (.int (0 : Int32)), .unset] [(.int (0 : Int32)), (.int (0 : Int32))]) _
    refine XS.icmpYes X6.here hx rfl (pc0 := 151) (pc' := 245) rfl (hb hby d2_151) rfl (XT.ii_ge_t (by decide : ¬ ((0 : Int32) < (0 : Int32)))) (by decide) (by decide) ?_
    show own_S p e below T6 (mkF m 245 #[.val (.ref r0), .val (.ref b6), .val (.int (0 : Int32)), .val (.int (0 : Int32)), .val (.int (0 : Int32)), .unset] []) _
    refine XS.aloadN X6.here hx rfl (hb hby d2_245) rfl rfl ?_
    exact k
  obtain ⟨fs, hr, hrun, hended, hW, hsame⟩ := X6.leave (v := some (.ref b6)) (fun h => by rw [Bd.returns] at h; cases h)
  refine ⟨_, _, K14 _ ?_, hrun, hended, _, _, rfl, ?_, ⟨_, rfl⟩, hW, hsame.mono (by decide) (by decide)⟩
  · show Steps p.tables e below (T6.setTop (mkF m 246 #[.val (.ref r0), .val (.ref b6), .val (.int (0 : Int32)), .val (.int (0 : Int32)), .val (.int (0 : Int32)), .unset] [(.ref b6)])) _
    jvm_step X6.here [X6.here.top, hx, (hb hby d2_246), X6.method', Bd.returns, Value.isRef, FieldType.isReference]
    first | (intro acts; rw [hr _ acts rfl rfl rfl]) | rw [hr _ _ rfl rfl rfl]
    exact Steps.refl _
  · show Q2_0 Z r0 kA oAL cA h0 n0 _ T6.heap _
    rw [e6]
    exact ⟨congrArg (fun z => some (Value.ref z)) g6, N0, Kp6, _, (g6 ▸ V6)⟩
theorem d2_154 : decode prog_1_method_3_code 154 = .ok (.aload_n 0, 1) := by decide +kernel
theorem d2_155 : decode prog_1_method_3_code 155 = .ok (.iload_n 2, 1) := by decide +kernel
theorem d2_156 : decode prog_1_method_3_code 156 = .ok (.baload, 1) := by decide +kernel
theorem d2_157 : decode prog_1_method_3_code 157 = .ok (.sipush 255, 3) := by decide +kernel
theorem d2_160 : decode prog_1_method_3_code 160 = .ok (.iand, 1) := by decide +kernel
theorem d2_161 : decode prog_1_method_3_code 161 = .ok (.bipush 16, 2) := by decide +kernel
theorem d2_163 : decode prog_1_method_3_code 163 = .ok (.ishl, 1) := by decide +kernel
theorem d2_164 : decode prog_1_method_3_code 164 = .ok (.iload_n 2, 1) := by decide +kernel
theorem d2_165 : decode prog_1_method_3_code 165 = .ok (.iconst 1, 1) := by decide +kernel
theorem d2_166 : decode prog_1_method_3_code 166 = .ok (.iadd, 1) := by decide +kernel
theorem d2_167 : decode prog_1_method_3_code 167 = .ok (.aload_n 0, 1) := by decide +kernel
theorem d2_168 : decode prog_1_method_3_code 168 = .ok (.arraylength, 1) := by decide +kernel
theorem d2_169 : decode prog_1_method_3_code 169 = .ok (.if_icmp .ge 18, 3) := by decide +kernel
theorem d2_187 : decode prog_1_method_3_code 187 = .ok (.iconst 0, 1) := by decide +kernel
theorem d2_188 : decode prog_1_method_3_code 188 = .ok (.ior, 1) := by decide +kernel
theorem d2_189 : decode prog_1_method_3_code 189 = .ok (.istore 4, 2) := by decide +kernel
theorem d2_191 : decode prog_1_method_3_code 191 = .ok (.aload_n 1, 1) := by decide +kernel
theorem d2_192 : decode prog_1_method_3_code 192 = .ok (.iload_n 3, 1) := by decide +kernel
theorem d2_193 : decode prog_1_method_3_code 193 = .ok (.iinc 3 1, 3) := by decide +kernel
theorem d2_196 : decode prog_1_method_3_code 196 = .ok (.getstatic 30, 3) := by decide +kernel
theorem d2_199 : decode prog_1_method_3_code 199 = .ok (.iload 4, 2) := by decide +kernel
theorem d2_201 : decode prog_1_method_3_code 201 = .ok (.bipush 18, 2) := by decide +kernel
theorem d2_203 : decode prog_1_method_3_code 203 = .ok (.iushr, 1) := by decide +kernel
theorem d2_204 : decode prog_1_method_3_code 204 = .ok (.baload, 1) := by decide +kernel
theorem d2_205 : decode prog_1_method_3_code 205 = .ok (.bastore, 1) := by decide +kernel
theorem d2_206 : decode prog_1_method_3_code 206 = .ok (.aload_n 1, 1) := by decide +kernel
theorem d2_207 : decode prog_1_method_3_code 207 = .ok (.iload_n 3, 1) := by decide +kernel
theorem d2_208 : decode prog_1_method_3_code 208 = .ok (.iinc 3 1, 3) := by decide +kernel
theorem d2_211 : decode prog_1_method_3_code 211 = .ok (.getstatic 30, 3) := by decide +kernel
theorem d2_214 : decode prog_1_method_3_code 214 = .ok (.iload 4, 2) := by decide +kernel
theorem d2_216 : decode prog_1_method_3_code 216 = .ok (.bipush 12, 2) := by decide +kernel
theorem d2_218 : decode prog_1_method_3_code 218 = .ok (.iushr, 1) := by decide +kernel
theorem d2_219 : decode prog_1_method_3_code 219 = .ok (.bipush 63, 2) := by decide +kernel
theorem d2_221 : decode prog_1_method_3_code 221 = .ok (.iand, 1) := by decide +kernel
theorem d2_222 : decode prog_1_method_3_code 222 = .ok (.baload, 1) := by decide +kernel
theorem d2_223 : decode prog_1_method_3_code 223 = .ok (.bastore, 1) := by decide +kernel
theorem d2_224 : decode prog_1_method_3_code 224 = .ok (.iload_n 3, 1) := by decide +kernel
theorem d2_225 : decode prog_1_method_3_code 225 = .ok (.aload_n 1, 1) := by decide +kernel
theorem d2_226 : decode prog_1_method_3_code 226 = .ok (.arraylength, 1) := by decide +kernel
theorem d2_227 : decode prog_1_method_3_code 227 = .ok (.if_icmp .ge 18, 3) := by decide +kernel
theorem ef_2_1 (m : MethodId) (r0 : Addr) : entryFrame m #[(.ref r0)] 6 = mkF m 0 #[.val (.ref r0), .unset, .unset, .unset, .unset, .unset] [] := by first | (simp [entryFrame, mkF, argsToLocals, Value.category]; done) | rfl
def Q2_1 (Z : State) (r0 : Addr) (kA : ClassId) (oAL : Addr) (cA : Cell) (ub0 : Int32) (h0 : Heap) (n0 : Nat) (v : Option Value) (h : Heap) (L : List Loc) : Prop := v = some (.ref h0.size) ∧ Fr n0 L ∧ Keep h0 h [] ∧ ∃ kT, Arv Z h h0.size kT .byte (2 : Int32) [(.int (atv cA (((((ub0 &&& (255 : Int32)) <<< ((16 : Int32) &&& 31)) ||| (0 : Int32)).toUInt32 >>> ((18 : Int32) &&& 31).toUInt32).toInt32)).toInt8.toInt32), (.int (atv cA ((((((ub0 &&& (255 : Int32)) <<< ((16 : Int32) &&& 31)) ||| (0 : Int32)).toUInt32 >>> ((12 : Int32) &&& 31).toUInt32).toInt32) &&& (63 : Int32))).toInt8.toInt32)] (.int (0 : Int32))
set_option maxRecDepth 65536 in
set_option maxHeartbeats 40000000 in
theorem rm2_1 (l : Launch) (Z : State) (a0 : Array Value) (hw : ∀ d ∈ tables_1, d.before a0 Z = true) (ws : List Jvm.Cond) (r0 : Addr) (kA : ClassId) (oAL : Addr) (cA : Cell) (ub0 : Int32) (h0 : Heap) (n0 : Nat) (Z0 : n0 ≤ h0.size) (V_r0 : Arv Z h0 r0 kA .byte (1 : Int32) [(.int ub0)] (.int (0 : Int32))) (SA : Sta Z h0 "com/example/whorl/whorl/Base64url" "ALPHABET" "[B" (.ref oAL)) (TA : Tab Z h0 oAL cA .byte (64 : Int32)) :
    MetFree l (⟨"com/example/whorl/whorl/Base64url", "text", "([B)[B"⟩ : MethodName) (head1 (Jvm.Cond.code (⟨"com/example/whorl/whorl/Base64url", "text", "([B)[B"⟩ : MethodName) prog_1_method_3_code 6 (some (.array .byte)) :: ws) ({ frames := 0, cells := 1, slots := 2, locals := 0 } : Room)) (fun a U => a = #[(.ref r0)] ∧ Z.Warmed39 U.vm ∧ U.heap = h0) (fun _ _ _ _ _ => True) (fun _ U o U' => ∃ v L, o = .returned v ∧ Q2_1 Z r0 kA oAL cA ub0 h0 n0 v U'.heap L ∧ FrameEnd U o U' L ({ frames := 0, cells := 1, slots := 2, locals := 0 } : Room).cells ({ frames := 0, cells := 1, slots := 2, locals := 0 } : Room).slots) := by
  refine MetFree.of_bodySF (plainFor_of_name pn_2) hisR ?_
  intro p e s m args below meth c s₁ Bd hml0 hP hK
  obtain ⟨rfl, hZ, hh⟩ := hP
  have hx := Bd.exec
  have hby := Bd.bytes
  have hml : c.maxLocals = 6 := hml0
  have hown : s.vm.findClass "com/example/whorl/whorl/Base64url" = some m.cls := findClass_of_methodNamed Bd.named
  have hnm := (name_of_methodNamed Bd.named Bd.method).1
  have X0 : Stand p l e ({ frames := 0, cells := 1, slots := 2, locals := 0 } : Room) s m #[(.ref r0)] below meth c s₁ [] 0 0 := Stand.of_body Bd
  have e0 : s₁.heap = h0 := by rw [← hh, Bd.state]; rfl
  have N0 := Fr.nil n0
  have K0 : ∀ t, Steps p.tables e below (s₁.setTop (mkF m 0 #[.val (.ref r0), .unset, .unset, .unset, .unset, .unset] [])) t → Steps p.tables e below (s₁.setTop (entryFrame m #[(.ref r0)] 6)) t := fun t k => castTop (ef_2_1 m r0) k
  generalize s₁.setTop (entryFrame m #[(.ref r0)] 6) = SE at K0 ⊢
  have K1 : own_K p e below SE s₁ (mkF m 1 #[.val (.ref r0), .unset, .unset, .unset, .unset, .unset] [(.ref r0)]) := by
    intro t k
    refine K0 _ ?_
    refine XS.aloadN X0.here hx rfl (hb hby d2_0) rfl rfl ?_
    exact k
  obtain ⟨cl2, Ar2, -, S2, Ng2, -, -⟩ := id V_r0
  have K3 : own_K p e below SE s₁ (mkF m 3 #[.val (.ref r0), .unset, .unset, .unset, .unset, .unset] [(.long (((1 : Int32)).toInt64))]) := by
    intro t k
    refine K1 _ ?_
    refine X0.arraylength hx (by rw [e0]; exact Ar2.1) (State.isArrayOf_alike hZ.alike Ar2.2.1) (g := (mkF m 1 #[.val (.ref r0), .unset, .unset, .unset, .unset, .unset] [(.ref r0)])) rfl rfl (hb hby d2_1) _ ?_
    rw [len_of S2 Ng2]
    show own_S p e below s₁ (mkF m 2 #[.val (.ref r0), .unset, .unset, .unset, .unset, .unset] [(.int (1 : Int32))]) _
    refine XS.i2l X0.here hx rfl (hb hby d2_2) rfl ?_
    exact k
  rw [(by decide : (((1 : Int32)).toInt64) = (1 : Int64))] at K3
  have K4 : own_K p e below SE s₁ (mkF m 15 #[.val (.ref r0), .unset, .unset, .unset, .unset, .unset] [(.long ((6 : Int64) / (3 : Int64)))]) := by
    intro t k
    refine K3 _ ?_
    refine Stand.ldc2J X0 hx hown (mvT hZ (hw _ (List.mem_of_getElem? (i := 10) rfl))) (v := (4 : Int64)) (g := (mkF m 3 #[.val (.ref r0), .unset, .unset, .unset, .unset, .unset] [(.long (1 : Int64))])) rfl (hb hby d2_3) ?_
    show own_S p e below s₁ (mkF m 6 #[.val (.ref r0), .unset, .unset, .unset, .unset, .unset] [(.long (4 : Int64)), (.long (1 : Int64))]) _
    refine XS.lmul X0.here hx rfl (hb hby d2_6) rfl ?_
    show own_S p e below s₁ (mkF m 7 #[.val (.ref r0), .unset, .unset, .unset, .unset, .unset] [(.long (4 : Int64))]) _
    refine Stand.ldc2J X0 hx hown (mvT hZ (hw _ (List.mem_of_getElem? (i := 11) rfl))) (v := (2 : Int64)) (g := (mkF m 7 #[.val (.ref r0), .unset, .unset, .unset, .unset, .unset] [(.long (4 : Int64))])) rfl (hb hby d2_7) ?_
    show own_S p e below s₁ (mkF m 10 #[.val (.ref r0), .unset, .unset, .unset, .unset, .unset] [(.long (2 : Int64)), (.long (4 : Int64))]) _
    refine XS.ladd X0.here hx rfl (hb hby d2_10) rfl ?_
    show own_S p e below s₁ (mkF m 11 #[.val (.ref r0), .unset, .unset, .unset, .unset, .unset] [(.long (6 : Int64))]) _
    refine Stand.ldc2J X0 hx hown (mvT hZ (hw _ (List.mem_of_getElem? (i := 12) rfl))) (v := (3 : Int64)) (g := (mkF m 11 #[.val (.ref r0), .unset, .unset, .unset, .unset, .unset] [(.long (6 : Int64))])) rfl (hb hby d2_11) ?_
    show own_S p e below s₁ (mkF m 14 #[.val (.ref r0), .unset, .unset, .unset, .unset, .unset] [(.long (3 : Int64)), (.long (6 : Int64))]) _
    refine XS.ldiv X0.here hx rfl (hb hby d2_14) rfl (by decide) ?_
    exact k
  rw [(by decide : ((6 : Int64) / (3 : Int64)) = (2 : Int64))] at K4
  have K5 : own_K p e below SE s₁ (mkF m 16 #[.val (.ref r0), .unset, .unset, .unset, .unset, .unset] [(.int (((2 : Int64)).toInt32))]) := by
    intro t k
    refine K4 _ ?_
    refine XS.l2i X0.here hx rfl (hb hby d2_15) rfl ?_
    exact k
  rw [(by decide : (((2 : Int64)).toInt32) = (2 : Int32))] at K5
  obtain ⟨T6, h6, k6, X6, e6, E6, A6, st6⟩ := newP X0 hx hZ (hw _ (List.mem_of_getElem? (i := 1) rfl)) e0 (g := (mkF m 16 #[.val (.ref r0), .unset, .unset, .unset, .unset, .unset] [(.int (2 : Int32))])) rfl (hb hby d2_16) rfl (by decide) (cap := 2) (by decide) (by decide) (by decide) (by decide)
  obtain ⟨b6, g6⟩ : ∃ z, z = h0.size := ⟨_, rfl⟩
  rw [← g6] at A6 st6
  have g_b6 : n0 ≤ b6 := Nat.le_trans Z0 (Nat.le_of_eq g6.symm)
  have sz_b6 : h0.size ≤ b6 := Nat.le_trans (Nat.le_refl _) (Nat.le_of_eq g6.symm)
  have own_ne_r0_b6 : r0 ≠ b6 := Nat.ne_of_lt (Nat.lt_of_lt_of_le V_r0.lt (Nat.le_of_eq g6.symm))
  have Kp6 : Keep h0 h6 [] := Keep.ext (Keep.refl h0 []) E6
  have V6 : Arv Z h6 b6 k6 .byte (2 : Int32) [(.int (0 : Int32)), (.int (0 : Int32))] (.int (0 : Int32)) := (Arv.new A6 (by decide)).pad (pad_rep [] (.int (0 : Int32)) 2)
  have K6 : own_K p e below SE T6 (mkF m 18 #[.val (.ref r0), .unset, .unset, .unset, .unset, .unset] [(.ref b6)]) := fun t k => K5 _ (st6 _ k)
  have K7 : own_K p e below SE T6 (mkF m 20 #[.val (.ref r0), .val (.ref b6), .unset, .unset, .unset, .unset] [(.ref r0)]) := by
    intro t k
    refine K6 _ ?_
    refine XS.astoreN X6.here hx rfl (hb hby d2_18) rfl rfl (l' := #[.val (.ref r0), .val (.ref b6), .unset, .unset, .unset, .unset]) rfl ?_
    show own_S p e below T6 (mkF m 19 #[.val (.ref r0), .val (.ref b6), .unset, .unset, .unset, .unset] []) _
    refine XS.aloadN X6.here hx rfl (hb hby d2_19) rfl rfl ?_
    exact k
  obtain ⟨cl8, Ar8, -, S8, Ng8, -, -⟩ := id (V_r0.ext (own_ext Kp6))
  have K9 : own_K p e below SE T6 (mkF m 22 #[.val (.ref r0), .val (.ref b6), .unset, .unset, .unset, .unset] [(.ref r0), (.int (1 : Int32))]) := by
    intro t k
    refine K7 _ ?_
    refine X6.arraylength hx (by rw [e6]; exact Ar8.1) (State.isArrayOf_alike hZ.alike Ar8.2.1) (g := (mkF m 20 #[.val (.ref r0), .val (.ref b6), .unset, .unset, .unset, .unset] [(.ref r0)])) rfl rfl (hb hby d2_20) _ ?_
    rw [len_of S8 Ng8]
    show own_S p e below T6 (mkF m 21 #[.val (.ref r0), .val (.ref b6), .unset, .unset, .unset, .unset] [(.int (1 : Int32))]) _
    refine XS.aloadN X6.here hx rfl (hb hby d2_21) rfl rfl ?_
    exact k
  obtain ⟨cl10, Ar10, -, S10, Ng10, -, -⟩ := id (V_r0.ext (own_ext Kp6))
  have K11 : own_K p e below SE T6 (mkF m 25 #[.val (.ref r0), .val (.ref b6), .unset, .unset, .unset, .unset] [(.int ((1 : Int32) % (3 : Int32))), (.int (1 : Int32))]) := by
    intro t k
    refine K9 _ ?_
    refine X6.arraylength hx (by rw [e6]; exact Ar10.1) (State.isArrayOf_alike hZ.alike Ar10.2.1) (g := (mkF m 22 #[.val (.ref r0), .val (.ref b6), .unset, .unset, .unset, .unset] [(.ref r0), (.int (1 : Int32))])) rfl rfl (hb hby d2_22) _ ?_
    rw [len_of S10 Ng10]
    show own_S p e below T6 (mkF m 23 #[.val (.ref r0), .val (.ref b6), .unset, .unset, .unset, .unset] [(.int (1 : Int32)), (.int (1 : Int32))]) _
    refine XS.iconst X6.here hx rfl (hb hby d2_23) ?_
    show own_S p e below T6 (mkF m 24 #[.val (.ref r0), .val (.ref b6), .unset, .unset, .unset, .unset] [(.int (3 : Int32)), (.int (1 : Int32)), (.int (1 : Int32))]) _
    refine iremM X6 hx rfl (hb hby d2_24) rfl (by decide) ?_
    exact k
  rw [(by decide : ((1 : Int32) % (3 : Int32)) = (1 : Int32))] at K11
  have K12 : own_K p e below SE T6 (mkF m 150 #[.val (.ref r0), .val (.ref b6), .val (.int (0 : Int32)), .val (.int (0 : Int32)), .val (.int (0 : Int32)), .unset] [(.ref r0), (.int (0 : Int32))]) := by
    intro t k
    refine K11 _ ?_
    refine XS.isub X6.here hx rfl (hb hby d2_25) rfl ?_
    show own_S p e below T6 (mkF m 26 #[.val (.ref r0), .val (.ref b6), .unset, .unset, .unset, .unset] [(.int (0 : Int32))]) _
    refine XS.istoreN X6.here hx rfl (hb hby d2_26) rfl (l' := #[.val (.ref r0), .val (.ref b6), .val (.int (0 : Int32)), .unset, .unset, .unset]) rfl ?_
    show own_S p e below T6 (mkF m 27 #[.val (.ref r0), .val (.ref b6), .val (.int (0 : Int32)), .unset, .unset, .unset] []) _
    refine XS.iconst X6.here hx rfl (hb hby d2_27) ?_
    show own_S p e below T6 (mkF m 28 #[.val (.ref r0), .val (.ref b6), .val (.int (0 : Int32)), .unset, .unset, .unset] [(.int (0 : Int32))]) _
    refine XS.istoreN X6.here hx rfl (hb hby d2_28) rfl (l' := #[.val (.ref r0), .val (.ref b6), .val (.int (0 : Int32)), .val (.int (0 : Int32)), .unset, .unset]) rfl ?_
    show own_S p e below T6 (mkF m 29 #[.val (.ref r0), .val (.ref b6), .val (.int (0 : Int32)), .val (.int (0 : Int32)), .unset, .unset] []) _
    refine XS.iconst X6.here hx rfl (hb hby d2_29) ?_
    show own_S p e below T6 (mkF m 30 #[.val (.ref r0), .val (.ref b6), .val (.int (0 : Int32)), .val (.int (0 : Int32)), .unset, .unset] [(.int (0 : Int32))]) _
    refine XS.istore X6.here hx rfl (hb hby d2_30) rfl (l' := #[.val (.ref r0), .val (.ref b6), .val (.int (0 : Int32)), .val (.int (0 : Int32)), .val (.int (0 : Int32)), .unset]) rfl ?_
    show own_S p e below T6 (mkF m 32 #[.val (.ref r0), .val (.ref b6), .val (.int (0 : Int32)), .val (.int (0 : Int32)), .val (.int (0 : Int32)), .unset] []) _
    refine XS.iload X6.here hx rfl (hb hby d2_32) rfl ?_
    show own_S p e below T6 (mkF m 34 #[.val (.ref r0), .val (.ref b6), .val (.int (0 : Int32)), .val (.int (0 : Int32)), .val (.int (0 : Int32)), .unset] [(.int (0 : Int32))]) _
    refine XS.iloadN X6.here hx rfl (hb hby d2_34) rfl ?_
    show own_S p e below T6 (mkF m 35 #[.val (.ref r0), .val (.ref b6), .val (.int (0 : Int32)), .val (.int (0 : Int32)), .val (.int (0 : Int32)), .unset] [(.int (0 : Int32)), (.int (0 : Int32))]) _
    refine XS.icmpYes X6.here hx rfl (pc0 := 35) (pc' := 148) rfl (hb hby d2_35) rfl (XT.ii_ge_t (by decide : ¬ ((0 : Int32) < (0 : Int32)))) (by decide) (by decide) ?_
    show own_S p e below T6 (mkF m 148 #[.val (.ref r0), .val (.ref b6), .val (.int (0 : Int32)), .val (.int (0 : Int32)), .val (.int (0 : Int32)), .unset] []) _
    refine XS.iloadN X6.here hx rfl (hb hby d2_148) rfl ?_
    show own_S p e below T6 (mkF m 149 #[.val (.ref r0), .val (.ref b6), .val (.int (0 : Int32)), .val (.int (0 : Int32)), .val (.int (0 : Int32)), .unset] [(.int (0 : Int32))]) _
    refine XS.aloadN X6.here hx rfl (hb hby d2_149) rfl rfl ?_
    exact k
  obtain ⟨cl13, Ar13, -, S13, Ng13, -, -⟩ := id (V_r0.ext (own_ext Kp6))
  have K14 : own_K p e below SE T6 (mkF m 156 #[.val (.ref r0), .val (.ref b6), .val (.int (0 : Int32)), .val (.int (0 : Int32)), .val (.int (0 : Int32)), .unset] [(.int (0 : Int32)), (.ref r0)]) := by
    intro t k
    refine K12 _ ?_
    refine X6.arraylength hx (by rw [e6]; exact Ar13.1) (State.isArrayOf_alike hZ.alike Ar13.2.1) (g := (mkF m 150 #[.val (.ref r0), .val (.ref b6), .val (.int (0 : Int32)), .val (.int (0 : Int32)), .val (.int (0 : Int32)), .unset] [(.ref r0), (.int (0 : Int32))])) rfl rfl (hb hby d2_150) _ ?_
    rw [len_of S13 Ng13]
    show own_S p e below T6 (mkF m 151 #[.val (.ref r0), .val (.ref b6), .val (.int (0 : Int32)), .val (.int (0 : Int32)), .val (.int (0 : Int32)), .unset] [(.int (1 : Int32)), (.int (0 : Int32))]) _
    refine XS.icmpNo X6.here hx rfl (hb hby d2_151) rfl (XT.ii_ge_f (by decide : (0 : Int32) < (1 : Int32))) ?_
    show own_S p e below T6 (mkF m 154 #[.val (.ref r0), .val (.ref b6), .val (.int (0 : Int32)), .val (.int (0 : Int32)), .val (.int (0 : Int32)), .unset] []) _
    refine XS.aloadN X6.here hx rfl (hb hby d2_154) rfl rfl ?_
    show own_S p e below T6 (mkF m 155 #[.val (.ref r0), .val (.ref b6), .val (.int (0 : Int32)), .val (.int (0 : Int32)), .val (.int (0 : Int32)), .unset] [(.ref r0)]) _
    refine XS.iloadN X6.here hx rfl (hb hby d2_155) rfl ?_
    exact k
  obtain ⟨cl15, Ar15, qk15, S15, Ng15, Hh15, Gg15⟩ := id (V_r0.ext (own_ext Kp6))
  have hin15 : ¬ ((0 : Int32) < 0 ∨ cl15.slots.size ≤ ((0 : Int32)).toNatClampNeg) := inb_of S15 ⟨by decide, by decide⟩
  have hat15 : cl15.slots[((0 : Int32)).toNatClampNeg]? = some (.int ub0) := Has.at Hh15 hin15 rfl
  have K16 : own_K p e below SE T6 (mkF m 168 #[.val (.ref r0), .val (.ref b6), .val (.int (0 : Int32)), .val (.int (0 : Int32)), .val (.int (0 : Int32)), .unset] [(.ref r0), (.int (1 : Int32)), (.int ((ub0 &&& (255 : Int32)) <<< ((16 : Int32) &&& 31)))]) := by
    intro t k
    refine K14 _ ?_
    refine X6.baloadBytes hx (j := (0 : Int32)) (v := (.int ub0)) (by rw [e6]; exact Ar15.1) (State.isArrayOf_alike hZ.alike Ar15.2.1) Ar15.2.2 hin15 hat15 (g := (mkF m 156 #[.val (.ref r0), .val (.ref b6), .val (.int (0 : Int32)), .val (.int (0 : Int32)), .val (.int (0 : Int32)), .unset] [(.int (0 : Int32)), (.ref r0)])) rfl rfl (hb hby d2_156) _ ?_
    show own_S p e below T6 (mkF m 157 #[.val (.ref r0), .val (.ref b6), .val (.int (0 : Int32)), .val (.int (0 : Int32)), .val (.int (0 : Int32)), .unset] [(.int ub0)]) _
    refine XS.sipush X6.here hx rfl (hb hby d2_157) ?_
    show own_S p e below T6 (mkF m 160 #[.val (.ref r0), .val (.ref b6), .val (.int (0 : Int32)), .val (.int (0 : Int32)), .val (.int (0 : Int32)), .unset] [(.int (255 : Int32)), (.int ub0)]) _
    refine XS.iand X6.here hx rfl (hb hby d2_160) rfl ?_
    show own_S p e below T6 (mkF m 161 #[.val (.ref r0), .val (.ref b6), .val (.int (0 : Int32)), .val (.int (0 : Int32)), .val (.int (0 : Int32)), .unset] [(.int (ub0 &&& (255 : Int32)))]) _
    refine XS.bipush X6.here hx rfl (hb hby d2_161) ?_
    show own_S p e below T6 (mkF m 163 #[.val (.ref r0), .val (.ref b6), .val (.int (0 : Int32)), .val (.int (0 : Int32)), .val (.int (0 : Int32)), .unset] [(.int (16 : Int32)), (.int (ub0 &&& (255 : Int32)))]) _
    refine XS.ishl X6.here hx rfl (hb hby d2_163) rfl ?_
    show own_S p e below T6 (mkF m 164 #[.val (.ref r0), .val (.ref b6), .val (.int (0 : Int32)), .val (.int (0 : Int32)), .val (.int (0 : Int32)), .unset] [(.int ((ub0 &&& (255 : Int32)) <<< ((16 : Int32) &&& 31)))]) _
    refine XS.iloadN X6.here hx rfl (hb hby d2_164) rfl ?_
    show own_S p e below T6 (mkF m 165 #[.val (.ref r0), .val (.ref b6), .val (.int (0 : Int32)), .val (.int (0 : Int32)), .val (.int (0 : Int32)), .unset] [(.int (0 : Int32)), (.int ((ub0 &&& (255 : Int32)) <<< ((16 : Int32) &&& 31)))]) _
    refine XS.iconst X6.here hx rfl (hb hby d2_165) ?_
    show own_S p e below T6 (mkF m 166 #[.val (.ref r0), .val (.ref b6), .val (.int (0 : Int32)), .val (.int (0 : Int32)), .val (.int (0 : Int32)), .unset] [(.int (1 : Int32)), (.int (0 : Int32)), (.int ((ub0 &&& (255 : Int32)) <<< ((16 : Int32) &&& 31)))]) _
    refine XS.iadd X6.here hx rfl (hb hby d2_166) rfl ?_
    show own_S p e below T6 (mkF m 167 #[.val (.ref r0), .val (.ref b6), .val (.int (0 : Int32)), .val (.int (0 : Int32)), .val (.int (0 : Int32)), .unset] [(.int (1 : Int32)), (.int ((ub0 &&& (255 : Int32)) <<< ((16 : Int32) &&& 31)))]) _
    refine XS.aloadN X6.here hx rfl (hb hby d2_167) rfl rfl ?_
    exact k
  obtain ⟨cl17, Ar17, -, S17, Ng17, -, -⟩ := id (V_r0.ext (own_ext Kp6))
  have K18 : own_K p e below SE T6 (mkF m 191 #[.val (.ref r0), .val (.ref b6), .val (.int (0 : Int32)), .val (.int (0 : Int32)), .val (.int (((ub0 &&& (255 : Int32)) <<< ((16 : Int32) &&& 31)) ||| (0 : Int32))), .unset] []) := by
    intro t k
    refine K16 _ ?_
    refine X6.arraylength hx (by rw [e6]; exact Ar17.1) (State.isArrayOf_alike hZ.alike Ar17.2.1) (g := (mkF m 168 #[.val (.ref r0), .val (.ref b6), .val (.int (0 : Int32)), .val (.int (0 : Int32)), .val (.int (0 : Int32)), .unset] [(.ref r0), (.int (1 : Int32)), (.int ((ub0 &&& (255 : Int32)) <<< ((16 : Int32) &&& 31)))])) rfl rfl (hb hby d2_168) _ ?_
    rw [len_of S17 Ng17]
    show own_S p e below T6 (mkF m 169 #[.val (.ref r0), .val (.ref b6), .val (.int (0 : Int32)), .val (.int (0 : Int32)), .val (.int (0 : Int32)), .unset] [(.int (1 : Int32)), (.int (1 : Int32)), (.int ((ub0 &&& (255 : Int32)) <<< ((16 : Int32) &&& 31)))]) _
    refine XS.icmpYes X6.here hx rfl (pc0 := 169) (pc' := 187) rfl (hb hby d2_169) rfl (XT.ii_ge_t (by decide : ¬ ((1 : Int32) < (1 : Int32)))) (by decide) (by decide) ?_
    show own_S p e below T6 (mkF m 187 #[.val (.ref r0), .val (.ref b6), .val (.int (0 : Int32)), .val (.int (0 : Int32)), .val (.int (0 : Int32)), .unset] [(.int ((ub0 &&& (255 : Int32)) <<< ((16 : Int32) &&& 31)))]) _
    refine XS.iconst X6.here hx rfl (hb hby d2_187) ?_
    show own_S p e below T6 (mkF m 188 #[.val (.ref r0), .val (.ref b6), .val (.int (0 : Int32)), .val (.int (0 : Int32)), .val (.int (0 : Int32)), .unset] [(.int (0 : Int32)), (.int ((ub0 &&& (255 : Int32)) <<< ((16 : Int32) &&& 31)))]) _
    refine XS.ior X6.here hx rfl (hb hby d2_188) rfl ?_
    show own_S p e below T6 (mkF m 189 #[.val (.ref r0), .val (.ref b6), .val (.int (0 : Int32)), .val (.int (0 : Int32)), .val (.int (0 : Int32)), .unset] [(.int (((ub0 &&& (255 : Int32)) <<< ((16 : Int32) &&& 31)) ||| (0 : Int32)))]) _
    refine XS.istore X6.here hx rfl (hb hby d2_189) rfl (l' := #[.val (.ref r0), .val (.ref b6), .val (.int (0 : Int32)), .val (.int (0 : Int32)), .val (.int (((ub0 &&& (255 : Int32)) <<< ((16 : Int32) &&& 31)) ||| (0 : Int32))), .unset]) rfl ?_
    exact k
  obtain ⟨x0, hx0⟩ : ∃ z : Int32, z = (((ub0 &&& (255 : Int32)) <<< ((16 : Int32) &&& 31)) ||| (0 : Int32)) := ⟨_, rfl⟩
  rw [← hx0] at K18
  have hb_x0 : 0 ≤ x0.toInt ∧ x0.toInt < 16777216 := by rw [hx0]; exact (own_xb (own_m255 _) own_r0 own_r0 (own_x1i ub0))
  have K19 : own_K p e below SE T6 (mkF m 196 #[.val (.ref r0), .val (.ref b6), .val (.int (0 : Int32)), .val (.int (1 : Int32)), .val (.int x0), .unset] [(.int (0 : Int32)), (.ref b6)]) := by
    intro t k
    refine K18 _ ?_
    refine XS.aloadN X6.here hx rfl (hb hby d2_191) rfl rfl ?_
    show own_S p e below T6 (mkF m 192 #[.val (.ref r0), .val (.ref b6), .val (.int (0 : Int32)), .val (.int (0 : Int32)), .val (.int x0), .unset] [(.ref b6)]) _
    refine XS.iloadN X6.here hx rfl (hb hby d2_192) rfl ?_
    show own_S p e below T6 (mkF m 193 #[.val (.ref r0), .val (.ref b6), .val (.int (0 : Int32)), .val (.int (0 : Int32)), .val (.int x0), .unset] [(.int (0 : Int32)), (.ref b6)]) _
    refine XS.iinc X6.here hx rfl (hb hby d2_193) rfl (l' := #[.val (.ref r0), .val (.ref b6), .val (.int (0 : Int32)), .val (.int (1 : Int32)), .val (.int x0), .unset]) rfl ?_
    exact k
  obtain ⟨T20, X20, e20, st20⟩ := getS2 X6 hx hZ hown (host := "") (Or.inl (hw _ (List.mem_of_getElem? (i := 16) rfl))) Via.refl e6 (SA.ext (own_ext Kp6)) (g := (mkF m 196 #[.val (.ref r0), .val (.ref b6), .val (.int (0 : Int32)), .val (.int (1 : Int32)), .val (.int x0), .unset] [(.int (0 : Int32)), (.ref b6)])) rfl (hb hby d2_196)
  have K20 : own_K p e below SE T20 (mkF m 199 #[.val (.ref r0), .val (.ref b6), .val (.int (0 : Int32)), .val (.int (1 : Int32)), .val (.int x0), .unset] [(.ref oAL), (.int (0 : Int32)), (.ref b6)]) := fun t k => K19 _ (st20 _ k)
  have K21 : own_K p e below SE T20 (mkF m 204 #[.val (.ref r0), .val (.ref b6), .val (.int (0 : Int32)), .val (.int (1 : Int32)), .val (.int x0), .unset] [(.int ((x0.toUInt32 >>> ((18 : Int32) &&& 31).toUInt32).toInt32)), (.ref oAL), (.int (0 : Int32)), (.ref b6)]) := by
    intro t k
    refine K20 _ ?_
    refine XS.iload X20.here hx rfl (hb hby d2_199) rfl ?_
    show own_S p e below T20 (mkF m 201 #[.val (.ref r0), .val (.ref b6), .val (.int (0 : Int32)), .val (.int (1 : Int32)), .val (.int x0), .unset] [(.int x0), (.ref oAL), (.int (0 : Int32)), (.ref b6)]) _
    refine XS.bipush X20.here hx rfl (hb hby d2_201) ?_
    show own_S p e below T20 (mkF m 203 #[.val (.ref r0), .val (.ref b6), .val (.int (0 : Int32)), .val (.int (1 : Int32)), .val (.int x0), .unset] [(.int (18 : Int32)), (.int x0), (.ref oAL), (.int (0 : Int32)), (.ref b6)]) _
    refine XS.iushr X20.here hx rfl (hb hby d2_203) rfl ?_
    exact k
  obtain ⟨Ar22, S22, Ng22, Hh22⟩ := id (TA.ext (own_ext Kp6))
  have hin22 : ¬ (((x0.toUInt32 >>> ((18 : Int32) &&& 31).toUInt32).toInt32) < 0 ∨ cA.slots.size ≤ (((x0.toUInt32 >>> ((18 : Int32) &&& 31).toUInt32).toInt32)).toNatClampNeg) := inb_of S22 (own_b18 _ hb_x0)
  have hat22 := Hh22 _ hin22
  have K23 : own_K p e below SE T20 (mkF m 205 #[.val (.ref r0), .val (.ref b6), .val (.int (0 : Int32)), .val (.int (1 : Int32)), .val (.int x0), .unset] [(.int (atv cA ((x0.toUInt32 >>> ((18 : Int32) &&& 31).toUInt32).toInt32))), (.int (0 : Int32)), (.ref b6)]) := by
    intro t k
    refine K21 _ ?_
    refine X20.baloadBytes hx (j := ((x0.toUInt32 >>> ((18 : Int32) &&& 31).toUInt32).toInt32)) (v := (.int (atv cA ((x0.toUInt32 >>> ((18 : Int32) &&& 31).toUInt32).toInt32)))) (by rw [e20]; exact Ar22.1) (State.isArrayOf_alike hZ.alike Ar22.2.1) Ar22.2.2 hin22 hat22 (g := (mkF m 204 #[.val (.ref r0), .val (.ref b6), .val (.int (0 : Int32)), .val (.int (1 : Int32)), .val (.int x0), .unset] [(.int ((x0.toUInt32 >>> ((18 : Int32) &&& 31).toUInt32).toInt32)), (.ref oAL), (.int (0 : Int32)), (.ref b6)])) rfl rfl (hb hby d2_204) _ ?_
    exact k
  obtain ⟨cl24, Ar24, qk24, S24, Ng24, Hh24, Gg24⟩ := id V6
  have hin24 : ¬ ((0 : Int32) < 0 ∨ cl24.slots.size ≤ ((0 : Int32)).toNatClampNeg) := inb_of S24 ⟨by decide, by decide⟩
  obtain ⟨T25, h25, X25, e25, W25, st25⟩ := stB X20 hx hZ e20 Ar24 (j := (0 : Int32)) hin24 (g := (mkF m 205 #[.val (.ref r0), .val (.ref b6), .val (.int (0 : Int32)), .val (.int (1 : Int32)), .val (.int x0), .unset] [(.int (atv cA ((x0.toUInt32 >>> ((18 : Int32) &&& 31).toUInt32).toInt32))), (.int (0 : Int32)), (.ref b6)])) rfl rfl (hb hby d2_205)
  have V25 : Arv Z h25 b6 k6 .byte (2 : Int32) [(.int ((atv cA ((x0.toUInt32 >>> ((18 : Int32) &&& 31).toUInt32).toInt32))).toInt8.toInt32), (.int (0 : Int32))] (.int (0 : Int32)) := Arv.set Ar24 qk24 S24 Ng24 Hh24 Gg24 (fits_nar_byte _) W25 0 rfl (Nat.le_of_ble_eq_true rfl)
  have N25 := Fr.snoc X25 N0 g_b6
  have Kp25 : Keep h0 h25 [] := Keep.wr Kp6 W25 (Or.inr sz_b6)
  have K25 : own_K p e below SE T25 (mkF m 206 #[.val (.ref r0), .val (.ref b6), .val (.int (0 : Int32)), .val (.int (1 : Int32)), .val (.int x0), .unset] []) := fun t k => K23 _ (st25 _ k)
  have K26 : own_K p e below SE T25 (mkF m 211 #[.val (.ref r0), .val (.ref b6), .val (.int (0 : Int32)), .val (.int (2 : Int32)), .val (.int x0), .unset] [(.int (1 : Int32)), (.ref b6)]) := by
    intro t k
    refine K25 _ ?_
    refine XS.aloadN X25.here hx rfl (hb hby d2_206) rfl rfl ?_
    show own_S p e below T25 (mkF m 207 #[.val (.ref r0), .val (.ref b6), .val (.int (0 : Int32)), .val (.int (1 : Int32)), .val (.int x0), .unset] [(.ref b6)]) _
    refine XS.iloadN X25.here hx rfl (hb hby d2_207) rfl ?_
    show own_S p e below T25 (mkF m 208 #[.val (.ref r0), .val (.ref b6), .val (.int (0 : Int32)), .val (.int (1 : Int32)), .val (.int x0), .unset] [(.int (1 : Int32)), (.ref b6)]) _
    refine XS.iinc X25.here hx rfl (hb hby d2_208) rfl (l' := #[.val (.ref r0), .val (.ref b6), .val (.int (0 : Int32)), .val (.int (2 : Int32)), .val (.int x0), .unset]) rfl ?_
    exact k
  obtain ⟨T27, X27, e27, st27⟩ := getS2 X25 hx hZ hown (host := "") (Or.inl (hw _ (List.mem_of_getElem? (i := 16) rfl))) Via.refl e25 (SA.ext (own_ext Kp25)) (g := (mkF m 211 #[.val (.ref r0), .val (.ref b6), .val (.int (0 : Int32)), .val (.int (2 : Int32)), .val (.int x0), .unset] [(.int (1 : Int32)), (.ref b6)])) rfl (hb hby d2_211)
  have K27 : own_K p e below SE T27 (mkF m 214 #[.val (.ref r0), .val (.ref b6), .val (.int (0 : Int32)), .val (.int (2 : Int32)), .val (.int x0), .unset] [(.ref oAL), (.int (1 : Int32)), (.ref b6)]) := fun t k => K26 _ (st27 _ k)
  have K28 : own_K p e below SE T27 (mkF m 222 #[.val (.ref r0), .val (.ref b6), .val (.int (0 : Int32)), .val (.int (2 : Int32)), .val (.int x0), .unset] [(.int (((x0.toUInt32 >>> ((12 : Int32) &&& 31).toUInt32).toInt32) &&& (63 : Int32))), (.ref oAL), (.int (1 : Int32)), (.ref b6)]) := by
    intro t k
    refine K27 _ ?_
    refine XS.iload X27.here hx rfl (hb hby d2_214) rfl ?_
    show own_S p e below T27 (mkF m 216 #[.val (.ref r0), .val (.ref b6), .val (.int (0 : Int32)), .val (.int (2 : Int32)), .val (.int x0), .unset] [(.int x0), (.ref oAL), (.int (1 : Int32)), (.ref b6)]) _
    refine XS.bipush X27.here hx rfl (hb hby d2_216) ?_
    show own_S p e below T27 (mkF m 218 #[.val (.ref r0), .val (.ref b6), .val (.int (0 : Int32)), .val (.int (2 : Int32)), .val (.int x0), .unset] [(.int (12 : Int32)), (.int x0), (.ref oAL), (.int (1 : Int32)), (.ref b6)]) _
    refine XS.iushr X27.here hx rfl (hb hby d2_218) rfl ?_
    show own_S p e below T27 (mkF m 219 #[.val (.ref r0), .val (.ref b6), .val (.int (0 : Int32)), .val (.int (2 : Int32)), .val (.int x0), .unset] [(.int ((x0.toUInt32 >>> ((12 : Int32) &&& 31).toUInt32).toInt32)), (.ref oAL), (.int (1 : Int32)), (.ref b6)]) _
    refine XS.bipush X27.here hx rfl (hb hby d2_219) ?_
    show own_S p e below T27 (mkF m 221 #[.val (.ref r0), .val (.ref b6), .val (.int (0 : Int32)), .val (.int (2 : Int32)), .val (.int x0), .unset] [(.int (63 : Int32)), (.int ((x0.toUInt32 >>> ((12 : Int32) &&& 31).toUInt32).toInt32)), (.ref oAL), (.int (1 : Int32)), (.ref b6)]) _
    refine XS.iand X27.here hx rfl (hb hby d2_221) rfl ?_
    exact k
  obtain ⟨Ar29, S29, Ng29, Hh29⟩ := id (TA.ext (own_ext Kp25))
  have hin29 : ¬ ((((x0.toUInt32 >>> ((12 : Int32) &&& 31).toUInt32).toInt32) &&& (63 : Int32)) < 0 ∨ cA.slots.size ≤ ((((x0.toUInt32 >>> ((12 : Int32) &&& 31).toUInt32).toInt32) &&& (63 : Int32))).toNatClampNeg) := inb_of S29 (own_b63 _)
  have hat29 := Hh29 _ hin29
  have K30 : own_K p e below SE T27 (mkF m 223 #[.val (.ref r0), .val (.ref b6), .val (.int (0 : Int32)), .val (.int (2 : Int32)), .val (.int x0), .unset] [(.int (atv cA (((x0.toUInt32 >>> ((12 : Int32) &&& 31).toUInt32).toInt32) &&& (63 : Int32)))), (.int (1 : Int32)), (.ref b6)]) := by
    intro t k
    refine K28 _ ?_
    refine X27.baloadBytes hx (j := (((x0.toUInt32 >>> ((12 : Int32) &&& 31).toUInt32).toInt32) &&& (63 : Int32))) (v := (.int (atv cA (((x0.toUInt32 >>> ((12 : Int32) &&& 31).toUInt32).toInt32) &&& (63 : Int32))))) (by rw [e27]; exact Ar29.1) (State.isArrayOf_alike hZ.alike Ar29.2.1) Ar29.2.2 hin29 hat29 (g := (mkF m 222 #[.val (.ref r0), .val (.ref b6), .val (.int (0 : Int32)), .val (.int (2 : Int32)), .val (.int x0), .unset] [(.int (((x0.toUInt32 >>> ((12 : Int32) &&& 31).toUInt32).toInt32) &&& (63 : Int32))), (.ref oAL), (.int (1 : Int32)), (.ref b6)])) rfl rfl (hb hby d2_222) _ ?_
    exact k
  obtain ⟨cl31, Ar31, qk31, S31, Ng31, Hh31, Gg31⟩ := id V25
  have hin31 : ¬ ((1 : Int32) < 0 ∨ cl31.slots.size ≤ ((1 : Int32)).toNatClampNeg) := inb_of S31 ⟨by decide, by decide⟩
  obtain ⟨T32, h32, X32, e32, W32, st32⟩ := stB X27 hx hZ e27 Ar31 (j := (1 : Int32)) hin31 (g := (mkF m 223 #[.val (.ref r0), .val (.ref b6), .val (.int (0 : Int32)), .val (.int (2 : Int32)), .val (.int x0), .unset] [(.int (atv cA (((x0.toUInt32 >>> ((12 : Int32) &&& 31).toUInt32).toInt32) &&& (63 : Int32)))), (.int (1 : Int32)), (.ref b6)])) rfl rfl (hb hby d2_223)
  have V32 : Arv Z h32 b6 k6 .byte (2 : Int32) [(.int ((atv cA ((x0.toUInt32 >>> ((18 : Int32) &&& 31).toUInt32).toInt32))).toInt8.toInt32), (.int ((atv cA (((x0.toUInt32 >>> ((12 : Int32) &&& 31).toUInt32).toInt32) &&& (63 : Int32)))).toInt8.toInt32)] (.int (0 : Int32)) := Arv.set Ar31 qk31 S31 Ng31 Hh31 Gg31 (fits_nar_byte _) W32 1 rfl (Nat.le_of_ble_eq_true rfl)
  have N32 := Fr.snoc X32 N25 g_b6
  have Kp32 : Keep h0 h32 [] := Keep.wr Kp25 W32 (Or.inr sz_b6)
  have K32 : own_K p e below SE T32 (mkF m 224 #[.val (.ref r0), .val (.ref b6), .val (.int (0 : Int32)), .val (.int (2 : Int32)), .val (.int x0), .unset] []) := fun t k => K30 _ (st32 _ k)
  have K33 : own_K p e below SE T32 (mkF m 226 #[.val (.ref r0), .val (.ref b6), .val (.int (0 : Int32)), .val (.int (2 : Int32)), .val (.int x0), .unset] [(.ref b6), (.int (2 : Int32))]) := by
    intro t k
    refine K32 _ ?_
    refine XS.iloadN X32.here hx rfl (hb hby d2_224) rfl ?_
    show own_S p e below T32 (mkF m 225 #[.val (.ref r0), .val (.ref b6), .val (.int (0 : Int32)), .val (.int (2 : Int32)), .val (.int x0), .unset] [(.int (2 : Int32))]) _
    refine XS.aloadN X32.here hx rfl (hb hby d2_225) rfl rfl ?_
    exact k
  obtain ⟨cl34, Ar34, -, S34, Ng34, -, -⟩ := id V32
  have K35 : own_K p e below SE T32 (mkF m 246 #[.val (.ref r0), .val (.ref b6), .val (.int (0 : Int32)), .val (.int (2 : Int32)), .val (.int x0), .unset] [(.ref b6)]) := by
    intro t k
    refine K33 _ ?_
    refine X32.arraylength hx (by rw [e32]; exact Ar34.1) (State.isArrayOf_alike hZ.alike Ar34.2.1) (g := (mkF m 226 #[.val (.ref r0), .val (.ref b6), .val (.int (0 : Int32)), .val (.int (2 : Int32)), .val (.int x0), .unset] [(.ref b6), (.int (2 : Int32))])) rfl rfl (hb hby d2_226) _ ?_
    rw [len_of S34 Ng34]
    show own_S p e below T32 (mkF m 227 #[.val (.ref r0), .val (.ref b6), .val (.int (0 : Int32)), .val (.int (2 : Int32)), .val (.int x0), .unset] [(.int (2 : Int32)), (.int (2 : Int32))]) _
    refine XS.icmpYes X32.here hx rfl (pc0 := 227) (pc' := 245) rfl (hb hby d2_227) rfl (XT.ii_ge_t (by decide : ¬ ((2 : Int32) < (2 : Int32)))) (by decide) (by decide) ?_
    show own_S p e below T32 (mkF m 245 #[.val (.ref r0), .val (.ref b6), .val (.int (0 : Int32)), .val (.int (2 : Int32)), .val (.int x0), .unset] []) _
    refine XS.aloadN X32.here hx rfl (hb hby d2_245) rfl rfl ?_
    exact k
  subst hx0
  obtain ⟨fs, hr, hrun, hended, hW, hsame⟩ := X32.leave (v := some (.ref b6)) (fun h => by rw [Bd.returns] at h; cases h)
  refine ⟨_, _, K35 _ ?_, hrun, hended, _, _, rfl, ?_, ⟨_, rfl⟩, hW, hsame.mono (by decide) (by decide)⟩
  · show Steps p.tables e below (T32.setTop (mkF m 246 #[.val (.ref r0), .val (.ref b6), .val (.int (0 : Int32)), .val (.int (2 : Int32)), .val (.int (((ub0 &&& (255 : Int32)) <<< ((16 : Int32) &&& 31)) ||| (0 : Int32))), .unset] [(.ref b6)])) _
    jvm_step X32.here [X32.here.top, hx, (hb hby d2_246), X32.method', Bd.returns, Value.isRef, FieldType.isReference]
    first | (intro acts; rw [hr _ acts rfl rfl rfl]) | rw [hr _ _ rfl rfl rfl]
    exact Steps.refl _
  · show Q2_1 Z r0 kA oAL cA ub0 h0 n0 _ T32.heap _
    rw [e32]
    exact ⟨congrArg (fun z => some (Value.ref z)) g6, N32, Kp32, _, (g6 ▸ V32)⟩
theorem d2_172 : decode prog_1_method_3_code 172 = .ok (.aload_n 0, 1) := by decide +kernel
theorem d2_173 : decode prog_1_method_3_code 173 = .ok (.iload_n 2, 1) := by decide +kernel
theorem d2_174 : decode prog_1_method_3_code 174 = .ok (.iconst 1, 1) := by decide +kernel
theorem d2_175 : decode prog_1_method_3_code 175 = .ok (.iadd, 1) := by decide +kernel
theorem d2_176 : decode prog_1_method_3_code 176 = .ok (.baload, 1) := by decide +kernel
theorem d2_177 : decode prog_1_method_3_code 177 = .ok (.sipush 255, 3) := by decide +kernel
theorem d2_180 : decode prog_1_method_3_code 180 = .ok (.iand, 1) := by decide +kernel
theorem d2_181 : decode prog_1_method_3_code 181 = .ok (.bipush 8, 2) := by decide +kernel
theorem d2_183 : decode prog_1_method_3_code 183 = .ok (.ishl, 1) := by decide +kernel
theorem d2_184 : decode prog_1_method_3_code 184 = .ok (.goto 4, 3) := by decide +kernel
theorem d2_230 : decode prog_1_method_3_code 230 = .ok (.aload_n 1, 1) := by decide +kernel
theorem d2_231 : decode prog_1_method_3_code 231 = .ok (.iload_n 3, 1) := by decide +kernel
theorem d2_232 : decode prog_1_method_3_code 232 = .ok (.getstatic 30, 3) := by decide +kernel
theorem d2_235 : decode prog_1_method_3_code 235 = .ok (.iload 4, 2) := by decide +kernel
theorem d2_237 : decode prog_1_method_3_code 237 = .ok (.bipush 6, 2) := by decide +kernel
theorem d2_239 : decode prog_1_method_3_code 239 = .ok (.iushr, 1) := by decide +kernel
theorem d2_240 : decode prog_1_method_3_code 240 = .ok (.bipush 63, 2) := by decide +kernel
theorem d2_242 : decode prog_1_method_3_code 242 = .ok (.iand, 1) := by decide +kernel
theorem d2_243 : decode prog_1_method_3_code 243 = .ok (.baload, 1) := by decide +kernel
theorem d2_244 : decode prog_1_method_3_code 244 = .ok (.bastore, 1) := by decide +kernel
theorem ef_2_2 (m : MethodId) (r0 : Addr) : entryFrame m #[(.ref r0)] 6 = mkF m 0 #[.val (.ref r0), .unset, .unset, .unset, .unset, .unset] [] := by first | (simp [entryFrame, mkF, argsToLocals, Value.category]; done) | rfl
def Q2_2 (Z : State) (r0 : Addr) (kA : ClassId) (oAL : Addr) (cA : Cell) (ub0 : Int32) (ub1 : Int32) (h0 : Heap) (n0 : Nat) (v : Option Value) (h : Heap) (L : List Loc) : Prop := v = some (.ref h0.size) ∧ Fr n0 L ∧ Keep h0 h [] ∧ ∃ kT, Arv Z h h0.size kT .byte (3 : Int32) [(.int (atv cA (((((ub0 &&& (255 : Int32)) <<< ((16 : Int32) &&& 31)) ||| ((ub1 &&& (255 : Int32)) <<< ((8 : Int32) &&& 31))).toUInt32 >>> ((18 : Int32) &&& 31).toUInt32).toInt32)).toInt8.toInt32), (.int (atv cA ((((((ub0 &&& (255 : Int32)) <<< ((16 : Int32) &&& 31)) ||| ((ub1 &&& (255 : Int32)) <<< ((8 : Int32) &&& 31))).toUInt32 >>> ((12 : Int32) &&& 31).toUInt32).toInt32) &&& (63 : Int32))).toInt8.toInt32), (.int (atv cA ((((((ub0 &&& (255 : Int32)) <<< ((16 : Int32) &&& 31)) ||| ((ub1 &&& (255 : Int32)) <<< ((8 : Int32) &&& 31))).toUInt32 >>> ((6 : Int32) &&& 31).toUInt32).toInt32) &&& (63 : Int32))).toInt8.toInt32)] (.int (0 : Int32))
set_option maxRecDepth 65536 in
set_option maxHeartbeats 40000000 in
theorem rm2_2 (l : Launch) (Z : State) (a0 : Array Value) (hw : ∀ d ∈ tables_1, d.before a0 Z = true) (ws : List Jvm.Cond) (r0 : Addr) (kA : ClassId) (oAL : Addr) (cA : Cell) (ub0 : Int32) (ub1 : Int32) (h0 : Heap) (n0 : Nat) (Z0 : n0 ≤ h0.size) (V_r0 : Arv Z h0 r0 kA .byte (2 : Int32) [(.int ub0), (.int ub1)] (.int (0 : Int32))) (SA : Sta Z h0 "com/example/whorl/whorl/Base64url" "ALPHABET" "[B" (.ref oAL)) (TA : Tab Z h0 oAL cA .byte (64 : Int32)) :
    MetFree l (⟨"com/example/whorl/whorl/Base64url", "text", "([B)[B"⟩ : MethodName) (head1 (Jvm.Cond.code (⟨"com/example/whorl/whorl/Base64url", "text", "([B)[B"⟩ : MethodName) prog_1_method_3_code 6 (some (.array .byte)) :: ws) ({ frames := 0, cells := 1, slots := 3, locals := 0 } : Room)) (fun a U => a = #[(.ref r0)] ∧ Z.Warmed39 U.vm ∧ U.heap = h0) (fun _ _ _ _ _ => True) (fun _ U o U' => ∃ v L, o = .returned v ∧ Q2_2 Z r0 kA oAL cA ub0 ub1 h0 n0 v U'.heap L ∧ FrameEnd U o U' L ({ frames := 0, cells := 1, slots := 3, locals := 0 } : Room).cells ({ frames := 0, cells := 1, slots := 3, locals := 0 } : Room).slots) := by
  refine MetFree.of_bodySF (plainFor_of_name pn_2) hisR ?_
  intro p e s m args below meth c s₁ Bd hml0 hP hK
  obtain ⟨rfl, hZ, hh⟩ := hP
  have hx := Bd.exec
  have hby := Bd.bytes
  have hml : c.maxLocals = 6 := hml0
  have hown : s.vm.findClass "com/example/whorl/whorl/Base64url" = some m.cls := findClass_of_methodNamed Bd.named
  have hnm := (name_of_methodNamed Bd.named Bd.method).1
  have X0 : Stand p l e ({ frames := 0, cells := 1, slots := 3, locals := 0 } : Room) s m #[(.ref r0)] below meth c s₁ [] 0 0 := Stand.of_body Bd
  have e0 : s₁.heap = h0 := by rw [← hh, Bd.state]; rfl
  have N0 := Fr.nil n0
  have K0 : ∀ t, Steps p.tables e below (s₁.setTop (mkF m 0 #[.val (.ref r0), .unset, .unset, .unset, .unset, .unset] [])) t → Steps p.tables e below (s₁.setTop (entryFrame m #[(.ref r0)] 6)) t := fun t k => castTop (ef_2_2 m r0) k
  generalize s₁.setTop (entryFrame m #[(.ref r0)] 6) = SE at K0 ⊢
  have K1 : own_K p e below SE s₁ (mkF m 1 #[.val (.ref r0), .unset, .unset, .unset, .unset, .unset] [(.ref r0)]) := by
    intro t k
    refine K0 _ ?_
    refine XS.aloadN X0.here hx rfl (hb hby d2_0) rfl rfl ?_
    exact k
  obtain ⟨cl2, Ar2, -, S2, Ng2, -, -⟩ := id V_r0
  have K3 : own_K p e below SE s₁ (mkF m 3 #[.val (.ref r0), .unset, .unset, .unset, .unset, .unset] [(.long (((2 : Int32)).toInt64))]) := by
    intro t k
    refine K1 _ ?_
    refine X0.arraylength hx (by rw [e0]; exact Ar2.1) (State.isArrayOf_alike hZ.alike Ar2.2.1) (g := (mkF m 1 #[.val (.ref r0), .unset, .unset, .unset, .unset, .unset] [(.ref r0)])) rfl rfl (hb hby d2_1) _ ?_
    rw [len_of S2 Ng2]
    show own_S p e below s₁ (mkF m 2 #[.val (.ref r0), .unset, .unset, .unset, .unset, .unset] [(.int (2 : Int32))]) _
    refine XS.i2l X0.here hx rfl (hb hby d2_2) rfl ?_
    exact k
  rw [(by decide : (((2 : Int32)).toInt64) = (2 : Int64))] at K3
  have K4 : own_K p e below SE s₁ (mkF m 15 #[.val (.ref r0), .unset, .unset, .unset, .unset, .unset] [(.long ((10 : Int64) / (3 : Int64)))]) := by
    intro t k
    refine K3 _ ?_
    refine Stand.ldc2J X0 hx hown (mvT hZ (hw _ (List.mem_of_getElem? (i := 10) rfl))) (v := (4 : Int64)) (g := (mkF m 3 #[.val (.ref r0), .unset, .unset, .unset, .unset, .unset] [(.long (2 : Int64))])) rfl (hb hby d2_3) ?_
    show own_S p e below s₁ (mkF m 6 #[.val (.ref r0), .unset, .unset, .unset, .unset, .unset] [(.long (4 : Int64)), (.long (2 : Int64))]) _
    refine XS.lmul X0.here hx rfl (hb hby d2_6) rfl ?_
    show own_S p e below s₁ (mkF m 7 #[.val (.ref r0), .unset, .unset, .unset, .unset, .unset] [(.long (8 : Int64))]) _
    refine Stand.ldc2J X0 hx hown (mvT hZ (hw _ (List.mem_of_getElem? (i := 11) rfl))) (v := (2 : Int64)) (g := (mkF m 7 #[.val (.ref r0), .unset, .unset, .unset, .unset, .unset] [(.long (8 : Int64))])) rfl (hb hby d2_7) ?_
    show own_S p e below s₁ (mkF m 10 #[.val (.ref r0), .unset, .unset, .unset, .unset, .unset] [(.long (2 : Int64)), (.long (8 : Int64))]) _
    refine XS.ladd X0.here hx rfl (hb hby d2_10) rfl ?_
    show own_S p e below s₁ (mkF m 11 #[.val (.ref r0), .unset, .unset, .unset, .unset, .unset] [(.long (10 : Int64))]) _
    refine Stand.ldc2J X0 hx hown (mvT hZ (hw _ (List.mem_of_getElem? (i := 12) rfl))) (v := (3 : Int64)) (g := (mkF m 11 #[.val (.ref r0), .unset, .unset, .unset, .unset, .unset] [(.long (10 : Int64))])) rfl (hb hby d2_11) ?_
    show own_S p e below s₁ (mkF m 14 #[.val (.ref r0), .unset, .unset, .unset, .unset, .unset] [(.long (3 : Int64)), (.long (10 : Int64))]) _
    refine XS.ldiv X0.here hx rfl (hb hby d2_14) rfl (by decide) ?_
    exact k
  rw [(by decide : ((10 : Int64) / (3 : Int64)) = (3 : Int64))] at K4
  have K5 : own_K p e below SE s₁ (mkF m 16 #[.val (.ref r0), .unset, .unset, .unset, .unset, .unset] [(.int (((3 : Int64)).toInt32))]) := by
    intro t k
    refine K4 _ ?_
    refine XS.l2i X0.here hx rfl (hb hby d2_15) rfl ?_
    exact k
  rw [(by decide : (((3 : Int64)).toInt32) = (3 : Int32))] at K5
  obtain ⟨T6, h6, k6, X6, e6, E6, A6, st6⟩ := newP X0 hx hZ (hw _ (List.mem_of_getElem? (i := 1) rfl)) e0 (g := (mkF m 16 #[.val (.ref r0), .unset, .unset, .unset, .unset, .unset] [(.int (3 : Int32))])) rfl (hb hby d2_16) rfl (by decide) (cap := 3) (by decide) (by decide) (by decide) (by decide)
  obtain ⟨b6, g6⟩ : ∃ z, z = h0.size := ⟨_, rfl⟩
  rw [← g6] at A6 st6
  have g_b6 : n0 ≤ b6 := Nat.le_trans Z0 (Nat.le_of_eq g6.symm)
  have sz_b6 : h0.size ≤ b6 := Nat.le_trans (Nat.le_refl _) (Nat.le_of_eq g6.symm)
  have own_ne_r0_b6 : r0 ≠ b6 := Nat.ne_of_lt (Nat.lt_of_lt_of_le V_r0.lt (Nat.le_of_eq g6.symm))
  have Kp6 : Keep h0 h6 [] := Keep.ext (Keep.refl h0 []) E6
  have V6 : Arv Z h6 b6 k6 .byte (3 : Int32) [(.int (0 : Int32)), (.int (0 : Int32)), (.int (0 : Int32))] (.int (0 : Int32)) := (Arv.new A6 (by decide)).pad (pad_rep [] (.int (0 : Int32)) 3)
  have K6 : own_K p e below SE T6 (mkF m 18 #[.val (.ref r0), .unset, .unset, .unset, .unset, .unset] [(.ref b6)]) := fun t k => K5 _ (st6 _ k)
  have K7 : own_K p e below SE T6 (mkF m 20 #[.val (.ref r0), .val (.ref b6), .unset, .unset, .unset, .unset] [(.ref r0)]) := by
    intro t k
    refine K6 _ ?_
    refine XS.astoreN X6.here hx rfl (hb hby d2_18) rfl rfl (l' := #[.val (.ref r0), .val (.ref b6), .unset, .unset, .unset, .unset]) rfl ?_
    show own_S p e below T6 (mkF m 19 #[.val (.ref r0), .val (.ref b6), .unset, .unset, .unset, .unset] []) _
    refine XS.aloadN X6.here hx rfl (hb hby d2_19) rfl rfl ?_
    exact k
  obtain ⟨cl8, Ar8, -, S8, Ng8, -, -⟩ := id (V_r0.ext (own_ext Kp6))
  have K9 : own_K p e below SE T6 (mkF m 22 #[.val (.ref r0), .val (.ref b6), .unset, .unset, .unset, .unset] [(.ref r0), (.int (2 : Int32))]) := by
    intro t k
    refine K7 _ ?_
    refine X6.arraylength hx (by rw [e6]; exact Ar8.1) (State.isArrayOf_alike hZ.alike Ar8.2.1) (g := (mkF m 20 #[.val (.ref r0), .val (.ref b6), .unset, .unset, .unset, .unset] [(.ref r0)])) rfl rfl (hb hby d2_20) _ ?_
    rw [len_of S8 Ng8]
    show own_S p e below T6 (mkF m 21 #[.val (.ref r0), .val (.ref b6), .unset, .unset, .unset, .unset] [(.int (2 : Int32))]) _
    refine XS.aloadN X6.here hx rfl (hb hby d2_21) rfl rfl ?_
    exact k
  obtain ⟨cl10, Ar10, -, S10, Ng10, -, -⟩ := id (V_r0.ext (own_ext Kp6))
  have K11 : own_K p e below SE T6 (mkF m 25 #[.val (.ref r0), .val (.ref b6), .unset, .unset, .unset, .unset] [(.int ((2 : Int32) % (3 : Int32))), (.int (2 : Int32))]) := by
    intro t k
    refine K9 _ ?_
    refine X6.arraylength hx (by rw [e6]; exact Ar10.1) (State.isArrayOf_alike hZ.alike Ar10.2.1) (g := (mkF m 22 #[.val (.ref r0), .val (.ref b6), .unset, .unset, .unset, .unset] [(.ref r0), (.int (2 : Int32))])) rfl rfl (hb hby d2_22) _ ?_
    rw [len_of S10 Ng10]
    show own_S p e below T6 (mkF m 23 #[.val (.ref r0), .val (.ref b6), .unset, .unset, .unset, .unset] [(.int (2 : Int32)), (.int (2 : Int32))]) _
    refine XS.iconst X6.here hx rfl (hb hby d2_23) ?_
    show own_S p e below T6 (mkF m 24 #[.val (.ref r0), .val (.ref b6), .unset, .unset, .unset, .unset] [(.int (3 : Int32)), (.int (2 : Int32)), (.int (2 : Int32))]) _
    refine iremM X6 hx rfl (hb hby d2_24) rfl (by decide) ?_
    exact k
  rw [(by decide : ((2 : Int32) % (3 : Int32)) = (2 : Int32))] at K11
  have K12 : own_K p e below SE T6 (mkF m 150 #[.val (.ref r0), .val (.ref b6), .val (.int (0 : Int32)), .val (.int (0 : Int32)), .val (.int (0 : Int32)), .unset] [(.ref r0), (.int (0 : Int32))]) := by
    intro t k
    refine K11 _ ?_
    refine XS.isub X6.here hx rfl (hb hby d2_25) rfl ?_
    show own_S p e below T6 (mkF m 26 #[.val (.ref r0), .val (.ref b6), .unset, .unset, .unset, .unset] [(.int (0 : Int32))]) _
    refine XS.istoreN X6.here hx rfl (hb hby d2_26) rfl (l' := #[.val (.ref r0), .val (.ref b6), .val (.int (0 : Int32)), .unset, .unset, .unset]) rfl ?_
    show own_S p e below T6 (mkF m 27 #[.val (.ref r0), .val (.ref b6), .val (.int (0 : Int32)), .unset, .unset, .unset] []) _
    refine XS.iconst X6.here hx rfl (hb hby d2_27) ?_
    show own_S p e below T6 (mkF m 28 #[.val (.ref r0), .val (.ref b6), .val (.int (0 : Int32)), .unset, .unset, .unset] [(.int (0 : Int32))]) _
    refine XS.istoreN X6.here hx rfl (hb hby d2_28) rfl (l' := #[.val (.ref r0), .val (.ref b6), .val (.int (0 : Int32)), .val (.int (0 : Int32)), .unset, .unset]) rfl ?_
    show own_S p e below T6 (mkF m 29 #[.val (.ref r0), .val (.ref b6), .val (.int (0 : Int32)), .val (.int (0 : Int32)), .unset, .unset] []) _
    refine XS.iconst X6.here hx rfl (hb hby d2_29) ?_
    show own_S p e below T6 (mkF m 30 #[.val (.ref r0), .val (.ref b6), .val (.int (0 : Int32)), .val (.int (0 : Int32)), .unset, .unset] [(.int (0 : Int32))]) _
    refine XS.istore X6.here hx rfl (hb hby d2_30) rfl (l' := #[.val (.ref r0), .val (.ref b6), .val (.int (0 : Int32)), .val (.int (0 : Int32)), .val (.int (0 : Int32)), .unset]) rfl ?_
    show own_S p e below T6 (mkF m 32 #[.val (.ref r0), .val (.ref b6), .val (.int (0 : Int32)), .val (.int (0 : Int32)), .val (.int (0 : Int32)), .unset] []) _
    refine XS.iload X6.here hx rfl (hb hby d2_32) rfl ?_
    show own_S p e below T6 (mkF m 34 #[.val (.ref r0), .val (.ref b6), .val (.int (0 : Int32)), .val (.int (0 : Int32)), .val (.int (0 : Int32)), .unset] [(.int (0 : Int32))]) _
    refine XS.iloadN X6.here hx rfl (hb hby d2_34) rfl ?_
    show own_S p e below T6 (mkF m 35 #[.val (.ref r0), .val (.ref b6), .val (.int (0 : Int32)), .val (.int (0 : Int32)), .val (.int (0 : Int32)), .unset] [(.int (0 : Int32)), (.int (0 : Int32))]) _
    refine XS.icmpYes X6.here hx rfl (pc0 := 35) (pc' := 148) rfl (hb hby d2_35) rfl (XT.ii_ge_t (by decide : ¬ ((0 : Int32) < (0 : Int32)))) (by decide) (by decide) ?_
    show own_S p e below T6 (mkF m 148 #[.val (.ref r0), .val (.ref b6), .val (.int (0 : Int32)), .val (.int (0 : Int32)), .val (.int (0 : Int32)), .unset] []) _
    refine XS.iloadN X6.here hx rfl (hb hby d2_148) rfl ?_
    show own_S p e below T6 (mkF m 149 #[.val (.ref r0), .val (.ref b6), .val (.int (0 : Int32)), .val (.int (0 : Int32)), .val (.int (0 : Int32)), .unset] [(.int (0 : Int32))]) _
    refine XS.aloadN X6.here hx rfl (hb hby d2_149) rfl rfl ?_
    exact k
  obtain ⟨cl13, Ar13, -, S13, Ng13, -, -⟩ := id (V_r0.ext (own_ext Kp6))
  have K14 : own_K p e below SE T6 (mkF m 156 #[.val (.ref r0), .val (.ref b6), .val (.int (0 : Int32)), .val (.int (0 : Int32)), .val (.int (0 : Int32)), .unset] [(.int (0 : Int32)), (.ref r0)]) := by
    intro t k
    refine K12 _ ?_
    refine X6.arraylength hx (by rw [e6]; exact Ar13.1) (State.isArrayOf_alike hZ.alike Ar13.2.1) (g := (mkF m 150 #[.val (.ref r0), .val (.ref b6), .val (.int (0 : Int32)), .val (.int (0 : Int32)), .val (.int (0 : Int32)), .unset] [(.ref r0), (.int (0 : Int32))])) rfl rfl (hb hby d2_150) _ ?_
    rw [len_of S13 Ng13]
    show own_S p e below T6 (mkF m 151 #[.val (.ref r0), .val (.ref b6), .val (.int (0 : Int32)), .val (.int (0 : Int32)), .val (.int (0 : Int32)), .unset] [(.int (2 : Int32)), (.int (0 : Int32))]) _
    refine XS.icmpNo X6.here hx rfl (hb hby d2_151) rfl (XT.ii_ge_f (by decide : (0 : Int32) < (2 : Int32))) ?_
    show own_S p e below T6 (mkF m 154 #[.val (.ref r0), .val (.ref b6), .val (.int (0 : Int32)), .val (.int (0 : Int32)), .val (.int (0 : Int32)), .unset] []) _
    refine XS.aloadN X6.here hx rfl (hb hby d2_154) rfl rfl ?_
    show own_S p e below T6 (mkF m 155 #[.val (.ref r0), .val (.ref b6), .val (.int (0 : Int32)), .val (.int (0 : Int32)), .val (.int (0 : Int32)), .unset] [(.ref r0)]) _
    refine XS.iloadN X6.here hx rfl (hb hby d2_155) rfl ?_
    exact k
  obtain ⟨cl15, Ar15, qk15, S15, Ng15, Hh15, Gg15⟩ := id (V_r0.ext (own_ext Kp6))
  have hin15 : ¬ ((0 : Int32) < 0 ∨ cl15.slots.size ≤ ((0 : Int32)).toNatClampNeg) := inb_of S15 ⟨by decide, by decide⟩
  have hat15 : cl15.slots[((0 : Int32)).toNatClampNeg]? = some (.int ub0) := Has.at Hh15 hin15 rfl
  have K16 : own_K p e below SE T6 (mkF m 168 #[.val (.ref r0), .val (.ref b6), .val (.int (0 : Int32)), .val (.int (0 : Int32)), .val (.int (0 : Int32)), .unset] [(.ref r0), (.int (1 : Int32)), (.int ((ub0 &&& (255 : Int32)) <<< ((16 : Int32) &&& 31)))]) := by
    intro t k
    refine K14 _ ?_
    refine X6.baloadBytes hx (j := (0 : Int32)) (v := (.int ub0)) (by rw [e6]; exact Ar15.1) (State.isArrayOf_alike hZ.alike Ar15.2.1) Ar15.2.2 hin15 hat15 (g := (mkF m 156 #[.val (.ref r0), .val (.ref b6), .val (.int (0 : Int32)), .val (.int (0 : Int32)), .val (.int (0 : Int32)), .unset] [(.int (0 : Int32)), (.ref r0)])) rfl rfl (hb hby d2_156) _ ?_
    show own_S p e below T6 (mkF m 157 #[.val (.ref r0), .val (.ref b6), .val (.int (0 : Int32)), .val (.int (0 : Int32)), .val (.int (0 : Int32)), .unset] [(.int ub0)]) _
    refine XS.sipush X6.here hx rfl (hb hby d2_157) ?_
    show own_S p e below T6 (mkF m 160 #[.val (.ref r0), .val (.ref b6), .val (.int (0 : Int32)), .val (.int (0 : Int32)), .val (.int (0 : Int32)), .unset] [(.int (255 : Int32)), (.int ub0)]) _
    refine XS.iand X6.here hx rfl (hb hby d2_160) rfl ?_
    show own_S p e below T6 (mkF m 161 #[.val (.ref r0), .val (.ref b6), .val (.int (0 : Int32)), .val (.int (0 : Int32)), .val (.int (0 : Int32)), .unset] [(.int (ub0 &&& (255 : Int32)))]) _
    refine XS.bipush X6.here hx rfl (hb hby d2_161) ?_
    show own_S p e below T6 (mkF m 163 #[.val (.ref r0), .val (.ref b6), .val (.int (0 : Int32)), .val (.int (0 : Int32)), .val (.int (0 : Int32)), .unset] [(.int (16 : Int32)), (.int (ub0 &&& (255 : Int32)))]) _
    refine XS.ishl X6.here hx rfl (hb hby d2_163) rfl ?_
    show own_S p e below T6 (mkF m 164 #[.val (.ref r0), .val (.ref b6), .val (.int (0 : Int32)), .val (.int (0 : Int32)), .val (.int (0 : Int32)), .unset] [(.int ((ub0 &&& (255 : Int32)) <<< ((16 : Int32) &&& 31)))]) _
    refine XS.iloadN X6.here hx rfl (hb hby d2_164) rfl ?_
    show own_S p e below T6 (mkF m 165 #[.val (.ref r0), .val (.ref b6), .val (.int (0 : Int32)), .val (.int (0 : Int32)), .val (.int (0 : Int32)), .unset] [(.int (0 : Int32)), (.int ((ub0 &&& (255 : Int32)) <<< ((16 : Int32) &&& 31)))]) _
    refine XS.iconst X6.here hx rfl (hb hby d2_165) ?_
    show own_S p e below T6 (mkF m 166 #[.val (.ref r0), .val (.ref b6), .val (.int (0 : Int32)), .val (.int (0 : Int32)), .val (.int (0 : Int32)), .unset] [(.int (1 : Int32)), (.int (0 : Int32)), (.int ((ub0 &&& (255 : Int32)) <<< ((16 : Int32) &&& 31)))]) _
    refine XS.iadd X6.here hx rfl (hb hby d2_166) rfl ?_
    show own_S p e below T6 (mkF m 167 #[.val (.ref r0), .val (.ref b6), .val (.int (0 : Int32)), .val (.int (0 : Int32)), .val (.int (0 : Int32)), .unset] [(.int (1 : Int32)), (.int ((ub0 &&& (255 : Int32)) <<< ((16 : Int32) &&& 31)))]) _
    refine XS.aloadN X6.here hx rfl (hb hby d2_167) rfl rfl ?_
    exact k
  obtain ⟨cl17, Ar17, -, S17, Ng17, -, -⟩ := id (V_r0.ext (own_ext Kp6))
  have K18 : own_K p e below SE T6 (mkF m 176 #[.val (.ref r0), .val (.ref b6), .val (.int (0 : Int32)), .val (.int (0 : Int32)), .val (.int (0 : Int32)), .unset] [(.int (1 : Int32)), (.ref r0), (.int ((ub0 &&& (255 : Int32)) <<< ((16 : Int32) &&& 31)))]) := by
    intro t k
    refine K16 _ ?_
    refine X6.arraylength hx (by rw [e6]; exact Ar17.1) (State.isArrayOf_alike hZ.alike Ar17.2.1) (g := (mkF m 168 #[.val (.ref r0), .val (.ref b6), .val (.int (0 : Int32)), .val (.int (0 : Int32)), .val (.int (0 : Int32)), .unset] [(.ref r0), (.int (1 : Int32)), (.int ((ub0 &&& (255 : Int32)) <<< ((16 : Int32) &&& 31)))])) rfl rfl (hb hby d2_168) _ ?_
    rw [len_of S17 Ng17]
    show own_S p e below T6 (mkF m 169 #[.val (.ref r0), .val (.ref b6), .val (.int (0 : Int32)), .val (.int (0 : Int32)), .val (.int (0 : Int32)), .unset] [(.int (2 : Int32)), (.int (1 : Int32)), (.int ((ub0 &&& (255 : Int32)) <<< ((16 : Int32) &&& 31)))]) _
    refine XS.icmpNo X6.here hx rfl (hb hby d2_169) rfl (XT.ii_ge_f (by decide : (1 : Int32) < (2 : Int32))) ?_
    show own_S p e below T6 (mkF m 172 #[.val (.ref r0), .val (.ref b6), .val (.int (0 : Int32)), .val (.int (0 : Int32)), .val (.int (0 : Int32)), .unset] [(.int ((ub0 &&& (255 : Int32)) <<< ((16 : Int32) &&& 31)))]) _
    refine XS.aloadN X6.here hx rfl (hb hby d2_172) rfl rfl ?_
    show own_S p e below T6 (mkF m 173 #[.val (.ref r0), .val (.ref b6), .val (.int (0 : Int32)), .val (.int (0 : Int32)), .val (.int (0 : Int32)), .unset] [(.ref r0), (.int ((ub0 &&& (255 : Int32)) <<< ((16 : Int32) &&& 31)))]) _
    refine XS.iloadN X6.here hx rfl (hb hby d2_173) rfl ?_
    show own_S p e below T6 (mkF m 174 #[.val (.ref r0), .val (.ref b6), .val (.int (0 : Int32)), .val (.int (0 : Int32)), .val (.int (0 : Int32)), .unset] [(.int (0 : Int32)), (.ref r0), (.int ((ub0 &&& (255 : Int32)) <<< ((16 : Int32) &&& 31)))]) _
    refine XS.iconst X6.here hx rfl (hb hby d2_174) ?_
    show own_S p e below T6 (mkF m 175 #[.val (.ref r0), .val (.ref b6), .val (.int (0 : Int32)), .val (.int (0 : Int32)), .val (.int (0 : Int32)), .unset] [(.int (1 : Int32)), (.int (0 : Int32)), (.ref r0), (.int ((ub0 &&& (255 : Int32)) <<< ((16 : Int32) &&& 31)))]) _
    refine XS.iadd X6.here hx rfl (hb hby d2_175) rfl ?_
    exact k
  obtain ⟨cl19, Ar19, qk19, S19, Ng19, Hh19, Gg19⟩ := id (V_r0.ext (own_ext Kp6))
  have hin19 : ¬ ((1 : Int32) < 0 ∨ cl19.slots.size ≤ ((1 : Int32)).toNatClampNeg) := inb_of S19 ⟨by decide, by decide⟩
  have hat19 : cl19.slots[((1 : Int32)).toNatClampNeg]? = some (.int ub1) := Has.at Hh19 hin19 rfl
  have K20 : own_K p e below SE T6 (mkF m 191 #[.val (.ref r0), .val (.ref b6), .val (.int (0 : Int32)), .val (.int (0 : Int32)), .val (.int (((ub0 &&& (255 : Int32)) <<< ((16 : Int32) &&& 31)) ||| ((ub1 &&& (255 : Int32)) <<< ((8 : Int32) &&& 31)))), .unset] []) := by
    intro t k
    refine K18 _ ?_
    refine X6.baloadBytes hx (j := (1 : Int32)) (v := (.int ub1)) (by rw [e6]; exact Ar19.1) (State.isArrayOf_alike hZ.alike Ar19.2.1) Ar19.2.2 hin19 hat19 (g := (mkF m 176 #[.val (.ref r0), .val (.ref b6), .val (.int (0 : Int32)), .val (.int (0 : Int32)), .val (.int (0 : Int32)), .unset] [(.int (1 : Int32)), (.ref r0), (.int ((ub0 &&& (255 : Int32)) <<< ((16 : Int32) &&& 31)))])) rfl rfl (hb hby d2_176) _ ?_
    show own_S p e below T6 (mkF m 177 #[.val (.ref r0), .val (.ref b6), .val (.int (0 : Int32)), .val (.int (0 : Int32)), .val (.int (0 : Int32)), .unset] [(.int ub1), (.int ((ub0 &&& (255 : Int32)) <<< ((16 : Int32) &&& 31)))]) _
    refine XS.sipush X6.here hx rfl (hb hby d2_177) ?_
    show own_S p e below T6 (mkF m 180 #[.val (.ref r0), .val (.ref b6), .val (.int (0 : Int32)), .val (.int (0 : Int32)), .val (.int (0 : Int32)), .unset] [(.int (255 : Int32)), (.int ub1), (.int ((ub0 &&& (255 : Int32)) <<< ((16 : Int32) &&& 31)))]) _
    refine XS.iand X6.here hx rfl (hb hby d2_180) rfl ?_
    show own_S p e below T6 (mkF m 181 #[.val (.ref r0), .val (.ref b6), .val (.int (0 : Int32)), .val (.int (0 : Int32)), .val (.int (0 : Int32)), .unset] [(.int (ub1 &&& (255 : Int32))), (.int ((ub0 &&& (255 : Int32)) <<< ((16 : Int32) &&& 31)))]) _
    refine XS.bipush X6.here hx rfl (hb hby d2_181) ?_
    show own_S p e below T6 (mkF m 183 #[.val (.ref r0), .val (.ref b6), .val (.int (0 : Int32)), .val (.int (0 : Int32)), .val (.int (0 : Int32)), .unset] [(.int (8 : Int32)), (.int (ub1 &&& (255 : Int32))), (.int ((ub0 &&& (255 : Int32)) <<< ((16 : Int32) &&& 31)))]) _
    refine XS.ishl X6.here hx rfl (hb hby d2_183) rfl ?_
    show own_S p e below T6 (mkF m 184 #[.val (.ref r0), .val (.ref b6), .val (.int (0 : Int32)), .val (.int (0 : Int32)), .val (.int (0 : Int32)), .unset] [(.int ((ub1 &&& (255 : Int32)) <<< ((8 : Int32) &&& 31))), (.int ((ub0 &&& (255 : Int32)) <<< ((16 : Int32) &&& 31)))]) _
    refine XS.goto X6.here hx rfl (pc0 := 184) (pc' := 188) rfl (hb hby d2_184) (by decide) (by decide) ?_
    show own_S p e below T6 (mkF m 188 #[.val (.ref r0), .val (.ref b6), .val (.int (0 : Int32)), .val (.int (0 : Int32)), .val (.int (0 : Int32)), .unset] [(.int ((ub1 &&& (255 : Int32)) <<< ((8 : Int32) &&& 31))), (.int ((ub0 &&& (255 : Int32)) <<< ((16 : Int32) &&& 31)))]) _
    refine XS.ior X6.here hx rfl (hb hby d2_188) rfl ?_
    show own_S p e below T6 (mkF m 189 #[.val (.ref r0), .val (.ref b6), .val (.int (0 : Int32)), .val (.int (0 : Int32)), .val (.int (0 : Int32)), .unset] [(.int (((ub0 &&& (255 : Int32)) <<< ((16 : Int32) &&& 31)) ||| ((ub1 &&& (255 : Int32)) <<< ((8 : Int32) &&& 31))))]) _
    refine XS.istore X6.here hx rfl (hb hby d2_189) rfl (l' := #[.val (.ref r0), .val (.ref b6), .val (.int (0 : Int32)), .val (.int (0 : Int32)), .val (.int (((ub0 &&& (255 : Int32)) <<< ((16 : Int32) &&& 31)) ||| ((ub1 &&& (255 : Int32)) <<< ((8 : Int32) &&& 31)))), .unset]) rfl ?_
    exact k
  obtain ⟨x0, hx0⟩ : ∃ z : Int32, z = (((ub0 &&& (255 : Int32)) <<< ((16 : Int32) &&& 31)) ||| ((ub1 &&& (255 : Int32)) <<< ((8 : Int32) &&& 31))) := ⟨_, rfl⟩
  rw [← hx0] at K20
  have hb_x0 : 0 ≤ x0.toInt ∧ x0.toInt < 16777216 := by rw [hx0]; exact (own_xb (own_m255 _) (own_m255 _) own_r0 (own_x2i ub0 ub1))
  have K21 : own_K p e below SE T6 (mkF m 196 #[.val (.ref r0), .val (.ref b6), .val (.int (0 : Int32)), .val (.int (1 : Int32)), .val (.int x0), .unset] [(.int (0 : Int32)), (.ref b6)]) := by
    intro t k
    refine K20 _ ?_
    refine XS.aloadN X6.here hx rfl (hb hby d2_191) rfl rfl ?_
    show own_S p e below T6 (mkF m 192 #[.val (.ref r0), .val (.ref b6), .val (.int (0 : Int32)), .val (.int (0 : Int32)), .val (.int x0), .unset] [(.ref b6)]) _
    refine XS.iloadN X6.here hx rfl (hb hby d2_192) rfl ?_
    show own_S p e below T6 (mkF m 193 #[.val (.ref r0), .val (.ref b6), .val (.int (0 : Int32)), .val (.int (0 : Int32)), .val (.int x0), .unset] [(.int (0 : Int32)), (.ref b6)]) _
    refine XS.iinc X6.here hx rfl (hb hby d2_193) rfl (l' := #[.val (.ref r0), .val (.ref b6), .val (.int (0 : Int32)), .val (.int (1 : Int32)), .val (.int x0), .unset]) rfl ?_
    exact k
  obtain ⟨T22, X22, e22, st22⟩ := getS2 X6 hx hZ hown (host := "") (Or.inl (hw _ (List.mem_of_getElem? (i := 16) rfl))) Via.refl e6 (SA.ext (own_ext Kp6)) (g := (mkF m 196 #[.val (.ref r0), .val (.ref b6), .val (.int (0 : Int32)), .val (.int (1 : Int32)), .val (.int x0), .unset] [(.int (0 : Int32)), (.ref b6)])) rfl (hb hby d2_196)
  have K22 : own_K p e below SE T22 (mkF m 199 #[.val (.ref r0), .val (.ref b6), .val (.int (0 : Int32)), .val (.int (1 : Int32)), .val (.int x0), .unset] [(.ref oAL), (.int (0 : Int32)), (.ref b6)]) := fun t k => K21 _ (st22 _ k)
  have K23 : own_K p e below SE T22 (mkF m 204 #[.val (.ref r0), .val (.ref b6), .val (.int (0 : Int32)), .val (.int (1 : Int32)), .val (.int x0), .unset] [(.int ((x0.toUInt32 >>> ((18 : Int32) &&& 31).toUInt32).toInt32)), (.ref oAL), (.int (0 : Int32)), (.ref b6)]) := by
    intro t k
    refine K22 _ ?_
    refine XS.iload X22.here hx rfl (hb hby d2_199) rfl ?_
    show own_S p e below T22 (mkF m 201 #[.val (.ref r0), .val (.ref b6), .val (.int (0 : Int32)), .val (.int (1 : Int32)), .val (.int x0), .unset] [(.int x0), (.ref oAL), (.int (0 : Int32)), (.ref b6)]) _
    refine XS.bipush X22.here hx rfl (hb hby d2_201) ?_
    show own_S p e below T22 (mkF m 203 #[.val (.ref r0), .val (.ref b6), .val (.int (0 : Int32)), .val (.int (1 : Int32)), .val (.int x0), .unset] [(.int (18 : Int32)), (.int x0), (.ref oAL), (.int (0 : Int32)), (.ref b6)]) _
    refine XS.iushr X22.here hx rfl (hb hby d2_203) rfl ?_
    exact k
  obtain ⟨Ar24, S24, Ng24, Hh24⟩ := id (TA.ext (own_ext Kp6))
  have hin24 : ¬ (((x0.toUInt32 >>> ((18 : Int32) &&& 31).toUInt32).toInt32) < 0 ∨ cA.slots.size ≤ (((x0.toUInt32 >>> ((18 : Int32) &&& 31).toUInt32).toInt32)).toNatClampNeg) := inb_of S24 (own_b18 _ hb_x0)
  have hat24 := Hh24 _ hin24
  have K25 : own_K p e below SE T22 (mkF m 205 #[.val (.ref r0), .val (.ref b6), .val (.int (0 : Int32)), .val (.int (1 : Int32)), .val (.int x0), .unset] [(.int (atv cA ((x0.toUInt32 >>> ((18 : Int32) &&& 31).toUInt32).toInt32))), (.int (0 : Int32)), (.ref b6)]) := by
    intro t k
    refine K23 _ ?_
    refine X22.baloadBytes hx (j := ((x0.toUInt32 >>> ((18 : Int32) &&& 31).toUInt32).toInt32)) (v := (.int (atv cA ((x0.toUInt32 >>> ((18 : Int32) &&& 31).toUInt32).toInt32)))) (by rw [e22]; exact Ar24.1) (State.isArrayOf_alike hZ.alike Ar24.2.1) Ar24.2.2 hin24 hat24 (g := (mkF m 204 #[.val (.ref r0), .val (.ref b6), .val (.int (0 : Int32)), .val (.int (1 : Int32)), .val (.int x0), .unset] [(.int ((x0.toUInt32 >>> ((18 : Int32) &&& 31).toUInt32).toInt32)), (.ref oAL), (.int (0 : Int32)), (.ref b6)])) rfl rfl (hb hby d2_204) _ ?_
    exact k
  obtain ⟨cl26, Ar26, qk26, S26, Ng26, Hh26, Gg26⟩ := id V6
  have hin26 : ¬ ((0 : Int32) < 0 ∨ cl26.slots.size ≤ ((0 : Int32)).toNatClampNeg) := inb_of S26 ⟨by decide, by decide⟩
  obtain ⟨T27, h27, X27, e27, W27, st27⟩ := stB X22 hx hZ e22 Ar26 (j := (0 : Int32)) hin26 (g := (mkF m 205 #[.val (.ref r0), .val (.ref b6), .val (.int (0 : Int32)), .val (.int (1 : Int32)), .val (.int x0), .unset] [(.int (atv cA ((x0.toUInt32 >>> ((18 : Int32) &&& 31).toUInt32).toInt32))), (.int (0 : Int32)), (.ref b6)])) rfl rfl (hb hby d2_205)
  have V27 : Arv Z h27 b6 k6 .byte (3 : Int32) [(.int ((atv cA ((x0.toUInt32 >>> ((18 : Int32) &&& 31).toUInt32).toInt32))).toInt8.toInt32), (.int (0 : Int32)), (.int (0 : Int32))] (.int (0 : Int32)) := Arv.set Ar26 qk26 S26 Ng26 Hh26 Gg26 (fits_nar_byte _) W27 0 rfl (Nat.le_of_ble_eq_true rfl)
  have N27 := Fr.snoc X27 N0 g_b6
  have Kp27 : Keep h0 h27 [] := Keep.wr Kp6 W27 (Or.inr sz_b6)
  have K27 : own_K p e below SE T27 (mkF m 206 #[.val (.ref r0), .val (.ref b6), .val (.int (0 : Int32)), .val (.int (1 : Int32)), .val (.int x0), .unset] []) := fun t k => K25 _ (st27 _ k)
  have K28 : own_K p e below SE T27 (mkF m 211 #[.val (.ref r0), .val (.ref b6), .val (.int (0 : Int32)), .val (.int (2 : Int32)), .val (.int x0), .unset] [(.int (1 : Int32)), (.ref b6)]) := by
    intro t k
    refine K27 _ ?_
    refine XS.aloadN X27.here hx rfl (hb hby d2_206) rfl rfl ?_
    show own_S p e below T27 (mkF m 207 #[.val (.ref r0), .val (.ref b6), .val (.int (0 : Int32)), .val (.int (1 : Int32)), .val (.int x0), .unset] [(.ref b6)]) _
    refine XS.iloadN X27.here hx rfl (hb hby d2_207) rfl ?_
    show own_S p e below T27 (mkF m 208 #[.val (.ref r0), .val (.ref b6), .val (.int (0 : Int32)), .val (.int (1 : Int32)), .val (.int x0), .unset] [(.int (1 : Int32)), (.ref b6)]) _
    refine XS.iinc X27.here hx rfl (hb hby d2_208) rfl (l' := #[.val (.ref r0), .val (.ref b6), .val (.int (0 : Int32)), .val (.int (2 : Int32)), .val (.int x0), .unset]) rfl ?_
    exact k
  obtain ⟨T29, X29, e29, st29⟩ := getS2 X27 hx hZ hown (host := "") (Or.inl (hw _ (List.mem_of_getElem? (i := 16) rfl))) Via.refl e27 (SA.ext (own_ext Kp27)) (g := (mkF m 211 #[.val (.ref r0), .val (.ref b6), .val (.int (0 : Int32)), .val (.int (2 : Int32)), .val (.int x0), .unset] [(.int (1 : Int32)), (.ref b6)])) rfl (hb hby d2_211)
  have K29 : own_K p e below SE T29 (mkF m 214 #[.val (.ref r0), .val (.ref b6), .val (.int (0 : Int32)), .val (.int (2 : Int32)), .val (.int x0), .unset] [(.ref oAL), (.int (1 : Int32)), (.ref b6)]) := fun t k => K28 _ (st29 _ k)
  have K30 : own_K p e below SE T29 (mkF m 222 #[.val (.ref r0), .val (.ref b6), .val (.int (0 : Int32)), .val (.int (2 : Int32)), .val (.int x0), .unset] [(.int (((x0.toUInt32 >>> ((12 : Int32) &&& 31).toUInt32).toInt32) &&& (63 : Int32))), (.ref oAL), (.int (1 : Int32)), (.ref b6)]) := by
    intro t k
    refine K29 _ ?_
    refine XS.iload X29.here hx rfl (hb hby d2_214) rfl ?_
    show own_S p e below T29 (mkF m 216 #[.val (.ref r0), .val (.ref b6), .val (.int (0 : Int32)), .val (.int (2 : Int32)), .val (.int x0), .unset] [(.int x0), (.ref oAL), (.int (1 : Int32)), (.ref b6)]) _
    refine XS.bipush X29.here hx rfl (hb hby d2_216) ?_
    show own_S p e below T29 (mkF m 218 #[.val (.ref r0), .val (.ref b6), .val (.int (0 : Int32)), .val (.int (2 : Int32)), .val (.int x0), .unset] [(.int (12 : Int32)), (.int x0), (.ref oAL), (.int (1 : Int32)), (.ref b6)]) _
    refine XS.iushr X29.here hx rfl (hb hby d2_218) rfl ?_
    show own_S p e below T29 (mkF m 219 #[.val (.ref r0), .val (.ref b6), .val (.int (0 : Int32)), .val (.int (2 : Int32)), .val (.int x0), .unset] [(.int ((x0.toUInt32 >>> ((12 : Int32) &&& 31).toUInt32).toInt32)), (.ref oAL), (.int (1 : Int32)), (.ref b6)]) _
    refine XS.bipush X29.here hx rfl (hb hby d2_219) ?_
    show own_S p e below T29 (mkF m 221 #[.val (.ref r0), .val (.ref b6), .val (.int (0 : Int32)), .val (.int (2 : Int32)), .val (.int x0), .unset] [(.int (63 : Int32)), (.int ((x0.toUInt32 >>> ((12 : Int32) &&& 31).toUInt32).toInt32)), (.ref oAL), (.int (1 : Int32)), (.ref b6)]) _
    refine XS.iand X29.here hx rfl (hb hby d2_221) rfl ?_
    exact k
  obtain ⟨Ar31, S31, Ng31, Hh31⟩ := id (TA.ext (own_ext Kp27))
  have hin31 : ¬ ((((x0.toUInt32 >>> ((12 : Int32) &&& 31).toUInt32).toInt32) &&& (63 : Int32)) < 0 ∨ cA.slots.size ≤ ((((x0.toUInt32 >>> ((12 : Int32) &&& 31).toUInt32).toInt32) &&& (63 : Int32))).toNatClampNeg) := inb_of S31 (own_b63 _)
  have hat31 := Hh31 _ hin31
  have K32 : own_K p e below SE T29 (mkF m 223 #[.val (.ref r0), .val (.ref b6), .val (.int (0 : Int32)), .val (.int (2 : Int32)), .val (.int x0), .unset] [(.int (atv cA (((x0.toUInt32 >>> ((12 : Int32) &&& 31).toUInt32).toInt32) &&& (63 : Int32)))), (.int (1 : Int32)), (.ref b6)]) := by
    intro t k
    refine K30 _ ?_
    refine X29.baloadBytes hx (j := (((x0.toUInt32 >>> ((12 : Int32) &&& 31).toUInt32).toInt32) &&& (63 : Int32))) (v := (.int (atv cA (((x0.toUInt32 >>> ((12 : Int32) &&& 31).toUInt32).toInt32) &&& (63 : Int32))))) (by rw [e29]; exact Ar31.1) (State.isArrayOf_alike hZ.alike Ar31.2.1) Ar31.2.2 hin31 hat31 (g := (mkF m 222 #[.val (.ref r0), .val (.ref b6), .val (.int (0 : Int32)), .val (.int (2 : Int32)), .val (.int x0), .unset] [(.int (((x0.toUInt32 >>> ((12 : Int32) &&& 31).toUInt32).toInt32) &&& (63 : Int32))), (.ref oAL), (.int (1 : Int32)), (.ref b6)])) rfl rfl (hb hby d2_222) _ ?_
    exact k
  obtain ⟨cl33, Ar33, qk33, S33, Ng33, Hh33, Gg33⟩ := id V27
  have hin33 : ¬ ((1 : Int32) < 0 ∨ cl33.slots.size ≤ ((1 : Int32)).toNatClampNeg) := inb_of S33 ⟨by decide, by decide⟩
  obtain ⟨T34, h34, X34, e34, W34, st34⟩ := stB X29 hx hZ e29 Ar33 (j := (1 : Int32)) hin33 (g := (mkF m 223 #[.val (.ref r0), .val (.ref b6), .val (.int (0 : Int32)), .val (.int (2 : Int32)), .val (.int x0), .unset] [(.int (atv cA (((x0.toUInt32 >>> ((12 : Int32) &&& 31).toUInt32).toInt32) &&& (63 : Int32)))), (.int (1 : Int32)), (.ref b6)])) rfl rfl (hb hby d2_223)
  have V34 : Arv Z h34 b6 k6 .byte (3 : Int32) [(.int ((atv cA ((x0.toUInt32 >>> ((18 : Int32) &&& 31).toUInt32).toInt32))).toInt8.toInt32), (.int ((atv cA (((x0.toUInt32 >>> ((12 : Int32) &&& 31).toUInt32).toInt32) &&& (63 : Int32)))).toInt8.toInt32), (.int (0 : Int32))] (.int (0 : Int32)) := Arv.set Ar33 qk33 S33 Ng33 Hh33 Gg33 (fits_nar_byte _) W34 1 rfl (Nat.le_of_ble_eq_true rfl)
  have N34 := Fr.snoc X34 N27 g_b6
  have Kp34 : Keep h0 h34 [] := Keep.wr Kp27 W34 (Or.inr sz_b6)
  have K34 : own_K p e below SE T34 (mkF m 224 #[.val (.ref r0), .val (.ref b6), .val (.int (0 : Int32)), .val (.int (2 : Int32)), .val (.int x0), .unset] []) := fun t k => K32 _ (st34 _ k)
  have K35 : own_K p e below SE T34 (mkF m 226 #[.val (.ref r0), .val (.ref b6), .val (.int (0 : Int32)), .val (.int (2 : Int32)), .val (.int x0), .unset] [(.ref b6), (.int (2 : Int32))]) := by
    intro t k
    refine K34 _ ?_
    refine XS.iloadN X34.here hx rfl (hb hby d2_224) rfl ?_
    show own_S p e below T34 (mkF m 225 #[.val (.ref r0), .val (.ref b6), .val (.int (0 : Int32)), .val (.int (2 : Int32)), .val (.int x0), .unset] [(.int (2 : Int32))]) _
    refine XS.aloadN X34.here hx rfl (hb hby d2_225) rfl rfl ?_
    exact k
  obtain ⟨cl36, Ar36, -, S36, Ng36, -, -⟩ := id V34
  have K37 : own_K p e below SE T34 (mkF m 232 #[.val (.ref r0), .val (.ref b6), .val (.int (0 : Int32)), .val (.int (2 : Int32)), .val (.int x0), .unset] [(.int (2 : Int32)), (.ref b6)]) := by
    intro t k
    refine K35 _ ?_
    refine X34.arraylength hx (by rw [e34]; exact Ar36.1) (State.isArrayOf_alike hZ.alike Ar36.2.1) (g := (mkF m 226 #[.val (.ref r0), .val (.ref b6), .val (.int (0 : Int32)), .val (.int (2 : Int32)), .val (.int x0), .unset] [(.ref b6), (.int (2 : Int32))])) rfl rfl (hb hby d2_226) _ ?_
    rw [len_of S36 Ng36]
    show own_S p e below T34 (mkF m 227 #[.val (.ref r0), .val (.ref b6), .val (.int (0 : Int32)), .val (.int (2 : Int32)), .val (.int x0), .unset] [(.int (3 : Int32)), (.int (2 : Int32))]) _
    refine XS.icmpNo X34.here hx rfl (hb hby d2_227) rfl (XT.ii_ge_f (by decide : (2 : Int32) < (3 : Int32))) ?_
    show own_S p e below T34 (mkF m 230 #[.val (.ref r0), .val (.ref b6), .val (.int (0 : Int32)), .val (.int (2 : Int32)), .val (.int x0), .unset] []) _
    refine XS.aloadN X34.here hx rfl (hb hby d2_230) rfl rfl ?_
    show own_S p e below T34 (mkF m 231 #[.val (.ref r0), .val (.ref b6), .val (.int (0 : Int32)), .val (.int (2 : Int32)), .val (.int x0), .unset] [(.ref b6)]) _
    refine XS.iloadN X34.here hx rfl (hb hby d2_231) rfl ?_
    exact k
  obtain ⟨T38, X38, e38, st38⟩ := getS2 X34 hx hZ hown (host := "") (Or.inl (hw _ (List.mem_of_getElem? (i := 16) rfl))) Via.refl e34 (SA.ext (own_ext Kp34)) (g := (mkF m 232 #[.val (.ref r0), .val (.ref b6), .val (.int (0 : Int32)), .val (.int (2 : Int32)), .val (.int x0), .unset] [(.int (2 : Int32)), (.ref b6)])) rfl (hb hby d2_232)
  have K38 : own_K p e below SE T38 (mkF m 235 #[.val (.ref r0), .val (.ref b6), .val (.int (0 : Int32)), .val (.int (2 : Int32)), .val (.int x0), .unset] [(.ref oAL), (.int (2 : Int32)), (.ref b6)]) := fun t k => K37 _ (st38 _ k)
  have K39 : own_K p e below SE T38 (mkF m 243 #[.val (.ref r0), .val (.ref b6), .val (.int (0 : Int32)), .val (.int (2 : Int32)), .val (.int x0), .unset] [(.int (((x0.toUInt32 >>> ((6 : Int32) &&& 31).toUInt32).toInt32) &&& (63 : Int32))), (.ref oAL), (.int (2 : Int32)), (.ref b6)]) := by
    intro t k
    refine K38 _ ?_
    refine XS.iload X38.here hx rfl (hb hby d2_235) rfl ?_
    show own_S p e below T38 (mkF m 237 #[.val (.ref r0), .val (.ref b6), .val (.int (0 : Int32)), .val (.int (2 : Int32)), .val (.int x0), .unset] [(.int x0), (.ref oAL), (.int (2 : Int32)), (.ref b6)]) _
    refine XS.bipush X38.here hx rfl (hb hby d2_237) ?_
    show own_S p e below T38 (mkF m 239 #[.val (.ref r0), .val (.ref b6), .val (.int (0 : Int32)), .val (.int (2 : Int32)), .val (.int x0), .unset] [(.int (6 : Int32)), (.int x0), (.ref oAL), (.int (2 : Int32)), (.ref b6)]) _
    refine XS.iushr X38.here hx rfl (hb hby d2_239) rfl ?_
    show own_S p e below T38 (mkF m 240 #[.val (.ref r0), .val (.ref b6), .val (.int (0 : Int32)), .val (.int (2 : Int32)), .val (.int x0), .unset] [(.int ((x0.toUInt32 >>> ((6 : Int32) &&& 31).toUInt32).toInt32)), (.ref oAL), (.int (2 : Int32)), (.ref b6)]) _
    refine XS.bipush X38.here hx rfl (hb hby d2_240) ?_
    show own_S p e below T38 (mkF m 242 #[.val (.ref r0), .val (.ref b6), .val (.int (0 : Int32)), .val (.int (2 : Int32)), .val (.int x0), .unset] [(.int (63 : Int32)), (.int ((x0.toUInt32 >>> ((6 : Int32) &&& 31).toUInt32).toInt32)), (.ref oAL), (.int (2 : Int32)), (.ref b6)]) _
    refine XS.iand X38.here hx rfl (hb hby d2_242) rfl ?_
    exact k
  obtain ⟨Ar40, S40, Ng40, Hh40⟩ := id (TA.ext (own_ext Kp34))
  have hin40 : ¬ ((((x0.toUInt32 >>> ((6 : Int32) &&& 31).toUInt32).toInt32) &&& (63 : Int32)) < 0 ∨ cA.slots.size ≤ ((((x0.toUInt32 >>> ((6 : Int32) &&& 31).toUInt32).toInt32) &&& (63 : Int32))).toNatClampNeg) := inb_of S40 (own_b63 _)
  have hat40 := Hh40 _ hin40
  have K41 : own_K p e below SE T38 (mkF m 244 #[.val (.ref r0), .val (.ref b6), .val (.int (0 : Int32)), .val (.int (2 : Int32)), .val (.int x0), .unset] [(.int (atv cA (((x0.toUInt32 >>> ((6 : Int32) &&& 31).toUInt32).toInt32) &&& (63 : Int32)))), (.int (2 : Int32)), (.ref b6)]) := by
    intro t k
    refine K39 _ ?_
    refine X38.baloadBytes hx (j := (((x0.toUInt32 >>> ((6 : Int32) &&& 31).toUInt32).toInt32) &&& (63 : Int32))) (v := (.int (atv cA (((x0.toUInt32 >>> ((6 : Int32) &&& 31).toUInt32).toInt32) &&& (63 : Int32))))) (by rw [e38]; exact Ar40.1) (State.isArrayOf_alike hZ.alike Ar40.2.1) Ar40.2.2 hin40 hat40 (g := (mkF m 243 #[.val (.ref r0), .val (.ref b6), .val (.int (0 : Int32)), .val (.int (2 : Int32)), .val (.int x0), .unset] [(.int (((x0.toUInt32 >>> ((6 : Int32) &&& 31).toUInt32).toInt32) &&& (63 : Int32))), (.ref oAL), (.int (2 : Int32)), (.ref b6)])) rfl rfl (hb hby d2_243) _ ?_
    exact k
  obtain ⟨cl42, Ar42, qk42, S42, Ng42, Hh42, Gg42⟩ := id V34
  have hin42 : ¬ ((2 : Int32) < 0 ∨ cl42.slots.size ≤ ((2 : Int32)).toNatClampNeg) := inb_of S42 ⟨by decide, by decide⟩
  obtain ⟨T43, h43, X43, e43, W43, st43⟩ := stB X38 hx hZ e38 Ar42 (j := (2 : Int32)) hin42 (g := (mkF m 244 #[.val (.ref r0), .val (.ref b6), .val (.int (0 : Int32)), .val (.int (2 : Int32)), .val (.int x0), .unset] [(.int (atv cA (((x0.toUInt32 >>> ((6 : Int32) &&& 31).toUInt32).toInt32) &&& (63 : Int32)))), (.int (2 : Int32)), (.ref b6)])) rfl rfl (hb hby d2_244)
  have V43 : Arv Z h43 b6 k6 .byte (3 : Int32) [(.int ((atv cA ((x0.toUInt32 >>> ((18 : Int32) &&& 31).toUInt32).toInt32))).toInt8.toInt32), (.int ((atv cA (((x0.toUInt32 >>> ((12 : Int32) &&& 31).toUInt32).toInt32) &&& (63 : Int32)))).toInt8.toInt32), (.int ((atv cA (((x0.toUInt32 >>> ((6 : Int32) &&& 31).toUInt32).toInt32) &&& (63 : Int32)))).toInt8.toInt32)] (.int (0 : Int32)) := Arv.set Ar42 qk42 S42 Ng42 Hh42 Gg42 (fits_nar_byte _) W43 2 rfl (Nat.le_of_ble_eq_true rfl)
  have N43 := Fr.snoc X43 N34 g_b6
  have Kp43 : Keep h0 h43 [] := Keep.wr Kp34 W43 (Or.inr sz_b6)
  have K43 : own_K p e below SE T43 (mkF m 245 #[.val (.ref r0), .val (.ref b6), .val (.int (0 : Int32)), .val (.int (2 : Int32)), .val (.int x0), .unset] []) := fun t k => K41 _ (st43 _ k)
  have K44 : own_K p e below SE T43 (mkF m 246 #[.val (.ref r0), .val (.ref b6), .val (.int (0 : Int32)), .val (.int (2 : Int32)), .val (.int x0), .unset] [(.ref b6)]) := by
    intro t k
    refine K43 _ ?_
    refine XS.aloadN X43.here hx rfl (hb hby d2_245) rfl rfl ?_
    exact k
  subst hx0
  obtain ⟨fs, hr, hrun, hended, hW, hsame⟩ := X43.leave (v := some (.ref b6)) (fun h => by rw [Bd.returns] at h; cases h)
  refine ⟨_, _, K44 _ ?_, hrun, hended, _, _, rfl, ?_, ⟨_, rfl⟩, hW, hsame.mono (by decide) (by decide)⟩
  · show Steps p.tables e below (T43.setTop (mkF m 246 #[.val (.ref r0), .val (.ref b6), .val (.int (0 : Int32)), .val (.int (2 : Int32)), .val (.int (((ub0 &&& (255 : Int32)) <<< ((16 : Int32) &&& 31)) ||| ((ub1 &&& (255 : Int32)) <<< ((8 : Int32) &&& 31)))), .unset] [(.ref b6)])) _
    jvm_step X43.here [X43.here.top, hx, (hb hby d2_246), X43.method', Bd.returns, Value.isRef, FieldType.isReference]
    first | (intro acts; rw [hr _ acts rfl rfl rfl]) | rw [hr _ _ rfl rfl rfl]
    exact Steps.refl _
  · show Q2_2 Z r0 kA oAL cA ub0 ub1 h0 n0 _ T43.heap _
    rw [e43]
    exact ⟨congrArg (fun z => some (Value.ref z)) g6, N43, Kp43, _, (g6 ▸ V43)⟩
theorem d2_38 : decode prog_1_method_3_code 38 = .ok (.aload_n 0, 1) := by decide +kernel
theorem d2_39 : decode prog_1_method_3_code 39 = .ok (.iload 4, 2) := by decide +kernel
theorem d2_41 : decode prog_1_method_3_code 41 = .ok (.baload, 1) := by decide +kernel
theorem d2_42 : decode prog_1_method_3_code 42 = .ok (.sipush 255, 3) := by decide +kernel
theorem d2_45 : decode prog_1_method_3_code 45 = .ok (.iand, 1) := by decide +kernel
theorem d2_46 : decode prog_1_method_3_code 46 = .ok (.bipush 16, 2) := by decide +kernel
theorem d2_48 : decode prog_1_method_3_code 48 = .ok (.ishl, 1) := by decide +kernel
theorem d2_49 : decode prog_1_method_3_code 49 = .ok (.aload_n 0, 1) := by decide +kernel
theorem d2_50 : decode prog_1_method_3_code 50 = .ok (.iload 4, 2) := by decide +kernel
theorem d2_52 : decode prog_1_method_3_code 52 = .ok (.iconst 1, 1) := by decide +kernel
theorem d2_53 : decode prog_1_method_3_code 53 = .ok (.iadd, 1) := by decide +kernel
theorem d2_54 : decode prog_1_method_3_code 54 = .ok (.baload, 1) := by decide +kernel
theorem d2_55 : decode prog_1_method_3_code 55 = .ok (.sipush 255, 3) := by decide +kernel
theorem d2_58 : decode prog_1_method_3_code 58 = .ok (.iand, 1) := by decide +kernel
theorem d2_59 : decode prog_1_method_3_code 59 = .ok (.bipush 8, 2) := by decide +kernel
theorem d2_61 : decode prog_1_method_3_code 61 = .ok (.ishl, 1) := by decide +kernel
theorem d2_62 : decode prog_1_method_3_code 62 = .ok (.ior, 1) := by decide +kernel
theorem d2_63 : decode prog_1_method_3_code 63 = .ok (.aload_n 0, 1) := by decide +kernel
theorem d2_64 : decode prog_1_method_3_code 64 = .ok (.iload 4, 2) := by decide +kernel
theorem d2_66 : decode prog_1_method_3_code 66 = .ok (.iconst 2, 1) := by decide +kernel
theorem d2_67 : decode prog_1_method_3_code 67 = .ok (.iadd, 1) := by decide +kernel
theorem d2_68 : decode prog_1_method_3_code 68 = .ok (.baload, 1) := by decide +kernel
theorem d2_69 : decode prog_1_method_3_code 69 = .ok (.sipush 255, 3) := by decide +kernel
theorem d2_72 : decode prog_1_method_3_code 72 = .ok (.iand, 1) := by decide +kernel
theorem d2_73 : decode prog_1_method_3_code 73 = .ok (.ior, 1) := by decide +kernel
theorem d2_74 : decode prog_1_method_3_code 74 = .ok (.istore 5, 2) := by decide +kernel
theorem d2_76 : decode prog_1_method_3_code 76 = .ok (.aload_n 1, 1) := by decide +kernel
theorem d2_77 : decode prog_1_method_3_code 77 = .ok (.iload_n 3, 1) := by decide +kernel
theorem d2_78 : decode prog_1_method_3_code 78 = .ok (.iinc 3 1, 3) := by decide +kernel
theorem d2_81 : decode prog_1_method_3_code 81 = .ok (.getstatic 30, 3) := by decide +kernel
theorem d2_84 : decode prog_1_method_3_code 84 = .ok (.iload 5, 2) := by decide +kernel
theorem d2_86 : decode prog_1_method_3_code 86 = .ok (.bipush 18, 2) := by decide +kernel
theorem d2_88 : decode prog_1_method_3_code 88 = .ok (.iushr, 1) := by decide +kernel
theorem d2_89 : decode prog_1_method_3_code 89 = .ok (.baload, 1) := by decide +kernel
theorem d2_90 : decode prog_1_method_3_code 90 = .ok (.bastore, 1) := by decide +kernel
theorem d2_91 : decode prog_1_method_3_code 91 = .ok (.aload_n 1, 1) := by decide +kernel
theorem d2_92 : decode prog_1_method_3_code 92 = .ok (.iload_n 3, 1) := by decide +kernel
theorem d2_93 : decode prog_1_method_3_code 93 = .ok (.iinc 3 1, 3) := by decide +kernel
theorem d2_96 : decode prog_1_method_3_code 96 = .ok (.getstatic 30, 3) := by decide +kernel
theorem d2_99 : decode prog_1_method_3_code 99 = .ok (.iload 5, 2) := by decide +kernel
theorem d2_101 : decode prog_1_method_3_code 101 = .ok (.bipush 12, 2) := by decide +kernel
theorem d2_103 : decode prog_1_method_3_code 103 = .ok (.iushr, 1) := by decide +kernel
theorem d2_104 : decode prog_1_method_3_code 104 = .ok (.bipush 63, 2) := by decide +kernel
theorem d2_106 : decode prog_1_method_3_code 106 = .ok (.iand, 1) := by decide +kernel
theorem d2_107 : decode prog_1_method_3_code 107 = .ok (.baload, 1) := by decide +kernel
theorem d2_108 : decode prog_1_method_3_code 108 = .ok (.bastore, 1) := by decide +kernel
theorem d2_109 : decode prog_1_method_3_code 109 = .ok (.aload_n 1, 1) := by decide +kernel
theorem d2_110 : decode prog_1_method_3_code 110 = .ok (.iload_n 3, 1) := by decide +kernel
theorem d2_111 : decode prog_1_method_3_code 111 = .ok (.iinc 3 1, 3) := by decide +kernel
theorem d2_114 : decode prog_1_method_3_code 114 = .ok (.getstatic 30, 3) := by decide +kernel
theorem d2_117 : decode prog_1_method_3_code 117 = .ok (.iload 5, 2) := by decide +kernel
theorem d2_119 : decode prog_1_method_3_code 119 = .ok (.bipush 6, 2) := by decide +kernel
theorem d2_121 : decode prog_1_method_3_code 121 = .ok (.iushr, 1) := by decide +kernel
theorem d2_122 : decode prog_1_method_3_code 122 = .ok (.bipush 63, 2) := by decide +kernel
theorem d2_124 : decode prog_1_method_3_code 124 = .ok (.iand, 1) := by decide +kernel
theorem d2_125 : decode prog_1_method_3_code 125 = .ok (.baload, 1) := by decide +kernel
theorem d2_126 : decode prog_1_method_3_code 126 = .ok (.bastore, 1) := by decide +kernel
theorem d2_127 : decode prog_1_method_3_code 127 = .ok (.aload_n 1, 1) := by decide +kernel
theorem d2_128 : decode prog_1_method_3_code 128 = .ok (.iload_n 3, 1) := by decide +kernel
theorem d2_129 : decode prog_1_method_3_code 129 = .ok (.iinc 3 1, 3) := by decide +kernel
theorem d2_132 : decode prog_1_method_3_code 132 = .ok (.getstatic 30, 3) := by decide +kernel
theorem d2_135 : decode prog_1_method_3_code 135 = .ok (.iload 5, 2) := by decide +kernel
theorem d2_137 : decode prog_1_method_3_code 137 = .ok (.bipush 63, 2) := by decide +kernel
theorem d2_139 : decode prog_1_method_3_code 139 = .ok (.iand, 1) := by decide +kernel
theorem d2_140 : decode prog_1_method_3_code 140 = .ok (.baload, 1) := by decide +kernel
theorem d2_141 : decode prog_1_method_3_code 141 = .ok (.bastore, 1) := by decide +kernel
theorem d2_142 : decode prog_1_method_3_code 142 = .ok (.iinc 4 3, 3) := by decide +kernel
theorem d2_145 : decode prog_1_method_3_code 145 = .ok (.goto (-113), 3) := by decide +kernel
theorem ef_2_3 (m : MethodId) (r0 : Addr) : entryFrame m #[(.ref r0)] 6 = mkF m 0 #[.val (.ref r0), .unset, .unset, .unset, .unset, .unset] [] := by first | (simp [entryFrame, mkF, argsToLocals, Value.category]; done) | rfl
def Q2_3 (Z : State) (r0 : Addr) (kA : ClassId) (oAL : Addr) (cA : Cell) (ub0 : Int32) (ub1 : Int32) (ub2 : Int32) (h0 : Heap) (n0 : Nat) (v : Option Value) (h : Heap) (L : List Loc) : Prop := v = some (.ref h0.size) ∧ Fr n0 L ∧ Keep h0 h [] ∧ ∃ kT, Arv Z h h0.size kT .byte (4 : Int32) [(.int (atv cA ((((((ub0 &&& (255 : Int32)) <<< ((16 : Int32) &&& 31)) ||| ((ub1 &&& (255 : Int32)) <<< ((8 : Int32) &&& 31))) ||| (ub2 &&& (255 : Int32))).toUInt32 >>> ((18 : Int32) &&& 31).toUInt32).toInt32)).toInt8.toInt32), (.int (atv cA (((((((ub0 &&& (255 : Int32)) <<< ((16 : Int32) &&& 31)) ||| ((ub1 &&& (255 : Int32)) <<< ((8 : Int32) &&& 31))) ||| (ub2 &&& (255 : Int32))).toUInt32 >>> ((12 : Int32) &&& 31).toUInt32).toInt32) &&& (63 : Int32))).toInt8.toInt32), (.int (atv cA (((((((ub0 &&& (255 : Int32)) <<< ((16 : Int32) &&& 31)) ||| ((ub1 &&& (255 : Int32)) <<< ((8 : Int32) &&& 31))) ||| (ub2 &&& (255 : Int32))).toUInt32 >>> ((6 : Int32) &&& 31).toUInt32).toInt32) &&& (63 : Int32))).toInt8.toInt32), (.int (atv cA (((((ub0 &&& (255 : Int32)) <<< ((16 : Int32) &&& 31)) ||| ((ub1 &&& (255 : Int32)) <<< ((8 : Int32) &&& 31))) ||| (ub2 &&& (255 : Int32))) &&& (63 : Int32))).toInt8.toInt32)] (.int (0 : Int32))
set_option maxRecDepth 65536 in
set_option maxHeartbeats 40000000 in
theorem rm2_3 (l : Launch) (Z : State) (a0 : Array Value) (hw : ∀ d ∈ tables_1, d.before a0 Z = true) (ws : List Jvm.Cond) (r0 : Addr) (kA : ClassId) (oAL : Addr) (cA : Cell) (ub0 : Int32) (ub1 : Int32) (ub2 : Int32) (h0 : Heap) (n0 : Nat) (Z0 : n0 ≤ h0.size) (V_r0 : Arv Z h0 r0 kA .byte (3 : Int32) [(.int ub0), (.int ub1), (.int ub2)] (.int (0 : Int32))) (SA : Sta Z h0 "com/example/whorl/whorl/Base64url" "ALPHABET" "[B" (.ref oAL)) (TA : Tab Z h0 oAL cA .byte (64 : Int32)) :
    MetFree l (⟨"com/example/whorl/whorl/Base64url", "text", "([B)[B"⟩ : MethodName) (head1 (Jvm.Cond.code (⟨"com/example/whorl/whorl/Base64url", "text", "([B)[B"⟩ : MethodName) prog_1_method_3_code 6 (some (.array .byte)) :: ws) ({ frames := 0, cells := 1, slots := 4, locals := 0 } : Room)) (fun a U => a = #[(.ref r0)] ∧ Z.Warmed39 U.vm ∧ U.heap = h0) (fun _ _ _ _ _ => True) (fun _ U o U' => ∃ v L, o = .returned v ∧ Q2_3 Z r0 kA oAL cA ub0 ub1 ub2 h0 n0 v U'.heap L ∧ FrameEnd U o U' L ({ frames := 0, cells := 1, slots := 4, locals := 0 } : Room).cells ({ frames := 0, cells := 1, slots := 4, locals := 0 } : Room).slots) := by
  refine MetFree.of_bodySF (plainFor_of_name pn_2) hisR ?_
  intro p e s m args below meth c s₁ Bd hml0 hP hK
  obtain ⟨rfl, hZ, hh⟩ := hP
  have hx := Bd.exec
  have hby := Bd.bytes
  have hml : c.maxLocals = 6 := hml0
  have hown : s.vm.findClass "com/example/whorl/whorl/Base64url" = some m.cls := findClass_of_methodNamed Bd.named
  have hnm := (name_of_methodNamed Bd.named Bd.method).1
  have X0 : Stand p l e ({ frames := 0, cells := 1, slots := 4, locals := 0 } : Room) s m #[(.ref r0)] below meth c s₁ [] 0 0 := Stand.of_body Bd
  have e0 : s₁.heap = h0 := by rw [← hh, Bd.state]; rfl
  have N0 := Fr.nil n0
  have K0 : ∀ t, Steps p.tables e below (s₁.setTop (mkF m 0 #[.val (.ref r0), .unset, .unset, .unset, .unset, .unset] [])) t → Steps p.tables e below (s₁.setTop (entryFrame m #[(.ref r0)] 6)) t := fun t k => castTop (ef_2_3 m r0) k
  generalize s₁.setTop (entryFrame m #[(.ref r0)] 6) = SE at K0 ⊢
  have K1 : own_K p e below SE s₁ (mkF m 1 #[.val (.ref r0), .unset, .unset, .unset, .unset, .unset] [(.ref r0)]) := by
    intro t k
    refine K0 _ ?_
    refine XS.aloadN X0.here hx rfl (hb hby d2_0) rfl rfl ?_
    exact k
  obtain ⟨cl2, Ar2, -, S2, Ng2, -, -⟩ := id V_r0
  have K3 : own_K p e below SE s₁ (mkF m 3 #[.val (.ref r0), .unset, .unset, .unset, .unset, .unset] [(.long (((3 : Int32)).toInt64))]) := by
    intro t k
    refine K1 _ ?_
    refine X0.arraylength hx (by rw [e0]; exact Ar2.1) (State.isArrayOf_alike hZ.alike Ar2.2.1) (g := (mkF m 1 #[.val (.ref r0), .unset, .unset, .unset, .unset, .unset] [(.ref r0)])) rfl rfl (hb hby d2_1) _ ?_
    rw [len_of S2 Ng2]
    show own_S p e below s₁ (mkF m 2 #[.val (.ref r0), .unset, .unset, .unset, .unset, .unset] [(.int (3 : Int32))]) _
    refine XS.i2l X0.here hx rfl (hb hby d2_2) rfl ?_
    exact k
  rw [(by decide : (((3 : Int32)).toInt64) = (3 : Int64))] at K3
  have K4 : own_K p e below SE s₁ (mkF m 15 #[.val (.ref r0), .unset, .unset, .unset, .unset, .unset] [(.long ((14 : Int64) / (3 : Int64)))]) := by
    intro t k
    refine K3 _ ?_
    refine Stand.ldc2J X0 hx hown (mvT hZ (hw _ (List.mem_of_getElem? (i := 10) rfl))) (v := (4 : Int64)) (g := (mkF m 3 #[.val (.ref r0), .unset, .unset, .unset, .unset, .unset] [(.long (3 : Int64))])) rfl (hb hby d2_3) ?_
    show own_S p e below s₁ (mkF m 6 #[.val (.ref r0), .unset, .unset, .unset, .unset, .unset] [(.long (4 : Int64)), (.long (3 : Int64))]) _
    refine XS.lmul X0.here hx rfl (hb hby d2_6) rfl ?_
    show own_S p e below s₁ (mkF m 7 #[.val (.ref r0), .unset, .unset, .unset, .unset, .unset] [(.long (12 : Int64))]) _
    refine Stand.ldc2J X0 hx hown (mvT hZ (hw _ (List.mem_of_getElem? (i := 11) rfl))) (v := (2 : Int64)) (g := (mkF m 7 #[.val (.ref r0), .unset, .unset, .unset, .unset, .unset] [(.long (12 : Int64))])) rfl (hb hby d2_7) ?_
    show own_S p e below s₁ (mkF m 10 #[.val (.ref r0), .unset, .unset, .unset, .unset, .unset] [(.long (2 : Int64)), (.long (12 : Int64))]) _
    refine XS.ladd X0.here hx rfl (hb hby d2_10) rfl ?_
    show own_S p e below s₁ (mkF m 11 #[.val (.ref r0), .unset, .unset, .unset, .unset, .unset] [(.long (14 : Int64))]) _
    refine Stand.ldc2J X0 hx hown (mvT hZ (hw _ (List.mem_of_getElem? (i := 12) rfl))) (v := (3 : Int64)) (g := (mkF m 11 #[.val (.ref r0), .unset, .unset, .unset, .unset, .unset] [(.long (14 : Int64))])) rfl (hb hby d2_11) ?_
    show own_S p e below s₁ (mkF m 14 #[.val (.ref r0), .unset, .unset, .unset, .unset, .unset] [(.long (3 : Int64)), (.long (14 : Int64))]) _
    refine XS.ldiv X0.here hx rfl (hb hby d2_14) rfl (by decide) ?_
    exact k
  rw [(by decide : ((14 : Int64) / (3 : Int64)) = (4 : Int64))] at K4
  have K5 : own_K p e below SE s₁ (mkF m 16 #[.val (.ref r0), .unset, .unset, .unset, .unset, .unset] [(.int (((4 : Int64)).toInt32))]) := by
    intro t k
    refine K4 _ ?_
    refine XS.l2i X0.here hx rfl (hb hby d2_15) rfl ?_
    exact k
  rw [(by decide : (((4 : Int64)).toInt32) = (4 : Int32))] at K5
  obtain ⟨T6, h6, k6, X6, e6, E6, A6, st6⟩ := newP X0 hx hZ (hw _ (List.mem_of_getElem? (i := 1) rfl)) e0 (g := (mkF m 16 #[.val (.ref r0), .unset, .unset, .unset, .unset, .unset] [(.int (4 : Int32))])) rfl (hb hby d2_16) rfl (by decide) (cap := 4) (by decide) (by decide) (by decide) (by decide)
  obtain ⟨b6, g6⟩ : ∃ z, z = h0.size := ⟨_, rfl⟩
  rw [← g6] at A6 st6
  have g_b6 : n0 ≤ b6 := Nat.le_trans Z0 (Nat.le_of_eq g6.symm)
  have sz_b6 : h0.size ≤ b6 := Nat.le_trans (Nat.le_refl _) (Nat.le_of_eq g6.symm)
  have own_ne_r0_b6 : r0 ≠ b6 := Nat.ne_of_lt (Nat.lt_of_lt_of_le V_r0.lt (Nat.le_of_eq g6.symm))
  have Kp6 : Keep h0 h6 [] := Keep.ext (Keep.refl h0 []) E6
  have V6 : Arv Z h6 b6 k6 .byte (4 : Int32) [(.int (0 : Int32)), (.int (0 : Int32)), (.int (0 : Int32)), (.int (0 : Int32))] (.int (0 : Int32)) := (Arv.new A6 (by decide)).pad (pad_rep [] (.int (0 : Int32)) 4)
  have K6 : own_K p e below SE T6 (mkF m 18 #[.val (.ref r0), .unset, .unset, .unset, .unset, .unset] [(.ref b6)]) := fun t k => K5 _ (st6 _ k)
  have K7 : own_K p e below SE T6 (mkF m 20 #[.val (.ref r0), .val (.ref b6), .unset, .unset, .unset, .unset] [(.ref r0)]) := by
    intro t k
    refine K6 _ ?_
    refine XS.astoreN X6.here hx rfl (hb hby d2_18) rfl rfl (l' := #[.val (.ref r0), .val (.ref b6), .unset, .unset, .unset, .unset]) rfl ?_
    show own_S p e below T6 (mkF m 19 #[.val (.ref r0), .val (.ref b6), .unset, .unset, .unset, .unset] []) _
    refine XS.aloadN X6.here hx rfl (hb hby d2_19) rfl rfl ?_
    exact k
  obtain ⟨cl8, Ar8, -, S8, Ng8, -, -⟩ := id (V_r0.ext (own_ext Kp6))
  have K9 : own_K p e below SE T6 (mkF m 22 #[.val (.ref r0), .val (.ref b6), .unset, .unset, .unset, .unset] [(.ref r0), (.int (3 : Int32))]) := by
    intro t k
    refine K7 _ ?_
    refine X6.arraylength hx (by rw [e6]; exact Ar8.1) (State.isArrayOf_alike hZ.alike Ar8.2.1) (g := (mkF m 20 #[.val (.ref r0), .val (.ref b6), .unset, .unset, .unset, .unset] [(.ref r0)])) rfl rfl (hb hby d2_20) _ ?_
    rw [len_of S8 Ng8]
    show own_S p e below T6 (mkF m 21 #[.val (.ref r0), .val (.ref b6), .unset, .unset, .unset, .unset] [(.int (3 : Int32))]) _
    refine XS.aloadN X6.here hx rfl (hb hby d2_21) rfl rfl ?_
    exact k
  obtain ⟨cl10, Ar10, -, S10, Ng10, -, -⟩ := id (V_r0.ext (own_ext Kp6))
  have K11 : own_K p e below SE T6 (mkF m 25 #[.val (.ref r0), .val (.ref b6), .unset, .unset, .unset, .unset] [(.int ((3 : Int32) % (3 : Int32))), (.int (3 : Int32))]) := by
    intro t k
    refine K9 _ ?_
    refine X6.arraylength hx (by rw [e6]; exact Ar10.1) (State.isArrayOf_alike hZ.alike Ar10.2.1) (g := (mkF m 22 #[.val (.ref r0), .val (.ref b6), .unset, .unset, .unset, .unset] [(.ref r0), (.int (3 : Int32))])) rfl rfl (hb hby d2_22) _ ?_
    rw [len_of S10 Ng10]
    show own_S p e below T6 (mkF m 23 #[.val (.ref r0), .val (.ref b6), .unset, .unset, .unset, .unset] [(.int (3 : Int32)), (.int (3 : Int32))]) _
    refine XS.iconst X6.here hx rfl (hb hby d2_23) ?_
    show own_S p e below T6 (mkF m 24 #[.val (.ref r0), .val (.ref b6), .unset, .unset, .unset, .unset] [(.int (3 : Int32)), (.int (3 : Int32)), (.int (3 : Int32))]) _
    refine iremM X6 hx rfl (hb hby d2_24) rfl (by decide) ?_
    exact k
  rw [(by decide : ((3 : Int32) % (3 : Int32)) = (0 : Int32))] at K11
  have K12 : own_K p e below SE T6 (mkF m 41 #[.val (.ref r0), .val (.ref b6), .val (.int (3 : Int32)), .val (.int (0 : Int32)), .val (.int (0 : Int32)), .unset] [(.int (0 : Int32)), (.ref r0)]) := by
    intro t k
    refine K11 _ ?_
    refine XS.isub X6.here hx rfl (hb hby d2_25) rfl ?_
    show own_S p e below T6 (mkF m 26 #[.val (.ref r0), .val (.ref b6), .unset, .unset, .unset, .unset] [(.int (3 : Int32))]) _
    refine XS.istoreN X6.here hx rfl (hb hby d2_26) rfl (l' := #[.val (.ref r0), .val (.ref b6), .val (.int (3 : Int32)), .unset, .unset, .unset]) rfl ?_
    show own_S p e below T6 (mkF m 27 #[.val (.ref r0), .val (.ref b6), .val (.int (3 : Int32)), .unset, .unset, .unset] []) _
    refine XS.iconst X6.here hx rfl (hb hby d2_27) ?_
    show own_S p e below T6 (mkF m 28 #[.val (.ref r0), .val (.ref b6), .val (.int (3 : Int32)), .unset, .unset, .unset] [(.int (0 : Int32))]) _
    refine XS.istoreN X6.here hx rfl (hb hby d2_28) rfl (l' := #[.val (.ref r0), .val (.ref b6), .val (.int (3 : Int32)), .val (.int (0 : Int32)), .unset, .unset]) rfl ?_
    show own_S p e below T6 (mkF m 29 #[.val (.ref r0), .val (.ref b6), .val (.int (3 : Int32)), .val (.int (0 : Int32)), .unset, .unset] []) _
    refine XS.iconst X6.here hx rfl (hb hby d2_29) ?_
    show own_S p e below T6 (mkF m 30 #[.val (.ref r0), .val (.ref b6), .val (.int (3 : Int32)), .val (.int (0 : Int32)), .unset, .unset] [(.int (0 : Int32))]) _
    refine XS.istore X6.here hx rfl (hb hby d2_30) rfl (l' := #[.val (.ref r0), .val (.ref b6), .val (.int (3 : Int32)), .val (.int (0 : Int32)), .val (.int (0 : Int32)), .unset]) rfl ?_
    show own_S p e below T6 (mkF m 32 #[.val (.ref r0), .val (.ref b6), .val (.int (3 : Int32)), .val (.int (0 : Int32)), .val (.int (0 : Int32)), .unset] []) _
    refine XS.iload X6.here hx rfl (hb hby d2_32) rfl ?_
    show own_S p e below T6 (mkF m 34 #[.val (.ref r0), .val (.ref b6), .val (.int (3 : Int32)), .val (.int (0 : Int32)), .val (.int (0 : Int32)), .unset] [(.int (0 : Int32))]) _
    refine XS.iloadN X6.here hx rfl (hb hby d2_34) rfl ?_
    show own_S p e below T6 (mkF m 35 #[.val (.ref r0), .val (.ref b6), .val (.int (3 : Int32)), .val (.int (0 : Int32)), .val (.int (0 : Int32)), .unset] [(.int (3 : Int32)), (.int (0 : Int32))]) _
    refine XS.icmpNo X6.here hx rfl (hb hby d2_35) rfl (XT.ii_ge_f (by decide : (0 : Int32) < (3 : Int32))) ?_
    show own_S p e below T6 (mkF m 38 #[.val (.ref r0), .val (.ref b6), .val (.int (3 : Int32)), .val (.int (0 : Int32)), .val (.int (0 : Int32)), .unset] []) _
    refine XS.aloadN X6.here hx rfl (hb hby d2_38) rfl rfl ?_
    show own_S p e below T6 (mkF m 39 #[.val (.ref r0), .val (.ref b6), .val (.int (3 : Int32)), .val (.int (0 : Int32)), .val (.int (0 : Int32)), .unset] [(.ref r0)]) _
    refine XS.iload X6.here hx rfl (hb hby d2_39) rfl ?_
    exact k
  obtain ⟨cl13, Ar13, qk13, S13, Ng13, Hh13, Gg13⟩ := id (V_r0.ext (own_ext Kp6))
  have hin13 : ¬ ((0 : Int32) < 0 ∨ cl13.slots.size ≤ ((0 : Int32)).toNatClampNeg) := inb_of S13 ⟨by decide, by decide⟩
  have hat13 : cl13.slots[((0 : Int32)).toNatClampNeg]? = some (.int ub0) := Has.at Hh13 hin13 rfl
  have K14 : own_K p e below SE T6 (mkF m 54 #[.val (.ref r0), .val (.ref b6), .val (.int (3 : Int32)), .val (.int (0 : Int32)), .val (.int (0 : Int32)), .unset] [(.int (1 : Int32)), (.ref r0), (.int ((ub0 &&& (255 : Int32)) <<< ((16 : Int32) &&& 31)))]) := by
    intro t k
    refine K12 _ ?_
    refine X6.baloadBytes hx (j := (0 : Int32)) (v := (.int ub0)) (by rw [e6]; exact Ar13.1) (State.isArrayOf_alike hZ.alike Ar13.2.1) Ar13.2.2 hin13 hat13 (g := (mkF m 41 #[.val (.ref r0), .val (.ref b6), .val (.int (3 : Int32)), .val (.int (0 : Int32)), .val (.int (0 : Int32)), .unset] [(.int (0 : Int32)), (.ref r0)])) rfl rfl (hb hby d2_41) _ ?_
    show own_S p e below T6 (mkF m 42 #[.val (.ref r0), .val (.ref b6), .val (.int (3 : Int32)), .val (.int (0 : Int32)), .val (.int (0 : Int32)), .unset] [(.int ub0)]) _
    refine XS.sipush X6.here hx rfl (hb hby d2_42) ?_
    show own_S p e below T6 (mkF m 45 #[.val (.ref r0), .val (.ref b6), .val (.int (3 : Int32)), .val (.int (0 : Int32)), .val (.int (0 : Int32)), .unset] [(.int (255 : Int32)), (.int ub0)]) _
    refine XS.iand X6.here hx rfl (hb hby d2_45) rfl ?_
    show own_S p e below T6 (mkF m 46 #[.val (.ref r0), .val (.ref b6), .val (.int (3 : Int32)), .val (.int (0 : Int32)), .val (.int (0 : Int32)), .unset] [(.int (ub0 &&& (255 : Int32)))]) _
    refine XS.bipush X6.here hx rfl (hb hby d2_46) ?_
    show own_S p e below T6 (mkF m 48 #[.val (.ref r0), .val (.ref b6), .val (.int (3 : Int32)), .val (.int (0 : Int32)), .val (.int (0 : Int32)), .unset] [(.int (16 : Int32)), (.int (ub0 &&& (255 : Int32)))]) _
    refine XS.ishl X6.here hx rfl (hb hby d2_48) rfl ?_
    show own_S p e below T6 (mkF m 49 #[.val (.ref r0), .val (.ref b6), .val (.int (3 : Int32)), .val (.int (0 : Int32)), .val (.int (0 : Int32)), .unset] [(.int ((ub0 &&& (255 : Int32)) <<< ((16 : Int32) &&& 31)))]) _
    refine XS.aloadN X6.here hx rfl (hb hby d2_49) rfl rfl ?_
    show own_S p e below T6 (mkF m 50 #[.val (.ref r0), .val (.ref b6), .val (.int (3 : Int32)), .val (.int (0 : Int32)), .val (.int (0 : Int32)), .unset] [(.ref r0), (.int ((ub0 &&& (255 : Int32)) <<< ((16 : Int32) &&& 31)))]) _
    refine XS.iload X6.here hx rfl (hb hby d2_50) rfl ?_
    show own_S p e below T6 (mkF m 52 #[.val (.ref r0), .val (.ref b6), .val (.int (3 : Int32)), .val (.int (0 : Int32)), .val (.int (0 : Int32)), .unset] [(.int (0 : Int32)), (.ref r0), (.int ((ub0 &&& (255 : Int32)) <<< ((16 : Int32) &&& 31)))]) _
    refine XS.iconst X6.here hx rfl (hb hby d2_52) ?_
    show own_S p e below T6 (mkF m 53 #[.val (.ref r0), .val (.ref b6), .val (.int (3 : Int32)), .val (.int (0 : Int32)), .val (.int (0 : Int32)), .unset] [(.int (1 : Int32)), (.int (0 : Int32)), (.ref r0), (.int ((ub0 &&& (255 : Int32)) <<< ((16 : Int32) &&& 31)))]) _
    refine XS.iadd X6.here hx rfl (hb hby d2_53) rfl ?_
    exact k
  obtain ⟨cl15, Ar15, qk15, S15, Ng15, Hh15, Gg15⟩ := id (V_r0.ext (own_ext Kp6))
  have hin15 : ¬ ((1 : Int32) < 0 ∨ cl15.slots.size ≤ ((1 : Int32)).toNatClampNeg) := inb_of S15 ⟨by decide, by decide⟩
  have hat15 : cl15.slots[((1 : Int32)).toNatClampNeg]? = some (.int ub1) := Has.at Hh15 hin15 rfl
  have K16 : own_K p e below SE T6 (mkF m 68 #[.val (.ref r0), .val (.ref b6), .val (.int (3 : Int32)), .val (.int (0 : Int32)), .val (.int (0 : Int32)), .unset] [(.int (2 : Int32)), (.ref r0), (.int (((ub0 &&& (255 : Int32)) <<< ((16 : Int32) &&& 31)) ||| ((ub1 &&& (255 : Int32)) <<< ((8 : Int32) &&& 31))))]) := by
    intro t k
    refine K14 _ ?_
    refine X6.baloadBytes hx (j := (1 : Int32)) (v := (.int ub1)) (by rw [e6]; exact Ar15.1) (State.isArrayOf_alike hZ.alike Ar15.2.1) Ar15.2.2 hin15 hat15 (g := (mkF m 54 #[.val (.ref r0), .val (.ref b6), .val (.int (3 : Int32)), .val (.int (0 : Int32)), .val (.int (0 : Int32)), .unset] [(.int (1 : Int32)), (.ref r0), (.int ((ub0 &&& (255 : Int32)) <<< ((16 : Int32) &&& 31)))])) rfl rfl (hb hby d2_54) _ ?_
    show own_S p e below T6 (mkF m 55 #[.val (.ref r0), .val (.ref b6), .val (.int (3 : Int32)), .val (.int (0 : Int32)), .val (.int (0 : Int32)), .unset] [(.int ub1), (.int ((ub0 &&& (255 : Int32)) <<< ((16 : Int32) &&& 31)))]) _
    refine XS.sipush X6.here hx rfl (hb hby d2_55) ?_
    show own_S p e below T6 (mkF m 58 #[.val (.ref r0), .val (.ref b6), .val (.int (3 : Int32)), .val (.int (0 : Int32)), .val (.int (0 : Int32)), .unset] [(.int (255 : Int32)), (.int ub1), (.int ((ub0 &&& (255 : Int32)) <<< ((16 : Int32) &&& 31)))]) _
    refine XS.iand X6.here hx rfl (hb hby d2_58) rfl ?_
    show own_S p e below T6 (mkF m 59 #[.val (.ref r0), .val (.ref b6), .val (.int (3 : Int32)), .val (.int (0 : Int32)), .val (.int (0 : Int32)), .unset] [(.int (ub1 &&& (255 : Int32))), (.int ((ub0 &&& (255 : Int32)) <<< ((16 : Int32) &&& 31)))]) _
    refine XS.bipush X6.here hx rfl (hb hby d2_59) ?_
    show own_S p e below T6 (mkF m 61 #[.val (.ref r0), .val (.ref b6), .val (.int (3 : Int32)), .val (.int (0 : Int32)), .val (.int (0 : Int32)), .unset] [(.int (8 : Int32)), (.int (ub1 &&& (255 : Int32))), (.int ((ub0 &&& (255 : Int32)) <<< ((16 : Int32) &&& 31)))]) _
    refine XS.ishl X6.here hx rfl (hb hby d2_61) rfl ?_
    show own_S p e below T6 (mkF m 62 #[.val (.ref r0), .val (.ref b6), .val (.int (3 : Int32)), .val (.int (0 : Int32)), .val (.int (0 : Int32)), .unset] [(.int ((ub1 &&& (255 : Int32)) <<< ((8 : Int32) &&& 31))), (.int ((ub0 &&& (255 : Int32)) <<< ((16 : Int32) &&& 31)))]) _
    refine XS.ior X6.here hx rfl (hb hby d2_62) rfl ?_
    show own_S p e below T6 (mkF m 63 #[.val (.ref r0), .val (.ref b6), .val (.int (3 : Int32)), .val (.int (0 : Int32)), .val (.int (0 : Int32)), .unset] [(.int (((ub0 &&& (255 : Int32)) <<< ((16 : Int32) &&& 31)) ||| ((ub1 &&& (255 : Int32)) <<< ((8 : Int32) &&& 31))))]) _
    refine XS.aloadN X6.here hx rfl (hb hby d2_63) rfl rfl ?_
    show own_S p e below T6 (mkF m 64 #[.val (.ref r0), .val (.ref b6), .val (.int (3 : Int32)), .val (.int (0 : Int32)), .val (.int (0 : Int32)), .unset] [(.ref r0), (.int (((ub0 &&& (255 : Int32)) <<< ((16 : Int32) &&& 31)) ||| ((ub1 &&& (255 : Int32)) <<< ((8 : Int32) &&& 31))))]) _
    refine XS.iload X6.here hx rfl (hb hby d2_64) rfl ?_
    show own_S p e below T6 (mkF m 66 #[.val (.ref r0), .val (.ref b6), .val (.int (3 : Int32)), .val (.int (0 : Int32)), .val (.int (0 : Int32)), .unset] [(.int (0 : Int32)), (.ref r0), (.int (((ub0 &&& (255 : Int32)) <<< ((16 : Int32) &&& 31)) ||| ((ub1 &&& (255 : Int32)) <<< ((8 : Int32) &&& 31))))]) _
    refine XS.iconst X6.here hx rfl (hb hby d2_66) ?_
    show own_S p e below T6 (mkF m 67 #[.val (.ref r0), .val (.ref b6), .val (.int (3 : Int32)), .val (.int (0 : Int32)), .val (.int (0 : Int32)), .unset] [(.int (2 : Int32)), (.int (0 : Int32)), (.ref r0), (.int (((ub0 &&& (255 : Int32)) <<< ((16 : Int32) &&& 31)) ||| ((ub1 &&& (255 : Int32)) <<< ((8 : Int32) &&& 31))))]) _
    refine XS.iadd X6.here hx rfl (hb hby d2_67) rfl ?_
    exact k
  obtain ⟨cl17, Ar17, qk17, S17, Ng17, Hh17, Gg17⟩ := id (V_r0.ext (own_ext Kp6))
  have hin17 : ¬ ((2 : Int32) < 0 ∨ cl17.slots.size ≤ ((2 : Int32)).toNatClampNeg) := inb_of S17 ⟨by decide, by decide⟩
  have hat17 : cl17.slots[((2 : Int32)).toNatClampNeg]? = some (.int ub2) := Has.at Hh17 hin17 rfl
  have K18 : own_K p e below SE T6 (mkF m 76 #[.val (.ref r0), .val (.ref b6), .val (.int (3 : Int32)), .val (.int (0 : Int32)), .val (.int (0 : Int32)), .val (.int ((((ub0 &&& (255 : Int32)) <<< ((16 : Int32) &&& 31)) ||| ((ub1 &&& (255 : Int32)) <<< ((8 : Int32) &&& 31))) ||| (ub2 &&& (255 : Int32))))] []) := by
    intro t k
    refine K16 _ ?_
    refine X6.baloadBytes hx (j := (2 : Int32)) (v := (.int ub2)) (by rw [e6]; exact Ar17.1) (State.isArrayOf_alike hZ.alike Ar17.2.1) Ar17.2.2 hin17 hat17 (g := (mkF m 68 #[.val (.ref r0), .val (.ref b6), .val (.int (3 : Int32)), .val (.int (0 : Int32)), .val (.int (0 : Int32)), .unset] [(.int (2 : Int32)), (.ref r0), (.int (((ub0 &&& (255 : Int32)) <<< ((16 : Int32) &&& 31)) ||| ((ub1 &&& (255 : Int32)) <<< ((8 : Int32) &&& 31))))])) rfl rfl (hb hby d2_68) _ ?_
    show own_S p e below T6 (mkF m 69 #[.val (.ref r0), .val (.ref b6), .val (.int (3 : Int32)), .val (.int (0 : Int32)), .val (.int (0 : Int32)), .unset] [(.int ub2), (.int (((ub0 &&& (255 : Int32)) <<< ((16 : Int32) &&& 31)) ||| ((ub1 &&& (255 : Int32)) <<< ((8 : Int32) &&& 31))))]) _
    refine XS.sipush X6.here hx rfl (hb hby d2_69) ?_
    show own_S p e below T6 (mkF m 72 #[.val (.ref r0), .val (.ref b6), .val (.int (3 : Int32)), .val (.int (0 : Int32)), .val (.int (0 : Int32)), .unset] [(.int (255 : Int32)), (.int ub2), (.int (((ub0 &&& (255 : Int32)) <<< ((16 : Int32) &&& 31)) ||| ((ub1 &&& (255 : Int32)) <<< ((8 : Int32) &&& 31))))]) _
    refine XS.iand X6.here hx rfl (hb hby d2_72) rfl ?_
    show own_S p e below T6 (mkF m 73 #[.val (.ref r0), .val (.ref b6), .val (.int (3 : Int32)), .val (.int (0 : Int32)), .val (.int (0 : Int32)), .unset] [(.int (ub2 &&& (255 : Int32))), (.int (((ub0 &&& (255 : Int32)) <<< ((16 : Int32) &&& 31)) ||| ((ub1 &&& (255 : Int32)) <<< ((8 : Int32) &&& 31))))]) _
    refine XS.ior X6.here hx rfl (hb hby d2_73) rfl ?_
    show own_S p e below T6 (mkF m 74 #[.val (.ref r0), .val (.ref b6), .val (.int (3 : Int32)), .val (.int (0 : Int32)), .val (.int (0 : Int32)), .unset] [(.int ((((ub0 &&& (255 : Int32)) <<< ((16 : Int32) &&& 31)) ||| ((ub1 &&& (255 : Int32)) <<< ((8 : Int32) &&& 31))) ||| (ub2 &&& (255 : Int32))))]) _
    refine XS.istore X6.here hx rfl (hb hby d2_74) rfl (l' := #[.val (.ref r0), .val (.ref b6), .val (.int (3 : Int32)), .val (.int (0 : Int32)), .val (.int (0 : Int32)), .val (.int ((((ub0 &&& (255 : Int32)) <<< ((16 : Int32) &&& 31)) ||| ((ub1 &&& (255 : Int32)) <<< ((8 : Int32) &&& 31))) ||| (ub2 &&& (255 : Int32))))]) rfl ?_
    exact k
  obtain ⟨x0, hx0⟩ : ∃ z : Int32, z = ((((ub0 &&& (255 : Int32)) <<< ((16 : Int32) &&& 31)) ||| ((ub1 &&& (255 : Int32)) <<< ((8 : Int32) &&& 31))) ||| (ub2 &&& (255 : Int32))) := ⟨_, rfl⟩
  rw [← hx0] at K18
  have hb_x0 : 0 ≤ x0.toInt ∧ x0.toInt < 16777216 := by rw [hx0]; exact (own_xb (own_m255 _) (own_m255 _) (own_m255 _) (own_x3i ub0 ub1 ub2))
  have K19 : own_K p e below SE T6 (mkF m 81 #[.val (.ref r0), .val (.ref b6), .val (.int (3 : Int32)), .val (.int (1 : Int32)), .val (.int (0 : Int32)), .val (.int x0)] [(.int (0 : Int32)), (.ref b6)]) := by
    intro t k
    refine K18 _ ?_
    refine XS.aloadN X6.here hx rfl (hb hby d2_76) rfl rfl ?_
    show own_S p e below T6 (mkF m 77 #[.val (.ref r0), .val (.ref b6), .val (.int (3 : Int32)), .val (.int (0 : Int32)), .val (.int (0 : Int32)), .val (.int x0)] [(.ref b6)]) _
    refine XS.iloadN X6.here hx rfl (hb hby d2_77) rfl ?_
    show own_S p e below T6 (mkF m 78 #[.val (.ref r0), .val (.ref b6), .val (.int (3 : Int32)), .val (.int (0 : Int32)), .val (.int (0 : Int32)), .val (.int x0)] [(.int (0 : Int32)), (.ref b6)]) _
    refine XS.iinc X6.here hx rfl (hb hby d2_78) rfl (l' := #[.val (.ref r0), .val (.ref b6), .val (.int (3 : Int32)), .val (.int (1 : Int32)), .val (.int (0 : Int32)), .val (.int x0)]) rfl ?_
    exact k
  obtain ⟨T20, X20, e20, st20⟩ := getS2 X6 hx hZ hown (host := "") (Or.inl (hw _ (List.mem_of_getElem? (i := 16) rfl))) Via.refl e6 (SA.ext (own_ext Kp6)) (g := (mkF m 81 #[.val (.ref r0), .val (.ref b6), .val (.int (3 : Int32)), .val (.int (1 : Int32)), .val (.int (0 : Int32)), .val (.int x0)] [(.int (0 : Int32)), (.ref b6)])) rfl (hb hby d2_81)
  have K20 : own_K p e below SE T20 (mkF m 84 #[.val (.ref r0), .val (.ref b6), .val (.int (3 : Int32)), .val (.int (1 : Int32)), .val (.int (0 : Int32)), .val (.int x0)] [(.ref oAL), (.int (0 : Int32)), (.ref b6)]) := fun t k => K19 _ (st20 _ k)
  have K21 : own_K p e below SE T20 (mkF m 89 #[.val (.ref r0), .val (.ref b6), .val (.int (3 : Int32)), .val (.int (1 : Int32)), .val (.int (0 : Int32)), .val (.int x0)] [(.int ((x0.toUInt32 >>> ((18 : Int32) &&& 31).toUInt32).toInt32)), (.ref oAL), (.int (0 : Int32)), (.ref b6)]) := by
    intro t k
    refine K20 _ ?_
    refine XS.iload X20.here hx rfl (hb hby d2_84) rfl ?_
    show own_S p e below T20 (mkF m 86 #[.val (.ref r0), .val (.ref b6), .val (.int (3 : Int32)), .val (.int (1 : Int32)), .val (.int (0 : Int32)), .val (.int x0)] [(.int x0), (.ref oAL), (.int (0 : Int32)), (.ref b6)]) _
    refine XS.bipush X20.here hx rfl (hb hby d2_86) ?_
    show own_S p e below T20 (mkF m 88 #[.val (.ref r0), .val (.ref b6), .val (.int (3 : Int32)), .val (.int (1 : Int32)), .val (.int (0 : Int32)), .val (.int x0)] [(.int (18 : Int32)), (.int x0), (.ref oAL), (.int (0 : Int32)), (.ref b6)]) _
    refine XS.iushr X20.here hx rfl (hb hby d2_88) rfl ?_
    exact k
  obtain ⟨Ar22, S22, Ng22, Hh22⟩ := id (TA.ext (own_ext Kp6))
  have hin22 : ¬ (((x0.toUInt32 >>> ((18 : Int32) &&& 31).toUInt32).toInt32) < 0 ∨ cA.slots.size ≤ (((x0.toUInt32 >>> ((18 : Int32) &&& 31).toUInt32).toInt32)).toNatClampNeg) := inb_of S22 (own_b18 _ hb_x0)
  have hat22 := Hh22 _ hin22
  have K23 : own_K p e below SE T20 (mkF m 90 #[.val (.ref r0), .val (.ref b6), .val (.int (3 : Int32)), .val (.int (1 : Int32)), .val (.int (0 : Int32)), .val (.int x0)] [(.int (atv cA ((x0.toUInt32 >>> ((18 : Int32) &&& 31).toUInt32).toInt32))), (.int (0 : Int32)), (.ref b6)]) := by
    intro t k
    refine K21 _ ?_
    refine X20.baloadBytes hx (j := ((x0.toUInt32 >>> ((18 : Int32) &&& 31).toUInt32).toInt32)) (v := (.int (atv cA ((x0.toUInt32 >>> ((18 : Int32) &&& 31).toUInt32).toInt32)))) (by rw [e20]; exact Ar22.1) (State.isArrayOf_alike hZ.alike Ar22.2.1) Ar22.2.2 hin22 hat22 (g := (mkF m 89 #[.val (.ref r0), .val (.ref b6), .val (.int (3 : Int32)), .val (.int (1 : Int32)), .val (.int (0 : Int32)), .val (.int x0)] [(.int ((x0.toUInt32 >>> ((18 : Int32) &&& 31).toUInt32).toInt32)), (.ref oAL), (.int (0 : Int32)), (.ref b6)])) rfl rfl (hb hby d2_89) _ ?_
    exact k
  obtain ⟨cl24, Ar24, qk24, S24, Ng24, Hh24, Gg24⟩ := id V6
  have hin24 : ¬ ((0 : Int32) < 0 ∨ cl24.slots.size ≤ ((0 : Int32)).toNatClampNeg) := inb_of S24 ⟨by decide, by decide⟩
  obtain ⟨T25, h25, X25, e25, W25, st25⟩ := stB X20 hx hZ e20 Ar24 (j := (0 : Int32)) hin24 (g := (mkF m 90 #[.val (.ref r0), .val (.ref b6), .val (.int (3 : Int32)), .val (.int (1 : Int32)), .val (.int (0 : Int32)), .val (.int x0)] [(.int (atv cA ((x0.toUInt32 >>> ((18 : Int32) &&& 31).toUInt32).toInt32))), (.int (0 : Int32)), (.ref b6)])) rfl rfl (hb hby d2_90)
  have V25 : Arv Z h25 b6 k6 .byte (4 : Int32) [(.int ((atv cA ((x0.toUInt32 >>> ((18 : Int32) &&& 31).toUInt32).toInt32))).toInt8.toInt32), (.int (0 : Int32)), (.int (0 : Int32)), (.int (0 : Int32))] (.int (0 : Int32)) := Arv.set Ar24 qk24 S24 Ng24 Hh24 Gg24 (fits_nar_byte _) W25 0 rfl (Nat.le_of_ble_eq_true rfl)
  have N25 := Fr.snoc X25 N0 g_b6
  have Kp25 : Keep h0 h25 [] := Keep.wr Kp6 W25 (Or.inr sz_b6)
  have K25 : own_K p e below SE T25 (mkF m 91 #[.val (.ref r0), .val (.ref b6), .val (.int (3 : Int32)), .val (.int (1 : Int32)), .val (.int (0 : Int32)), .val (.int x0)] []) := fun t k => K23 _ (st25 _ k)
  have K26 : own_K p e below SE T25 (mkF m 96 #[.val (.ref r0), .val (.ref b6), .val (.int (3 : Int32)), .val (.int (2 : Int32)), .val (.int (0 : Int32)), .val (.int x0)] [(.int (1 : Int32)), (.ref b6)]) := by
    intro t k
    refine K25 _ ?_
    refine XS.aloadN X25.here hx rfl (hb hby d2_91) rfl rfl ?_
    show own_S p e below T25 (mkF m 92 #[.val (.ref r0), .val (.ref b6), .val (.int (3 : Int32)), .val (.int (1 : Int32)), .val (.int (0 : Int32)), .val (.int x0)] [(.ref b6)]) _
    refine XS.iloadN X25.here hx rfl (hb hby d2_92) rfl ?_
    show own_S p e below T25 (mkF m 93 #[.val (.ref r0), .val (.ref b6), .val (.int (3 : Int32)), .val (.int (1 : Int32)), .val (.int (0 : Int32)), .val (.int x0)] [(.int (1 : Int32)), (.ref b6)]) _
    refine XS.iinc X25.here hx rfl (hb hby d2_93) rfl (l' := #[.val (.ref r0), .val (.ref b6), .val (.int (3 : Int32)), .val (.int (2 : Int32)), .val (.int (0 : Int32)), .val (.int x0)]) rfl ?_
    exact k
  obtain ⟨T27, X27, e27, st27⟩ := getS2 X25 hx hZ hown (host := "") (Or.inl (hw _ (List.mem_of_getElem? (i := 16) rfl))) Via.refl e25 (SA.ext (own_ext Kp25)) (g := (mkF m 96 #[.val (.ref r0), .val (.ref b6), .val (.int (3 : Int32)), .val (.int (2 : Int32)), .val (.int (0 : Int32)), .val (.int x0)] [(.int (1 : Int32)), (.ref b6)])) rfl (hb hby d2_96)
  have K27 : own_K p e below SE T27 (mkF m 99 #[.val (.ref r0), .val (.ref b6), .val (.int (3 : Int32)), .val (.int (2 : Int32)), .val (.int (0 : Int32)), .val (.int x0)] [(.ref oAL), (.int (1 : Int32)), (.ref b6)]) := fun t k => K26 _ (st27 _ k)
  have K28 : own_K p e below SE T27 (mkF m 107 #[.val (.ref r0), .val (.ref b6), .val (.int (3 : Int32)), .val (.int (2 : Int32)), .val (.int (0 : Int32)), .val (.int x0)] [(.int (((x0.toUInt32 >>> ((12 : Int32) &&& 31).toUInt32).toInt32) &&& (63 : Int32))), (.ref oAL), (.int (1 : Int32)), (.ref b6)]) := by
    intro t k
    refine K27 _ ?_
    refine XS.iload X27.here hx rfl (hb hby d2_99) rfl ?_
    show own_S p e below T27 (mkF m 101 #[.val (.ref r0), .val (.ref b6), .val (.int (3 : Int32)), .val (.int (2 : Int32)), .val (.int (0 : Int32)), .val (.int x0)] [(.int x0), (.ref oAL), (.int (1 : Int32)), (.ref b6)]) _
    refine XS.bipush X27.here hx rfl (hb hby d2_101) ?_
    show own_S p e below T27 (mkF m 103 #[.val (.ref r0), .val (.ref b6), .val (.int (3 : Int32)), .val (.int (2 : Int32)), .val (.int (0 : Int32)), .val (.int x0)] [(.int (12 : Int32)), (.int x0), (.ref oAL), (.int (1 : Int32)), (.ref b6)]) _
    refine XS.iushr X27.here hx rfl (hb hby d2_103) rfl ?_
    show own_S p e below T27 (mkF m 104 #[.val (.ref r0), .val (.ref b6), .val (.int (3 : Int32)), .val (.int (2 : Int32)), .val (.int (0 : Int32)), .val (.int x0)] [(.int ((x0.toUInt32 >>> ((12 : Int32) &&& 31).toUInt32).toInt32)), (.ref oAL), (.int (1 : Int32)), (.ref b6)]) _
    refine XS.bipush X27.here hx rfl (hb hby d2_104) ?_
    show own_S p e below T27 (mkF m 106 #[.val (.ref r0), .val (.ref b6), .val (.int (3 : Int32)), .val (.int (2 : Int32)), .val (.int (0 : Int32)), .val (.int x0)] [(.int (63 : Int32)), (.int ((x0.toUInt32 >>> ((12 : Int32) &&& 31).toUInt32).toInt32)), (.ref oAL), (.int (1 : Int32)), (.ref b6)]) _
    refine XS.iand X27.here hx rfl (hb hby d2_106) rfl ?_
    exact k
  obtain ⟨Ar29, S29, Ng29, Hh29⟩ := id (TA.ext (own_ext Kp25))
  have hin29 : ¬ ((((x0.toUInt32 >>> ((12 : Int32) &&& 31).toUInt32).toInt32) &&& (63 : Int32)) < 0 ∨ cA.slots.size ≤ ((((x0.toUInt32 >>> ((12 : Int32) &&& 31).toUInt32).toInt32) &&& (63 : Int32))).toNatClampNeg) := inb_of S29 (own_b63 _)
  have hat29 := Hh29 _ hin29
  have K30 : own_K p e below SE T27 (mkF m 108 #[.val (.ref r0), .val (.ref b6), .val (.int (3 : Int32)), .val (.int (2 : Int32)), .val (.int (0 : Int32)), .val (.int x0)] [(.int (atv cA (((x0.toUInt32 >>> ((12 : Int32) &&& 31).toUInt32).toInt32) &&& (63 : Int32)))), (.int (1 : Int32)), (.ref b6)]) := by
    intro t k
    refine K28 _ ?_
    refine X27.baloadBytes hx (j := (((x0.toUInt32 >>> ((12 : Int32) &&& 31).toUInt32).toInt32) &&& (63 : Int32))) (v := (.int (atv cA (((x0.toUInt32 >>> ((12 : Int32) &&& 31).toUInt32).toInt32) &&& (63 : Int32))))) (by rw [e27]; exact Ar29.1) (State.isArrayOf_alike hZ.alike Ar29.2.1) Ar29.2.2 hin29 hat29 (g := (mkF m 107 #[.val (.ref r0), .val (.ref b6), .val (.int (3 : Int32)), .val (.int (2 : Int32)), .val (.int (0 : Int32)), .val (.int x0)] [(.int (((x0.toUInt32 >>> ((12 : Int32) &&& 31).toUInt32).toInt32) &&& (63 : Int32))), (.ref oAL), (.int (1 : Int32)), (.ref b6)])) rfl rfl (hb hby d2_107) _ ?_
    exact k
  obtain ⟨cl31, Ar31, qk31, S31, Ng31, Hh31, Gg31⟩ := id V25
  have hin31 : ¬ ((1 : Int32) < 0 ∨ cl31.slots.size ≤ ((1 : Int32)).toNatClampNeg) := inb_of S31 ⟨by decide, by decide⟩
  obtain ⟨T32, h32, X32, e32, W32, st32⟩ := stB X27 hx hZ e27 Ar31 (j := (1 : Int32)) hin31 (g := (mkF m 108 #[.val (.ref r0), .val (.ref b6), .val (.int (3 : Int32)), .val (.int (2 : Int32)), .val (.int (0 : Int32)), .val (.int x0)] [(.int (atv cA (((x0.toUInt32 >>> ((12 : Int32) &&& 31).toUInt32).toInt32) &&& (63 : Int32)))), (.int (1 : Int32)), (.ref b6)])) rfl rfl (hb hby d2_108)
  have V32 : Arv Z h32 b6 k6 .byte (4 : Int32) [(.int ((atv cA ((x0.toUInt32 >>> ((18 : Int32) &&& 31).toUInt32).toInt32))).toInt8.toInt32), (.int ((atv cA (((x0.toUInt32 >>> ((12 : Int32) &&& 31).toUInt32).toInt32) &&& (63 : Int32)))).toInt8.toInt32), (.int (0 : Int32)), (.int (0 : Int32))] (.int (0 : Int32)) := Arv.set Ar31 qk31 S31 Ng31 Hh31 Gg31 (fits_nar_byte _) W32 1 rfl (Nat.le_of_ble_eq_true rfl)
  have N32 := Fr.snoc X32 N25 g_b6
  have Kp32 : Keep h0 h32 [] := Keep.wr Kp25 W32 (Or.inr sz_b6)
  have K32 : own_K p e below SE T32 (mkF m 109 #[.val (.ref r0), .val (.ref b6), .val (.int (3 : Int32)), .val (.int (2 : Int32)), .val (.int (0 : Int32)), .val (.int x0)] []) := fun t k => K30 _ (st32 _ k)
  have K33 : own_K p e below SE T32 (mkF m 114 #[.val (.ref r0), .val (.ref b6), .val (.int (3 : Int32)), .val (.int (3 : Int32)), .val (.int (0 : Int32)), .val (.int x0)] [(.int (2 : Int32)), (.ref b6)]) := by
    intro t k
    refine K32 _ ?_
    refine XS.aloadN X32.here hx rfl (hb hby d2_109) rfl rfl ?_
    show own_S p e below T32 (mkF m 110 #[.val (.ref r0), .val (.ref b6), .val (.int (3 : Int32)), .val (.int (2 : Int32)), .val (.int (0 : Int32)), .val (.int x0)] [(.ref b6)]) _
    refine XS.iloadN X32.here hx rfl (hb hby d2_110) rfl ?_
    show own_S p e below T32 (mkF m 111 #[.val (.ref r0), .val (.ref b6), .val (.int (3 : Int32)), .val (.int (2 : Int32)), .val (.int (0 : Int32)), .val (.int x0)] [(.int (2 : Int32)), (.ref b6)]) _
    refine XS.iinc X32.here hx rfl (hb hby d2_111) rfl (l' := #[.val (.ref r0), .val (.ref b6), .val (.int (3 : Int32)), .val (.int (3 : Int32)), .val (.int (0 : Int32)), .val (.int x0)]) rfl ?_
    exact k
  obtain ⟨T34, X34, e34, st34⟩ := getS2 X32 hx hZ hown (host := "") (Or.inl (hw _ (List.mem_of_getElem? (i := 16) rfl))) Via.refl e32 (SA.ext (own_ext Kp32)) (g := (mkF m 114 #[.val (.ref r0), .val (.ref b6), .val (.int (3 : Int32)), .val (.int (3 : Int32)), .val (.int (0 : Int32)), .val (.int x0)] [(.int (2 : Int32)), (.ref b6)])) rfl (hb hby d2_114)
  have K34 : own_K p e below SE T34 (mkF m 117 #[.val (.ref r0), .val (.ref b6), .val (.int (3 : Int32)), .val (.int (3 : Int32)), .val (.int (0 : Int32)), .val (.int x0)] [(.ref oAL), (.int (2 : Int32)), (.ref b6)]) := fun t k => K33 _ (st34 _ k)
  have K35 : own_K p e below SE T34 (mkF m 125 #[.val (.ref r0), .val (.ref b6), .val (.int (3 : Int32)), .val (.int (3 : Int32)), .val (.int (0 : Int32)), .val (.int x0)] [(.int (((x0.toUInt32 >>> ((6 : Int32) &&& 31).toUInt32).toInt32) &&& (63 : Int32))), (.ref oAL), (.int (2 : Int32)), (.ref b6)]) := by
    intro t k
    refine K34 _ ?_
    refine XS.iload X34.here hx rfl (hb hby d2_117) rfl ?_
    show own_S p e below T34 (mkF m 119 #[.val (.ref r0), .val (.ref b6), .val (.int (3 : Int32)), .val (.int (3 : Int32)), .val (.int (0 : Int32)), .val (.int x0)] [(.int x0), (.ref oAL), (.int (2 : Int32)), (.ref b6)]) _
    refine XS.bipush X34.here hx rfl (hb hby d2_119) ?_
    show own_S p e below T34 (mkF m 121 #[.val (.ref r0), .val (.ref b6), .val (.int (3 : Int32)), .val (.int (3 : Int32)), .val (.int (0 : Int32)), .val (.int x0)] [(.int (6 : Int32)), (.int x0), (.ref oAL), (.int (2 : Int32)), (.ref b6)]) _
    refine XS.iushr X34.here hx rfl (hb hby d2_121) rfl ?_
    show own_S p e below T34 (mkF m 122 #[.val (.ref r0), .val (.ref b6), .val (.int (3 : Int32)), .val (.int (3 : Int32)), .val (.int (0 : Int32)), .val (.int x0)] [(.int ((x0.toUInt32 >>> ((6 : Int32) &&& 31).toUInt32).toInt32)), (.ref oAL), (.int (2 : Int32)), (.ref b6)]) _
    refine XS.bipush X34.here hx rfl (hb hby d2_122) ?_
    show own_S p e below T34 (mkF m 124 #[.val (.ref r0), .val (.ref b6), .val (.int (3 : Int32)), .val (.int (3 : Int32)), .val (.int (0 : Int32)), .val (.int x0)] [(.int (63 : Int32)), (.int ((x0.toUInt32 >>> ((6 : Int32) &&& 31).toUInt32).toInt32)), (.ref oAL), (.int (2 : Int32)), (.ref b6)]) _
    refine XS.iand X34.here hx rfl (hb hby d2_124) rfl ?_
    exact k
  obtain ⟨Ar36, S36, Ng36, Hh36⟩ := id (TA.ext (own_ext Kp32))
  have hin36 : ¬ ((((x0.toUInt32 >>> ((6 : Int32) &&& 31).toUInt32).toInt32) &&& (63 : Int32)) < 0 ∨ cA.slots.size ≤ ((((x0.toUInt32 >>> ((6 : Int32) &&& 31).toUInt32).toInt32) &&& (63 : Int32))).toNatClampNeg) := inb_of S36 (own_b63 _)
  have hat36 := Hh36 _ hin36
  have K37 : own_K p e below SE T34 (mkF m 126 #[.val (.ref r0), .val (.ref b6), .val (.int (3 : Int32)), .val (.int (3 : Int32)), .val (.int (0 : Int32)), .val (.int x0)] [(.int (atv cA (((x0.toUInt32 >>> ((6 : Int32) &&& 31).toUInt32).toInt32) &&& (63 : Int32)))), (.int (2 : Int32)), (.ref b6)]) := by
    intro t k
    refine K35 _ ?_
    refine X34.baloadBytes hx (j := (((x0.toUInt32 >>> ((6 : Int32) &&& 31).toUInt32).toInt32) &&& (63 : Int32))) (v := (.int (atv cA (((x0.toUInt32 >>> ((6 : Int32) &&& 31).toUInt32).toInt32) &&& (63 : Int32))))) (by rw [e34]; exact Ar36.1) (State.isArrayOf_alike hZ.alike Ar36.2.1) Ar36.2.2 hin36 hat36 (g := (mkF m 125 #[.val (.ref r0), .val (.ref b6), .val (.int (3 : Int32)), .val (.int (3 : Int32)), .val (.int (0 : Int32)), .val (.int x0)] [(.int (((x0.toUInt32 >>> ((6 : Int32) &&& 31).toUInt32).toInt32) &&& (63 : Int32))), (.ref oAL), (.int (2 : Int32)), (.ref b6)])) rfl rfl (hb hby d2_125) _ ?_
    exact k
  obtain ⟨cl38, Ar38, qk38, S38, Ng38, Hh38, Gg38⟩ := id V32
  have hin38 : ¬ ((2 : Int32) < 0 ∨ cl38.slots.size ≤ ((2 : Int32)).toNatClampNeg) := inb_of S38 ⟨by decide, by decide⟩
  obtain ⟨T39, h39, X39, e39, W39, st39⟩ := stB X34 hx hZ e34 Ar38 (j := (2 : Int32)) hin38 (g := (mkF m 126 #[.val (.ref r0), .val (.ref b6), .val (.int (3 : Int32)), .val (.int (3 : Int32)), .val (.int (0 : Int32)), .val (.int x0)] [(.int (atv cA (((x0.toUInt32 >>> ((6 : Int32) &&& 31).toUInt32).toInt32) &&& (63 : Int32)))), (.int (2 : Int32)), (.ref b6)])) rfl rfl (hb hby d2_126)
  have V39 : Arv Z h39 b6 k6 .byte (4 : Int32) [(.int ((atv cA ((x0.toUInt32 >>> ((18 : Int32) &&& 31).toUInt32).toInt32))).toInt8.toInt32), (.int ((atv cA (((x0.toUInt32 >>> ((12 : Int32) &&& 31).toUInt32).toInt32) &&& (63 : Int32)))).toInt8.toInt32), (.int ((atv cA (((x0.toUInt32 >>> ((6 : Int32) &&& 31).toUInt32).toInt32) &&& (63 : Int32)))).toInt8.toInt32), (.int (0 : Int32))] (.int (0 : Int32)) := Arv.set Ar38 qk38 S38 Ng38 Hh38 Gg38 (fits_nar_byte _) W39 2 rfl (Nat.le_of_ble_eq_true rfl)
  have N39 := Fr.snoc X39 N32 g_b6
  have Kp39 : Keep h0 h39 [] := Keep.wr Kp32 W39 (Or.inr sz_b6)
  have K39 : own_K p e below SE T39 (mkF m 127 #[.val (.ref r0), .val (.ref b6), .val (.int (3 : Int32)), .val (.int (3 : Int32)), .val (.int (0 : Int32)), .val (.int x0)] []) := fun t k => K37 _ (st39 _ k)
  have K40 : own_K p e below SE T39 (mkF m 132 #[.val (.ref r0), .val (.ref b6), .val (.int (3 : Int32)), .val (.int (4 : Int32)), .val (.int (0 : Int32)), .val (.int x0)] [(.int (3 : Int32)), (.ref b6)]) := by
    intro t k
    refine K39 _ ?_
    refine XS.aloadN X39.here hx rfl (hb hby d2_127) rfl rfl ?_
    show own_S p e below T39 (mkF m 128 #[.val (.ref r0), .val (.ref b6), .val (.int (3 : Int32)), .val (.int (3 : Int32)), .val (.int (0 : Int32)), .val (.int x0)] [(.ref b6)]) _
    refine XS.iloadN X39.here hx rfl (hb hby d2_128) rfl ?_
    show own_S p e below T39 (mkF m 129 #[.val (.ref r0), .val (.ref b6), .val (.int (3 : Int32)), .val (.int (3 : Int32)), .val (.int (0 : Int32)), .val (.int x0)] [(.int (3 : Int32)), (.ref b6)]) _
    refine XS.iinc X39.here hx rfl (hb hby d2_129) rfl (l' := #[.val (.ref r0), .val (.ref b6), .val (.int (3 : Int32)), .val (.int (4 : Int32)), .val (.int (0 : Int32)), .val (.int x0)]) rfl ?_
    exact k
  obtain ⟨T41, X41, e41, st41⟩ := getS2 X39 hx hZ hown (host := "") (Or.inl (hw _ (List.mem_of_getElem? (i := 16) rfl))) Via.refl e39 (SA.ext (own_ext Kp39)) (g := (mkF m 132 #[.val (.ref r0), .val (.ref b6), .val (.int (3 : Int32)), .val (.int (4 : Int32)), .val (.int (0 : Int32)), .val (.int x0)] [(.int (3 : Int32)), (.ref b6)])) rfl (hb hby d2_132)
  have K41 : own_K p e below SE T41 (mkF m 135 #[.val (.ref r0), .val (.ref b6), .val (.int (3 : Int32)), .val (.int (4 : Int32)), .val (.int (0 : Int32)), .val (.int x0)] [(.ref oAL), (.int (3 : Int32)), (.ref b6)]) := fun t k => K40 _ (st41 _ k)
  have K42 : own_K p e below SE T41 (mkF m 140 #[.val (.ref r0), .val (.ref b6), .val (.int (3 : Int32)), .val (.int (4 : Int32)), .val (.int (0 : Int32)), .val (.int x0)] [(.int (x0 &&& (63 : Int32))), (.ref oAL), (.int (3 : Int32)), (.ref b6)]) := by
    intro t k
    refine K41 _ ?_
    refine XS.iload X41.here hx rfl (hb hby d2_135) rfl ?_
    show own_S p e below T41 (mkF m 137 #[.val (.ref r0), .val (.ref b6), .val (.int (3 : Int32)), .val (.int (4 : Int32)), .val (.int (0 : Int32)), .val (.int x0)] [(.int x0), (.ref oAL), (.int (3 : Int32)), (.ref b6)]) _
    refine XS.bipush X41.here hx rfl (hb hby d2_137) ?_
    show own_S p e below T41 (mkF m 139 #[.val (.ref r0), .val (.ref b6), .val (.int (3 : Int32)), .val (.int (4 : Int32)), .val (.int (0 : Int32)), .val (.int x0)] [(.int (63 : Int32)), (.int x0), (.ref oAL), (.int (3 : Int32)), (.ref b6)]) _
    refine XS.iand X41.here hx rfl (hb hby d2_139) rfl ?_
    exact k
  obtain ⟨Ar43, S43, Ng43, Hh43⟩ := id (TA.ext (own_ext Kp39))
  have hin43 : ¬ ((x0 &&& (63 : Int32)) < 0 ∨ cA.slots.size ≤ ((x0 &&& (63 : Int32))).toNatClampNeg) := inb_of S43 (own_b63 _)
  have hat43 := Hh43 _ hin43
  have K44 : own_K p e below SE T41 (mkF m 141 #[.val (.ref r0), .val (.ref b6), .val (.int (3 : Int32)), .val (.int (4 : Int32)), .val (.int (0 : Int32)), .val (.int x0)] [(.int (atv cA (x0 &&& (63 : Int32)))), (.int (3 : Int32)), (.ref b6)]) := by
    intro t k
    refine K42 _ ?_
    refine X41.baloadBytes hx (j := (x0 &&& (63 : Int32))) (v := (.int (atv cA (x0 &&& (63 : Int32))))) (by rw [e41]; exact Ar43.1) (State.isArrayOf_alike hZ.alike Ar43.2.1) Ar43.2.2 hin43 hat43 (g := (mkF m 140 #[.val (.ref r0), .val (.ref b6), .val (.int (3 : Int32)), .val (.int (4 : Int32)), .val (.int (0 : Int32)), .val (.int x0)] [(.int (x0 &&& (63 : Int32))), (.ref oAL), (.int (3 : Int32)), (.ref b6)])) rfl rfl (hb hby d2_140) _ ?_
    exact k
  obtain ⟨cl45, Ar45, qk45, S45, Ng45, Hh45, Gg45⟩ := id V39
  have hin45 : ¬ ((3 : Int32) < 0 ∨ cl45.slots.size ≤ ((3 : Int32)).toNatClampNeg) := inb_of S45 ⟨by decide, by decide⟩
  obtain ⟨T46, h46, X46, e46, W46, st46⟩ := stB X41 hx hZ e41 Ar45 (j := (3 : Int32)) hin45 (g := (mkF m 141 #[.val (.ref r0), .val (.ref b6), .val (.int (3 : Int32)), .val (.int (4 : Int32)), .val (.int (0 : Int32)), .val (.int x0)] [(.int (atv cA (x0 &&& (63 : Int32)))), (.int (3 : Int32)), (.ref b6)])) rfl rfl (hb hby d2_141)
  have V46 : Arv Z h46 b6 k6 .byte (4 : Int32) [(.int ((atv cA ((x0.toUInt32 >>> ((18 : Int32) &&& 31).toUInt32).toInt32))).toInt8.toInt32), (.int ((atv cA (((x0.toUInt32 >>> ((12 : Int32) &&& 31).toUInt32).toInt32) &&& (63 : Int32)))).toInt8.toInt32), (.int ((atv cA (((x0.toUInt32 >>> ((6 : Int32) &&& 31).toUInt32).toInt32) &&& (63 : Int32)))).toInt8.toInt32), (.int ((atv cA (x0 &&& (63 : Int32)))).toInt8.toInt32)] (.int (0 : Int32)) := Arv.set Ar45 qk45 S45 Ng45 Hh45 Gg45 (fits_nar_byte _) W46 3 rfl (Nat.le_of_ble_eq_true rfl)
  have N46 := Fr.snoc X46 N39 g_b6
  have Kp46 : Keep h0 h46 [] := Keep.wr Kp39 W46 (Or.inr sz_b6)
  have K46 : own_K p e below SE T46 (mkF m 142 #[.val (.ref r0), .val (.ref b6), .val (.int (3 : Int32)), .val (.int (4 : Int32)), .val (.int (0 : Int32)), .val (.int x0)] []) := fun t k => K44 _ (st46 _ k)
  have K47 : own_K p e below SE T46 (mkF m 150 #[.val (.ref r0), .val (.ref b6), .val (.int (3 : Int32)), .val (.int (4 : Int32)), .val (.int (3 : Int32)), .val (.int x0)] [(.ref r0), (.int (3 : Int32))]) := by
    intro t k
    refine K46 _ ?_
    refine XS.iinc X46.here hx rfl (hb hby d2_142) rfl (l' := #[.val (.ref r0), .val (.ref b6), .val (.int (3 : Int32)), .val (.int (4 : Int32)), .val (.int (3 : Int32)), .val (.int x0)]) rfl ?_
    show own_S p e below T46 (mkF m 145 #[.val (.ref r0), .val (.ref b6), .val (.int (3 : Int32)), .val (.int (4 : Int32)), .val (.int (3 : Int32)), .val (.int x0)] []) _
    refine XS.goto X46.here hx rfl (pc0 := 145) (pc' := 32) rfl (hb hby d2_145) (by decide) (by decide) ?_
    show own_S p e below T46 (mkF m 32 #[.val (.ref r0), .val (.ref b6), .val (.int (3 : Int32)), .val (.int (4 : Int32)), .val (.int (3 : Int32)), .val (.int x0)] []) _
    refine XS.iload X46.here hx rfl (hb hby d2_32) rfl ?_
    show own_S p e below T46 (mkF m 34 #[.val (.ref r0), .val (.ref b6), .val (.int (3 : Int32)), .val (.int (4 : Int32)), .val (.int (3 : Int32)), .val (.int x0)] [(.int (3 : Int32))]) _
    refine XS.iloadN X46.here hx rfl (hb hby d2_34) rfl ?_
    show own_S p e below T46 (mkF m 35 #[.val (.ref r0), .val (.ref b6), .val (.int (3 : Int32)), .val (.int (4 : Int32)), .val (.int (3 : Int32)), .val (.int x0)] [(.int (3 : Int32)), (.int (3 : Int32))]) _
    refine XS.icmpYes X46.here hx rfl (pc0 := 35) (pc' := 148) rfl (hb hby d2_35) rfl (XT.ii_ge_t (by decide : ¬ ((3 : Int32) < (3 : Int32)))) (by decide) (by decide) ?_
    show own_S p e below T46 (mkF m 148 #[.val (.ref r0), .val (.ref b6), .val (.int (3 : Int32)), .val (.int (4 : Int32)), .val (.int (3 : Int32)), .val (.int x0)] []) _
    refine XS.iloadN X46.here hx rfl (hb hby d2_148) rfl ?_
    show own_S p e below T46 (mkF m 149 #[.val (.ref r0), .val (.ref b6), .val (.int (3 : Int32)), .val (.int (4 : Int32)), .val (.int (3 : Int32)), .val (.int x0)] [(.int (3 : Int32))]) _
    refine XS.aloadN X46.here hx rfl (hb hby d2_149) rfl rfl ?_
    exact k
  obtain ⟨cl48, Ar48, -, S48, Ng48, -, -⟩ := id (V_r0.ext (own_ext Kp46))
  have K49 : own_K p e below SE T46 (mkF m 246 #[.val (.ref r0), .val (.ref b6), .val (.int (3 : Int32)), .val (.int (4 : Int32)), .val (.int (3 : Int32)), .val (.int x0)] [(.ref b6)]) := by
    intro t k
    refine K47 _ ?_
    refine X46.arraylength hx (by rw [e46]; exact Ar48.1) (State.isArrayOf_alike hZ.alike Ar48.2.1) (g := (mkF m 150 #[.val (.ref r0), .val (.ref b6), .val (.int (3 : Int32)), .val (.int (4 : Int32)), .val (.int (3 : Int32)), .val (.int x0)] [(.ref r0), (.int (3 : Int32))])) rfl rfl (hb hby d2_150) _ ?_
    rw [len_of S48 Ng48]
    show own_S p e below T46 (mkF m 151 #[.val (.ref r0), .val (.ref b6), .val (.int (3 : Int32)), .val (.int (4 : Int32)), .val (.int (3 : Int32)), .val (.int x0)] [(.int (3 : Int32)), (.int (3 : Int32))]) _
    refine XS.icmpYes X46.here hx rfl (pc0 := 151) (pc' := 245) rfl (hb hby d2_151) rfl (XT.ii_ge_t (by decide : ¬ ((3 : Int32) < (3 : Int32)))) (by decide) (by decide) ?_
    show own_S p e below T46 (mkF m 245 #[.val (.ref r0), .val (.ref b6), .val (.int (3 : Int32)), .val (.int (4 : Int32)), .val (.int (3 : Int32)), .val (.int x0)] []) _
    refine XS.aloadN X46.here hx rfl (hb hby d2_245) rfl rfl ?_
    exact k
  subst hx0
  obtain ⟨fs, hr, hrun, hended, hW, hsame⟩ := X46.leave (v := some (.ref b6)) (fun h => by rw [Bd.returns] at h; cases h)
  refine ⟨_, _, K49 _ ?_, hrun, hended, _, _, rfl, ?_, ⟨_, rfl⟩, hW, hsame.mono (by decide) (by decide)⟩
  · show Steps p.tables e below (T46.setTop (mkF m 246 #[.val (.ref r0), .val (.ref b6), .val (.int (3 : Int32)), .val (.int (4 : Int32)), .val (.int (3 : Int32)), .val (.int ((((ub0 &&& (255 : Int32)) <<< ((16 : Int32) &&& 31)) ||| ((ub1 &&& (255 : Int32)) <<< ((8 : Int32) &&& 31))) ||| (ub2 &&& (255 : Int32))))] [(.ref b6)])) _
    jvm_step X46.here [X46.here.top, hx, (hb hby d2_246), X46.method', Bd.returns, Value.isRef, FieldType.isReference]
    first | (intro acts; rw [hr _ acts rfl rfl rfl]) | rw [hr _ _ rfl rfl rfl]
    exact Steps.refl _
  · show Q2_3 Z r0 kA oAL cA ub0 ub1 ub2 h0 n0 _ T46.heap _
    rw [e46]
    exact ⟨congrArg (fun z => some (Value.ref z)) g6, N46, Kp46, _, (g6 ▸ V46)⟩
theorem ef_2_4 (m : MethodId) (r0 : Addr) : entryFrame m #[(.ref r0)] 6 = mkF m 0 #[.val (.ref r0), .unset, .unset, .unset, .unset, .unset] [] := by first | (simp [entryFrame, mkF, argsToLocals, Value.category]; done) | rfl
def Q2_4 (Z : State) (r0 : Addr) (kA : ClassId) (oAL : Addr) (cA : Cell) (ub0 : Int32) (ub1 : Int32) (ub2 : Int32) (ub3 : Int32) (h0 : Heap) (n0 : Nat) (v : Option Value) (h : Heap) (L : List Loc) : Prop := v = some (.ref h0.size) ∧ Fr n0 L ∧ Keep h0 h [] ∧ ∃ kT, Arv Z h h0.size kT .byte (6 : Int32) [(.int (atv cA ((((((ub0 &&& (255 : Int32)) <<< ((16 : Int32) &&& 31)) ||| ((ub1 &&& (255 : Int32)) <<< ((8 : Int32) &&& 31))) ||| (ub2 &&& (255 : Int32))).toUInt32 >>> ((18 : Int32) &&& 31).toUInt32).toInt32)).toInt8.toInt32), (.int (atv cA (((((((ub0 &&& (255 : Int32)) <<< ((16 : Int32) &&& 31)) ||| ((ub1 &&& (255 : Int32)) <<< ((8 : Int32) &&& 31))) ||| (ub2 &&& (255 : Int32))).toUInt32 >>> ((12 : Int32) &&& 31).toUInt32).toInt32) &&& (63 : Int32))).toInt8.toInt32), (.int (atv cA (((((((ub0 &&& (255 : Int32)) <<< ((16 : Int32) &&& 31)) ||| ((ub1 &&& (255 : Int32)) <<< ((8 : Int32) &&& 31))) ||| (ub2 &&& (255 : Int32))).toUInt32 >>> ((6 : Int32) &&& 31).toUInt32).toInt32) &&& (63 : Int32))).toInt8.toInt32), (.int (atv cA (((((ub0 &&& (255 : Int32)) <<< ((16 : Int32) &&& 31)) ||| ((ub1 &&& (255 : Int32)) <<< ((8 : Int32) &&& 31))) ||| (ub2 &&& (255 : Int32))) &&& (63 : Int32))).toInt8.toInt32), (.int (atv cA (((((ub3 &&& (255 : Int32)) <<< ((16 : Int32) &&& 31)) ||| (0 : Int32)).toUInt32 >>> ((18 : Int32) &&& 31).toUInt32).toInt32)).toInt8.toInt32), (.int (atv cA ((((((ub3 &&& (255 : Int32)) <<< ((16 : Int32) &&& 31)) ||| (0 : Int32)).toUInt32 >>> ((12 : Int32) &&& 31).toUInt32).toInt32) &&& (63 : Int32))).toInt8.toInt32)] (.int (0 : Int32))
set_option maxRecDepth 65536 in
set_option maxHeartbeats 40000000 in
theorem rm2_4 (l : Launch) (Z : State) (a0 : Array Value) (hw : ∀ d ∈ tables_1, d.before a0 Z = true) (ws : List Jvm.Cond) (r0 : Addr) (kA : ClassId) (oAL : Addr) (cA : Cell) (ub0 : Int32) (ub1 : Int32) (ub2 : Int32) (ub3 : Int32) (h0 : Heap) (n0 : Nat) (Z0 : n0 ≤ h0.size) (V_r0 : Arv Z h0 r0 kA .byte (4 : Int32) [(.int ub0), (.int ub1), (.int ub2), (.int ub3)] (.int (0 : Int32))) (SA : Sta Z h0 "com/example/whorl/whorl/Base64url" "ALPHABET" "[B" (.ref oAL)) (TA : Tab Z h0 oAL cA .byte (64 : Int32)) :
    MetFree l (⟨"com/example/whorl/whorl/Base64url", "text", "([B)[B"⟩ : MethodName) (head1 (Jvm.Cond.code (⟨"com/example/whorl/whorl/Base64url", "text", "([B)[B"⟩ : MethodName) prog_1_method_3_code 6 (some (.array .byte)) :: ws) ({ frames := 0, cells := 1, slots := 6, locals := 0 } : Room)) (fun a U => a = #[(.ref r0)] ∧ Z.Warmed39 U.vm ∧ U.heap = h0) (fun _ _ _ _ _ => True) (fun _ U o U' => ∃ v L, o = .returned v ∧ Q2_4 Z r0 kA oAL cA ub0 ub1 ub2 ub3 h0 n0 v U'.heap L ∧ FrameEnd U o U' L ({ frames := 0, cells := 1, slots := 6, locals := 0 } : Room).cells ({ frames := 0, cells := 1, slots := 6, locals := 0 } : Room).slots) := by
  refine MetFree.of_bodySF (plainFor_of_name pn_2) hisR ?_
  intro p e s m args below meth c s₁ Bd hml0 hP hK
  obtain ⟨rfl, hZ, hh⟩ := hP
  have hx := Bd.exec
  have hby := Bd.bytes
  have hml : c.maxLocals = 6 := hml0
  have hown : s.vm.findClass "com/example/whorl/whorl/Base64url" = some m.cls := findClass_of_methodNamed Bd.named
  have hnm := (name_of_methodNamed Bd.named Bd.method).1
  have X0 : Stand p l e ({ frames := 0, cells := 1, slots := 6, locals := 0 } : Room) s m #[(.ref r0)] below meth c s₁ [] 0 0 := Stand.of_body Bd
  have e0 : s₁.heap = h0 := by rw [← hh, Bd.state]; rfl
  have N0 := Fr.nil n0
  have K0 : ∀ t, Steps p.tables e below (s₁.setTop (mkF m 0 #[.val (.ref r0), .unset, .unset, .unset, .unset, .unset] [])) t → Steps p.tables e below (s₁.setTop (entryFrame m #[(.ref r0)] 6)) t := fun t k => castTop (ef_2_4 m r0) k
  generalize s₁.setTop (entryFrame m #[(.ref r0)] 6) = SE at K0 ⊢
  have K1 : own_K p e below SE s₁ (mkF m 1 #[.val (.ref r0), .unset, .unset, .unset, .unset, .unset] [(.ref r0)]) := by
    intro t k
    refine K0 _ ?_
    refine XS.aloadN X0.here hx rfl (hb hby d2_0) rfl rfl ?_
    exact k
  obtain ⟨cl2, Ar2, -, S2, Ng2, -, -⟩ := id V_r0
  have K3 : own_K p e below SE s₁ (mkF m 3 #[.val (.ref r0), .unset, .unset, .unset, .unset, .unset] [(.long (((4 : Int32)).toInt64))]) := by
    intro t k
    refine K1 _ ?_
    refine X0.arraylength hx (by rw [e0]; exact Ar2.1) (State.isArrayOf_alike hZ.alike Ar2.2.1) (g := (mkF m 1 #[.val (.ref r0), .unset, .unset, .unset, .unset, .unset] [(.ref r0)])) rfl rfl (hb hby d2_1) _ ?_
    rw [len_of S2 Ng2]
    show own_S p e below s₁ (mkF m 2 #[.val (.ref r0), .unset, .unset, .unset, .unset, .unset] [(.int (4 : Int32))]) _
    refine XS.i2l X0.here hx rfl (hb hby d2_2) rfl ?_
    exact k
  rw [(by decide : (((4 : Int32)).toInt64) = (4 : Int64))] at K3
  have K4 : own_K p e below SE s₁ (mkF m 15 #[.val (.ref r0), .unset, .unset, .unset, .unset, .unset] [(.long ((18 : Int64) / (3 : Int64)))]) := by
    intro t k
    refine K3 _ ?_
    refine Stand.ldc2J X0 hx hown (mvT hZ (hw _ (List.mem_of_getElem? (i := 10) rfl))) (v := (4 : Int64)) (g := (mkF m 3 #[.val (.ref r0), .unset, .unset, .unset, .unset, .unset] [(.long (4 : Int64))])) rfl (hb hby d2_3) ?_
    show own_S p e below s₁ (mkF m 6 #[.val (.ref r0), .unset, .unset, .unset, .unset, .unset] [(.long (4 : Int64)), (.long (4 : Int64))]) _
    refine XS.lmul X0.here hx rfl (hb hby d2_6) rfl ?_
    show own_S p e below s₁ (mkF m 7 #[.val (.ref r0), .unset, .unset, .unset, .unset, .unset] [(.long (16 : Int64))]) _
    refine Stand.ldc2J X0 hx hown (mvT hZ (hw _ (List.mem_of_getElem? (i := 11) rfl))) (v := (2 : Int64)) (g := (mkF m 7 #[.val (.ref r0), .unset, .unset, .unset, .unset, .unset] [(.long (16 : Int64))])) rfl (hb hby d2_7) ?_
    show own_S p e below s₁ (mkF m 10 #[.val (.ref r0), .unset, .unset, .unset, .unset, .unset] [(.long (2 : Int64)), (.long (16 : Int64))]) _
    refine XS.ladd X0.here hx rfl (hb hby d2_10) rfl ?_
    show own_S p e below s₁ (mkF m 11 #[.val (.ref r0), .unset, .unset, .unset, .unset, .unset] [(.long (18 : Int64))]) _
    refine Stand.ldc2J X0 hx hown (mvT hZ (hw _ (List.mem_of_getElem? (i := 12) rfl))) (v := (3 : Int64)) (g := (mkF m 11 #[.val (.ref r0), .unset, .unset, .unset, .unset, .unset] [(.long (18 : Int64))])) rfl (hb hby d2_11) ?_
    show own_S p e below s₁ (mkF m 14 #[.val (.ref r0), .unset, .unset, .unset, .unset, .unset] [(.long (3 : Int64)), (.long (18 : Int64))]) _
    refine XS.ldiv X0.here hx rfl (hb hby d2_14) rfl (by decide) ?_
    exact k
  rw [(by decide : ((18 : Int64) / (3 : Int64)) = (6 : Int64))] at K4
  have K5 : own_K p e below SE s₁ (mkF m 16 #[.val (.ref r0), .unset, .unset, .unset, .unset, .unset] [(.int (((6 : Int64)).toInt32))]) := by
    intro t k
    refine K4 _ ?_
    refine XS.l2i X0.here hx rfl (hb hby d2_15) rfl ?_
    exact k
  rw [(by decide : (((6 : Int64)).toInt32) = (6 : Int32))] at K5
  obtain ⟨T6, h6, k6, X6, e6, E6, A6, st6⟩ := newP X0 hx hZ (hw _ (List.mem_of_getElem? (i := 1) rfl)) e0 (g := (mkF m 16 #[.val (.ref r0), .unset, .unset, .unset, .unset, .unset] [(.int (6 : Int32))])) rfl (hb hby d2_16) rfl (by decide) (cap := 6) (by decide) (by decide) (by decide) (by decide)
  obtain ⟨b6, g6⟩ : ∃ z, z = h0.size := ⟨_, rfl⟩
  rw [← g6] at A6 st6
  have g_b6 : n0 ≤ b6 := Nat.le_trans Z0 (Nat.le_of_eq g6.symm)
  have sz_b6 : h0.size ≤ b6 := Nat.le_trans (Nat.le_refl _) (Nat.le_of_eq g6.symm)
  have own_ne_r0_b6 : r0 ≠ b6 := Nat.ne_of_lt (Nat.lt_of_lt_of_le V_r0.lt (Nat.le_of_eq g6.symm))
  have Kp6 : Keep h0 h6 [] := Keep.ext (Keep.refl h0 []) E6
  have V6 : Arv Z h6 b6 k6 .byte (6 : Int32) [(.int (0 : Int32)), (.int (0 : Int32)), (.int (0 : Int32)), (.int (0 : Int32)), (.int (0 : Int32)), (.int (0 : Int32))] (.int (0 : Int32)) := (Arv.new A6 (by decide)).pad (pad_rep [] (.int (0 : Int32)) 6)
  have K6 : own_K p e below SE T6 (mkF m 18 #[.val (.ref r0), .unset, .unset, .unset, .unset, .unset] [(.ref b6)]) := fun t k => K5 _ (st6 _ k)
  have K7 : own_K p e below SE T6 (mkF m 20 #[.val (.ref r0), .val (.ref b6), .unset, .unset, .unset, .unset] [(.ref r0)]) := by
    intro t k
    refine K6 _ ?_
    refine XS.astoreN X6.here hx rfl (hb hby d2_18) rfl rfl (l' := #[.val (.ref r0), .val (.ref b6), .unset, .unset, .unset, .unset]) rfl ?_
    show own_S p e below T6 (mkF m 19 #[.val (.ref r0), .val (.ref b6), .unset, .unset, .unset, .unset] []) _
    refine XS.aloadN X6.here hx rfl (hb hby d2_19) rfl rfl ?_
    exact k
  obtain ⟨cl8, Ar8, -, S8, Ng8, -, -⟩ := id (V_r0.ext (own_ext Kp6))
  have K9 : own_K p e below SE T6 (mkF m 22 #[.val (.ref r0), .val (.ref b6), .unset, .unset, .unset, .unset] [(.ref r0), (.int (4 : Int32))]) := by
    intro t k
    refine K7 _ ?_
    refine X6.arraylength hx (by rw [e6]; exact Ar8.1) (State.isArrayOf_alike hZ.alike Ar8.2.1) (g := (mkF m 20 #[.val (.ref r0), .val (.ref b6), .unset, .unset, .unset, .unset] [(.ref r0)])) rfl rfl (hb hby d2_20) _ ?_
    rw [len_of S8 Ng8]
    show own_S p e below T6 (mkF m 21 #[.val (.ref r0), .val (.ref b6), .unset, .unset, .unset, .unset] [(.int (4 : Int32))]) _
    refine XS.aloadN X6.here hx rfl (hb hby d2_21) rfl rfl ?_
    exact k
  obtain ⟨cl10, Ar10, -, S10, Ng10, -, -⟩ := id (V_r0.ext (own_ext Kp6))
  have K11 : own_K p e below SE T6 (mkF m 25 #[.val (.ref r0), .val (.ref b6), .unset, .unset, .unset, .unset] [(.int ((4 : Int32) % (3 : Int32))), (.int (4 : Int32))]) := by
    intro t k
    refine K9 _ ?_
    refine X6.arraylength hx (by rw [e6]; exact Ar10.1) (State.isArrayOf_alike hZ.alike Ar10.2.1) (g := (mkF m 22 #[.val (.ref r0), .val (.ref b6), .unset, .unset, .unset, .unset] [(.ref r0), (.int (4 : Int32))])) rfl rfl (hb hby d2_22) _ ?_
    rw [len_of S10 Ng10]
    show own_S p e below T6 (mkF m 23 #[.val (.ref r0), .val (.ref b6), .unset, .unset, .unset, .unset] [(.int (4 : Int32)), (.int (4 : Int32))]) _
    refine XS.iconst X6.here hx rfl (hb hby d2_23) ?_
    show own_S p e below T6 (mkF m 24 #[.val (.ref r0), .val (.ref b6), .unset, .unset, .unset, .unset] [(.int (3 : Int32)), (.int (4 : Int32)), (.int (4 : Int32))]) _
    refine iremM X6 hx rfl (hb hby d2_24) rfl (by decide) ?_
    exact k
  rw [(by decide : ((4 : Int32) % (3 : Int32)) = (1 : Int32))] at K11
  have K12 : own_K p e below SE T6 (mkF m 41 #[.val (.ref r0), .val (.ref b6), .val (.int (3 : Int32)), .val (.int (0 : Int32)), .val (.int (0 : Int32)), .unset] [(.int (0 : Int32)), (.ref r0)]) := by
    intro t k
    refine K11 _ ?_
    refine XS.isub X6.here hx rfl (hb hby d2_25) rfl ?_
    show own_S p e below T6 (mkF m 26 #[.val (.ref r0), .val (.ref b6), .unset, .unset, .unset, .unset] [(.int (3 : Int32))]) _
    refine XS.istoreN X6.here hx rfl (hb hby d2_26) rfl (l' := #[.val (.ref r0), .val (.ref b6), .val (.int (3 : Int32)), .unset, .unset, .unset]) rfl ?_
    show own_S p e below T6 (mkF m 27 #[.val (.ref r0), .val (.ref b6), .val (.int (3 : Int32)), .unset, .unset, .unset] []) _
    refine XS.iconst X6.here hx rfl (hb hby d2_27) ?_
    show own_S p e below T6 (mkF m 28 #[.val (.ref r0), .val (.ref b6), .val (.int (3 : Int32)), .unset, .unset, .unset] [(.int (0 : Int32))]) _
    refine XS.istoreN X6.here hx rfl (hb hby d2_28) rfl (l' := #[.val (.ref r0), .val (.ref b6), .val (.int (3 : Int32)), .val (.int (0 : Int32)), .unset, .unset]) rfl ?_
    show own_S p e below T6 (mkF m 29 #[.val (.ref r0), .val (.ref b6), .val (.int (3 : Int32)), .val (.int (0 : Int32)), .unset, .unset] []) _
    refine XS.iconst X6.here hx rfl (hb hby d2_29) ?_
    show own_S p e below T6 (mkF m 30 #[.val (.ref r0), .val (.ref b6), .val (.int (3 : Int32)), .val (.int (0 : Int32)), .unset, .unset] [(.int (0 : Int32))]) _
    refine XS.istore X6.here hx rfl (hb hby d2_30) rfl (l' := #[.val (.ref r0), .val (.ref b6), .val (.int (3 : Int32)), .val (.int (0 : Int32)), .val (.int (0 : Int32)), .unset]) rfl ?_
    show own_S p e below T6 (mkF m 32 #[.val (.ref r0), .val (.ref b6), .val (.int (3 : Int32)), .val (.int (0 : Int32)), .val (.int (0 : Int32)), .unset] []) _
    refine XS.iload X6.here hx rfl (hb hby d2_32) rfl ?_
    show own_S p e below T6 (mkF m 34 #[.val (.ref r0), .val (.ref b6), .val (.int (3 : Int32)), .val (.int (0 : Int32)), .val (.int (0 : Int32)), .unset] [(.int (0 : Int32))]) _
    refine XS.iloadN X6.here hx rfl (hb hby d2_34) rfl ?_
    show own_S p e below T6 (mkF m 35 #[.val (.ref r0), .val (.ref b6), .val (.int (3 : Int32)), .val (.int (0 : Int32)), .val (.int (0 : Int32)), .unset] [(.int (3 : Int32)), (.int (0 : Int32))]) _
    refine XS.icmpNo X6.here hx rfl (hb hby d2_35) rfl (XT.ii_ge_f (by decide : (0 : Int32) < (3 : Int32))) ?_
    show own_S p e below T6 (mkF m 38 #[.val (.ref r0), .val (.ref b6), .val (.int (3 : Int32)), .val (.int (0 : Int32)), .val (.int (0 : Int32)), .unset] []) _
    refine XS.aloadN X6.here hx rfl (hb hby d2_38) rfl rfl ?_
    show own_S p e below T6 (mkF m 39 #[.val (.ref r0), .val (.ref b6), .val (.int (3 : Int32)), .val (.int (0 : Int32)), .val (.int (0 : Int32)), .unset] [(.ref r0)]) _
    refine XS.iload X6.here hx rfl (hb hby d2_39) rfl ?_
    exact k
  obtain ⟨cl13, Ar13, qk13, S13, Ng13, Hh13, Gg13⟩ := id (V_r0.ext (own_ext Kp6))
  have hin13 : ¬ ((0 : Int32) < 0 ∨ cl13.slots.size ≤ ((0 : Int32)).toNatClampNeg) := inb_of S13 ⟨by decide, by decide⟩
  have hat13 : cl13.slots[((0 : Int32)).toNatClampNeg]? = some (.int ub0) := Has.at Hh13 hin13 rfl
  have K14 : own_K p e below SE T6 (mkF m 54 #[.val (.ref r0), .val (.ref b6), .val (.int (3 : Int32)), .val (.int (0 : Int32)), .val (.int (0 : Int32)), .unset] [(.int (1 : Int32)), (.ref r0), (.int ((ub0 &&& (255 : Int32)) <<< ((16 : Int32) &&& 31)))]) := by
    intro t k
    refine K12 _ ?_
    refine X6.baloadBytes hx (j := (0 : Int32)) (v := (.int ub0)) (by rw [e6]; exact Ar13.1) (State.isArrayOf_alike hZ.alike Ar13.2.1) Ar13.2.2 hin13 hat13 (g := (mkF m 41 #[.val (.ref r0), .val (.ref b6), .val (.int (3 : Int32)), .val (.int (0 : Int32)), .val (.int (0 : Int32)), .unset] [(.int (0 : Int32)), (.ref r0)])) rfl rfl (hb hby d2_41) _ ?_
    show own_S p e below T6 (mkF m 42 #[.val (.ref r0), .val (.ref b6), .val (.int (3 : Int32)), .val (.int (0 : Int32)), .val (.int (0 : Int32)), .unset] [(.int ub0)]) _
    refine XS.sipush X6.here hx rfl (hb hby d2_42) ?_
    show own_S p e below T6 (mkF m 45 #[.val (.ref r0), .val (.ref b6), .val (.int (3 : Int32)), .val (.int (0 : Int32)), .val (.int (0 : Int32)), .unset] [(.int (255 : Int32)), (.int ub0)]) _
    refine XS.iand X6.here hx rfl (hb hby d2_45) rfl ?_
    show own_S p e below T6 (mkF m 46 #[.val (.ref r0), .val (.ref b6), .val (.int (3 : Int32)), .val (.int (0 : Int32)), .val (.int (0 : Int32)), .unset] [(.int (ub0 &&& (255 : Int32)))]) _
    refine XS.bipush X6.here hx rfl (hb hby d2_46) ?_
    show own_S p e below T6 (mkF m 48 #[.val (.ref r0), .val (.ref b6), .val (.int (3 : Int32)), .val (.int (0 : Int32)), .val (.int (0 : Int32)), .unset] [(.int (16 : Int32)), (.int (ub0 &&& (255 : Int32)))]) _
    refine XS.ishl X6.here hx rfl (hb hby d2_48) rfl ?_
    show own_S p e below T6 (mkF m 49 #[.val (.ref r0), .val (.ref b6), .val (.int (3 : Int32)), .val (.int (0 : Int32)), .val (.int (0 : Int32)), .unset] [(.int ((ub0 &&& (255 : Int32)) <<< ((16 : Int32) &&& 31)))]) _
    refine XS.aloadN X6.here hx rfl (hb hby d2_49) rfl rfl ?_
    show own_S p e below T6 (mkF m 50 #[.val (.ref r0), .val (.ref b6), .val (.int (3 : Int32)), .val (.int (0 : Int32)), .val (.int (0 : Int32)), .unset] [(.ref r0), (.int ((ub0 &&& (255 : Int32)) <<< ((16 : Int32) &&& 31)))]) _
    refine XS.iload X6.here hx rfl (hb hby d2_50) rfl ?_
    show own_S p e below T6 (mkF m 52 #[.val (.ref r0), .val (.ref b6), .val (.int (3 : Int32)), .val (.int (0 : Int32)), .val (.int (0 : Int32)), .unset] [(.int (0 : Int32)), (.ref r0), (.int ((ub0 &&& (255 : Int32)) <<< ((16 : Int32) &&& 31)))]) _
    refine XS.iconst X6.here hx rfl (hb hby d2_52) ?_
    show own_S p e below T6 (mkF m 53 #[.val (.ref r0), .val (.ref b6), .val (.int (3 : Int32)), .val (.int (0 : Int32)), .val (.int (0 : Int32)), .unset] [(.int (1 : Int32)), (.int (0 : Int32)), (.ref r0), (.int ((ub0 &&& (255 : Int32)) <<< ((16 : Int32) &&& 31)))]) _
    refine XS.iadd X6.here hx rfl (hb hby d2_53) rfl ?_
    exact k
  obtain ⟨cl15, Ar15, qk15, S15, Ng15, Hh15, Gg15⟩ := id (V_r0.ext (own_ext Kp6))
  have hin15 : ¬ ((1 : Int32) < 0 ∨ cl15.slots.size ≤ ((1 : Int32)).toNatClampNeg) := inb_of S15 ⟨by decide, by decide⟩
  have hat15 : cl15.slots[((1 : Int32)).toNatClampNeg]? = some (.int ub1) := Has.at Hh15 hin15 rfl
  have K16 : own_K p e below SE T6 (mkF m 68 #[.val (.ref r0), .val (.ref b6), .val (.int (3 : Int32)), .val (.int (0 : Int32)), .val (.int (0 : Int32)), .unset] [(.int (2 : Int32)), (.ref r0), (.int (((ub0 &&& (255 : Int32)) <<< ((16 : Int32) &&& 31)) ||| ((ub1 &&& (255 : Int32)) <<< ((8 : Int32) &&& 31))))]) := by
    intro t k
    refine K14 _ ?_
    refine X6.baloadBytes hx (j := (1 : Int32)) (v := (.int ub1)) (by rw [e6]; exact Ar15.1) (State.isArrayOf_alike hZ.alike Ar15.2.1) Ar15.2.2 hin15 hat15 (g := (mkF m 54 #[.val (.ref r0), .val (.ref b6), .val (.int (3 : Int32)), .val (.int (0 : Int32)), .val (.int (0 : Int32)), .unset] [(.int (1 : Int32)), (.ref r0), (.int ((ub0 &&& (255 : Int32)) <<< ((16 : Int32) &&& 31)))])) rfl rfl (hb hby d2_54) _ ?_
    show own_S p e below T6 (mkF m 55 #[.val (.ref r0), .val (.ref b6), .val (.int (3 : Int32)), .val (.int (0 : Int32)), .val (.int (0 : Int32)), .unset] [(.int ub1), (.int ((ub0 &&& (255 : Int32)) <<< ((16 : Int32) &&& 31)))]) _
    refine XS.sipush X6.here hx rfl (hb hby d2_55) ?_
    show own_S p e below T6 (mkF m 58 #[.val (.ref r0), .val (.ref b6), .val (.int (3 : Int32)), .val (.int (0 : Int32)), .val (.int (0 : Int32)), .unset] [(.int (255 : Int32)), (.int ub1), (.int ((ub0 &&& (255 : Int32)) <<< ((16 : Int32) &&& 31)))]) _
    refine XS.iand X6.here hx rfl (hb hby d2_58) rfl ?_
    show own_S p e below T6 (mkF m 59 #[.val (.ref r0), .val (.ref b6), .val (.int (3 : Int32)), .val (.int (0 : Int32)), .val (.int (0 : Int32)), .unset] [(.int (ub1 &&& (255 : Int32))), (.int ((ub0 &&& (255 : Int32)) <<< ((16 : Int32) &&& 31)))]) _
    refine XS.bipush X6.here hx rfl (hb hby d2_59) ?_
    show own_S p e below T6 (mkF m 61 #[.val (.ref r0), .val (.ref b6), .val (.int (3 : Int32)), .val (.int (0 : Int32)), .val (.int (0 : Int32)), .unset] [(.int (8 : Int32)), (.int (ub1 &&& (255 : Int32))), (.int ((ub0 &&& (255 : Int32)) <<< ((16 : Int32) &&& 31)))]) _
    refine XS.ishl X6.here hx rfl (hb hby d2_61) rfl ?_
    show own_S p e below T6 (mkF m 62 #[.val (.ref r0), .val (.ref b6), .val (.int (3 : Int32)), .val (.int (0 : Int32)), .val (.int (0 : Int32)), .unset] [(.int ((ub1 &&& (255 : Int32)) <<< ((8 : Int32) &&& 31))), (.int ((ub0 &&& (255 : Int32)) <<< ((16 : Int32) &&& 31)))]) _
    refine XS.ior X6.here hx rfl (hb hby d2_62) rfl ?_
    show own_S p e below T6 (mkF m 63 #[.val (.ref r0), .val (.ref b6), .val (.int (3 : Int32)), .val (.int (0 : Int32)), .val (.int (0 : Int32)), .unset] [(.int (((ub0 &&& (255 : Int32)) <<< ((16 : Int32) &&& 31)) ||| ((ub1 &&& (255 : Int32)) <<< ((8 : Int32) &&& 31))))]) _
    refine XS.aloadN X6.here hx rfl (hb hby d2_63) rfl rfl ?_
    show own_S p e below T6 (mkF m 64 #[.val (.ref r0), .val (.ref b6), .val (.int (3 : Int32)), .val (.int (0 : Int32)), .val (.int (0 : Int32)), .unset] [(.ref r0), (.int (((ub0 &&& (255 : Int32)) <<< ((16 : Int32) &&& 31)) ||| ((ub1 &&& (255 : Int32)) <<< ((8 : Int32) &&& 31))))]) _
    refine XS.iload X6.here hx rfl (hb hby d2_64) rfl ?_
    show own_S p e below T6 (mkF m 66 #[.val (.ref r0), .val (.ref b6), .val (.int (3 : Int32)), .val (.int (0 : Int32)), .val (.int (0 : Int32)), .unset] [(.int (0 : Int32)), (.ref r0), (.int (((ub0 &&& (255 : Int32)) <<< ((16 : Int32) &&& 31)) ||| ((ub1 &&& (255 : Int32)) <<< ((8 : Int32) &&& 31))))]) _
    refine XS.iconst X6.here hx rfl (hb hby d2_66) ?_
    show own_S p e below T6 (mkF m 67 #[.val (.ref r0), .val (.ref b6), .val (.int (3 : Int32)), .val (.int (0 : Int32)), .val (.int (0 : Int32)), .unset] [(.int (2 : Int32)), (.int (0 : Int32)), (.ref r0), (.int (((ub0 &&& (255 : Int32)) <<< ((16 : Int32) &&& 31)) ||| ((ub1 &&& (255 : Int32)) <<< ((8 : Int32) &&& 31))))]) _
    refine XS.iadd X6.here hx rfl (hb hby d2_67) rfl ?_
    exact k
  obtain ⟨cl17, Ar17, qk17, S17, Ng17, Hh17, Gg17⟩ := id (V_r0.ext (own_ext Kp6))
  have hin17 : ¬ ((2 : Int32) < 0 ∨ cl17.slots.size ≤ ((2 : Int32)).toNatClampNeg) := inb_of S17 ⟨by decide, by decide⟩
  have hat17 : cl17.slots[((2 : Int32)).toNatClampNeg]? = some (.int ub2) := Has.at Hh17 hin17 rfl
  have K18 : own_K p e below SE T6 (mkF m 76 #[.val (.ref r0), .val (.ref b6), .val (.int (3 : Int32)), .val (.int (0 : Int32)), .val (.int (0 : Int32)), .val (.int ((((ub0 &&& (255 : Int32)) <<< ((16 : Int32) &&& 31)) ||| ((ub1 &&& (255 : Int32)) <<< ((8 : Int32) &&& 31))) ||| (ub2 &&& (255 : Int32))))] []) := by
    intro t k
    refine K16 _ ?_
    refine X6.baloadBytes hx (j := (2 : Int32)) (v := (.int ub2)) (by rw [e6]; exact Ar17.1) (State.isArrayOf_alike hZ.alike Ar17.2.1) Ar17.2.2 hin17 hat17 (g := (mkF m 68 #[.val (.ref r0), .val (.ref b6), .val (.int (3 : Int32)), .val (.int (0 : Int32)), .val (.int (0 : Int32)), .unset] [(.int (2 : Int32)), (.ref r0), (.int (((ub0 &&& (255 : Int32)) <<< ((16 : Int32) &&& 31)) ||| ((ub1 &&& (255 : Int32)) <<< ((8 : Int32) &&& 31))))])) rfl rfl (hb hby d2_68) _ ?_
    show own_S p e below T6 (mkF m 69 #[.val (.ref r0), .val (.ref b6), .val (.int (3 : Int32)), .val (.int (0 : Int32)), .val (.int (0 : Int32)), .unset] [(.int ub2), (.int (((ub0 &&& (255 : Int32)) <<< ((16 : Int32) &&& 31)) ||| ((ub1 &&& (255 : Int32)) <<< ((8 : Int32) &&& 31))))]) _
    refine XS.sipush X6.here hx rfl (hb hby d2_69) ?_
    show own_S p e below T6 (mkF m 72 #[.val (.ref r0), .val (.ref b6), .val (.int (3 : Int32)), .val (.int (0 : Int32)), .val (.int (0 : Int32)), .unset] [(.int (255 : Int32)), (.int ub2), (.int (((ub0 &&& (255 : Int32)) <<< ((16 : Int32) &&& 31)) ||| ((ub1 &&& (255 : Int32)) <<< ((8 : Int32) &&& 31))))]) _
    refine XS.iand X6.here hx rfl (hb hby d2_72) rfl ?_
    show own_S p e below T6 (mkF m 73 #[.val (.ref r0), .val (.ref b6), .val (.int (3 : Int32)), .val (.int (0 : Int32)), .val (.int (0 : Int32)), .unset] [(.int (ub2 &&& (255 : Int32))), (.int (((ub0 &&& (255 : Int32)) <<< ((16 : Int32) &&& 31)) ||| ((ub1 &&& (255 : Int32)) <<< ((8 : Int32) &&& 31))))]) _
    refine XS.ior X6.here hx rfl (hb hby d2_73) rfl ?_
    show own_S p e below T6 (mkF m 74 #[.val (.ref r0), .val (.ref b6), .val (.int (3 : Int32)), .val (.int (0 : Int32)), .val (.int (0 : Int32)), .unset] [(.int ((((ub0 &&& (255 : Int32)) <<< ((16 : Int32) &&& 31)) ||| ((ub1 &&& (255 : Int32)) <<< ((8 : Int32) &&& 31))) ||| (ub2 &&& (255 : Int32))))]) _
    refine XS.istore X6.here hx rfl (hb hby d2_74) rfl (l' := #[.val (.ref r0), .val (.ref b6), .val (.int (3 : Int32)), .val (.int (0 : Int32)), .val (.int (0 : Int32)), .val (.int ((((ub0 &&& (255 : Int32)) <<< ((16 : Int32) &&& 31)) ||| ((ub1 &&& (255 : Int32)) <<< ((8 : Int32) &&& 31))) ||| (ub2 &&& (255 : Int32))))]) rfl ?_
    exact k
  obtain ⟨x0, hx0⟩ : ∃ z : Int32, z = ((((ub0 &&& (255 : Int32)) <<< ((16 : Int32) &&& 31)) ||| ((ub1 &&& (255 : Int32)) <<< ((8 : Int32) &&& 31))) ||| (ub2 &&& (255 : Int32))) := ⟨_, rfl⟩
  rw [← hx0] at K18
  have hb_x0 : 0 ≤ x0.toInt ∧ x0.toInt < 16777216 := by rw [hx0]; exact (own_xb (own_m255 _) (own_m255 _) (own_m255 _) (own_x3i ub0 ub1 ub2))
  have K19 : own_K p e below SE T6 (mkF m 81 #[.val (.ref r0), .val (.ref b6), .val (.int (3 : Int32)), .val (.int (1 : Int32)), .val (.int (0 : Int32)), .val (.int x0)] [(.int (0 : Int32)), (.ref b6)]) := by
    intro t k
    refine K18 _ ?_
    refine XS.aloadN X6.here hx rfl (hb hby d2_76) rfl rfl ?_
    show own_S p e below T6 (mkF m 77 #[.val (.ref r0), .val (.ref b6), .val (.int (3 : Int32)), .val (.int (0 : Int32)), .val (.int (0 : Int32)), .val (.int x0)] [(.ref b6)]) _
    refine XS.iloadN X6.here hx rfl (hb hby d2_77) rfl ?_
    show own_S p e below T6 (mkF m 78 #[.val (.ref r0), .val (.ref b6), .val (.int (3 : Int32)), .val (.int (0 : Int32)), .val (.int (0 : Int32)), .val (.int x0)] [(.int (0 : Int32)), (.ref b6)]) _
    refine XS.iinc X6.here hx rfl (hb hby d2_78) rfl (l' := #[.val (.ref r0), .val (.ref b6), .val (.int (3 : Int32)), .val (.int (1 : Int32)), .val (.int (0 : Int32)), .val (.int x0)]) rfl ?_
    exact k
  obtain ⟨T20, X20, e20, st20⟩ := getS2 X6 hx hZ hown (host := "") (Or.inl (hw _ (List.mem_of_getElem? (i := 16) rfl))) Via.refl e6 (SA.ext (own_ext Kp6)) (g := (mkF m 81 #[.val (.ref r0), .val (.ref b6), .val (.int (3 : Int32)), .val (.int (1 : Int32)), .val (.int (0 : Int32)), .val (.int x0)] [(.int (0 : Int32)), (.ref b6)])) rfl (hb hby d2_81)
  have K20 : own_K p e below SE T20 (mkF m 84 #[.val (.ref r0), .val (.ref b6), .val (.int (3 : Int32)), .val (.int (1 : Int32)), .val (.int (0 : Int32)), .val (.int x0)] [(.ref oAL), (.int (0 : Int32)), (.ref b6)]) := fun t k => K19 _ (st20 _ k)
  have K21 : own_K p e below SE T20 (mkF m 89 #[.val (.ref r0), .val (.ref b6), .val (.int (3 : Int32)), .val (.int (1 : Int32)), .val (.int (0 : Int32)), .val (.int x0)] [(.int ((x0.toUInt32 >>> ((18 : Int32) &&& 31).toUInt32).toInt32)), (.ref oAL), (.int (0 : Int32)), (.ref b6)]) := by
    intro t k
    refine K20 _ ?_
    refine XS.iload X20.here hx rfl (hb hby d2_84) rfl ?_
    show own_S p e below T20 (mkF m 86 #[.val (.ref r0), .val (.ref b6), .val (.int (3 : Int32)), .val (.int (1 : Int32)), .val (.int (0 : Int32)), .val (.int x0)] [(.int x0), (.ref oAL), (.int (0 : Int32)), (.ref b6)]) _
    refine XS.bipush X20.here hx rfl (hb hby d2_86) ?_
    show own_S p e below T20 (mkF m 88 #[.val (.ref r0), .val (.ref b6), .val (.int (3 : Int32)), .val (.int (1 : Int32)), .val (.int (0 : Int32)), .val (.int x0)] [(.int (18 : Int32)), (.int x0), (.ref oAL), (.int (0 : Int32)), (.ref b6)]) _
    refine XS.iushr X20.here hx rfl (hb hby d2_88) rfl ?_
    exact k
  obtain ⟨Ar22, S22, Ng22, Hh22⟩ := id (TA.ext (own_ext Kp6))
  have hin22 : ¬ (((x0.toUInt32 >>> ((18 : Int32) &&& 31).toUInt32).toInt32) < 0 ∨ cA.slots.size ≤ (((x0.toUInt32 >>> ((18 : Int32) &&& 31).toUInt32).toInt32)).toNatClampNeg) := inb_of S22 (own_b18 _ hb_x0)
  have hat22 := Hh22 _ hin22
  have K23 : own_K p e below SE T20 (mkF m 90 #[.val (.ref r0), .val (.ref b6), .val (.int (3 : Int32)), .val (.int (1 : Int32)), .val (.int (0 : Int32)), .val (.int x0)] [(.int (atv cA ((x0.toUInt32 >>> ((18 : Int32) &&& 31).toUInt32).toInt32))), (.int (0 : Int32)), (.ref b6)]) := by
    intro t k
    refine K21 _ ?_
    refine X20.baloadBytes hx (j := ((x0.toUInt32 >>> ((18 : Int32) &&& 31).toUInt32).toInt32)) (v := (.int (atv cA ((x0.toUInt32 >>> ((18 : Int32) &&& 31).toUInt32).toInt32)))) (by rw [e20]; exact Ar22.1) (State.isArrayOf_alike hZ.alike Ar22.2.1) Ar22.2.2 hin22 hat22 (g := (mkF m 89 #[.val (.ref r0), .val (.ref b6), .val (.int (3 : Int32)), .val (.int (1 : Int32)), .val (.int (0 : Int32)), .val (.int x0)] [(.int ((x0.toUInt32 >>> ((18 : Int32) &&& 31).toUInt32).toInt32)), (.ref oAL), (.int (0 : Int32)), (.ref b6)])) rfl rfl (hb hby d2_89) _ ?_
    exact k
  obtain ⟨cl24, Ar24, qk24, S24, Ng24, Hh24, Gg24⟩ := id V6
  have hin24 : ¬ ((0 : Int32) < 0 ∨ cl24.slots.size ≤ ((0 : Int32)).toNatClampNeg) := inb_of S24 ⟨by decide, by decide⟩
  obtain ⟨T25, h25, X25, e25, W25, st25⟩ := stB X20 hx hZ e20 Ar24 (j := (0 : Int32)) hin24 (g := (mkF m 90 #[.val (.ref r0), .val (.ref b6), .val (.int (3 : Int32)), .val (.int (1 : Int32)), .val (.int (0 : Int32)), .val (.int x0)] [(.int (atv cA ((x0.toUInt32 >>> ((18 : Int32) &&& 31).toUInt32).toInt32))), (.int (0 : Int32)), (.ref b6)])) rfl rfl (hb hby d2_90)
  have V25 : Arv Z h25 b6 k6 .byte (6 : Int32) [(.int ((atv cA ((x0.toUInt32 >>> ((18 : Int32) &&& 31).toUInt32).toInt32))).toInt8.toInt32), (.int (0 : Int32)), (.int (0 : Int32)), (.int (0 : Int32)), (.int (0 : Int32)), (.int (0 : Int32))] (.int (0 : Int32)) := Arv.set Ar24 qk24 S24 Ng24 Hh24 Gg24 (fits_nar_byte _) W25 0 rfl (Nat.le_of_ble_eq_true rfl)
  have N25 := Fr.snoc X25 N0 g_b6
  have Kp25 : Keep h0 h25 [] := Keep.wr Kp6 W25 (Or.inr sz_b6)
  have K25 : own_K p e below SE T25 (mkF m 91 #[.val (.ref r0), .val (.ref b6), .val (.int (3 : Int32)), .val (.int (1 : Int32)), .val (.int (0 : Int32)), .val (.int x0)] []) := fun t k => K23 _ (st25 _ k)
  have K26 : own_K p e below SE T25 (mkF m 96 #[.val (.ref r0), .val (.ref b6), .val (.int (3 : Int32)), .val (.int (2 : Int32)), .val (.int (0 : Int32)), .val (.int x0)] [(.int (1 : Int32)), (.ref b6)]) := by
    intro t k
    refine K25 _ ?_
    refine XS.aloadN X25.here hx rfl (hb hby d2_91) rfl rfl ?_
    show own_S p e below T25 (mkF m 92 #[.val (.ref r0), .val (.ref b6), .val (.int (3 : Int32)), .val (.int (1 : Int32)), .val (.int (0 : Int32)), .val (.int x0)] [(.ref b6)]) _
    refine XS.iloadN X25.here hx rfl (hb hby d2_92) rfl ?_
    show own_S p e below T25 (mkF m 93 #[.val (.ref r0), .val (.ref b6), .val (.int (3 : Int32)), .val (.int (1 : Int32)), .val (.int (0 : Int32)), .val (.int x0)] [(.int (1 : Int32)), (.ref b6)]) _
    refine XS.iinc X25.here hx rfl (hb hby d2_93) rfl (l' := #[.val (.ref r0), .val (.ref b6), .val (.int (3 : Int32)), .val (.int (2 : Int32)), .val (.int (0 : Int32)), .val (.int x0)]) rfl ?_
    exact k
  obtain ⟨T27, X27, e27, st27⟩ := getS2 X25 hx hZ hown (host := "") (Or.inl (hw _ (List.mem_of_getElem? (i := 16) rfl))) Via.refl e25 (SA.ext (own_ext Kp25)) (g := (mkF m 96 #[.val (.ref r0), .val (.ref b6), .val (.int (3 : Int32)), .val (.int (2 : Int32)), .val (.int (0 : Int32)), .val (.int x0)] [(.int (1 : Int32)), (.ref b6)])) rfl (hb hby d2_96)
  have K27 : own_K p e below SE T27 (mkF m 99 #[.val (.ref r0), .val (.ref b6), .val (.int (3 : Int32)), .val (.int (2 : Int32)), .val (.int (0 : Int32)), .val (.int x0)] [(.ref oAL), (.int (1 : Int32)), (.ref b6)]) := fun t k => K26 _ (st27 _ k)
  have K28 : own_K p e below SE T27 (mkF m 107 #[.val (.ref r0), .val (.ref b6), .val (.int (3 : Int32)), .val (.int (2 : Int32)), .val (.int (0 : Int32)), .val (.int x0)] [(.int (((x0.toUInt32 >>> ((12 : Int32) &&& 31).toUInt32).toInt32) &&& (63 : Int32))), (.ref oAL), (.int (1 : Int32)), (.ref b6)]) := by
    intro t k
    refine K27 _ ?_
    refine XS.iload X27.here hx rfl (hb hby d2_99) rfl ?_
    show own_S p e below T27 (mkF m 101 #[.val (.ref r0), .val (.ref b6), .val (.int (3 : Int32)), .val (.int (2 : Int32)), .val (.int (0 : Int32)), .val (.int x0)] [(.int x0), (.ref oAL), (.int (1 : Int32)), (.ref b6)]) _
    refine XS.bipush X27.here hx rfl (hb hby d2_101) ?_
    show own_S p e below T27 (mkF m 103 #[.val (.ref r0), .val (.ref b6), .val (.int (3 : Int32)), .val (.int (2 : Int32)), .val (.int (0 : Int32)), .val (.int x0)] [(.int (12 : Int32)), (.int x0), (.ref oAL), (.int (1 : Int32)), (.ref b6)]) _
    refine XS.iushr X27.here hx rfl (hb hby d2_103) rfl ?_
    show own_S p e below T27 (mkF m 104 #[.val (.ref r0), .val (.ref b6), .val (.int (3 : Int32)), .val (.int (2 : Int32)), .val (.int (0 : Int32)), .val (.int x0)] [(.int ((x0.toUInt32 >>> ((12 : Int32) &&& 31).toUInt32).toInt32)), (.ref oAL), (.int (1 : Int32)), (.ref b6)]) _
    refine XS.bipush X27.here hx rfl (hb hby d2_104) ?_
    show own_S p e below T27 (mkF m 106 #[.val (.ref r0), .val (.ref b6), .val (.int (3 : Int32)), .val (.int (2 : Int32)), .val (.int (0 : Int32)), .val (.int x0)] [(.int (63 : Int32)), (.int ((x0.toUInt32 >>> ((12 : Int32) &&& 31).toUInt32).toInt32)), (.ref oAL), (.int (1 : Int32)), (.ref b6)]) _
    refine XS.iand X27.here hx rfl (hb hby d2_106) rfl ?_
    exact k
  obtain ⟨Ar29, S29, Ng29, Hh29⟩ := id (TA.ext (own_ext Kp25))
  have hin29 : ¬ ((((x0.toUInt32 >>> ((12 : Int32) &&& 31).toUInt32).toInt32) &&& (63 : Int32)) < 0 ∨ cA.slots.size ≤ ((((x0.toUInt32 >>> ((12 : Int32) &&& 31).toUInt32).toInt32) &&& (63 : Int32))).toNatClampNeg) := inb_of S29 (own_b63 _)
  have hat29 := Hh29 _ hin29
  have K30 : own_K p e below SE T27 (mkF m 108 #[.val (.ref r0), .val (.ref b6), .val (.int (3 : Int32)), .val (.int (2 : Int32)), .val (.int (0 : Int32)), .val (.int x0)] [(.int (atv cA (((x0.toUInt32 >>> ((12 : Int32) &&& 31).toUInt32).toInt32) &&& (63 : Int32)))), (.int (1 : Int32)), (.ref b6)]) := by
    intro t k
    refine K28 _ ?_
    refine X27.baloadBytes hx (j := (((x0.toUInt32 >>> ((12 : Int32) &&& 31).toUInt32).toInt32) &&& (63 : Int32))) (v := (.int (atv cA (((x0.toUInt32 >>> ((12 : Int32) &&& 31).toUInt32).toInt32) &&& (63 : Int32))))) (by rw [e27]; exact Ar29.1) (State.isArrayOf_alike hZ.alike Ar29.2.1) Ar29.2.2 hin29 hat29 (g := (mkF m 107 #[.val (.ref r0), .val (.ref b6), .val (.int (3 : Int32)), .val (.int (2 : Int32)), .val (.int (0 : Int32)), .val (.int x0)] [(.int (((x0.toUInt32 >>> ((12 : Int32) &&& 31).toUInt32).toInt32) &&& (63 : Int32))), (.ref oAL), (.int (1 : Int32)), (.ref b6)])) rfl rfl (hb hby d2_107) _ ?_
    exact k
  obtain ⟨cl31, Ar31, qk31, S31, Ng31, Hh31, Gg31⟩ := id V25
  have hin31 : ¬ ((1 : Int32) < 0 ∨ cl31.slots.size ≤ ((1 : Int32)).toNatClampNeg) := inb_of S31 ⟨by decide, by decide⟩
  obtain ⟨T32, h32, X32, e32, W32, st32⟩ := stB X27 hx hZ e27 Ar31 (j := (1 : Int32)) hin31 (g := (mkF m 108 #[.val (.ref r0), .val (.ref b6), .val (.int (3 : Int32)), .val (.int (2 : Int32)), .val (.int (0 : Int32)), .val (.int x0)] [(.int (atv cA (((x0.toUInt32 >>> ((12 : Int32) &&& 31).toUInt32).toInt32) &&& (63 : Int32)))), (.int (1 : Int32)), (.ref b6)])) rfl rfl (hb hby d2_108)
  have V32 : Arv Z h32 b6 k6 .byte (6 : Int32) [(.int ((atv cA ((x0.toUInt32 >>> ((18 : Int32) &&& 31).toUInt32).toInt32))).toInt8.toInt32), (.int ((atv cA (((x0.toUInt32 >>> ((12 : Int32) &&& 31).toUInt32).toInt32) &&& (63 : Int32)))).toInt8.toInt32), (.int (0 : Int32)), (.int (0 : Int32)), (.int (0 : Int32)), (.int (0 : Int32))] (.int (0 : Int32)) := Arv.set Ar31 qk31 S31 Ng31 Hh31 Gg31 (fits_nar_byte _) W32 1 rfl (Nat.le_of_ble_eq_true rfl)
  have N32 := Fr.snoc X32 N25 g_b6
  have Kp32 : Keep h0 h32 [] := Keep.wr Kp25 W32 (Or.inr sz_b6)
  have K32 : own_K p e below SE T32 (mkF m 109 #[.val (.ref r0), .val (.ref b6), .val (.int (3 : Int32)), .val (.int (2 : Int32)), .val (.int (0 : Int32)), .val (.int x0)] []) := fun t k => K30 _ (st32 _ k)
  have K33 : own_K p e below SE T32 (mkF m 114 #[.val (.ref r0), .val (.ref b6), .val (.int (3 : Int32)), .val (.int (3 : Int32)), .val (.int (0 : Int32)), .val (.int x0)] [(.int (2 : Int32)), (.ref b6)]) := by
    intro t k
    refine K32 _ ?_
    refine XS.aloadN X32.here hx rfl (hb hby d2_109) rfl rfl ?_
    show own_S p e below T32 (mkF m 110 #[.val (.ref r0), .val (.ref b6), .val (.int (3 : Int32)), .val (.int (2 : Int32)), .val (.int (0 : Int32)), .val (.int x0)] [(.ref b6)]) _
    refine XS.iloadN X32.here hx rfl (hb hby d2_110) rfl ?_
    show own_S p e below T32 (mkF m 111 #[.val (.ref r0), .val (.ref b6), .val (.int (3 : Int32)), .val (.int (2 : Int32)), .val (.int (0 : Int32)), .val (.int x0)] [(.int (2 : Int32)), (.ref b6)]) _
    refine XS.iinc X32.here hx rfl (hb hby d2_111) rfl (l' := #[.val (.ref r0), .val (.ref b6), .val (.int (3 : Int32)), .val (.int (3 : Int32)), .val (.int (0 : Int32)), .val (.int x0)]) rfl ?_
    exact k
  obtain ⟨T34, X34, e34, st34⟩ := getS2 X32 hx hZ hown (host := "") (Or.inl (hw _ (List.mem_of_getElem? (i := 16) rfl))) Via.refl e32 (SA.ext (own_ext Kp32)) (g := (mkF m 114 #[.val (.ref r0), .val (.ref b6), .val (.int (3 : Int32)), .val (.int (3 : Int32)), .val (.int (0 : Int32)), .val (.int x0)] [(.int (2 : Int32)), (.ref b6)])) rfl (hb hby d2_114)
  have K34 : own_K p e below SE T34 (mkF m 117 #[.val (.ref r0), .val (.ref b6), .val (.int (3 : Int32)), .val (.int (3 : Int32)), .val (.int (0 : Int32)), .val (.int x0)] [(.ref oAL), (.int (2 : Int32)), (.ref b6)]) := fun t k => K33 _ (st34 _ k)
  have K35 : own_K p e below SE T34 (mkF m 125 #[.val (.ref r0), .val (.ref b6), .val (.int (3 : Int32)), .val (.int (3 : Int32)), .val (.int (0 : Int32)), .val (.int x0)] [(.int (((x0.toUInt32 >>> ((6 : Int32) &&& 31).toUInt32).toInt32) &&& (63 : Int32))), (.ref oAL), (.int (2 : Int32)), (.ref b6)]) := by
    intro t k
    refine K34 _ ?_
    refine XS.iload X34.here hx rfl (hb hby d2_117) rfl ?_
    show own_S p e below T34 (mkF m 119 #[.val (.ref r0), .val (.ref b6), .val (.int (3 : Int32)), .val (.int (3 : Int32)), .val (.int (0 : Int32)), .val (.int x0)] [(.int x0), (.ref oAL), (.int (2 : Int32)), (.ref b6)]) _
    refine XS.bipush X34.here hx rfl (hb hby d2_119) ?_
    show own_S p e below T34 (mkF m 121 #[.val (.ref r0), .val (.ref b6), .val (.int (3 : Int32)), .val (.int (3 : Int32)), .val (.int (0 : Int32)), .val (.int x0)] [(.int (6 : Int32)), (.int x0), (.ref oAL), (.int (2 : Int32)), (.ref b6)]) _
    refine XS.iushr X34.here hx rfl (hb hby d2_121) rfl ?_
    show own_S p e below T34 (mkF m 122 #[.val (.ref r0), .val (.ref b6), .val (.int (3 : Int32)), .val (.int (3 : Int32)), .val (.int (0 : Int32)), .val (.int x0)] [(.int ((x0.toUInt32 >>> ((6 : Int32) &&& 31).toUInt32).toInt32)), (.ref oAL), (.int (2 : Int32)), (.ref b6)]) _
    refine XS.bipush X34.here hx rfl (hb hby d2_122) ?_
    show own_S p e below T34 (mkF m 124 #[.val (.ref r0), .val (.ref b6), .val (.int (3 : Int32)), .val (.int (3 : Int32)), .val (.int (0 : Int32)), .val (.int x0)] [(.int (63 : Int32)), (.int ((x0.toUInt32 >>> ((6 : Int32) &&& 31).toUInt32).toInt32)), (.ref oAL), (.int (2 : Int32)), (.ref b6)]) _
    refine XS.iand X34.here hx rfl (hb hby d2_124) rfl ?_
    exact k
  obtain ⟨Ar36, S36, Ng36, Hh36⟩ := id (TA.ext (own_ext Kp32))
  have hin36 : ¬ ((((x0.toUInt32 >>> ((6 : Int32) &&& 31).toUInt32).toInt32) &&& (63 : Int32)) < 0 ∨ cA.slots.size ≤ ((((x0.toUInt32 >>> ((6 : Int32) &&& 31).toUInt32).toInt32) &&& (63 : Int32))).toNatClampNeg) := inb_of S36 (own_b63 _)
  have hat36 := Hh36 _ hin36
  have K37 : own_K p e below SE T34 (mkF m 126 #[.val (.ref r0), .val (.ref b6), .val (.int (3 : Int32)), .val (.int (3 : Int32)), .val (.int (0 : Int32)), .val (.int x0)] [(.int (atv cA (((x0.toUInt32 >>> ((6 : Int32) &&& 31).toUInt32).toInt32) &&& (63 : Int32)))), (.int (2 : Int32)), (.ref b6)]) := by
    intro t k
    refine K35 _ ?_
    refine X34.baloadBytes hx (j := (((x0.toUInt32 >>> ((6 : Int32) &&& 31).toUInt32).toInt32) &&& (63 : Int32))) (v := (.int (atv cA (((x0.toUInt32 >>> ((6 : Int32) &&& 31).toUInt32).toInt32) &&& (63 : Int32))))) (by rw [e34]; exact Ar36.1) (State.isArrayOf_alike hZ.alike Ar36.2.1) Ar36.2.2 hin36 hat36 (g := (mkF m 125 #[.val (.ref r0), .val (.ref b6), .val (.int (3 : Int32)), .val (.int (3 : Int32)), .val (.int (0 : Int32)), .val (.int x0)] [(.int (((x0.toUInt32 >>> ((6 : Int32) &&& 31).toUInt32).toInt32) &&& (63 : Int32))), (.ref oAL), (.int (2 : Int32)), (.ref b6)])) rfl rfl (hb hby d2_125) _ ?_
    exact k
  obtain ⟨cl38, Ar38, qk38, S38, Ng38, Hh38, Gg38⟩ := id V32
  have hin38 : ¬ ((2 : Int32) < 0 ∨ cl38.slots.size ≤ ((2 : Int32)).toNatClampNeg) := inb_of S38 ⟨by decide, by decide⟩
  obtain ⟨T39, h39, X39, e39, W39, st39⟩ := stB X34 hx hZ e34 Ar38 (j := (2 : Int32)) hin38 (g := (mkF m 126 #[.val (.ref r0), .val (.ref b6), .val (.int (3 : Int32)), .val (.int (3 : Int32)), .val (.int (0 : Int32)), .val (.int x0)] [(.int (atv cA (((x0.toUInt32 >>> ((6 : Int32) &&& 31).toUInt32).toInt32) &&& (63 : Int32)))), (.int (2 : Int32)), (.ref b6)])) rfl rfl (hb hby d2_126)
  have V39 : Arv Z h39 b6 k6 .byte (6 : Int32) [(.int ((atv cA ((x0.toUInt32 >>> ((18 : Int32) &&& 31).toUInt32).toInt32))).toInt8.toInt32), (.int ((atv cA (((x0.toUInt32 >>> ((12 : Int32) &&& 31).toUInt32).toInt32) &&& (63 : Int32)))).toInt8.toInt32), (.int ((atv cA (((x0.toUInt32 >>> ((6 : Int32) &&& 31).toUInt32).toInt32) &&& (63 : Int32)))).toInt8.toInt32), (.int (0 : Int32)), (.int (0 : Int32)), (.int (0 : Int32))] (.int (0 : Int32)) := Arv.set Ar38 qk38 S38 Ng38 Hh38 Gg38 (fits_nar_byte _) W39 2 rfl (Nat.le_of_ble_eq_true rfl)
  have N39 := Fr.snoc X39 N32 g_b6
  have Kp39 : Keep h0 h39 [] := Keep.wr Kp32 W39 (Or.inr sz_b6)
  have K39 : own_K p e below SE T39 (mkF m 127 #[.val (.ref r0), .val (.ref b6), .val (.int (3 : Int32)), .val (.int (3 : Int32)), .val (.int (0 : Int32)), .val (.int x0)] []) := fun t k => K37 _ (st39 _ k)
  have K40 : own_K p e below SE T39 (mkF m 132 #[.val (.ref r0), .val (.ref b6), .val (.int (3 : Int32)), .val (.int (4 : Int32)), .val (.int (0 : Int32)), .val (.int x0)] [(.int (3 : Int32)), (.ref b6)]) := by
    intro t k
    refine K39 _ ?_
    refine XS.aloadN X39.here hx rfl (hb hby d2_127) rfl rfl ?_
    show own_S p e below T39 (mkF m 128 #[.val (.ref r0), .val (.ref b6), .val (.int (3 : Int32)), .val (.int (3 : Int32)), .val (.int (0 : Int32)), .val (.int x0)] [(.ref b6)]) _
    refine XS.iloadN X39.here hx rfl (hb hby d2_128) rfl ?_
    show own_S p e below T39 (mkF m 129 #[.val (.ref r0), .val (.ref b6), .val (.int (3 : Int32)), .val (.int (3 : Int32)), .val (.int (0 : Int32)), .val (.int x0)] [(.int (3 : Int32)), (.ref b6)]) _
    refine XS.iinc X39.here hx rfl (hb hby d2_129) rfl (l' := #[.val (.ref r0), .val (.ref b6), .val (.int (3 : Int32)), .val (.int (4 : Int32)), .val (.int (0 : Int32)), .val (.int x0)]) rfl ?_
    exact k
  obtain ⟨T41, X41, e41, st41⟩ := getS2 X39 hx hZ hown (host := "") (Or.inl (hw _ (List.mem_of_getElem? (i := 16) rfl))) Via.refl e39 (SA.ext (own_ext Kp39)) (g := (mkF m 132 #[.val (.ref r0), .val (.ref b6), .val (.int (3 : Int32)), .val (.int (4 : Int32)), .val (.int (0 : Int32)), .val (.int x0)] [(.int (3 : Int32)), (.ref b6)])) rfl (hb hby d2_132)
  have K41 : own_K p e below SE T41 (mkF m 135 #[.val (.ref r0), .val (.ref b6), .val (.int (3 : Int32)), .val (.int (4 : Int32)), .val (.int (0 : Int32)), .val (.int x0)] [(.ref oAL), (.int (3 : Int32)), (.ref b6)]) := fun t k => K40 _ (st41 _ k)
  have K42 : own_K p e below SE T41 (mkF m 140 #[.val (.ref r0), .val (.ref b6), .val (.int (3 : Int32)), .val (.int (4 : Int32)), .val (.int (0 : Int32)), .val (.int x0)] [(.int (x0 &&& (63 : Int32))), (.ref oAL), (.int (3 : Int32)), (.ref b6)]) := by
    intro t k
    refine K41 _ ?_
    refine XS.iload X41.here hx rfl (hb hby d2_135) rfl ?_
    show own_S p e below T41 (mkF m 137 #[.val (.ref r0), .val (.ref b6), .val (.int (3 : Int32)), .val (.int (4 : Int32)), .val (.int (0 : Int32)), .val (.int x0)] [(.int x0), (.ref oAL), (.int (3 : Int32)), (.ref b6)]) _
    refine XS.bipush X41.here hx rfl (hb hby d2_137) ?_
    show own_S p e below T41 (mkF m 139 #[.val (.ref r0), .val (.ref b6), .val (.int (3 : Int32)), .val (.int (4 : Int32)), .val (.int (0 : Int32)), .val (.int x0)] [(.int (63 : Int32)), (.int x0), (.ref oAL), (.int (3 : Int32)), (.ref b6)]) _
    refine XS.iand X41.here hx rfl (hb hby d2_139) rfl ?_
    exact k
  obtain ⟨Ar43, S43, Ng43, Hh43⟩ := id (TA.ext (own_ext Kp39))
  have hin43 : ¬ ((x0 &&& (63 : Int32)) < 0 ∨ cA.slots.size ≤ ((x0 &&& (63 : Int32))).toNatClampNeg) := inb_of S43 (own_b63 _)
  have hat43 := Hh43 _ hin43
  have K44 : own_K p e below SE T41 (mkF m 141 #[.val (.ref r0), .val (.ref b6), .val (.int (3 : Int32)), .val (.int (4 : Int32)), .val (.int (0 : Int32)), .val (.int x0)] [(.int (atv cA (x0 &&& (63 : Int32)))), (.int (3 : Int32)), (.ref b6)]) := by
    intro t k
    refine K42 _ ?_
    refine X41.baloadBytes hx (j := (x0 &&& (63 : Int32))) (v := (.int (atv cA (x0 &&& (63 : Int32))))) (by rw [e41]; exact Ar43.1) (State.isArrayOf_alike hZ.alike Ar43.2.1) Ar43.2.2 hin43 hat43 (g := (mkF m 140 #[.val (.ref r0), .val (.ref b6), .val (.int (3 : Int32)), .val (.int (4 : Int32)), .val (.int (0 : Int32)), .val (.int x0)] [(.int (x0 &&& (63 : Int32))), (.ref oAL), (.int (3 : Int32)), (.ref b6)])) rfl rfl (hb hby d2_140) _ ?_
    exact k
  obtain ⟨cl45, Ar45, qk45, S45, Ng45, Hh45, Gg45⟩ := id V39
  have hin45 : ¬ ((3 : Int32) < 0 ∨ cl45.slots.size ≤ ((3 : Int32)).toNatClampNeg) := inb_of S45 ⟨by decide, by decide⟩
  obtain ⟨T46, h46, X46, e46, W46, st46⟩ := stB X41 hx hZ e41 Ar45 (j := (3 : Int32)) hin45 (g := (mkF m 141 #[.val (.ref r0), .val (.ref b6), .val (.int (3 : Int32)), .val (.int (4 : Int32)), .val (.int (0 : Int32)), .val (.int x0)] [(.int (atv cA (x0 &&& (63 : Int32)))), (.int (3 : Int32)), (.ref b6)])) rfl rfl (hb hby d2_141)
  have V46 : Arv Z h46 b6 k6 .byte (6 : Int32) [(.int ((atv cA ((x0.toUInt32 >>> ((18 : Int32) &&& 31).toUInt32).toInt32))).toInt8.toInt32), (.int ((atv cA (((x0.toUInt32 >>> ((12 : Int32) &&& 31).toUInt32).toInt32) &&& (63 : Int32)))).toInt8.toInt32), (.int ((atv cA (((x0.toUInt32 >>> ((6 : Int32) &&& 31).toUInt32).toInt32) &&& (63 : Int32)))).toInt8.toInt32), (.int ((atv cA (x0 &&& (63 : Int32)))).toInt8.toInt32), (.int (0 : Int32)), (.int (0 : Int32))] (.int (0 : Int32)) := Arv.set Ar45 qk45 S45 Ng45 Hh45 Gg45 (fits_nar_byte _) W46 3 rfl (Nat.le_of_ble_eq_true rfl)
  have N46 := Fr.snoc X46 N39 g_b6
  have Kp46 : Keep h0 h46 [] := Keep.wr Kp39 W46 (Or.inr sz_b6)
  have K46 : own_K p e below SE T46 (mkF m 142 #[.val (.ref r0), .val (.ref b6), .val (.int (3 : Int32)), .val (.int (4 : Int32)), .val (.int (0 : Int32)), .val (.int x0)] []) := fun t k => K44 _ (st46 _ k)
  have K47 : own_K p e below SE T46 (mkF m 150 #[.val (.ref r0), .val (.ref b6), .val (.int (3 : Int32)), .val (.int (4 : Int32)), .val (.int (3 : Int32)), .val (.int x0)] [(.ref r0), (.int (3 : Int32))]) := by
    intro t k
    refine K46 _ ?_
    refine XS.iinc X46.here hx rfl (hb hby d2_142) rfl (l' := #[.val (.ref r0), .val (.ref b6), .val (.int (3 : Int32)), .val (.int (4 : Int32)), .val (.int (3 : Int32)), .val (.int x0)]) rfl ?_
    show own_S p e below T46 (mkF m 145 #[.val (.ref r0), .val (.ref b6), .val (.int (3 : Int32)), .val (.int (4 : Int32)), .val (.int (3 : Int32)), .val (.int x0)] []) _
    refine XS.goto X46.here hx rfl (pc0 := 145) (pc' := 32) rfl (hb hby d2_145) (by decide) (by decide) ?_
    show own_S p e below T46 (mkF m 32 #[.val (.ref r0), .val (.ref b6), .val (.int (3 : Int32)), .val (.int (4 : Int32)), .val (.int (3 : Int32)), .val (.int x0)] []) _
    refine XS.iload X46.here hx rfl (hb hby d2_32) rfl ?_
    show own_S p e below T46 (mkF m 34 #[.val (.ref r0), .val (.ref b6), .val (.int (3 : Int32)), .val (.int (4 : Int32)), .val (.int (3 : Int32)), .val (.int x0)] [(.int (3 : Int32))]) _
    refine XS.iloadN X46.here hx rfl (hb hby d2_34) rfl ?_
    show own_S p e below T46 (mkF m 35 #[.val (.ref r0), .val (.ref b6), .val (.int (3 : Int32)), .val (.int (4 : Int32)), .val (.int (3 : Int32)), .val (.int x0)] [(.int (3 : Int32)), (.int (3 : Int32))]) _
    refine XS.icmpYes X46.here hx rfl (pc0 := 35) (pc' := 148) rfl (hb hby d2_35) rfl (XT.ii_ge_t (by decide : ¬ ((3 : Int32) < (3 : Int32)))) (by decide) (by decide) ?_
    show own_S p e below T46 (mkF m 148 #[.val (.ref r0), .val (.ref b6), .val (.int (3 : Int32)), .val (.int (4 : Int32)), .val (.int (3 : Int32)), .val (.int x0)] []) _
    refine XS.iloadN X46.here hx rfl (hb hby d2_148) rfl ?_
    show own_S p e below T46 (mkF m 149 #[.val (.ref r0), .val (.ref b6), .val (.int (3 : Int32)), .val (.int (4 : Int32)), .val (.int (3 : Int32)), .val (.int x0)] [(.int (3 : Int32))]) _
    refine XS.aloadN X46.here hx rfl (hb hby d2_149) rfl rfl ?_
    exact k
  obtain ⟨cl48, Ar48, -, S48, Ng48, -, -⟩ := id (V_r0.ext (own_ext Kp46))
  have K49 : own_K p e below SE T46 (mkF m 156 #[.val (.ref r0), .val (.ref b6), .val (.int (3 : Int32)), .val (.int (4 : Int32)), .val (.int (3 : Int32)), .val (.int x0)] [(.int (3 : Int32)), (.ref r0)]) := by
    intro t k
    refine K47 _ ?_
    refine X46.arraylength hx (by rw [e46]; exact Ar48.1) (State.isArrayOf_alike hZ.alike Ar48.2.1) (g := (mkF m 150 #[.val (.ref r0), .val (.ref b6), .val (.int (3 : Int32)), .val (.int (4 : Int32)), .val (.int (3 : Int32)), .val (.int x0)] [(.ref r0), (.int (3 : Int32))])) rfl rfl (hb hby d2_150) _ ?_
    rw [len_of S48 Ng48]
    show own_S p e below T46 (mkF m 151 #[.val (.ref r0), .val (.ref b6), .val (.int (3 : Int32)), .val (.int (4 : Int32)), .val (.int (3 : Int32)), .val (.int x0)] [(.int (4 : Int32)), (.int (3 : Int32))]) _
    refine XS.icmpNo X46.here hx rfl (hb hby d2_151) rfl (XT.ii_ge_f (by decide : (3 : Int32) < (4 : Int32))) ?_
    show own_S p e below T46 (mkF m 154 #[.val (.ref r0), .val (.ref b6), .val (.int (3 : Int32)), .val (.int (4 : Int32)), .val (.int (3 : Int32)), .val (.int x0)] []) _
    refine XS.aloadN X46.here hx rfl (hb hby d2_154) rfl rfl ?_
    show own_S p e below T46 (mkF m 155 #[.val (.ref r0), .val (.ref b6), .val (.int (3 : Int32)), .val (.int (4 : Int32)), .val (.int (3 : Int32)), .val (.int x0)] [(.ref r0)]) _
    refine XS.iloadN X46.here hx rfl (hb hby d2_155) rfl ?_
    exact k
  obtain ⟨cl50, Ar50, qk50, S50, Ng50, Hh50, Gg50⟩ := id (V_r0.ext (own_ext Kp46))
  have hin50 : ¬ ((3 : Int32) < 0 ∨ cl50.slots.size ≤ ((3 : Int32)).toNatClampNeg) := inb_of S50 ⟨by decide, by decide⟩
  have hat50 : cl50.slots[((3 : Int32)).toNatClampNeg]? = some (.int ub3) := Has.at Hh50 hin50 rfl
  have K51 : own_K p e below SE T46 (mkF m 168 #[.val (.ref r0), .val (.ref b6), .val (.int (3 : Int32)), .val (.int (4 : Int32)), .val (.int (3 : Int32)), .val (.int x0)] [(.ref r0), (.int (4 : Int32)), (.int ((ub3 &&& (255 : Int32)) <<< ((16 : Int32) &&& 31)))]) := by
    intro t k
    refine K49 _ ?_
    refine X46.baloadBytes hx (j := (3 : Int32)) (v := (.int ub3)) (by rw [e46]; exact Ar50.1) (State.isArrayOf_alike hZ.alike Ar50.2.1) Ar50.2.2 hin50 hat50 (g := (mkF m 156 #[.val (.ref r0), .val (.ref b6), .val (.int (3 : Int32)), .val (.int (4 : Int32)), .val (.int (3 : Int32)), .val (.int x0)] [(.int (3 : Int32)), (.ref r0)])) rfl rfl (hb hby d2_156) _ ?_
    show own_S p e below T46 (mkF m 157 #[.val (.ref r0), .val (.ref b6), .val (.int (3 : Int32)), .val (.int (4 : Int32)), .val (.int (3 : Int32)), .val (.int x0)] [(.int ub3)]) _
    refine XS.sipush X46.here hx rfl (hb hby d2_157) ?_
    show own_S p e below T46 (mkF m 160 #[.val (.ref r0), .val (.ref b6), .val (.int (3 : Int32)), .val (.int (4 : Int32)), .val (.int (3 : Int32)), .val (.int x0)] [(.int (255 : Int32)), (.int ub3)]) _
    refine XS.iand X46.here hx rfl (hb hby d2_160) rfl ?_
    show own_S p e below T46 (mkF m 161 #[.val (.ref r0), .val (.ref b6), .val (.int (3 : Int32)), .val (.int (4 : Int32)), .val (.int (3 : Int32)), .val (.int x0)] [(.int (ub3 &&& (255 : Int32)))]) _
    refine XS.bipush X46.here hx rfl (hb hby d2_161) ?_
    show own_S p e below T46 (mkF m 163 #[.val (.ref r0), .val (.ref b6), .val (.int (3 : Int32)), .val (.int (4 : Int32)), .val (.int (3 : Int32)), .val (.int x0)] [(.int (16 : Int32)), (.int (ub3 &&& (255 : Int32)))]) _
    refine XS.ishl X46.here hx rfl (hb hby d2_163) rfl ?_
    show own_S p e below T46 (mkF m 164 #[.val (.ref r0), .val (.ref b6), .val (.int (3 : Int32)), .val (.int (4 : Int32)), .val (.int (3 : Int32)), .val (.int x0)] [(.int ((ub3 &&& (255 : Int32)) <<< ((16 : Int32) &&& 31)))]) _
    refine XS.iloadN X46.here hx rfl (hb hby d2_164) rfl ?_
    show own_S p e below T46 (mkF m 165 #[.val (.ref r0), .val (.ref b6), .val (.int (3 : Int32)), .val (.int (4 : Int32)), .val (.int (3 : Int32)), .val (.int x0)] [(.int (3 : Int32)), (.int ((ub3 &&& (255 : Int32)) <<< ((16 : Int32) &&& 31)))]) _
    refine XS.iconst X46.here hx rfl (hb hby d2_165) ?_
    show own_S p e below T46 (mkF m 166 #[.val (.ref r0), .val (.ref b6), .val (.int (3 : Int32)), .val (.int (4 : Int32)), .val (.int (3 : Int32)), .val (.int x0)] [(.int (1 : Int32)), (.int (3 : Int32)), (.int ((ub3 &&& (255 : Int32)) <<< ((16 : Int32) &&& 31)))]) _
    refine XS.iadd X46.here hx rfl (hb hby d2_166) rfl ?_
    show own_S p e below T46 (mkF m 167 #[.val (.ref r0), .val (.ref b6), .val (.int (3 : Int32)), .val (.int (4 : Int32)), .val (.int (3 : Int32)), .val (.int x0)] [(.int (4 : Int32)), (.int ((ub3 &&& (255 : Int32)) <<< ((16 : Int32) &&& 31)))]) _
    refine XS.aloadN X46.here hx rfl (hb hby d2_167) rfl rfl ?_
    exact k
  obtain ⟨cl52, Ar52, -, S52, Ng52, -, -⟩ := id (V_r0.ext (own_ext Kp46))
  have K53 : own_K p e below SE T46 (mkF m 191 #[.val (.ref r0), .val (.ref b6), .val (.int (3 : Int32)), .val (.int (4 : Int32)), .val (.int (((ub3 &&& (255 : Int32)) <<< ((16 : Int32) &&& 31)) ||| (0 : Int32))), .val (.int x0)] []) := by
    intro t k
    refine K51 _ ?_
    refine X46.arraylength hx (by rw [e46]; exact Ar52.1) (State.isArrayOf_alike hZ.alike Ar52.2.1) (g := (mkF m 168 #[.val (.ref r0), .val (.ref b6), .val (.int (3 : Int32)), .val (.int (4 : Int32)), .val (.int (3 : Int32)), .val (.int x0)] [(.ref r0), (.int (4 : Int32)), (.int ((ub3 &&& (255 : Int32)) <<< ((16 : Int32) &&& 31)))])) rfl rfl (hb hby d2_168) _ ?_
    rw [len_of S52 Ng52]
    show own_S p e below T46 (mkF m 169 #[.val (.ref r0), .val (.ref b6), .val (.int (3 : Int32)), .val (.int (4 : Int32)), .val (.int (3 : Int32)), .val (.int x0)] [(.int (4 : Int32)), (.int (4 : Int32)), (.int ((ub3 &&& (255 : Int32)) <<< ((16 : Int32) &&& 31)))]) _
    refine XS.icmpYes X46.here hx rfl (pc0 := 169) (pc' := 187) rfl (hb hby d2_169) rfl (XT.ii_ge_t (by decide : ¬ ((4 : Int32) < (4 : Int32)))) (by decide) (by decide) ?_
    show own_S p e below T46 (mkF m 187 #[.val (.ref r0), .val (.ref b6), .val (.int (3 : Int32)), .val (.int (4 : Int32)), .val (.int (3 : Int32)), .val (.int x0)] [(.int ((ub3 &&& (255 : Int32)) <<< ((16 : Int32) &&& 31)))]) _
    refine XS.iconst X46.here hx rfl (hb hby d2_187) ?_
    show own_S p e below T46 (mkF m 188 #[.val (.ref r0), .val (.ref b6), .val (.int (3 : Int32)), .val (.int (4 : Int32)), .val (.int (3 : Int32)), .val (.int x0)] [(.int (0 : Int32)), (.int ((ub3 &&& (255 : Int32)) <<< ((16 : Int32) &&& 31)))]) _
    refine XS.ior X46.here hx rfl (hb hby d2_188) rfl ?_
    show own_S p e below T46 (mkF m 189 #[.val (.ref r0), .val (.ref b6), .val (.int (3 : Int32)), .val (.int (4 : Int32)), .val (.int (3 : Int32)), .val (.int x0)] [(.int (((ub3 &&& (255 : Int32)) <<< ((16 : Int32) &&& 31)) ||| (0 : Int32)))]) _
    refine XS.istore X46.here hx rfl (hb hby d2_189) rfl (l' := #[.val (.ref r0), .val (.ref b6), .val (.int (3 : Int32)), .val (.int (4 : Int32)), .val (.int (((ub3 &&& (255 : Int32)) <<< ((16 : Int32) &&& 31)) ||| (0 : Int32))), .val (.int x0)]) rfl ?_
    exact k
  obtain ⟨x1, hx1⟩ : ∃ z : Int32, z = (((ub3 &&& (255 : Int32)) <<< ((16 : Int32) &&& 31)) ||| (0 : Int32)) := ⟨_, rfl⟩
  rw [← hx1] at K53
  have hb_x1 : 0 ≤ x1.toInt ∧ x1.toInt < 16777216 := by rw [hx1]; exact (own_xb (own_m255 _) own_r0 own_r0 (own_x1i ub3))
  have K54 : own_K p e below SE T46 (mkF m 196 #[.val (.ref r0), .val (.ref b6), .val (.int (3 : Int32)), .val (.int (5 : Int32)), .val (.int x1), .val (.int x0)] [(.int (4 : Int32)), (.ref b6)]) := by
    intro t k
    refine K53 _ ?_
    refine XS.aloadN X46.here hx rfl (hb hby d2_191) rfl rfl ?_
    show own_S p e below T46 (mkF m 192 #[.val (.ref r0), .val (.ref b6), .val (.int (3 : Int32)), .val (.int (4 : Int32)), .val (.int x1), .val (.int x0)] [(.ref b6)]) _
    refine XS.iloadN X46.here hx rfl (hb hby d2_192) rfl ?_
    show own_S p e below T46 (mkF m 193 #[.val (.ref r0), .val (.ref b6), .val (.int (3 : Int32)), .val (.int (4 : Int32)), .val (.int x1), .val (.int x0)] [(.int (4 : Int32)), (.ref b6)]) _
    refine XS.iinc X46.here hx rfl (hb hby d2_193) rfl (l' := #[.val (.ref r0), .val (.ref b6), .val (.int (3 : Int32)), .val (.int (5 : Int32)), .val (.int x1), .val (.int x0)]) rfl ?_
    exact k
  obtain ⟨T55, X55, e55, st55⟩ := getS2 X46 hx hZ hown (host := "") (Or.inl (hw _ (List.mem_of_getElem? (i := 16) rfl))) Via.refl e46 (SA.ext (own_ext Kp46)) (g := (mkF m 196 #[.val (.ref r0), .val (.ref b6), .val (.int (3 : Int32)), .val (.int (5 : Int32)), .val (.int x1), .val (.int x0)] [(.int (4 : Int32)), (.ref b6)])) rfl (hb hby d2_196)
  have K55 : own_K p e below SE T55 (mkF m 199 #[.val (.ref r0), .val (.ref b6), .val (.int (3 : Int32)), .val (.int (5 : Int32)), .val (.int x1), .val (.int x0)] [(.ref oAL), (.int (4 : Int32)), (.ref b6)]) := fun t k => K54 _ (st55 _ k)
  have K56 : own_K p e below SE T55 (mkF m 204 #[.val (.ref r0), .val (.ref b6), .val (.int (3 : Int32)), .val (.int (5 : Int32)), .val (.int x1), .val (.int x0)] [(.int ((x1.toUInt32 >>> ((18 : Int32) &&& 31).toUInt32).toInt32)), (.ref oAL), (.int (4 : Int32)), (.ref b6)]) := by
    intro t k
    refine K55 _ ?_
    refine XS.iload X55.here hx rfl (hb hby d2_199) rfl ?_
    show own_S p e below T55 (mkF m 201 #[.val (.ref r0), .val (.ref b6), .val (.int (3 : Int32)), .val (.int (5 : Int32)), .val (.int x1), .val (.int x0)] [(.int x1), (.ref oAL), (.int (4 : Int32)), (.ref b6)]) _
    refine XS.bipush X55.here hx rfl (hb hby d2_201) ?_
    show own_S p e below T55 (mkF m 203 #[.val (.ref r0), .val (.ref b6), .val (.int (3 : Int32)), .val (.int (5 : Int32)), .val (.int x1), .val (.int x0)] [(.int (18 : Int32)), (.int x1), (.ref oAL), (.int (4 : Int32)), (.ref b6)]) _
    refine XS.iushr X55.here hx rfl (hb hby d2_203) rfl ?_
    exact k
  obtain ⟨Ar57, S57, Ng57, Hh57⟩ := id (TA.ext (own_ext Kp46))
  have hin57 : ¬ (((x1.toUInt32 >>> ((18 : Int32) &&& 31).toUInt32).toInt32) < 0 ∨ cA.slots.size ≤ (((x1.toUInt32 >>> ((18 : Int32) &&& 31).toUInt32).toInt32)).toNatClampNeg) := inb_of S57 (own_b18 _ hb_x1)
  have hat57 := Hh57 _ hin57
  have K58 : own_K p e below SE T55 (mkF m 205 #[.val (.ref r0), .val (.ref b6), .val (.int (3 : Int32)), .val (.int (5 : Int32)), .val (.int x1), .val (.int x0)] [(.int (atv cA ((x1.toUInt32 >>> ((18 : Int32) &&& 31).toUInt32).toInt32))), (.int (4 : Int32)), (.ref b6)]) := by
    intro t k
    refine K56 _ ?_
    refine X55.baloadBytes hx (j := ((x1.toUInt32 >>> ((18 : Int32) &&& 31).toUInt32).toInt32)) (v := (.int (atv cA ((x1.toUInt32 >>> ((18 : Int32) &&& 31).toUInt32).toInt32)))) (by rw [e55]; exact Ar57.1) (State.isArrayOf_alike hZ.alike Ar57.2.1) Ar57.2.2 hin57 hat57 (g := (mkF m 204 #[.val (.ref r0), .val (.ref b6), .val (.int (3 : Int32)), .val (.int (5 : Int32)), .val (.int x1), .val (.int x0)] [(.int ((x1.toUInt32 >>> ((18 : Int32) &&& 31).toUInt32).toInt32)), (.ref oAL), (.int (4 : Int32)), (.ref b6)])) rfl rfl (hb hby d2_204) _ ?_
    exact k
  obtain ⟨cl59, Ar59, qk59, S59, Ng59, Hh59, Gg59⟩ := id V46
  have hin59 : ¬ ((4 : Int32) < 0 ∨ cl59.slots.size ≤ ((4 : Int32)).toNatClampNeg) := inb_of S59 ⟨by decide, by decide⟩
  obtain ⟨T60, h60, X60, e60, W60, st60⟩ := stB X55 hx hZ e55 Ar59 (j := (4 : Int32)) hin59 (g := (mkF m 205 #[.val (.ref r0), .val (.ref b6), .val (.int (3 : Int32)), .val (.int (5 : Int32)), .val (.int x1), .val (.int x0)] [(.int (atv cA ((x1.toUInt32 >>> ((18 : Int32) &&& 31).toUInt32).toInt32))), (.int (4 : Int32)), (.ref b6)])) rfl rfl (hb hby d2_205)
  have V60 : Arv Z h60 b6 k6 .byte (6 : Int32) [(.int ((atv cA ((x0.toUInt32 >>> ((18 : Int32) &&& 31).toUInt32).toInt32))).toInt8.toInt32), (.int ((atv cA (((x0.toUInt32 >>> ((12 : Int32) &&& 31).toUInt32).toInt32) &&& (63 : Int32)))).toInt8.toInt32), (.int ((atv cA (((x0.toUInt32 >>> ((6 : Int32) &&& 31).toUInt32).toInt32) &&& (63 : Int32)))).toInt8.toInt32), (.int ((atv cA (x0 &&& (63 : Int32)))).toInt8.toInt32), (.int ((atv cA ((x1.toUInt32 >>> ((18 : Int32) &&& 31).toUInt32).toInt32))).toInt8.toInt32), (.int (0 : Int32))] (.int (0 : Int32)) := Arv.set Ar59 qk59 S59 Ng59 Hh59 Gg59 (fits_nar_byte _) W60 4 rfl (Nat.le_of_ble_eq_true rfl)
  have N60 := Fr.snoc X60 N46 g_b6
  have Kp60 : Keep h0 h60 [] := Keep.wr Kp46 W60 (Or.inr sz_b6)
  have K60 : own_K p e below SE T60 (mkF m 206 #[.val (.ref r0), .val (.ref b6), .val (.int (3 : Int32)), .val (.int (5 : Int32)), .val (.int x1), .val (.int x0)] []) := fun t k => K58 _ (st60 _ k)
  have K61 : own_K p e below SE T60 (mkF m 211 #[.val (.ref r0), .val (.ref b6), .val (.int (3 : Int32)), .val (.int (6 : Int32)), .val (.int x1), .val (.int x0)] [(.int (5 : Int32)), (.ref b6)]) := by
    intro t k
    refine K60 _ ?_
    refine XS.aloadN X60.here hx rfl (hb hby d2_206) rfl rfl ?_
    show own_S p e below T60 (mkF m 207 #[.val (.ref r0), .val (.ref b6), .val (.int (3 : Int32)), .val (.int (5 : Int32)), .val (.int x1), .val (.int x0)] [(.ref b6)]) _
    refine XS.iloadN X60.here hx rfl (hb hby d2_207) rfl ?_
    show own_S p e below T60 (mkF m 208 #[.val (.ref r0), .val (.ref b6), .val (.int (3 : Int32)), .val (.int (5 : Int32)), .val (.int x1), .val (.int x0)] [(.int (5 : Int32)), (.ref b6)]) _
    refine XS.iinc X60.here hx rfl (hb hby d2_208) rfl (l' := #[.val (.ref r0), .val (.ref b6), .val (.int (3 : Int32)), .val (.int (6 : Int32)), .val (.int x1), .val (.int x0)]) rfl ?_
    exact k
  obtain ⟨T62, X62, e62, st62⟩ := getS2 X60 hx hZ hown (host := "") (Or.inl (hw _ (List.mem_of_getElem? (i := 16) rfl))) Via.refl e60 (SA.ext (own_ext Kp60)) (g := (mkF m 211 #[.val (.ref r0), .val (.ref b6), .val (.int (3 : Int32)), .val (.int (6 : Int32)), .val (.int x1), .val (.int x0)] [(.int (5 : Int32)), (.ref b6)])) rfl (hb hby d2_211)
  have K62 : own_K p e below SE T62 (mkF m 214 #[.val (.ref r0), .val (.ref b6), .val (.int (3 : Int32)), .val (.int (6 : Int32)), .val (.int x1), .val (.int x0)] [(.ref oAL), (.int (5 : Int32)), (.ref b6)]) := fun t k => K61 _ (st62 _ k)
  have K63 : own_K p e below SE T62 (mkF m 222 #[.val (.ref r0), .val (.ref b6), .val (.int (3 : Int32)), .val (.int (6 : Int32)), .val (.int x1), .val (.int x0)] [(.int (((x1.toUInt32 >>> ((12 : Int32) &&& 31).toUInt32).toInt32) &&& (63 : Int32))), (.ref oAL), (.int (5 : Int32)), (.ref b6)]) := by
    intro t k
    refine K62 _ ?_
    refine XS.iload X62.here hx rfl (hb hby d2_214) rfl ?_
    show own_S p e below T62 (mkF m 216 #[.val (.ref r0), .val (.ref b6), .val (.int (3 : Int32)), .val (.int (6 : Int32)), .val (.int x1), .val (.int x0)] [(.int x1), (.ref oAL), (.int (5 : Int32)), (.ref b6)]) _
    refine XS.bipush X62.here hx rfl (hb hby d2_216) ?_
    show own_S p e below T62 (mkF m 218 #[.val (.ref r0), .val (.ref b6), .val (.int (3 : Int32)), .val (.int (6 : Int32)), .val (.int x1), .val (.int x0)] [(.int (12 : Int32)), (.int x1), (.ref oAL), (.int (5 : Int32)), (.ref b6)]) _
    refine XS.iushr X62.here hx rfl (hb hby d2_218) rfl ?_
    show own_S p e below T62 (mkF m 219 #[.val (.ref r0), .val (.ref b6), .val (.int (3 : Int32)), .val (.int (6 : Int32)), .val (.int x1), .val (.int x0)] [(.int ((x1.toUInt32 >>> ((12 : Int32) &&& 31).toUInt32).toInt32)), (.ref oAL), (.int (5 : Int32)), (.ref b6)]) _
    refine XS.bipush X62.here hx rfl (hb hby d2_219) ?_
    show own_S p e below T62 (mkF m 221 #[.val (.ref r0), .val (.ref b6), .val (.int (3 : Int32)), .val (.int (6 : Int32)), .val (.int x1), .val (.int x0)] [(.int (63 : Int32)), (.int ((x1.toUInt32 >>> ((12 : Int32) &&& 31).toUInt32).toInt32)), (.ref oAL), (.int (5 : Int32)), (.ref b6)]) _
    refine XS.iand X62.here hx rfl (hb hby d2_221) rfl ?_
    exact k
  obtain ⟨Ar64, S64, Ng64, Hh64⟩ := id (TA.ext (own_ext Kp60))
  have hin64 : ¬ ((((x1.toUInt32 >>> ((12 : Int32) &&& 31).toUInt32).toInt32) &&& (63 : Int32)) < 0 ∨ cA.slots.size ≤ ((((x1.toUInt32 >>> ((12 : Int32) &&& 31).toUInt32).toInt32) &&& (63 : Int32))).toNatClampNeg) := inb_of S64 (own_b63 _)
  have hat64 := Hh64 _ hin64
  have K65 : own_K p e below SE T62 (mkF m 223 #[.val (.ref r0), .val (.ref b6), .val (.int (3 : Int32)), .val (.int (6 : Int32)), .val (.int x1), .val (.int x0)] [(.int (atv cA (((x1.toUInt32 >>> ((12 : Int32) &&& 31).toUInt32).toInt32) &&& (63 : Int32)))), (.int (5 : Int32)), (.ref b6)]) := by
    intro t k
    refine K63 _ ?_
    refine X62.baloadBytes hx (j := (((x1.toUInt32 >>> ((12 : Int32) &&& 31).toUInt32).toInt32) &&& (63 : Int32))) (v := (.int (atv cA (((x1.toUInt32 >>> ((12 : Int32) &&& 31).toUInt32).toInt32) &&& (63 : Int32))))) (by rw [e62]; exact Ar64.1) (State.isArrayOf_alike hZ.alike Ar64.2.1) Ar64.2.2 hin64 hat64 (g := (mkF m 222 #[.val (.ref r0), .val (.ref b6), .val (.int (3 : Int32)), .val (.int (6 : Int32)), .val (.int x1), .val (.int x0)] [(.int (((x1.toUInt32 >>> ((12 : Int32) &&& 31).toUInt32).toInt32) &&& (63 : Int32))), (.ref oAL), (.int (5 : Int32)), (.ref b6)])) rfl rfl (hb hby d2_222) _ ?_
    exact k
  obtain ⟨cl66, Ar66, qk66, S66, Ng66, Hh66, Gg66⟩ := id V60
  have hin66 : ¬ ((5 : Int32) < 0 ∨ cl66.slots.size ≤ ((5 : Int32)).toNatClampNeg) := inb_of S66 ⟨by decide, by decide⟩
  obtain ⟨T67, h67, X67, e67, W67, st67⟩ := stB X62 hx hZ e62 Ar66 (j := (5 : Int32)) hin66 (g := (mkF m 223 #[.val (.ref r0), .val (.ref b6), .val (.int (3 : Int32)), .val (.int (6 : Int32)), .val (.int x1), .val (.int x0)] [(.int (atv cA (((x1.toUInt32 >>> ((12 : Int32) &&& 31).toUInt32).toInt32) &&& (63 : Int32)))), (.int (5 : Int32)), (.ref b6)])) rfl rfl (hb hby d2_223)
  have V67 : Arv Z h67 b6 k6 .byte (6 : Int32) [(.int ((atv cA ((x0.toUInt32 >>> ((18 : Int32) &&& 31).toUInt32).toInt32))).toInt8.toInt32), (.int ((atv cA (((x0.toUInt32 >>> ((12 : Int32) &&& 31).toUInt32).toInt32) &&& (63 : Int32)))).toInt8.toInt32), (.int ((atv cA (((x0.toUInt32 >>> ((6 : Int32) &&& 31).toUInt32).toInt32) &&& (63 : Int32)))).toInt8.toInt32), (.int ((atv cA (x0 &&& (63 : Int32)))).toInt8.toInt32), (.int ((atv cA ((x1.toUInt32 >>> ((18 : Int32) &&& 31).toUInt32).toInt32))).toInt8.toInt32), (.int ((atv cA (((x1.toUInt32 >>> ((12 : Int32) &&& 31).toUInt32).toInt32) &&& (63 : Int32)))).toInt8.toInt32)] (.int (0 : Int32)) := Arv.set Ar66 qk66 S66 Ng66 Hh66 Gg66 (fits_nar_byte _) W67 5 rfl (Nat.le_of_ble_eq_true rfl)
  have N67 := Fr.snoc X67 N60 g_b6
  have Kp67 : Keep h0 h67 [] := Keep.wr Kp60 W67 (Or.inr sz_b6)
  have K67 : own_K p e below SE T67 (mkF m 224 #[.val (.ref r0), .val (.ref b6), .val (.int (3 : Int32)), .val (.int (6 : Int32)), .val (.int x1), .val (.int x0)] []) := fun t k => K65 _ (st67 _ k)
  have K68 : own_K p e below SE T67 (mkF m 226 #[.val (.ref r0), .val (.ref b6), .val (.int (3 : Int32)), .val (.int (6 : Int32)), .val (.int x1), .val (.int x0)] [(.ref b6), (.int (6 : Int32))]) := by
    intro t k
    refine K67 _ ?_
    refine XS.iloadN X67.here hx rfl (hb hby d2_224) rfl ?_
    show own_S p e below T67 (mkF m 225 #[.val (.ref r0), .val (.ref b6), .val (.int (3 : Int32)), .val (.int (6 : Int32)), .val (.int x1), .val (.int x0)] [(.int (6 : Int32))]) _
    refine XS.aloadN X67.here hx rfl (hb hby d2_225) rfl rfl ?_
    exact k
  obtain ⟨cl69, Ar69, -, S69, Ng69, -, -⟩ := id V67
  have K70 : own_K p e below SE T67 (mkF m 246 #[.val (.ref r0), .val (.ref b6), .val (.int (3 : Int32)), .val (.int (6 : Int32)), .val (.int x1), .val (.int x0)] [(.ref b6)]) := by
    intro t k
    refine K68 _ ?_
    refine X67.arraylength hx (by rw [e67]; exact Ar69.1) (State.isArrayOf_alike hZ.alike Ar69.2.1) (g := (mkF m 226 #[.val (.ref r0), .val (.ref b6), .val (.int (3 : Int32)), .val (.int (6 : Int32)), .val (.int x1), .val (.int x0)] [(.ref b6), (.int (6 : Int32))])) rfl rfl (hb hby d2_226) _ ?_
    rw [len_of S69 Ng69]
    show own_S p e below T67 (mkF m 227 #[.val (.ref r0), .val (.ref b6), .val (.int (3 : Int32)), .val (.int (6 : Int32)), .val (.int x1), .val (.int x0)] [(.int (6 : Int32)), (.int (6 : Int32))]) _
    refine XS.icmpYes X67.here hx rfl (pc0 := 227) (pc' := 245) rfl (hb hby d2_227) rfl (XT.ii_ge_t (by decide : ¬ ((6 : Int32) < (6 : Int32)))) (by decide) (by decide) ?_
    show own_S p e below T67 (mkF m 245 #[.val (.ref r0), .val (.ref b6), .val (.int (3 : Int32)), .val (.int (6 : Int32)), .val (.int x1), .val (.int x0)] []) _
    refine XS.aloadN X67.here hx rfl (hb hby d2_245) rfl rfl ?_
    exact k
  subst hx0
  subst hx1
  obtain ⟨fs, hr, hrun, hended, hW, hsame⟩ := X67.leave (v := some (.ref b6)) (fun h => by rw [Bd.returns] at h; cases h)
  refine ⟨_, _, K70 _ ?_, hrun, hended, _, _, rfl, ?_, ⟨_, rfl⟩, hW, hsame.mono (by decide) (by decide)⟩
  · show Steps p.tables e below (T67.setTop (mkF m 246 #[.val (.ref r0), .val (.ref b6), .val (.int (3 : Int32)), .val (.int (6 : Int32)), .val (.int (((ub3 &&& (255 : Int32)) <<< ((16 : Int32) &&& 31)) ||| (0 : Int32))), .val (.int ((((ub0 &&& (255 : Int32)) <<< ((16 : Int32) &&& 31)) ||| ((ub1 &&& (255 : Int32)) <<< ((8 : Int32) &&& 31))) ||| (ub2 &&& (255 : Int32))))] [(.ref b6)])) _
    jvm_step X67.here [X67.here.top, hx, (hb hby d2_246), X67.method', Bd.returns, Value.isRef, FieldType.isReference]
    first | (intro acts; rw [hr _ acts rfl rfl rfl]) | rw [hr _ _ rfl rfl rfl]
    exact Steps.refl _
  · show Q2_4 Z r0 kA oAL cA ub0 ub1 ub2 ub3 h0 n0 _ T67.heap _
    rw [e67]
    exact ⟨congrArg (fun z => some (Value.ref z)) g6, N67, Kp67, _, (g6 ▸ V67)⟩
theorem ef_2_5 (m : MethodId) (r0 : Addr) : entryFrame m #[(.ref r0)] 6 = mkF m 0 #[.val (.ref r0), .unset, .unset, .unset, .unset, .unset] [] := by first | (simp [entryFrame, mkF, argsToLocals, Value.category]; done) | rfl
def Q2_5 (Z : State) (r0 : Addr) (kA : ClassId) (oAL : Addr) (cA : Cell) (ub0 : Int32) (ub1 : Int32) (ub2 : Int32) (ub3 : Int32) (ub4 : Int32) (h0 : Heap) (n0 : Nat) (v : Option Value) (h : Heap) (L : List Loc) : Prop := v = some (.ref h0.size) ∧ Fr n0 L ∧ Keep h0 h [] ∧ ∃ kT, Arv Z h h0.size kT .byte (7 : Int32) [(.int (atv cA ((((((ub0 &&& (255 : Int32)) <<< ((16 : Int32) &&& 31)) ||| ((ub1 &&& (255 : Int32)) <<< ((8 : Int32) &&& 31))) ||| (ub2 &&& (255 : Int32))).toUInt32 >>> ((18 : Int32) &&& 31).toUInt32).toInt32)).toInt8.toInt32), (.int (atv cA (((((((ub0 &&& (255 : Int32)) <<< ((16 : Int32) &&& 31)) ||| ((ub1 &&& (255 : Int32)) <<< ((8 : Int32) &&& 31))) ||| (ub2 &&& (255 : Int32))).toUInt32 >>> ((12 : Int32) &&& 31).toUInt32).toInt32) &&& (63 : Int32))).toInt8.toInt32), (.int (atv cA (((((((ub0 &&& (255 : Int32)) <<< ((16 : Int32) &&& 31)) ||| ((ub1 &&& (255 : Int32)) <<< ((8 : Int32) &&& 31))) ||| (ub2 &&& (255 : Int32))).toUInt32 >>> ((6 : Int32) &&& 31).toUInt32).toInt32) &&& (63 : Int32))).toInt8.toInt32), (.int (atv cA (((((ub0 &&& (255 : Int32)) <<< ((16 : Int32) &&& 31)) ||| ((ub1 &&& (255 : Int32)) <<< ((8 : Int32) &&& 31))) ||| (ub2 &&& (255 : Int32))) &&& (63 : Int32))).toInt8.toInt32), (.int (atv cA (((((ub3 &&& (255 : Int32)) <<< ((16 : Int32) &&& 31)) ||| ((ub4 &&& (255 : Int32)) <<< ((8 : Int32) &&& 31))).toUInt32 >>> ((18 : Int32) &&& 31).toUInt32).toInt32)).toInt8.toInt32), (.int (atv cA ((((((ub3 &&& (255 : Int32)) <<< ((16 : Int32) &&& 31)) ||| ((ub4 &&& (255 : Int32)) <<< ((8 : Int32) &&& 31))).toUInt32 >>> ((12 : Int32) &&& 31).toUInt32).toInt32) &&& (63 : Int32))).toInt8.toInt32), (.int (atv cA ((((((ub3 &&& (255 : Int32)) <<< ((16 : Int32) &&& 31)) ||| ((ub4 &&& (255 : Int32)) <<< ((8 : Int32) &&& 31))).toUInt32 >>> ((6 : Int32) &&& 31).toUInt32).toInt32) &&& (63 : Int32))).toInt8.toInt32)] (.int (0 : Int32))
set_option maxRecDepth 65536 in
set_option maxHeartbeats 40000000 in
theorem rm2_5 (l : Launch) (Z : State) (a0 : Array Value) (hw : ∀ d ∈ tables_1, d.before a0 Z = true) (ws : List Jvm.Cond) (r0 : Addr) (kA : ClassId) (oAL : Addr) (cA : Cell) (ub0 : Int32) (ub1 : Int32) (ub2 : Int32) (ub3 : Int32) (ub4 : Int32) (h0 : Heap) (n0 : Nat) (Z0 : n0 ≤ h0.size) (V_r0 : Arv Z h0 r0 kA .byte (5 : Int32) [(.int ub0), (.int ub1), (.int ub2), (.int ub3), (.int ub4)] (.int (0 : Int32))) (SA : Sta Z h0 "com/example/whorl/whorl/Base64url" "ALPHABET" "[B" (.ref oAL)) (TA : Tab Z h0 oAL cA .byte (64 : Int32)) :
    MetFree l (⟨"com/example/whorl/whorl/Base64url", "text", "([B)[B"⟩ : MethodName) (head1 (Jvm.Cond.code (⟨"com/example/whorl/whorl/Base64url", "text", "([B)[B"⟩ : MethodName) prog_1_method_3_code 6 (some (.array .byte)) :: ws) ({ frames := 0, cells := 1, slots := 7, locals := 0 } : Room)) (fun a U => a = #[(.ref r0)] ∧ Z.Warmed39 U.vm ∧ U.heap = h0) (fun _ _ _ _ _ => True) (fun _ U o U' => ∃ v L, o = .returned v ∧ Q2_5 Z r0 kA oAL cA ub0 ub1 ub2 ub3 ub4 h0 n0 v U'.heap L ∧ FrameEnd U o U' L ({ frames := 0, cells := 1, slots := 7, locals := 0 } : Room).cells ({ frames := 0, cells := 1, slots := 7, locals := 0 } : Room).slots) := by
  refine MetFree.of_bodySF (plainFor_of_name pn_2) hisR ?_
  intro p e s m args below meth c s₁ Bd hml0 hP hK
  obtain ⟨rfl, hZ, hh⟩ := hP
  have hx := Bd.exec
  have hby := Bd.bytes
  have hml : c.maxLocals = 6 := hml0
  have hown : s.vm.findClass "com/example/whorl/whorl/Base64url" = some m.cls := findClass_of_methodNamed Bd.named
  have hnm := (name_of_methodNamed Bd.named Bd.method).1
  have X0 : Stand p l e ({ frames := 0, cells := 1, slots := 7, locals := 0 } : Room) s m #[(.ref r0)] below meth c s₁ [] 0 0 := Stand.of_body Bd
  have e0 : s₁.heap = h0 := by rw [← hh, Bd.state]; rfl
  have N0 := Fr.nil n0
  have K0 : ∀ t, Steps p.tables e below (s₁.setTop (mkF m 0 #[.val (.ref r0), .unset, .unset, .unset, .unset, .unset] [])) t → Steps p.tables e below (s₁.setTop (entryFrame m #[(.ref r0)] 6)) t := fun t k => castTop (ef_2_5 m r0) k
  generalize s₁.setTop (entryFrame m #[(.ref r0)] 6) = SE at K0 ⊢
  have K1 : own_K p e below SE s₁ (mkF m 1 #[.val (.ref r0), .unset, .unset, .unset, .unset, .unset] [(.ref r0)]) := by
    intro t k
    refine K0 _ ?_
    refine XS.aloadN X0.here hx rfl (hb hby d2_0) rfl rfl ?_
    exact k
  obtain ⟨cl2, Ar2, -, S2, Ng2, -, -⟩ := id V_r0
  have K3 : own_K p e below SE s₁ (mkF m 3 #[.val (.ref r0), .unset, .unset, .unset, .unset, .unset] [(.long (((5 : Int32)).toInt64))]) := by
    intro t k
    refine K1 _ ?_
    refine X0.arraylength hx (by rw [e0]; exact Ar2.1) (State.isArrayOf_alike hZ.alike Ar2.2.1) (g := (mkF m 1 #[.val (.ref r0), .unset, .unset, .unset, .unset, .unset] [(.ref r0)])) rfl rfl (hb hby d2_1) _ ?_
    rw [len_of S2 Ng2]
    show own_S p e below s₁ (mkF m 2 #[.val (.ref r0), .unset, .unset, .unset, .unset, .unset] [(.int (5 : Int32))]) _
    refine XS.i2l X0.here hx rfl (hb hby d2_2) rfl ?_
    exact k
  rw [(by decide : (((5 : Int32)).toInt64) = (5 : Int64))] at K3
  have K4 : own_K p e below SE s₁ (mkF m 15 #[.val (.ref r0), .unset, .unset, .unset, .unset, .unset] [(.long ((22 : Int64) / (3 : Int64)))]) := by
    intro t k
    refine K3 _ ?_
    refine Stand.ldc2J X0 hx hown (mvT hZ (hw _ (List.mem_of_getElem? (i := 10) rfl))) (v := (4 : Int64)) (g := (mkF m 3 #[.val (.ref r0), .unset, .unset, .unset, .unset, .unset] [(.long (5 : Int64))])) rfl (hb hby d2_3) ?_
    show own_S p e below s₁ (mkF m 6 #[.val (.ref r0), .unset, .unset, .unset, .unset, .unset] [(.long (4 : Int64)), (.long (5 : Int64))]) _
    refine XS.lmul X0.here hx rfl (hb hby d2_6) rfl ?_
    show own_S p e below s₁ (mkF m 7 #[.val (.ref r0), .unset, .unset, .unset, .unset, .unset] [(.long (20 : Int64))]) _
    refine Stand.ldc2J X0 hx hown (mvT hZ (hw _ (List.mem_of_getElem? (i := 11) rfl))) (v := (2 : Int64)) (g := (mkF m 7 #[.val (.ref r0), .unset, .unset, .unset, .unset, .unset] [(.long (20 : Int64))])) rfl (hb hby d2_7) ?_
    show own_S p e below s₁ (mkF m 10 #[.val (.ref r0), .unset, .unset, .unset, .unset, .unset] [(.long (2 : Int64)), (.long (20 : Int64))]) _
    refine XS.ladd X0.here hx rfl (hb hby d2_10) rfl ?_
    show own_S p e below s₁ (mkF m 11 #[.val (.ref r0), .unset, .unset, .unset, .unset, .unset] [(.long (22 : Int64))]) _
    refine Stand.ldc2J X0 hx hown (mvT hZ (hw _ (List.mem_of_getElem? (i := 12) rfl))) (v := (3 : Int64)) (g := (mkF m 11 #[.val (.ref r0), .unset, .unset, .unset, .unset, .unset] [(.long (22 : Int64))])) rfl (hb hby d2_11) ?_
    show own_S p e below s₁ (mkF m 14 #[.val (.ref r0), .unset, .unset, .unset, .unset, .unset] [(.long (3 : Int64)), (.long (22 : Int64))]) _
    refine XS.ldiv X0.here hx rfl (hb hby d2_14) rfl (by decide) ?_
    exact k
  rw [(by decide : ((22 : Int64) / (3 : Int64)) = (7 : Int64))] at K4
  have K5 : own_K p e below SE s₁ (mkF m 16 #[.val (.ref r0), .unset, .unset, .unset, .unset, .unset] [(.int (((7 : Int64)).toInt32))]) := by
    intro t k
    refine K4 _ ?_
    refine XS.l2i X0.here hx rfl (hb hby d2_15) rfl ?_
    exact k
  rw [(by decide : (((7 : Int64)).toInt32) = (7 : Int32))] at K5
  obtain ⟨T6, h6, k6, X6, e6, E6, A6, st6⟩ := newP X0 hx hZ (hw _ (List.mem_of_getElem? (i := 1) rfl)) e0 (g := (mkF m 16 #[.val (.ref r0), .unset, .unset, .unset, .unset, .unset] [(.int (7 : Int32))])) rfl (hb hby d2_16) rfl (by decide) (cap := 7) (by decide) (by decide) (by decide) (by decide)
  obtain ⟨b6, g6⟩ : ∃ z, z = h0.size := ⟨_, rfl⟩
  rw [← g6] at A6 st6
  have g_b6 : n0 ≤ b6 := Nat.le_trans Z0 (Nat.le_of_eq g6.symm)
  have sz_b6 : h0.size ≤ b6 := Nat.le_trans (Nat.le_refl _) (Nat.le_of_eq g6.symm)
  have own_ne_r0_b6 : r0 ≠ b6 := Nat.ne_of_lt (Nat.lt_of_lt_of_le V_r0.lt (Nat.le_of_eq g6.symm))
  have Kp6 : Keep h0 h6 [] := Keep.ext (Keep.refl h0 []) E6
  have V6 : Arv Z h6 b6 k6 .byte (7 : Int32) [(.int (0 : Int32)), (.int (0 : Int32)), (.int (0 : Int32)), (.int (0 : Int32)), (.int (0 : Int32)), (.int (0 : Int32)), (.int (0 : Int32))] (.int (0 : Int32)) := (Arv.new A6 (by decide)).pad (pad_rep [] (.int (0 : Int32)) 7)
  have K6 : own_K p e below SE T6 (mkF m 18 #[.val (.ref r0), .unset, .unset, .unset, .unset, .unset] [(.ref b6)]) := fun t k => K5 _ (st6 _ k)
  have K7 : own_K p e below SE T6 (mkF m 20 #[.val (.ref r0), .val (.ref b6), .unset, .unset, .unset, .unset] [(.ref r0)]) := by
    intro t k
    refine K6 _ ?_
    refine XS.astoreN X6.here hx rfl (hb hby d2_18) rfl rfl (l' := #[.val (.ref r0), .val (.ref b6), .unset, .unset, .unset, .unset]) rfl ?_
    show own_S p e below T6 (mkF m 19 #[.val (.ref r0), .val (.ref b6), .unset, .unset, .unset, .unset] []) _
    refine XS.aloadN X6.here hx rfl (hb hby d2_19) rfl rfl ?_
    exact k
  obtain ⟨cl8, Ar8, -, S8, Ng8, -, -⟩ := id (V_r0.ext (own_ext Kp6))
  have K9 : own_K p e below SE T6 (mkF m 22 #[.val (.ref r0), .val (.ref b6), .unset, .unset, .unset, .unset] [(.ref r0), (.int (5 : Int32))]) := by
    intro t k
    refine K7 _ ?_
    refine X6.arraylength hx (by rw [e6]; exact Ar8.1) (State.isArrayOf_alike hZ.alike Ar8.2.1) (g := (mkF m 20 #[.val (.ref r0), .val (.ref b6), .unset, .unset, .unset, .unset] [(.ref r0)])) rfl rfl (hb hby d2_20) _ ?_
    rw [len_of S8 Ng8]
    show own_S p e below T6 (mkF m 21 #[.val (.ref r0), .val (.ref b6), .unset, .unset, .unset, .unset] [(.int (5 : Int32))]) _
    refine XS.aloadN X6.here hx rfl (hb hby d2_21) rfl rfl ?_
    exact k
  obtain ⟨cl10, Ar10, -, S10, Ng10, -, -⟩ := id (V_r0.ext (own_ext Kp6))
  have K11 : own_K p e below SE T6 (mkF m 25 #[.val (.ref r0), .val (.ref b6), .unset, .unset, .unset, .unset] [(.int ((5 : Int32) % (3 : Int32))), (.int (5 : Int32))]) := by
    intro t k
    refine K9 _ ?_
    refine X6.arraylength hx (by rw [e6]; exact Ar10.1) (State.isArrayOf_alike hZ.alike Ar10.2.1) (g := (mkF m 22 #[.val (.ref r0), .val (.ref b6), .unset, .unset, .unset, .unset] [(.ref r0), (.int (5 : Int32))])) rfl rfl (hb hby d2_22) _ ?_
    rw [len_of S10 Ng10]
    show own_S p e below T6 (mkF m 23 #[.val (.ref r0), .val (.ref b6), .unset, .unset, .unset, .unset] [(.int (5 : Int32)), (.int (5 : Int32))]) _
    refine XS.iconst X6.here hx rfl (hb hby d2_23) ?_
    show own_S p e below T6 (mkF m 24 #[.val (.ref r0), .val (.ref b6), .unset, .unset, .unset, .unset] [(.int (3 : Int32)), (.int (5 : Int32)), (.int (5 : Int32))]) _
    refine iremM X6 hx rfl (hb hby d2_24) rfl (by decide) ?_
    exact k
  rw [(by decide : ((5 : Int32) % (3 : Int32)) = (2 : Int32))] at K11
  have K12 : own_K p e below SE T6 (mkF m 41 #[.val (.ref r0), .val (.ref b6), .val (.int (3 : Int32)), .val (.int (0 : Int32)), .val (.int (0 : Int32)), .unset] [(.int (0 : Int32)), (.ref r0)]) := by
    intro t k
    refine K11 _ ?_
    refine XS.isub X6.here hx rfl (hb hby d2_25) rfl ?_
    show own_S p e below T6 (mkF m 26 #[.val (.ref r0), .val (.ref b6), .unset, .unset, .unset, .unset] [(.int (3 : Int32))]) _
    refine XS.istoreN X6.here hx rfl (hb hby d2_26) rfl (l' := #[.val (.ref r0), .val (.ref b6), .val (.int (3 : Int32)), .unset, .unset, .unset]) rfl ?_
    show own_S p e below T6 (mkF m 27 #[.val (.ref r0), .val (.ref b6), .val (.int (3 : Int32)), .unset, .unset, .unset] []) _
    refine XS.iconst X6.here hx rfl (hb hby d2_27) ?_
    show own_S p e below T6 (mkF m 28 #[.val (.ref r0), .val (.ref b6), .val (.int (3 : Int32)), .unset, .unset, .unset] [(.int (0 : Int32))]) _
    refine XS.istoreN X6.here hx rfl (hb hby d2_28) rfl (l' := #[.val (.ref r0), .val (.ref b6), .val (.int (3 : Int32)), .val (.int (0 : Int32)), .unset, .unset]) rfl ?_
    show own_S p e below T6 (mkF m 29 #[.val (.ref r0), .val (.ref b6), .val (.int (3 : Int32)), .val (.int (0 : Int32)), .unset, .unset] []) _
    refine XS.iconst X6.here hx rfl (hb hby d2_29) ?_
    show own_S p e below T6 (mkF m 30 #[.val (.ref r0), .val (.ref b6), .val (.int (3 : Int32)), .val (.int (0 : Int32)), .unset, .unset] [(.int (0 : Int32))]) _
    refine XS.istore X6.here hx rfl (hb hby d2_30) rfl (l' := #[.val (.ref r0), .val (.ref b6), .val (.int (3 : Int32)), .val (.int (0 : Int32)), .val (.int (0 : Int32)), .unset]) rfl ?_
    show own_S p e below T6 (mkF m 32 #[.val (.ref r0), .val (.ref b6), .val (.int (3 : Int32)), .val (.int (0 : Int32)), .val (.int (0 : Int32)), .unset] []) _
    refine XS.iload X6.here hx rfl (hb hby d2_32) rfl ?_
    show own_S p e below T6 (mkF m 34 #[.val (.ref r0), .val (.ref b6), .val (.int (3 : Int32)), .val (.int (0 : Int32)), .val (.int (0 : Int32)), .unset] [(.int (0 : Int32))]) _
    refine XS.iloadN X6.here hx rfl (hb hby d2_34) rfl ?_
    show own_S p e below T6 (mkF m 35 #[.val (.ref r0), .val (.ref b6), .val (.int (3 : Int32)), .val (.int (0 : Int32)), .val (.int (0 : Int32)), .unset] [(.int (3 : Int32)), (.int (0 : Int32))]) _
    refine XS.icmpNo X6.here hx rfl (hb hby d2_35) rfl (XT.ii_ge_f (by decide : (0 : Int32) < (3 : Int32))) ?_
    show own_S p e below T6 (mkF m 38 #[.val (.ref r0), .val (.ref b6), .val (.int (3 : Int32)), .val (.int (0 : Int32)), .val (.int (0 : Int32)), .unset] []) _
    refine XS.aloadN X6.here hx rfl (hb hby d2_38) rfl rfl ?_
    show own_S p e below T6 (mkF m 39 #[.val (.ref r0), .val (.ref b6), .val (.int (3 : Int32)), .val (.int (0 : Int32)), .val (.int (0 : Int32)), .unset] [(.ref r0)]) _
    refine XS.iload X6.here hx rfl (hb hby d2_39) rfl ?_
    exact k
  obtain ⟨cl13, Ar13, qk13, S13, Ng13, Hh13, Gg13⟩ := id (V_r0.ext (own_ext Kp6))
  have hin13 : ¬ ((0 : Int32) < 0 ∨ cl13.slots.size ≤ ((0 : Int32)).toNatClampNeg) := inb_of S13 ⟨by decide, by decide⟩
  have hat13 : cl13.slots[((0 : Int32)).toNatClampNeg]? = some (.int ub0) := Has.at Hh13 hin13 rfl
  have K14 : own_K p e below SE T6 (mkF m 54 #[.val (.ref r0), .val (.ref b6), .val (.int (3 : Int32)), .val (.int (0 : Int32)), .val (.int (0 : Int32)), .unset] [(.int (1 : Int32)), (.ref r0), (.int ((ub0 &&& (255 : Int32)) <<< ((16 : Int32) &&& 31)))]) := by
    intro t k
    refine K12 _ ?_
    refine X6.baloadBytes hx (j := (0 : Int32)) (v := (.int ub0)) (by rw [e6]; exact Ar13.1) (State.isArrayOf_alike hZ.alike Ar13.2.1) Ar13.2.2 hin13 hat13 (g := (mkF m 41 #[.val (.ref r0), .val (.ref b6), .val (.int (3 : Int32)), .val (.int (0 : Int32)), .val (.int (0 : Int32)), .unset] [(.int (0 : Int32)), (.ref r0)])) rfl rfl (hb hby d2_41) _ ?_
    show own_S p e below T6 (mkF m 42 #[.val (.ref r0), .val (.ref b6), .val (.int (3 : Int32)), .val (.int (0 : Int32)), .val (.int (0 : Int32)), .unset] [(.int ub0)]) _
    refine XS.sipush X6.here hx rfl (hb hby d2_42) ?_
    show own_S p e below T6 (mkF m 45 #[.val (.ref r0), .val (.ref b6), .val (.int (3 : Int32)), .val (.int (0 : Int32)), .val (.int (0 : Int32)), .unset] [(.int (255 : Int32)), (.int ub0)]) _
    refine XS.iand X6.here hx rfl (hb hby d2_45) rfl ?_
    show own_S p e below T6 (mkF m 46 #[.val (.ref r0), .val (.ref b6), .val (.int (3 : Int32)), .val (.int (0 : Int32)), .val (.int (0 : Int32)), .unset] [(.int (ub0 &&& (255 : Int32)))]) _
    refine XS.bipush X6.here hx rfl (hb hby d2_46) ?_
    show own_S p e below T6 (mkF m 48 #[.val (.ref r0), .val (.ref b6), .val (.int (3 : Int32)), .val (.int (0 : Int32)), .val (.int (0 : Int32)), .unset] [(.int (16 : Int32)), (.int (ub0 &&& (255 : Int32)))]) _
    refine XS.ishl X6.here hx rfl (hb hby d2_48) rfl ?_
    show own_S p e below T6 (mkF m 49 #[.val (.ref r0), .val (.ref b6), .val (.int (3 : Int32)), .val (.int (0 : Int32)), .val (.int (0 : Int32)), .unset] [(.int ((ub0 &&& (255 : Int32)) <<< ((16 : Int32) &&& 31)))]) _
    refine XS.aloadN X6.here hx rfl (hb hby d2_49) rfl rfl ?_
    show own_S p e below T6 (mkF m 50 #[.val (.ref r0), .val (.ref b6), .val (.int (3 : Int32)), .val (.int (0 : Int32)), .val (.int (0 : Int32)), .unset] [(.ref r0), (.int ((ub0 &&& (255 : Int32)) <<< ((16 : Int32) &&& 31)))]) _
    refine XS.iload X6.here hx rfl (hb hby d2_50) rfl ?_
    show own_S p e below T6 (mkF m 52 #[.val (.ref r0), .val (.ref b6), .val (.int (3 : Int32)), .val (.int (0 : Int32)), .val (.int (0 : Int32)), .unset] [(.int (0 : Int32)), (.ref r0), (.int ((ub0 &&& (255 : Int32)) <<< ((16 : Int32) &&& 31)))]) _
    refine XS.iconst X6.here hx rfl (hb hby d2_52) ?_
    show own_S p e below T6 (mkF m 53 #[.val (.ref r0), .val (.ref b6), .val (.int (3 : Int32)), .val (.int (0 : Int32)), .val (.int (0 : Int32)), .unset] [(.int (1 : Int32)), (.int (0 : Int32)), (.ref r0), (.int ((ub0 &&& (255 : Int32)) <<< ((16 : Int32) &&& 31)))]) _
    refine XS.iadd X6.here hx rfl (hb hby d2_53) rfl ?_
    exact k
  obtain ⟨cl15, Ar15, qk15, S15, Ng15, Hh15, Gg15⟩ := id (V_r0.ext (own_ext Kp6))
  have hin15 : ¬ ((1 : Int32) < 0 ∨ cl15.slots.size ≤ ((1 : Int32)).toNatClampNeg) := inb_of S15 ⟨by decide, by decide⟩
  have hat15 : cl15.slots[((1 : Int32)).toNatClampNeg]? = some (.int ub1) := Has.at Hh15 hin15 rfl
  have K16 : own_K p e below SE T6 (mkF m 68 #[.val (.ref r0), .val (.ref b6), .val (.int (3 : Int32)), .val (.int (0 : Int32)), .val (.int (0 : Int32)), .unset] [(.int (2 : Int32)), (.ref r0), (.int (((ub0 &&& (255 : Int32)) <<< ((16 : Int32) &&& 31)) ||| ((ub1 &&& (255 : Int32)) <<< ((8 : Int32) &&& 31))))]) := by
    intro t k
    refine K14 _ ?_
    refine X6.baloadBytes hx (j := (1 : Int32)) (v := (.int ub1)) (by rw [e6]; exact Ar15.1) (State.isArrayOf_alike hZ.alike Ar15.2.1) Ar15.2.2 hin15 hat15 (g := (mkF m 54 #[.val (.ref r0), .val (.ref b6), .val (.int (3 : Int32)), .val (.int (0 : Int32)), .val (.int (0 : Int32)), .unset] [(.int (1 : Int32)), (.ref r0), (.int ((ub0 &&& (255 : Int32)) <<< ((16 : Int32) &&& 31)))])) rfl rfl (hb hby d2_54) _ ?_
    show own_S p e below T6 (mkF m 55 #[.val (.ref r0), .val (.ref b6), .val (.int (3 : Int32)), .val (.int (0 : Int32)), .val (.int (0 : Int32)), .unset] [(.int ub1), (.int ((ub0 &&& (255 : Int32)) <<< ((16 : Int32) &&& 31)))]) _
    refine XS.sipush X6.here hx rfl (hb hby d2_55) ?_
    show own_S p e below T6 (mkF m 58 #[.val (.ref r0), .val (.ref b6), .val (.int (3 : Int32)), .val (.int (0 : Int32)), .val (.int (0 : Int32)), .unset] [(.int (255 : Int32)), (.int ub1), (.int ((ub0 &&& (255 : Int32)) <<< ((16 : Int32) &&& 31)))]) _
    refine XS.iand X6.here hx rfl (hb hby d2_58) rfl ?_
    show own_S p e below T6 (mkF m 59 #[.val (.ref r0), .val (.ref b6), .val (.int (3 : Int32)), .val (.int (0 : Int32)), .val (.int (0 : Int32)), .unset] [(.int (ub1 &&& (255 : Int32))), (.int ((ub0 &&& (255 : Int32)) <<< ((16 : Int32) &&& 31)))]) _
    refine XS.bipush X6.here hx rfl (hb hby d2_59) ?_
    show own_S p e below T6 (mkF m 61 #[.val (.ref r0), .val (.ref b6), .val (.int (3 : Int32)), .val (.int (0 : Int32)), .val (.int (0 : Int32)), .unset] [(.int (8 : Int32)), (.int (ub1 &&& (255 : Int32))), (.int ((ub0 &&& (255 : Int32)) <<< ((16 : Int32) &&& 31)))]) _
    refine XS.ishl X6.here hx rfl (hb hby d2_61) rfl ?_
    show own_S p e below T6 (mkF m 62 #[.val (.ref r0), .val (.ref b6), .val (.int (3 : Int32)), .val (.int (0 : Int32)), .val (.int (0 : Int32)), .unset] [(.int ((ub1 &&& (255 : Int32)) <<< ((8 : Int32) &&& 31))), (.int ((ub0 &&& (255 : Int32)) <<< ((16 : Int32) &&& 31)))]) _
    refine XS.ior X6.here hx rfl (hb hby d2_62) rfl ?_
    show own_S p e below T6 (mkF m 63 #[.val (.ref r0), .val (.ref b6), .val (.int (3 : Int32)), .val (.int (0 : Int32)), .val (.int (0 : Int32)), .unset] [(.int (((ub0 &&& (255 : Int32)) <<< ((16 : Int32) &&& 31)) ||| ((ub1 &&& (255 : Int32)) <<< ((8 : Int32) &&& 31))))]) _
    refine XS.aloadN X6.here hx rfl (hb hby d2_63) rfl rfl ?_
    show own_S p e below T6 (mkF m 64 #[.val (.ref r0), .val (.ref b6), .val (.int (3 : Int32)), .val (.int (0 : Int32)), .val (.int (0 : Int32)), .unset] [(.ref r0), (.int (((ub0 &&& (255 : Int32)) <<< ((16 : Int32) &&& 31)) ||| ((ub1 &&& (255 : Int32)) <<< ((8 : Int32) &&& 31))))]) _
    refine XS.iload X6.here hx rfl (hb hby d2_64) rfl ?_
    show own_S p e below T6 (mkF m 66 #[.val (.ref r0), .val (.ref b6), .val (.int (3 : Int32)), .val (.int (0 : Int32)), .val (.int (0 : Int32)), .unset] [(.int (0 : Int32)), (.ref r0), (.int (((ub0 &&& (255 : Int32)) <<< ((16 : Int32) &&& 31)) ||| ((ub1 &&& (255 : Int32)) <<< ((8 : Int32) &&& 31))))]) _
    refine XS.iconst X6.here hx rfl (hb hby d2_66) ?_
    show own_S p e below T6 (mkF m 67 #[.val (.ref r0), .val (.ref b6), .val (.int (3 : Int32)), .val (.int (0 : Int32)), .val (.int (0 : Int32)), .unset] [(.int (2 : Int32)), (.int (0 : Int32)), (.ref r0), (.int (((ub0 &&& (255 : Int32)) <<< ((16 : Int32) &&& 31)) ||| ((ub1 &&& (255 : Int32)) <<< ((8 : Int32) &&& 31))))]) _
    refine XS.iadd X6.here hx rfl (hb hby d2_67) rfl ?_
    exact k
  obtain ⟨cl17, Ar17, qk17, S17, Ng17, Hh17, Gg17⟩ := id (V_r0.ext (own_ext Kp6))
  have hin17 : ¬ ((2 : Int32) < 0 ∨ cl17.slots.size ≤ ((2 : Int32)).toNatClampNeg) := inb_of S17 ⟨by decide, by decide⟩
  have hat17 : cl17.slots[((2 : Int32)).toNatClampNeg]? = some (.int ub2) := Has.at Hh17 hin17 rfl
  have K18 : own_K p e below SE T6 (mkF m 76 #[.val (.ref r0), .val (.ref b6), .val (.int (3 : Int32)), .val (.int (0 : Int32)), .val (.int (0 : Int32)), .val (.int ((((ub0 &&& (255 : Int32)) <<< ((16 : Int32) &&& 31)) ||| ((ub1 &&& (255 : Int32)) <<< ((8 : Int32) &&& 31))) ||| (ub2 &&& (255 : Int32))))] []) := by
    intro t k
    refine K16 _ ?_
    refine X6.baloadBytes hx (j := (2 : Int32)) (v := (.int ub2)) (by rw [e6]; exact Ar17.1) (State.isArrayOf_alike hZ.alike Ar17.2.1) Ar17.2.2 hin17 hat17 (g := (mkF m 68 #[.val (.ref r0), .val (.ref b6), .val (.int (3 : Int32)), .val (.int (0 : Int32)), .val (.int (0 : Int32)), .unset] [(.int (2 : Int32)), (.ref r0), (.int (((ub0 &&& (255 : Int32)) <<< ((16 : Int32) &&& 31)) ||| ((ub1 &&& (255 : Int32)) <<< ((8 : Int32) &&& 31))))])) rfl rfl (hb hby d2_68) _ ?_
    show own_S p e below T6 (mkF m 69 #[.val (.ref r0), .val (.ref b6), .val (.int (3 : Int32)), .val (.int (0 : Int32)), .val (.int (0 : Int32)), .unset] [(.int ub2), (.int (((ub0 &&& (255 : Int32)) <<< ((16 : Int32) &&& 31)) ||| ((ub1 &&& (255 : Int32)) <<< ((8 : Int32) &&& 31))))]) _
    refine XS.sipush X6.here hx rfl (hb hby d2_69) ?_
    show own_S p e below T6 (mkF m 72 #[.val (.ref r0), .val (.ref b6), .val (.int (3 : Int32)), .val (.int (0 : Int32)), .val (.int (0 : Int32)), .unset] [(.int (255 : Int32)), (.int ub2), (.int (((ub0 &&& (255 : Int32)) <<< ((16 : Int32) &&& 31)) ||| ((ub1 &&& (255 : Int32)) <<< ((8 : Int32) &&& 31))))]) _
    refine XS.iand X6.here hx rfl (hb hby d2_72) rfl ?_
    show own_S p e below T6 (mkF m 73 #[.val (.ref r0), .val (.ref b6), .val (.int (3 : Int32)), .val (.int (0 : Int32)), .val (.int (0 : Int32)), .unset] [(.int (ub2 &&& (255 : Int32))), (.int (((ub0 &&& (255 : Int32)) <<< ((16 : Int32) &&& 31)) ||| ((ub1 &&& (255 : Int32)) <<< ((8 : Int32) &&& 31))))]) _
    refine XS.ior X6.here hx rfl (hb hby d2_73) rfl ?_
    show own_S p e below T6 (mkF m 74 #[.val (.ref r0), .val (.ref b6), .val (.int (3 : Int32)), .val (.int (0 : Int32)), .val (.int (0 : Int32)), .unset] [(.int ((((ub0 &&& (255 : Int32)) <<< ((16 : Int32) &&& 31)) ||| ((ub1 &&& (255 : Int32)) <<< ((8 : Int32) &&& 31))) ||| (ub2 &&& (255 : Int32))))]) _
    refine XS.istore X6.here hx rfl (hb hby d2_74) rfl (l' := #[.val (.ref r0), .val (.ref b6), .val (.int (3 : Int32)), .val (.int (0 : Int32)), .val (.int (0 : Int32)), .val (.int ((((ub0 &&& (255 : Int32)) <<< ((16 : Int32) &&& 31)) ||| ((ub1 &&& (255 : Int32)) <<< ((8 : Int32) &&& 31))) ||| (ub2 &&& (255 : Int32))))]) rfl ?_
    exact k
  obtain ⟨x0, hx0⟩ : ∃ z : Int32, z = ((((ub0 &&& (255 : Int32)) <<< ((16 : Int32) &&& 31)) ||| ((ub1 &&& (255 : Int32)) <<< ((8 : Int32) &&& 31))) ||| (ub2 &&& (255 : Int32))) := ⟨_, rfl⟩
  rw [← hx0] at K18
  have hb_x0 : 0 ≤ x0.toInt ∧ x0.toInt < 16777216 := by rw [hx0]; exact (own_xb (own_m255 _) (own_m255 _) (own_m255 _) (own_x3i ub0 ub1 ub2))
  have K19 : own_K p e below SE T6 (mkF m 81 #[.val (.ref r0), .val (.ref b6), .val (.int (3 : Int32)), .val (.int (1 : Int32)), .val (.int (0 : Int32)), .val (.int x0)] [(.int (0 : Int32)), (.ref b6)]) := by
    intro t k
    refine K18 _ ?_
    refine XS.aloadN X6.here hx rfl (hb hby d2_76) rfl rfl ?_
    show own_S p e below T6 (mkF m 77 #[.val (.ref r0), .val (.ref b6), .val (.int (3 : Int32)), .val (.int (0 : Int32)), .val (.int (0 : Int32)), .val (.int x0)] [(.ref b6)]) _
    refine XS.iloadN X6.here hx rfl (hb hby d2_77) rfl ?_
    show own_S p e below T6 (mkF m 78 #[.val (.ref r0), .val (.ref b6), .val (.int (3 : Int32)), .val (.int (0 : Int32)), .val (.int (0 : Int32)), .val (.int x0)] [(.int (0 : Int32)), (.ref b6)]) _
    refine XS.iinc X6.here hx rfl (hb hby d2_78) rfl (l' := #[.val (.ref r0), .val (.ref b6), .val (.int (3 : Int32)), .val (.int (1 : Int32)), .val (.int (0 : Int32)), .val (.int x0)]) rfl ?_
    exact k
  obtain ⟨T20, X20, e20, st20⟩ := getS2 X6 hx hZ hown (host := "") (Or.inl (hw _ (List.mem_of_getElem? (i := 16) rfl))) Via.refl e6 (SA.ext (own_ext Kp6)) (g := (mkF m 81 #[.val (.ref r0), .val (.ref b6), .val (.int (3 : Int32)), .val (.int (1 : Int32)), .val (.int (0 : Int32)), .val (.int x0)] [(.int (0 : Int32)), (.ref b6)])) rfl (hb hby d2_81)
  have K20 : own_K p e below SE T20 (mkF m 84 #[.val (.ref r0), .val (.ref b6), .val (.int (3 : Int32)), .val (.int (1 : Int32)), .val (.int (0 : Int32)), .val (.int x0)] [(.ref oAL), (.int (0 : Int32)), (.ref b6)]) := fun t k => K19 _ (st20 _ k)
  have K21 : own_K p e below SE T20 (mkF m 89 #[.val (.ref r0), .val (.ref b6), .val (.int (3 : Int32)), .val (.int (1 : Int32)), .val (.int (0 : Int32)), .val (.int x0)] [(.int ((x0.toUInt32 >>> ((18 : Int32) &&& 31).toUInt32).toInt32)), (.ref oAL), (.int (0 : Int32)), (.ref b6)]) := by
    intro t k
    refine K20 _ ?_
    refine XS.iload X20.here hx rfl (hb hby d2_84) rfl ?_
    show own_S p e below T20 (mkF m 86 #[.val (.ref r0), .val (.ref b6), .val (.int (3 : Int32)), .val (.int (1 : Int32)), .val (.int (0 : Int32)), .val (.int x0)] [(.int x0), (.ref oAL), (.int (0 : Int32)), (.ref b6)]) _
    refine XS.bipush X20.here hx rfl (hb hby d2_86) ?_
    show own_S p e below T20 (mkF m 88 #[.val (.ref r0), .val (.ref b6), .val (.int (3 : Int32)), .val (.int (1 : Int32)), .val (.int (0 : Int32)), .val (.int x0)] [(.int (18 : Int32)), (.int x0), (.ref oAL), (.int (0 : Int32)), (.ref b6)]) _
    refine XS.iushr X20.here hx rfl (hb hby d2_88) rfl ?_
    exact k
  obtain ⟨Ar22, S22, Ng22, Hh22⟩ := id (TA.ext (own_ext Kp6))
  have hin22 : ¬ (((x0.toUInt32 >>> ((18 : Int32) &&& 31).toUInt32).toInt32) < 0 ∨ cA.slots.size ≤ (((x0.toUInt32 >>> ((18 : Int32) &&& 31).toUInt32).toInt32)).toNatClampNeg) := inb_of S22 (own_b18 _ hb_x0)
  have hat22 := Hh22 _ hin22
  have K23 : own_K p e below SE T20 (mkF m 90 #[.val (.ref r0), .val (.ref b6), .val (.int (3 : Int32)), .val (.int (1 : Int32)), .val (.int (0 : Int32)), .val (.int x0)] [(.int (atv cA ((x0.toUInt32 >>> ((18 : Int32) &&& 31).toUInt32).toInt32))), (.int (0 : Int32)), (.ref b6)]) := by
    intro t k
    refine K21 _ ?_
    refine X20.baloadBytes hx (j := ((x0.toUInt32 >>> ((18 : Int32) &&& 31).toUInt32).toInt32)) (v := (.int (atv cA ((x0.toUInt32 >>> ((18 : Int32) &&& 31).toUInt32).toInt32)))) (by rw [e20]; exact Ar22.1) (State.isArrayOf_alike hZ.alike Ar22.2.1) Ar22.2.2 hin22 hat22 (g := (mkF m 89 #[.val (.ref r0), .val (.ref b6), .val (.int (3 : Int32)), .val (.int (1 : Int32)), .val (.int (0 : Int32)), .val (.int x0)] [(.int ((x0.toUInt32 >>> ((18 : Int32) &&& 31).toUInt32).toInt32)), (.ref oAL), (.int (0 : Int32)), (.ref b6)])) rfl rfl (hb hby d2_89) _ ?_
    exact k
  obtain ⟨cl24, Ar24, qk24, S24, Ng24, Hh24, Gg24⟩ := id V6
  have hin24 : ¬ ((0 : Int32) < 0 ∨ cl24.slots.size ≤ ((0 : Int32)).toNatClampNeg) := inb_of S24 ⟨by decide, by decide⟩
  obtain ⟨T25, h25, X25, e25, W25, st25⟩ := stB X20 hx hZ e20 Ar24 (j := (0 : Int32)) hin24 (g := (mkF m 90 #[.val (.ref r0), .val (.ref b6), .val (.int (3 : Int32)), .val (.int (1 : Int32)), .val (.int (0 : Int32)), .val (.int x0)] [(.int (atv cA ((x0.toUInt32 >>> ((18 : Int32) &&& 31).toUInt32).toInt32))), (.int (0 : Int32)), (.ref b6)])) rfl rfl (hb hby d2_90)
  have V25 : Arv Z h25 b6 k6 .byte (7 : Int32) [(.int ((atv cA ((x0.toUInt32 >>> ((18 : Int32) &&& 31).toUInt32).toInt32))).toInt8.toInt32), (.int (0 : Int32)), (.int (0 : Int32)), (.int (0 : Int32)), (.int (0 : Int32)), (.int (0 : Int32)), (.int (0 : Int32))] (.int (0 : Int32)) := Arv.set Ar24 qk24 S24 Ng24 Hh24 Gg24 (fits_nar_byte _) W25 0 rfl (Nat.le_of_ble_eq_true rfl)
  have N25 := Fr.snoc X25 N0 g_b6
  have Kp25 : Keep h0 h25 [] := Keep.wr Kp6 W25 (Or.inr sz_b6)
  have K25 : own_K p e below SE T25 (mkF m 91 #[.val (.ref r0), .val (.ref b6), .val (.int (3 : Int32)), .val (.int (1 : Int32)), .val (.int (0 : Int32)), .val (.int x0)] []) := fun t k => K23 _ (st25 _ k)
  have K26 : own_K p e below SE T25 (mkF m 96 #[.val (.ref r0), .val (.ref b6), .val (.int (3 : Int32)), .val (.int (2 : Int32)), .val (.int (0 : Int32)), .val (.int x0)] [(.int (1 : Int32)), (.ref b6)]) := by
    intro t k
    refine K25 _ ?_
    refine XS.aloadN X25.here hx rfl (hb hby d2_91) rfl rfl ?_
    show own_S p e below T25 (mkF m 92 #[.val (.ref r0), .val (.ref b6), .val (.int (3 : Int32)), .val (.int (1 : Int32)), .val (.int (0 : Int32)), .val (.int x0)] [(.ref b6)]) _
    refine XS.iloadN X25.here hx rfl (hb hby d2_92) rfl ?_
    show own_S p e below T25 (mkF m 93 #[.val (.ref r0), .val (.ref b6), .val (.int (3 : Int32)), .val (.int (1 : Int32)), .val (.int (0 : Int32)), .val (.int x0)] [(.int (1 : Int32)), (.ref b6)]) _
    refine XS.iinc X25.here hx rfl (hb hby d2_93) rfl (l' := #[.val (.ref r0), .val (.ref b6), .val (.int (3 : Int32)), .val (.int (2 : Int32)), .val (.int (0 : Int32)), .val (.int x0)]) rfl ?_
    exact k
  obtain ⟨T27, X27, e27, st27⟩ := getS2 X25 hx hZ hown (host := "") (Or.inl (hw _ (List.mem_of_getElem? (i := 16) rfl))) Via.refl e25 (SA.ext (own_ext Kp25)) (g := (mkF m 96 #[.val (.ref r0), .val (.ref b6), .val (.int (3 : Int32)), .val (.int (2 : Int32)), .val (.int (0 : Int32)), .val (.int x0)] [(.int (1 : Int32)), (.ref b6)])) rfl (hb hby d2_96)
  have K27 : own_K p e below SE T27 (mkF m 99 #[.val (.ref r0), .val (.ref b6), .val (.int (3 : Int32)), .val (.int (2 : Int32)), .val (.int (0 : Int32)), .val (.int x0)] [(.ref oAL), (.int (1 : Int32)), (.ref b6)]) := fun t k => K26 _ (st27 _ k)
  have K28 : own_K p e below SE T27 (mkF m 107 #[.val (.ref r0), .val (.ref b6), .val (.int (3 : Int32)), .val (.int (2 : Int32)), .val (.int (0 : Int32)), .val (.int x0)] [(.int (((x0.toUInt32 >>> ((12 : Int32) &&& 31).toUInt32).toInt32) &&& (63 : Int32))), (.ref oAL), (.int (1 : Int32)), (.ref b6)]) := by
    intro t k
    refine K27 _ ?_
    refine XS.iload X27.here hx rfl (hb hby d2_99) rfl ?_
    show own_S p e below T27 (mkF m 101 #[.val (.ref r0), .val (.ref b6), .val (.int (3 : Int32)), .val (.int (2 : Int32)), .val (.int (0 : Int32)), .val (.int x0)] [(.int x0), (.ref oAL), (.int (1 : Int32)), (.ref b6)]) _
    refine XS.bipush X27.here hx rfl (hb hby d2_101) ?_
    show own_S p e below T27 (mkF m 103 #[.val (.ref r0), .val (.ref b6), .val (.int (3 : Int32)), .val (.int (2 : Int32)), .val (.int (0 : Int32)), .val (.int x0)] [(.int (12 : Int32)), (.int x0), (.ref oAL), (.int (1 : Int32)), (.ref b6)]) _
    refine XS.iushr X27.here hx rfl (hb hby d2_103) rfl ?_
    show own_S p e below T27 (mkF m 104 #[.val (.ref r0), .val (.ref b6), .val (.int (3 : Int32)), .val (.int (2 : Int32)), .val (.int (0 : Int32)), .val (.int x0)] [(.int ((x0.toUInt32 >>> ((12 : Int32) &&& 31).toUInt32).toInt32)), (.ref oAL), (.int (1 : Int32)), (.ref b6)]) _
    refine XS.bipush X27.here hx rfl (hb hby d2_104) ?_
    show own_S p e below T27 (mkF m 106 #[.val (.ref r0), .val (.ref b6), .val (.int (3 : Int32)), .val (.int (2 : Int32)), .val (.int (0 : Int32)), .val (.int x0)] [(.int (63 : Int32)), (.int ((x0.toUInt32 >>> ((12 : Int32) &&& 31).toUInt32).toInt32)), (.ref oAL), (.int (1 : Int32)), (.ref b6)]) _
    refine XS.iand X27.here hx rfl (hb hby d2_106) rfl ?_
    exact k
  obtain ⟨Ar29, S29, Ng29, Hh29⟩ := id (TA.ext (own_ext Kp25))
  have hin29 : ¬ ((((x0.toUInt32 >>> ((12 : Int32) &&& 31).toUInt32).toInt32) &&& (63 : Int32)) < 0 ∨ cA.slots.size ≤ ((((x0.toUInt32 >>> ((12 : Int32) &&& 31).toUInt32).toInt32) &&& (63 : Int32))).toNatClampNeg) := inb_of S29 (own_b63 _)
  have hat29 := Hh29 _ hin29
  have K30 : own_K p e below SE T27 (mkF m 108 #[.val (.ref r0), .val (.ref b6), .val (.int (3 : Int32)), .val (.int (2 : Int32)), .val (.int (0 : Int32)), .val (.int x0)] [(.int (atv cA (((x0.toUInt32 >>> ((12 : Int32) &&& 31).toUInt32).toInt32) &&& (63 : Int32)))), (.int (1 : Int32)), (.ref b6)]) := by
    intro t k
    refine K28 _ ?_
    refine X27.baloadBytes hx (j := (((x0.toUInt32 >>> ((12 : Int32) &&& 31).toUInt32).toInt32) &&& (63 : Int32))) (v := (.int (atv cA (((x0.toUInt32 >>> ((12 : Int32) &&& 31).toUInt32).toInt32) &&& (63 : Int32))))) (by rw [e27]; exact Ar29.1) (State.isArrayOf_alike hZ.alike Ar29.2.1) Ar29.2.2 hin29 hat29 (g := (mkF m 107 #[.val (.ref r0), .val (.ref b6), .val (.int (3 : Int32)), .val (.int (2 : Int32)), .val (.int (0 : Int32)), .val (.int x0)] [(.int (((x0.toUInt32 >>> ((12 : Int32) &&& 31).toUInt32).toInt32) &&& (63 : Int32))), (.ref oAL), (.int (1 : Int32)), (.ref b6)])) rfl rfl (hb hby d2_107) _ ?_
    exact k
  obtain ⟨cl31, Ar31, qk31, S31, Ng31, Hh31, Gg31⟩ := id V25
  have hin31 : ¬ ((1 : Int32) < 0 ∨ cl31.slots.size ≤ ((1 : Int32)).toNatClampNeg) := inb_of S31 ⟨by decide, by decide⟩
  obtain ⟨T32, h32, X32, e32, W32, st32⟩ := stB X27 hx hZ e27 Ar31 (j := (1 : Int32)) hin31 (g := (mkF m 108 #[.val (.ref r0), .val (.ref b6), .val (.int (3 : Int32)), .val (.int (2 : Int32)), .val (.int (0 : Int32)), .val (.int x0)] [(.int (atv cA (((x0.toUInt32 >>> ((12 : Int32) &&& 31).toUInt32).toInt32) &&& (63 : Int32)))), (.int (1 : Int32)), (.ref b6)])) rfl rfl (hb hby d2_108)
  have V32 : Arv Z h32 b6 k6 .byte (7 : Int32) [(.int ((atv cA ((x0.toUInt32 >>> ((18 : Int32) &&& 31).toUInt32).toInt32))).toInt8.toInt32), (.int ((atv cA (((x0.toUInt32 >>> ((12 : Int32) &&& 31).toUInt32).toInt32) &&& (63 : Int32)))).toInt8.toInt32), (.int (0 : Int32)), (.int (0 : Int32)), (.int (0 : Int32)), (.int (0 : Int32)), (.int (0 : Int32))] (.int (0 : Int32)) := Arv.set Ar31 qk31 S31 Ng31 Hh31 Gg31 (fits_nar_byte _) W32 1 rfl (Nat.le_of_ble_eq_true rfl)
  have N32 := Fr.snoc X32 N25 g_b6
  have Kp32 : Keep h0 h32 [] := Keep.wr Kp25 W32 (Or.inr sz_b6)
  have K32 : own_K p e below SE T32 (mkF m 109 #[.val (.ref r0), .val (.ref b6), .val (.int (3 : Int32)), .val (.int (2 : Int32)), .val (.int (0 : Int32)), .val (.int x0)] []) := fun t k => K30 _ (st32 _ k)
  have K33 : own_K p e below SE T32 (mkF m 114 #[.val (.ref r0), .val (.ref b6), .val (.int (3 : Int32)), .val (.int (3 : Int32)), .val (.int (0 : Int32)), .val (.int x0)] [(.int (2 : Int32)), (.ref b6)]) := by
    intro t k
    refine K32 _ ?_
    refine XS.aloadN X32.here hx rfl (hb hby d2_109) rfl rfl ?_
    show own_S p e below T32 (mkF m 110 #[.val (.ref r0), .val (.ref b6), .val (.int (3 : Int32)), .val (.int (2 : Int32)), .val (.int (0 : Int32)), .val (.int x0)] [(.ref b6)]) _
    refine XS.iloadN X32.here hx rfl (hb hby d2_110) rfl ?_
    show own_S p e below T32 (mkF m 111 #[.val (.ref r0), .val (.ref b6), .val (.int (3 : Int32)), .val (.int (2 : Int32)), .val (.int (0 : Int32)), .val (.int x0)] [(.int (2 : Int32)), (.ref b6)]) _
    refine XS.iinc X32.here hx rfl (hb hby d2_111) rfl (l' := #[.val (.ref r0), .val (.ref b6), .val (.int (3 : Int32)), .val (.int (3 : Int32)), .val (.int (0 : Int32)), .val (.int x0)]) rfl ?_
    exact k
  obtain ⟨T34, X34, e34, st34⟩ := getS2 X32 hx hZ hown (host := "") (Or.inl (hw _ (List.mem_of_getElem? (i := 16) rfl))) Via.refl e32 (SA.ext (own_ext Kp32)) (g := (mkF m 114 #[.val (.ref r0), .val (.ref b6), .val (.int (3 : Int32)), .val (.int (3 : Int32)), .val (.int (0 : Int32)), .val (.int x0)] [(.int (2 : Int32)), (.ref b6)])) rfl (hb hby d2_114)
  have K34 : own_K p e below SE T34 (mkF m 117 #[.val (.ref r0), .val (.ref b6), .val (.int (3 : Int32)), .val (.int (3 : Int32)), .val (.int (0 : Int32)), .val (.int x0)] [(.ref oAL), (.int (2 : Int32)), (.ref b6)]) := fun t k => K33 _ (st34 _ k)
  have K35 : own_K p e below SE T34 (mkF m 125 #[.val (.ref r0), .val (.ref b6), .val (.int (3 : Int32)), .val (.int (3 : Int32)), .val (.int (0 : Int32)), .val (.int x0)] [(.int (((x0.toUInt32 >>> ((6 : Int32) &&& 31).toUInt32).toInt32) &&& (63 : Int32))), (.ref oAL), (.int (2 : Int32)), (.ref b6)]) := by
    intro t k
    refine K34 _ ?_
    refine XS.iload X34.here hx rfl (hb hby d2_117) rfl ?_
    show own_S p e below T34 (mkF m 119 #[.val (.ref r0), .val (.ref b6), .val (.int (3 : Int32)), .val (.int (3 : Int32)), .val (.int (0 : Int32)), .val (.int x0)] [(.int x0), (.ref oAL), (.int (2 : Int32)), (.ref b6)]) _
    refine XS.bipush X34.here hx rfl (hb hby d2_119) ?_
    show own_S p e below T34 (mkF m 121 #[.val (.ref r0), .val (.ref b6), .val (.int (3 : Int32)), .val (.int (3 : Int32)), .val (.int (0 : Int32)), .val (.int x0)] [(.int (6 : Int32)), (.int x0), (.ref oAL), (.int (2 : Int32)), (.ref b6)]) _
    refine XS.iushr X34.here hx rfl (hb hby d2_121) rfl ?_
    show own_S p e below T34 (mkF m 122 #[.val (.ref r0), .val (.ref b6), .val (.int (3 : Int32)), .val (.int (3 : Int32)), .val (.int (0 : Int32)), .val (.int x0)] [(.int ((x0.toUInt32 >>> ((6 : Int32) &&& 31).toUInt32).toInt32)), (.ref oAL), (.int (2 : Int32)), (.ref b6)]) _
    refine XS.bipush X34.here hx rfl (hb hby d2_122) ?_
    show own_S p e below T34 (mkF m 124 #[.val (.ref r0), .val (.ref b6), .val (.int (3 : Int32)), .val (.int (3 : Int32)), .val (.int (0 : Int32)), .val (.int x0)] [(.int (63 : Int32)), (.int ((x0.toUInt32 >>> ((6 : Int32) &&& 31).toUInt32).toInt32)), (.ref oAL), (.int (2 : Int32)), (.ref b6)]) _
    refine XS.iand X34.here hx rfl (hb hby d2_124) rfl ?_
    exact k
  obtain ⟨Ar36, S36, Ng36, Hh36⟩ := id (TA.ext (own_ext Kp32))
  have hin36 : ¬ ((((x0.toUInt32 >>> ((6 : Int32) &&& 31).toUInt32).toInt32) &&& (63 : Int32)) < 0 ∨ cA.slots.size ≤ ((((x0.toUInt32 >>> ((6 : Int32) &&& 31).toUInt32).toInt32) &&& (63 : Int32))).toNatClampNeg) := inb_of S36 (own_b63 _)
  have hat36 := Hh36 _ hin36
  have K37 : own_K p e below SE T34 (mkF m 126 #[.val (.ref r0), .val (.ref b6), .val (.int (3 : Int32)), .val (.int (3 : Int32)), .val (.int (0 : Int32)), .val (.int x0)] [(.int (atv cA (((x0.toUInt32 >>> ((6 : Int32) &&& 31).toUInt32).toInt32) &&& (63 : Int32)))), (.int (2 : Int32)), (.ref b6)]) := by
    intro t k
    refine K35 _ ?_
    refine X34.baloadBytes hx (j := (((x0.toUInt32 >>> ((6 : Int32) &&& 31).toUInt32).toInt32) &&& (63 : Int32))) (v := (.int (atv cA (((x0.toUInt32 >>> ((6 : Int32) &&& 31).toUInt32).toInt32) &&& (63 : Int32))))) (by rw [e34]; exact Ar36.1) (State.isArrayOf_alike hZ.alike Ar36.2.1) Ar36.2.2 hin36 hat36 (g := (mkF m 125 #[.val (.ref r0), .val (.ref b6), .val (.int (3 : Int32)), .val (.int (3 : Int32)), .val (.int (0 : Int32)), .val (.int x0)] [(.int (((x0.toUInt32 >>> ((6 : Int32) &&& 31).toUInt32).toInt32) &&& (63 : Int32))), (.ref oAL), (.int (2 : Int32)), (.ref b6)])) rfl rfl (hb hby d2_125) _ ?_
    exact k
  obtain ⟨cl38, Ar38, qk38, S38, Ng38, Hh38, Gg38⟩ := id V32
  have hin38 : ¬ ((2 : Int32) < 0 ∨ cl38.slots.size ≤ ((2 : Int32)).toNatClampNeg) := inb_of S38 ⟨by decide, by decide⟩
  obtain ⟨T39, h39, X39, e39, W39, st39⟩ := stB X34 hx hZ e34 Ar38 (j := (2 : Int32)) hin38 (g := (mkF m 126 #[.val (.ref r0), .val (.ref b6), .val (.int (3 : Int32)), .val (.int (3 : Int32)), .val (.int (0 : Int32)), .val (.int x0)] [(.int (atv cA (((x0.toUInt32 >>> ((6 : Int32) &&& 31).toUInt32).toInt32) &&& (63 : Int32)))), (.int (2 : Int32)), (.ref b6)])) rfl rfl (hb hby d2_126)
  have V39 : Arv Z h39 b6 k6 .byte (7 : Int32) [(.int ((atv cA ((x0.toUInt32 >>> ((18 : Int32) &&& 31).toUInt32).toInt32))).toInt8.toInt32), (.int ((atv cA (((x0.toUInt32 >>> ((12 : Int32) &&& 31).toUInt32).toInt32) &&& (63 : Int32)))).toInt8.toInt32), (.int ((atv cA (((x0.toUInt32 >>> ((6 : Int32) &&& 31).toUInt32).toInt32) &&& (63 : Int32)))).toInt8.toInt32), (.int (0 : Int32)), (.int (0 : Int32)), (.int (0 : Int32)), (.int (0 : Int32))] (.int (0 : Int32)) := Arv.set Ar38 qk38 S38 Ng38 Hh38 Gg38 (fits_nar_byte _) W39 2 rfl (Nat.le_of_ble_eq_true rfl)
  have N39 := Fr.snoc X39 N32 g_b6
  have Kp39 : Keep h0 h39 [] := Keep.wr Kp32 W39 (Or.inr sz_b6)
  have K39 : own_K p e below SE T39 (mkF m 127 #[.val (.ref r0), .val (.ref b6), .val (.int (3 : Int32)), .val (.int (3 : Int32)), .val (.int (0 : Int32)), .val (.int x0)] []) := fun t k => K37 _ (st39 _ k)
  have K40 : own_K p e below SE T39 (mkF m 132 #[.val (.ref r0), .val (.ref b6), .val (.int (3 : Int32)), .val (.int (4 : Int32)), .val (.int (0 : Int32)), .val (.int x0)] [(.int (3 : Int32)), (.ref b6)]) := by
    intro t k
    refine K39 _ ?_
    refine XS.aloadN X39.here hx rfl (hb hby d2_127) rfl rfl ?_
    show own_S p e below T39 (mkF m 128 #[.val (.ref r0), .val (.ref b6), .val (.int (3 : Int32)), .val (.int (3 : Int32)), .val (.int (0 : Int32)), .val (.int x0)] [(.ref b6)]) _
    refine XS.iloadN X39.here hx rfl (hb hby d2_128) rfl ?_
    show own_S p e below T39 (mkF m 129 #[.val (.ref r0), .val (.ref b6), .val (.int (3 : Int32)), .val (.int (3 : Int32)), .val (.int (0 : Int32)), .val (.int x0)] [(.int (3 : Int32)), (.ref b6)]) _
    refine XS.iinc X39.here hx rfl (hb hby d2_129) rfl (l' := #[.val (.ref r0), .val (.ref b6), .val (.int (3 : Int32)), .val (.int (4 : Int32)), .val (.int (0 : Int32)), .val (.int x0)]) rfl ?_
    exact k
  obtain ⟨T41, X41, e41, st41⟩ := getS2 X39 hx hZ hown (host := "") (Or.inl (hw _ (List.mem_of_getElem? (i := 16) rfl))) Via.refl e39 (SA.ext (own_ext Kp39)) (g := (mkF m 132 #[.val (.ref r0), .val (.ref b6), .val (.int (3 : Int32)), .val (.int (4 : Int32)), .val (.int (0 : Int32)), .val (.int x0)] [(.int (3 : Int32)), (.ref b6)])) rfl (hb hby d2_132)
  have K41 : own_K p e below SE T41 (mkF m 135 #[.val (.ref r0), .val (.ref b6), .val (.int (3 : Int32)), .val (.int (4 : Int32)), .val (.int (0 : Int32)), .val (.int x0)] [(.ref oAL), (.int (3 : Int32)), (.ref b6)]) := fun t k => K40 _ (st41 _ k)
  have K42 : own_K p e below SE T41 (mkF m 140 #[.val (.ref r0), .val (.ref b6), .val (.int (3 : Int32)), .val (.int (4 : Int32)), .val (.int (0 : Int32)), .val (.int x0)] [(.int (x0 &&& (63 : Int32))), (.ref oAL), (.int (3 : Int32)), (.ref b6)]) := by
    intro t k
    refine K41 _ ?_
    refine XS.iload X41.here hx rfl (hb hby d2_135) rfl ?_
    show own_S p e below T41 (mkF m 137 #[.val (.ref r0), .val (.ref b6), .val (.int (3 : Int32)), .val (.int (4 : Int32)), .val (.int (0 : Int32)), .val (.int x0)] [(.int x0), (.ref oAL), (.int (3 : Int32)), (.ref b6)]) _
    refine XS.bipush X41.here hx rfl (hb hby d2_137) ?_
    show own_S p e below T41 (mkF m 139 #[.val (.ref r0), .val (.ref b6), .val (.int (3 : Int32)), .val (.int (4 : Int32)), .val (.int (0 : Int32)), .val (.int x0)] [(.int (63 : Int32)), (.int x0), (.ref oAL), (.int (3 : Int32)), (.ref b6)]) _
    refine XS.iand X41.here hx rfl (hb hby d2_139) rfl ?_
    exact k
  obtain ⟨Ar43, S43, Ng43, Hh43⟩ := id (TA.ext (own_ext Kp39))
  have hin43 : ¬ ((x0 &&& (63 : Int32)) < 0 ∨ cA.slots.size ≤ ((x0 &&& (63 : Int32))).toNatClampNeg) := inb_of S43 (own_b63 _)
  have hat43 := Hh43 _ hin43
  have K44 : own_K p e below SE T41 (mkF m 141 #[.val (.ref r0), .val (.ref b6), .val (.int (3 : Int32)), .val (.int (4 : Int32)), .val (.int (0 : Int32)), .val (.int x0)] [(.int (atv cA (x0 &&& (63 : Int32)))), (.int (3 : Int32)), (.ref b6)]) := by
    intro t k
    refine K42 _ ?_
    refine X41.baloadBytes hx (j := (x0 &&& (63 : Int32))) (v := (.int (atv cA (x0 &&& (63 : Int32))))) (by rw [e41]; exact Ar43.1) (State.isArrayOf_alike hZ.alike Ar43.2.1) Ar43.2.2 hin43 hat43 (g := (mkF m 140 #[.val (.ref r0), .val (.ref b6), .val (.int (3 : Int32)), .val (.int (4 : Int32)), .val (.int (0 : Int32)), .val (.int x0)] [(.int (x0 &&& (63 : Int32))), (.ref oAL), (.int (3 : Int32)), (.ref b6)])) rfl rfl (hb hby d2_140) _ ?_
    exact k
  obtain ⟨cl45, Ar45, qk45, S45, Ng45, Hh45, Gg45⟩ := id V39
  have hin45 : ¬ ((3 : Int32) < 0 ∨ cl45.slots.size ≤ ((3 : Int32)).toNatClampNeg) := inb_of S45 ⟨by decide, by decide⟩
  obtain ⟨T46, h46, X46, e46, W46, st46⟩ := stB X41 hx hZ e41 Ar45 (j := (3 : Int32)) hin45 (g := (mkF m 141 #[.val (.ref r0), .val (.ref b6), .val (.int (3 : Int32)), .val (.int (4 : Int32)), .val (.int (0 : Int32)), .val (.int x0)] [(.int (atv cA (x0 &&& (63 : Int32)))), (.int (3 : Int32)), (.ref b6)])) rfl rfl (hb hby d2_141)
  have V46 : Arv Z h46 b6 k6 .byte (7 : Int32) [(.int ((atv cA ((x0.toUInt32 >>> ((18 : Int32) &&& 31).toUInt32).toInt32))).toInt8.toInt32), (.int ((atv cA (((x0.toUInt32 >>> ((12 : Int32) &&& 31).toUInt32).toInt32) &&& (63 : Int32)))).toInt8.toInt32), (.int ((atv cA (((x0.toUInt32 >>> ((6 : Int32) &&& 31).toUInt32).toInt32) &&& (63 : Int32)))).toInt8.toInt32), (.int ((atv cA (x0 &&& (63 : Int32)))).toInt8.toInt32), (.int (0 : Int32)), (.int (0 : Int32)), (.int (0 : Int32))] (.int (0 : Int32)) := Arv.set Ar45 qk45 S45 Ng45 Hh45 Gg45 (fits_nar_byte _) W46 3 rfl (Nat.le_of_ble_eq_true rfl)
  have N46 := Fr.snoc X46 N39 g_b6
  have Kp46 : Keep h0 h46 [] := Keep.wr Kp39 W46 (Or.inr sz_b6)
  have K46 : own_K p e below SE T46 (mkF m 142 #[.val (.ref r0), .val (.ref b6), .val (.int (3 : Int32)), .val (.int (4 : Int32)), .val (.int (0 : Int32)), .val (.int x0)] []) := fun t k => K44 _ (st46 _ k)
  have K47 : own_K p e below SE T46 (mkF m 150 #[.val (.ref r0), .val (.ref b6), .val (.int (3 : Int32)), .val (.int (4 : Int32)), .val (.int (3 : Int32)), .val (.int x0)] [(.ref r0), (.int (3 : Int32))]) := by
    intro t k
    refine K46 _ ?_
    refine XS.iinc X46.here hx rfl (hb hby d2_142) rfl (l' := #[.val (.ref r0), .val (.ref b6), .val (.int (3 : Int32)), .val (.int (4 : Int32)), .val (.int (3 : Int32)), .val (.int x0)]) rfl ?_
    show own_S p e below T46 (mkF m 145 #[.val (.ref r0), .val (.ref b6), .val (.int (3 : Int32)), .val (.int (4 : Int32)), .val (.int (3 : Int32)), .val (.int x0)] []) _
    refine XS.goto X46.here hx rfl (pc0 := 145) (pc' := 32) rfl (hb hby d2_145) (by decide) (by decide) ?_
    show own_S p e below T46 (mkF m 32 #[.val (.ref r0), .val (.ref b6), .val (.int (3 : Int32)), .val (.int (4 : Int32)), .val (.int (3 : Int32)), .val (.int x0)] []) _
    refine XS.iload X46.here hx rfl (hb hby d2_32) rfl ?_
    show own_S p e below T46 (mkF m 34 #[.val (.ref r0), .val (.ref b6), .val (.int (3 : Int32)), .val (.int (4 : Int32)), .val (.int (3 : Int32)), .val (.int x0)] [(.int (3 : Int32))]) _
    refine XS.iloadN X46.here hx rfl (hb hby d2_34) rfl ?_
    show own_S p e below T46 (mkF m 35 #[.val (.ref r0), .val (.ref b6), .val (.int (3 : Int32)), .val (.int (4 : Int32)), .val (.int (3 : Int32)), .val (.int x0)] [(.int (3 : Int32)), (.int (3 : Int32))]) _
    refine XS.icmpYes X46.here hx rfl (pc0 := 35) (pc' := 148) rfl (hb hby d2_35) rfl (XT.ii_ge_t (by decide : ¬ ((3 : Int32) < (3 : Int32)))) (by decide) (by decide) ?_
    show own_S p e below T46 (mkF m 148 #[.val (.ref r0), .val (.ref b6), .val (.int (3 : Int32)), .val (.int (4 : Int32)), .val (.int (3 : Int32)), .val (.int x0)] []) _
    refine XS.iloadN X46.here hx rfl (hb hby d2_148) rfl ?_
    show own_S p e below T46 (mkF m 149 #[.val (.ref r0), .val (.ref b6), .val (.int (3 : Int32)), .val (.int (4 : Int32)), .val (.int (3 : Int32)), .val (.int x0)] [(.int (3 : Int32))]) _
    refine XS.aloadN X46.here hx rfl (hb hby d2_149) rfl rfl ?_
    exact k
  obtain ⟨cl48, Ar48, -, S48, Ng48, -, -⟩ := id (V_r0.ext (own_ext Kp46))
  have K49 : own_K p e below SE T46 (mkF m 156 #[.val (.ref r0), .val (.ref b6), .val (.int (3 : Int32)), .val (.int (4 : Int32)), .val (.int (3 : Int32)), .val (.int x0)] [(.int (3 : Int32)), (.ref r0)]) := by
    intro t k
    refine K47 _ ?_
    refine X46.arraylength hx (by rw [e46]; exact Ar48.1) (State.isArrayOf_alike hZ.alike Ar48.2.1) (g := (mkF m 150 #[.val (.ref r0), .val (.ref b6), .val (.int (3 : Int32)), .val (.int (4 : Int32)), .val (.int (3 : Int32)), .val (.int x0)] [(.ref r0), (.int (3 : Int32))])) rfl rfl (hb hby d2_150) _ ?_
    rw [len_of S48 Ng48]
    show own_S p e below T46 (mkF m 151 #[.val (.ref r0), .val (.ref b6), .val (.int (3 : Int32)), .val (.int (4 : Int32)), .val (.int (3 : Int32)), .val (.int x0)] [(.int (5 : Int32)), (.int (3 : Int32))]) _
    refine XS.icmpNo X46.here hx rfl (hb hby d2_151) rfl (XT.ii_ge_f (by decide : (3 : Int32) < (5 : Int32))) ?_
    show own_S p e below T46 (mkF m 154 #[.val (.ref r0), .val (.ref b6), .val (.int (3 : Int32)), .val (.int (4 : Int32)), .val (.int (3 : Int32)), .val (.int x0)] []) _
    refine XS.aloadN X46.here hx rfl (hb hby d2_154) rfl rfl ?_
    show own_S p e below T46 (mkF m 155 #[.val (.ref r0), .val (.ref b6), .val (.int (3 : Int32)), .val (.int (4 : Int32)), .val (.int (3 : Int32)), .val (.int x0)] [(.ref r0)]) _
    refine XS.iloadN X46.here hx rfl (hb hby d2_155) rfl ?_
    exact k
  obtain ⟨cl50, Ar50, qk50, S50, Ng50, Hh50, Gg50⟩ := id (V_r0.ext (own_ext Kp46))
  have hin50 : ¬ ((3 : Int32) < 0 ∨ cl50.slots.size ≤ ((3 : Int32)).toNatClampNeg) := inb_of S50 ⟨by decide, by decide⟩
  have hat50 : cl50.slots[((3 : Int32)).toNatClampNeg]? = some (.int ub3) := Has.at Hh50 hin50 rfl
  have K51 : own_K p e below SE T46 (mkF m 168 #[.val (.ref r0), .val (.ref b6), .val (.int (3 : Int32)), .val (.int (4 : Int32)), .val (.int (3 : Int32)), .val (.int x0)] [(.ref r0), (.int (4 : Int32)), (.int ((ub3 &&& (255 : Int32)) <<< ((16 : Int32) &&& 31)))]) := by
    intro t k
    refine K49 _ ?_
    refine X46.baloadBytes hx (j := (3 : Int32)) (v := (.int ub3)) (by rw [e46]; exact Ar50.1) (State.isArrayOf_alike hZ.alike Ar50.2.1) Ar50.2.2 hin50 hat50 (g := (mkF m 156 #[.val (.ref r0), .val (.ref b6), .val (.int (3 : Int32)), .val (.int (4 : Int32)), .val (.int (3 : Int32)), .val (.int x0)] [(.int (3 : Int32)), (.ref r0)])) rfl rfl (hb hby d2_156) _ ?_
    show own_S p e below T46 (mkF m 157 #[.val (.ref r0), .val (.ref b6), .val (.int (3 : Int32)), .val (.int (4 : Int32)), .val (.int (3 : Int32)), .val (.int x0)] [(.int ub3)]) _
    refine XS.sipush X46.here hx rfl (hb hby d2_157) ?_
    show own_S p e below T46 (mkF m 160 #[.val (.ref r0), .val (.ref b6), .val (.int (3 : Int32)), .val (.int (4 : Int32)), .val (.int (3 : Int32)), .val (.int x0)] [(.int (255 : Int32)), (.int ub3)]) _
    refine XS.iand X46.here hx rfl (hb hby d2_160) rfl ?_
    show own_S p e below T46 (mkF m 161 #[.val (.ref r0), .val (.ref b6), .val (.int (3 : Int32)), .val (.int (4 : Int32)), .val (.int (3 : Int32)), .val (.int x0)] [(.int (ub3 &&& (255 : Int32)))]) _
    refine XS.bipush X46.here hx rfl (hb hby d2_161) ?_
    show own_S p e below T46 (mkF m 163 #[.val (.ref r0), .val (.ref b6), .val (.int (3 : Int32)), .val (.int (4 : Int32)), .val (.int (3 : Int32)), .val (.int x0)] [(.int (16 : Int32)), (.int (ub3 &&& (255 : Int32)))]) _
    refine XS.ishl X46.here hx rfl (hb hby d2_163) rfl ?_
    show own_S p e below T46 (mkF m 164 #[.val (.ref r0), .val (.ref b6), .val (.int (3 : Int32)), .val (.int (4 : Int32)), .val (.int (3 : Int32)), .val (.int x0)] [(.int ((ub3 &&& (255 : Int32)) <<< ((16 : Int32) &&& 31)))]) _
    refine XS.iloadN X46.here hx rfl (hb hby d2_164) rfl ?_
    show own_S p e below T46 (mkF m 165 #[.val (.ref r0), .val (.ref b6), .val (.int (3 : Int32)), .val (.int (4 : Int32)), .val (.int (3 : Int32)), .val (.int x0)] [(.int (3 : Int32)), (.int ((ub3 &&& (255 : Int32)) <<< ((16 : Int32) &&& 31)))]) _
    refine XS.iconst X46.here hx rfl (hb hby d2_165) ?_
    show own_S p e below T46 (mkF m 166 #[.val (.ref r0), .val (.ref b6), .val (.int (3 : Int32)), .val (.int (4 : Int32)), .val (.int (3 : Int32)), .val (.int x0)] [(.int (1 : Int32)), (.int (3 : Int32)), (.int ((ub3 &&& (255 : Int32)) <<< ((16 : Int32) &&& 31)))]) _
    refine XS.iadd X46.here hx rfl (hb hby d2_166) rfl ?_
    show own_S p e below T46 (mkF m 167 #[.val (.ref r0), .val (.ref b6), .val (.int (3 : Int32)), .val (.int (4 : Int32)), .val (.int (3 : Int32)), .val (.int x0)] [(.int (4 : Int32)), (.int ((ub3 &&& (255 : Int32)) <<< ((16 : Int32) &&& 31)))]) _
    refine XS.aloadN X46.here hx rfl (hb hby d2_167) rfl rfl ?_
    exact k
  obtain ⟨cl52, Ar52, -, S52, Ng52, -, -⟩ := id (V_r0.ext (own_ext Kp46))
  have K53 : own_K p e below SE T46 (mkF m 176 #[.val (.ref r0), .val (.ref b6), .val (.int (3 : Int32)), .val (.int (4 : Int32)), .val (.int (3 : Int32)), .val (.int x0)] [(.int (4 : Int32)), (.ref r0), (.int ((ub3 &&& (255 : Int32)) <<< ((16 : Int32) &&& 31)))]) := by
    intro t k
    refine K51 _ ?_
    refine X46.arraylength hx (by rw [e46]; exact Ar52.1) (State.isArrayOf_alike hZ.alike Ar52.2.1) (g := (mkF m 168 #[.val (.ref r0), .val (.ref b6), .val (.int (3 : Int32)), .val (.int (4 : Int32)), .val (.int (3 : Int32)), .val (.int x0)] [(.ref r0), (.int (4 : Int32)), (.int ((ub3 &&& (255 : Int32)) <<< ((16 : Int32) &&& 31)))])) rfl rfl (hb hby d2_168) _ ?_
    rw [len_of S52 Ng52]
    show own_S p e below T46 (mkF m 169 #[.val (.ref r0), .val (.ref b6), .val (.int (3 : Int32)), .val (.int (4 : Int32)), .val (.int (3 : Int32)), .val (.int x0)] [(.int (5 : Int32)), (.int (4 : Int32)), (.int ((ub3 &&& (255 : Int32)) <<< ((16 : Int32) &&& 31)))]) _
    refine XS.icmpNo X46.here hx rfl (hb hby d2_169) rfl (XT.ii_ge_f (by decide : (4 : Int32) < (5 : Int32))) ?_
    show own_S p e below T46 (mkF m 172 #[.val (.ref r0), .val (.ref b6), .val (.int (3 : Int32)), .val (.int (4 : Int32)), .val (.int (3 : Int32)), .val (.int x0)] [(.int ((ub3 &&& (255 : Int32)) <<< ((16 : Int32) &&& 31)))]) _
    refine XS.aloadN X46.here hx rfl (hb hby d2_172) rfl rfl ?_
    show own_S p e below T46 (mkF m 173 #[.val (.ref r0), .val (.ref b6), .val (.int (3 : Int32)), .val (.int (4 : Int32)), .val (.int (3 : Int32)), .val (.int x0)] [(.ref r0), (.int ((ub3 &&& (255 : Int32)) <<< ((16 : Int32) &&& 31)))]) _
    refine XS.iloadN X46.here hx rfl (hb hby d2_173) rfl ?_
    show own_S p e below T46 (mkF m 174 #[.val (.ref r0), .val (.ref b6), .val (.int (3 : Int32)), .val (.int (4 : Int32)), .val (.int (3 : Int32)), .val (.int x0)] [(.int (3 : Int32)), (.ref r0), (.int ((ub3 &&& (255 : Int32)) <<< ((16 : Int32) &&& 31)))]) _
    refine XS.iconst X46.here hx rfl (hb hby d2_174) ?_
    show own_S p e below T46 (mkF m 175 #[.val (.ref r0), .val (.ref b6), .val (.int (3 : Int32)), .val (.int (4 : Int32)), .val (.int (3 : Int32)), .val (.int x0)] [(.int (1 : Int32)), (.int (3 : Int32)), (.ref r0), (.int ((ub3 &&& (255 : Int32)) <<< ((16 : Int32) &&& 31)))]) _
    refine XS.iadd X46.here hx rfl (hb hby d2_175) rfl ?_
    exact k
  obtain ⟨cl54, Ar54, qk54, S54, Ng54, Hh54, Gg54⟩ := id (V_r0.ext (own_ext Kp46))
  have hin54 : ¬ ((4 : Int32) < 0 ∨ cl54.slots.size ≤ ((4 : Int32)).toNatClampNeg) := inb_of S54 ⟨by decide, by decide⟩
  have hat54 : cl54.slots[((4 : Int32)).toNatClampNeg]? = some (.int ub4) := Has.at Hh54 hin54 rfl
  have K55 : own_K p e below SE T46 (mkF m 191 #[.val (.ref r0), .val (.ref b6), .val (.int (3 : Int32)), .val (.int (4 : Int32)), .val (.int (((ub3 &&& (255 : Int32)) <<< ((16 : Int32) &&& 31)) ||| ((ub4 &&& (255 : Int32)) <<< ((8 : Int32) &&& 31)))), .val (.int x0)] []) := by
    intro t k
    refine K53 _ ?_
    refine X46.baloadBytes hx (j := (4 : Int32)) (v := (.int ub4)) (by rw [e46]; exact Ar54.1) (State.isArrayOf_alike hZ.alike Ar54.2.1) Ar54.2.2 hin54 hat54 (g := (mkF m 176 #[.val (.ref r0), .val (.ref b6), .val (.int (3 : Int32)), .val (.int (4 : Int32)), .val (.int (3 : Int32)), .val (.int x0)] [(.int (4 : Int32)), (.ref r0), (.int ((ub3 &&& (255 : Int32)) <<< ((16 : Int32) &&& 31)))])) rfl rfl (hb hby d2_176) _ ?_
    show own_S p e below T46 (mkF m 177 #[.val (.ref r0), .val (.ref b6), .val (.int (3 : Int32)), .val (.int (4 : Int32)), .val (.int (3 : Int32)), .val (.int x0)] [(.int ub4), (.int ((ub3 &&& (255 : Int32)) <<< ((16 : Int32) &&& 31)))]) _
    refine XS.sipush X46.here hx rfl (hb hby d2_177) ?_
    show own_S p e below T46 (mkF m 180 #[.val (.ref r0), .val (.ref b6), .val (.int (3 : Int32)), .val (.int (4 : Int32)), .val (.int (3 : Int32)), .val (.int x0)] [(.int (255 : Int32)), (.int ub4), (.int ((ub3 &&& (255 : Int32)) <<< ((16 : Int32) &&& 31)))]) _
    refine XS.iand X46.here hx rfl (hb hby d2_180) rfl ?_
    show own_S p e below T46 (mkF m 181 #[.val (.ref r0), .val (.ref b6), .val (.int (3 : Int32)), .val (.int (4 : Int32)), .val (.int (3 : Int32)), .val (.int x0)] [(.int (ub4 &&& (255 : Int32))), (.int ((ub3 &&& (255 : Int32)) <<< ((16 : Int32) &&& 31)))]) _
    refine XS.bipush X46.here hx rfl (hb hby d2_181) ?_
    show own_S p e below T46 (mkF m 183 #[.val (.ref r0), .val (.ref b6), .val (.int (3 : Int32)), .val (.int (4 : Int32)), .val (.int (3 : Int32)), .val (.int x0)] [(.int (8 : Int32)), (.int (ub4 &&& (255 : Int32))), (.int ((ub3 &&& (255 : Int32)) <<< ((16 : Int32) &&& 31)))]) _
    refine XS.ishl X46.here hx rfl (hb hby d2_183) rfl ?_
    show own_S p e below T46 (mkF m 184 #[.val (.ref r0), .val (.ref b6), .val (.int (3 : Int32)), .val (.int (4 : Int32)), .val (.int (3 : Int32)), .val (.int x0)] [(.int ((ub4 &&& (255 : Int32)) <<< ((8 : Int32) &&& 31))), (.int ((ub3 &&& (255 : Int32)) <<< ((16 : Int32) &&& 31)))]) _
    refine XS.goto X46.here hx rfl (pc0 := 184) (pc' := 188) rfl (hb hby d2_184) (by decide) (by decide) ?_
    show own_S p e below T46 (mkF m 188 #[.val (.ref r0), .val (.ref b6), .val (.int (3 : Int32)), .val (.int (4 : Int32)), .val (.int (3 : Int32)), .val (.int x0)] [(.int ((ub4 &&& (255 : Int32)) <<< ((8 : Int32) &&& 31))), (.int ((ub3 &&& (255 : Int32)) <<< ((16 : Int32) &&& 31)))]) _
    refine XS.ior X46.here hx rfl (hb hby d2_188) rfl ?_
    show own_S p e below T46 (mkF m 189 #[.val (.ref r0), .val (.ref b6), .val (.int (3 : Int32)), .val (.int (4 : Int32)), .val (.int (3 : Int32)), .val (.int x0)] [(.int (((ub3 &&& (255 : Int32)) <<< ((16 : Int32) &&& 31)) ||| ((ub4 &&& (255 : Int32)) <<< ((8 : Int32) &&& 31))))]) _
    refine XS.istore X46.here hx rfl (hb hby d2_189) rfl (l' := #[.val (.ref r0), .val (.ref b6), .val (.int (3 : Int32)), .val (.int (4 : Int32)), .val (.int (((ub3 &&& (255 : Int32)) <<< ((16 : Int32) &&& 31)) ||| ((ub4 &&& (255 : Int32)) <<< ((8 : Int32) &&& 31)))), .val (.int x0)]) rfl ?_
    exact k
  obtain ⟨x1, hx1⟩ : ∃ z : Int32, z = (((ub3 &&& (255 : Int32)) <<< ((16 : Int32) &&& 31)) ||| ((ub4 &&& (255 : Int32)) <<< ((8 : Int32) &&& 31))) := ⟨_, rfl⟩
  rw [← hx1] at K55
  have hb_x1 : 0 ≤ x1.toInt ∧ x1.toInt < 16777216 := by rw [hx1]; exact (own_xb (own_m255 _) (own_m255 _) own_r0 (own_x2i ub3 ub4))
  have K56 : own_K p e below SE T46 (mkF m 196 #[.val (.ref r0), .val (.ref b6), .val (.int (3 : Int32)), .val (.int (5 : Int32)), .val (.int x1), .val (.int x0)] [(.int (4 : Int32)), (.ref b6)]) := by
    intro t k
    refine K55 _ ?_
    refine XS.aloadN X46.here hx rfl (hb hby d2_191) rfl rfl ?_
    show own_S p e below T46 (mkF m 192 #[.val (.ref r0), .val (.ref b6), .val (.int (3 : Int32)), .val (.int (4 : Int32)), .val (.int x1), .val (.int x0)] [(.ref b6)]) _
    refine XS.iloadN X46.here hx rfl (hb hby d2_192) rfl ?_
    show own_S p e below T46 (mkF m 193 #[.val (.ref r0), .val (.ref b6), .val (.int (3 : Int32)), .val (.int (4 : Int32)), .val (.int x1), .val (.int x0)] [(.int (4 : Int32)), (.ref b6)]) _
    refine XS.iinc X46.here hx rfl (hb hby d2_193) rfl (l' := #[.val (.ref r0), .val (.ref b6), .val (.int (3 : Int32)), .val (.int (5 : Int32)), .val (.int x1), .val (.int x0)]) rfl ?_
    exact k
  obtain ⟨T57, X57, e57, st57⟩ := getS2 X46 hx hZ hown (host := "") (Or.inl (hw _ (List.mem_of_getElem? (i := 16) rfl))) Via.refl e46 (SA.ext (own_ext Kp46)) (g := (mkF m 196 #[.val (.ref r0), .val (.ref b6), .val (.int (3 : Int32)), .val (.int (5 : Int32)), .val (.int x1), .val (.int x0)] [(.int (4 : Int32)), (.ref b6)])) rfl (hb hby d2_196)
  have K57 : own_K p e below SE T57 (mkF m 199 #[.val (.ref r0), .val (.ref b6), .val (.int (3 : Int32)), .val (.int (5 : Int32)), .val (.int x1), .val (.int x0)] [(.ref oAL), (.int (4 : Int32)), (.ref b6)]) := fun t k => K56 _ (st57 _ k)
  have K58 : own_K p e below SE T57 (mkF m 204 #[.val (.ref r0), .val (.ref b6), .val (.int (3 : Int32)), .val (.int (5 : Int32)), .val (.int x1), .val (.int x0)] [(.int ((x1.toUInt32 >>> ((18 : Int32) &&& 31).toUInt32).toInt32)), (.ref oAL), (.int (4 : Int32)), (.ref b6)]) := by
    intro t k
    refine K57 _ ?_
    refine XS.iload X57.here hx rfl (hb hby d2_199) rfl ?_
    show own_S p e below T57 (mkF m 201 #[.val (.ref r0), .val (.ref b6), .val (.int (3 : Int32)), .val (.int (5 : Int32)), .val (.int x1), .val (.int x0)] [(.int x1), (.ref oAL), (.int (4 : Int32)), (.ref b6)]) _
    refine XS.bipush X57.here hx rfl (hb hby d2_201) ?_
    show own_S p e below T57 (mkF m 203 #[.val (.ref r0), .val (.ref b6), .val (.int (3 : Int32)), .val (.int (5 : Int32)), .val (.int x1), .val (.int x0)] [(.int (18 : Int32)), (.int x1), (.ref oAL), (.int (4 : Int32)), (.ref b6)]) _
    refine XS.iushr X57.here hx rfl (hb hby d2_203) rfl ?_
    exact k
  obtain ⟨Ar59, S59, Ng59, Hh59⟩ := id (TA.ext (own_ext Kp46))
  have hin59 : ¬ (((x1.toUInt32 >>> ((18 : Int32) &&& 31).toUInt32).toInt32) < 0 ∨ cA.slots.size ≤ (((x1.toUInt32 >>> ((18 : Int32) &&& 31).toUInt32).toInt32)).toNatClampNeg) := inb_of S59 (own_b18 _ hb_x1)
  have hat59 := Hh59 _ hin59
  have K60 : own_K p e below SE T57 (mkF m 205 #[.val (.ref r0), .val (.ref b6), .val (.int (3 : Int32)), .val (.int (5 : Int32)), .val (.int x1), .val (.int x0)] [(.int (atv cA ((x1.toUInt32 >>> ((18 : Int32) &&& 31).toUInt32).toInt32))), (.int (4 : Int32)), (.ref b6)]) := by
    intro t k
    refine K58 _ ?_
    refine X57.baloadBytes hx (j := ((x1.toUInt32 >>> ((18 : Int32) &&& 31).toUInt32).toInt32)) (v := (.int (atv cA ((x1.toUInt32 >>> ((18 : Int32) &&& 31).toUInt32).toInt32)))) (by rw [e57]; exact Ar59.1) (State.isArrayOf_alike hZ.alike Ar59.2.1) Ar59.2.2 hin59 hat59 (g := (mkF m 204 #[.val (.ref r0), .val (.ref b6), .val (.int (3 : Int32)), .val (.int (5 : Int32)), .val (.int x1), .val (.int x0)] [(.int ((x1.toUInt32 >>> ((18 : Int32) &&& 31).toUInt32).toInt32)), (.ref oAL), (.int (4 : Int32)), (.ref b6)])) rfl rfl (hb hby d2_204) _ ?_
    exact k
  obtain ⟨cl61, Ar61, qk61, S61, Ng61, Hh61, Gg61⟩ := id V46
  have hin61 : ¬ ((4 : Int32) < 0 ∨ cl61.slots.size ≤ ((4 : Int32)).toNatClampNeg) := inb_of S61 ⟨by decide, by decide⟩
  obtain ⟨T62, h62, X62, e62, W62, st62⟩ := stB X57 hx hZ e57 Ar61 (j := (4 : Int32)) hin61 (g := (mkF m 205 #[.val (.ref r0), .val (.ref b6), .val (.int (3 : Int32)), .val (.int (5 : Int32)), .val (.int x1), .val (.int x0)] [(.int (atv cA ((x1.toUInt32 >>> ((18 : Int32) &&& 31).toUInt32).toInt32))), (.int (4 : Int32)), (.ref b6)])) rfl rfl (hb hby d2_205)
  have V62 : Arv Z h62 b6 k6 .byte (7 : Int32) [(.int ((atv cA ((x0.toUInt32 >>> ((18 : Int32) &&& 31).toUInt32).toInt32))).toInt8.toInt32), (.int ((atv cA (((x0.toUInt32 >>> ((12 : Int32) &&& 31).toUInt32).toInt32) &&& (63 : Int32)))).toInt8.toInt32), (.int ((atv cA (((x0.toUInt32 >>> ((6 : Int32) &&& 31).toUInt32).toInt32) &&& (63 : Int32)))).toInt8.toInt32), (.int ((atv cA (x0 &&& (63 : Int32)))).toInt8.toInt32), (.int ((atv cA ((x1.toUInt32 >>> ((18 : Int32) &&& 31).toUInt32).toInt32))).toInt8.toInt32), (.int (0 : Int32)), (.int (0 : Int32))] (.int (0 : Int32)) := Arv.set Ar61 qk61 S61 Ng61 Hh61 Gg61 (fits_nar_byte _) W62 4 rfl (Nat.le_of_ble_eq_true rfl)
  have N62 := Fr.snoc X62 N46 g_b6
  have Kp62 : Keep h0 h62 [] := Keep.wr Kp46 W62 (Or.inr sz_b6)
  have K62 : own_K p e below SE T62 (mkF m 206 #[.val (.ref r0), .val (.ref b6), .val (.int (3 : Int32)), .val (.int (5 : Int32)), .val (.int x1), .val (.int x0)] []) := fun t k => K60 _ (st62 _ k)
  have K63 : own_K p e below SE T62 (mkF m 211 #[.val (.ref r0), .val (.ref b6), .val (.int (3 : Int32)), .val (.int (6 : Int32)), .val (.int x1), .val (.int x0)] [(.int (5 : Int32)), (.ref b6)]) := by
    intro t k
    refine K62 _ ?_
    refine XS.aloadN X62.here hx rfl (hb hby d2_206) rfl rfl ?_
    show own_S p e below T62 (mkF m 207 #[.val (.ref r0), .val (.ref b6), .val (.int (3 : Int32)), .val (.int (5 : Int32)), .val (.int x1), .val (.int x0)] [(.ref b6)]) _
    refine XS.iloadN X62.here hx rfl (hb hby d2_207) rfl ?_
    show own_S p e below T62 (mkF m 208 #[.val (.ref r0), .val (.ref b6), .val (.int (3 : Int32)), .val (.int (5 : Int32)), .val (.int x1), .val (.int x0)] [(.int (5 : Int32)), (.ref b6)]) _
    refine XS.iinc X62.here hx rfl (hb hby d2_208) rfl (l' := #[.val (.ref r0), .val (.ref b6), .val (.int (3 : Int32)), .val (.int (6 : Int32)), .val (.int x1), .val (.int x0)]) rfl ?_
    exact k
  obtain ⟨T64, X64, e64, st64⟩ := getS2 X62 hx hZ hown (host := "") (Or.inl (hw _ (List.mem_of_getElem? (i := 16) rfl))) Via.refl e62 (SA.ext (own_ext Kp62)) (g := (mkF m 211 #[.val (.ref r0), .val (.ref b6), .val (.int (3 : Int32)), .val (.int (6 : Int32)), .val (.int x1), .val (.int x0)] [(.int (5 : Int32)), (.ref b6)])) rfl (hb hby d2_211)
  have K64 : own_K p e below SE T64 (mkF m 214 #[.val (.ref r0), .val (.ref b6), .val (.int (3 : Int32)), .val (.int (6 : Int32)), .val (.int x1), .val (.int x0)] [(.ref oAL), (.int (5 : Int32)), (.ref b6)]) := fun t k => K63 _ (st64 _ k)
  have K65 : own_K p e below SE T64 (mkF m 222 #[.val (.ref r0), .val (.ref b6), .val (.int (3 : Int32)), .val (.int (6 : Int32)), .val (.int x1), .val (.int x0)] [(.int (((x1.toUInt32 >>> ((12 : Int32) &&& 31).toUInt32).toInt32) &&& (63 : Int32))), (.ref oAL), (.int (5 : Int32)), (.ref b6)]) := by
    intro t k
    refine K64 _ ?_
    refine XS.iload X64.here hx rfl (hb hby d2_214) rfl ?_
    show own_S p e below T64 (mkF m 216 #[.val (.ref r0), .val (.ref b6), .val (.int (3 : Int32)), .val (.int (6 : Int32)), .val (.int x1), .val (.int x0)] [(.int x1), (.ref oAL), (.int (5 : Int32)), (.ref b6)]) _
    refine XS.bipush X64.here hx rfl (hb hby d2_216) ?_
    show own_S p e below T64 (mkF m 218 #[.val (.ref r0), .val (.ref b6), .val (.int (3 : Int32)), .val (.int (6 : Int32)), .val (.int x1), .val (.int x0)] [(.int (12 : Int32)), (.int x1), (.ref oAL), (.int (5 : Int32)), (.ref b6)]) _
    refine XS.iushr X64.here hx rfl (hb hby d2_218) rfl ?_
    show own_S p e below T64 (mkF m 219 #[.val (.ref r0), .val (.ref b6), .val (.int (3 : Int32)), .val (.int (6 : Int32)), .val (.int x1), .val (.int x0)] [(.int ((x1.toUInt32 >>> ((12 : Int32) &&& 31).toUInt32).toInt32)), (.ref oAL), (.int (5 : Int32)), (.ref b6)]) _
    refine XS.bipush X64.here hx rfl (hb hby d2_219) ?_
    show own_S p e below T64 (mkF m 221 #[.val (.ref r0), .val (.ref b6), .val (.int (3 : Int32)), .val (.int (6 : Int32)), .val (.int x1), .val (.int x0)] [(.int (63 : Int32)), (.int ((x1.toUInt32 >>> ((12 : Int32) &&& 31).toUInt32).toInt32)), (.ref oAL), (.int (5 : Int32)), (.ref b6)]) _
    refine XS.iand X64.here hx rfl (hb hby d2_221) rfl ?_
    exact k
  obtain ⟨Ar66, S66, Ng66, Hh66⟩ := id (TA.ext (own_ext Kp62))
  have hin66 : ¬ ((((x1.toUInt32 >>> ((12 : Int32) &&& 31).toUInt32).toInt32) &&& (63 : Int32)) < 0 ∨ cA.slots.size ≤ ((((x1.toUInt32 >>> ((12 : Int32) &&& 31).toUInt32).toInt32) &&& (63 : Int32))).toNatClampNeg) := inb_of S66 (own_b63 _)
  have hat66 := Hh66 _ hin66
  have K67 : own_K p e below SE T64 (mkF m 223 #[.val (.ref r0), .val (.ref b6), .val (.int (3 : Int32)), .val (.int (6 : Int32)), .val (.int x1), .val (.int x0)] [(.int (atv cA (((x1.toUInt32 >>> ((12 : Int32) &&& 31).toUInt32).toInt32) &&& (63 : Int32)))), (.int (5 : Int32)), (.ref b6)]) := by
    intro t k
    refine K65 _ ?_
    refine X64.baloadBytes hx (j := (((x1.toUInt32 >>> ((12 : Int32) &&& 31).toUInt32).toInt32) &&& (63 : Int32))) (v := (.int (atv cA (((x1.toUInt32 >>> ((12 : Int32) &&& 31).toUInt32).toInt32) &&& (63 : Int32))))) (by rw [e64]; exact Ar66.1) (State.isArrayOf_alike hZ.alike Ar66.2.1) Ar66.2.2 hin66 hat66 (g := (mkF m 222 #[.val (.ref r0), .val (.ref b6), .val (.int (3 : Int32)), .val (.int (6 : Int32)), .val (.int x1), .val (.int x0)] [(.int (((x1.toUInt32 >>> ((12 : Int32) &&& 31).toUInt32).toInt32) &&& (63 : Int32))), (.ref oAL), (.int (5 : Int32)), (.ref b6)])) rfl rfl (hb hby d2_222) _ ?_
    exact k
  obtain ⟨cl68, Ar68, qk68, S68, Ng68, Hh68, Gg68⟩ := id V62
  have hin68 : ¬ ((5 : Int32) < 0 ∨ cl68.slots.size ≤ ((5 : Int32)).toNatClampNeg) := inb_of S68 ⟨by decide, by decide⟩
  obtain ⟨T69, h69, X69, e69, W69, st69⟩ := stB X64 hx hZ e64 Ar68 (j := (5 : Int32)) hin68 (g := (mkF m 223 #[.val (.ref r0), .val (.ref b6), .val (.int (3 : Int32)), .val (.int (6 : Int32)), .val (.int x1), .val (.int x0)] [(.int (atv cA (((x1.toUInt32 >>> ((12 : Int32) &&& 31).toUInt32).toInt32) &&& (63 : Int32)))), (.int (5 : Int32)), (.ref b6)])) rfl rfl (hb hby d2_223)
  have V69 : Arv Z h69 b6 k6 .byte (7 : Int32) [(.int ((atv cA ((x0.toUInt32 >>> ((18 : Int32) &&& 31).toUInt32).toInt32))).toInt8.toInt32), (.int ((atv cA (((x0.toUInt32 >>> ((12 : Int32) &&& 31).toUInt32).toInt32) &&& (63 : Int32)))).toInt8.toInt32), (.int ((atv cA (((x0.toUInt32 >>> ((6 : Int32) &&& 31).toUInt32).toInt32) &&& (63 : Int32)))).toInt8.toInt32), (.int ((atv cA (x0 &&& (63 : Int32)))).toInt8.toInt32), (.int ((atv cA ((x1.toUInt32 >>> ((18 : Int32) &&& 31).toUInt32).toInt32))).toInt8.toInt32), (.int ((atv cA (((x1.toUInt32 >>> ((12 : Int32) &&& 31).toUInt32).toInt32) &&& (63 : Int32)))).toInt8.toInt32), (.int (0 : Int32))] (.int (0 : Int32)) := Arv.set Ar68 qk68 S68 Ng68 Hh68 Gg68 (fits_nar_byte _) W69 5 rfl (Nat.le_of_ble_eq_true rfl)
  have N69 := Fr.snoc X69 N62 g_b6
  have Kp69 : Keep h0 h69 [] := Keep.wr Kp62 W69 (Or.inr sz_b6)
  have K69 : own_K p e below SE T69 (mkF m 224 #[.val (.ref r0), .val (.ref b6), .val (.int (3 : Int32)), .val (.int (6 : Int32)), .val (.int x1), .val (.int x0)] []) := fun t k => K67 _ (st69 _ k)
  have K70 : own_K p e below SE T69 (mkF m 226 #[.val (.ref r0), .val (.ref b6), .val (.int (3 : Int32)), .val (.int (6 : Int32)), .val (.int x1), .val (.int x0)] [(.ref b6), (.int (6 : Int32))]) := by
    intro t k
    refine K69 _ ?_
    refine XS.iloadN X69.here hx rfl (hb hby d2_224) rfl ?_
    show own_S p e below T69 (mkF m 225 #[.val (.ref r0), .val (.ref b6), .val (.int (3 : Int32)), .val (.int (6 : Int32)), .val (.int x1), .val (.int x0)] [(.int (6 : Int32))]) _
    refine XS.aloadN X69.here hx rfl (hb hby d2_225) rfl rfl ?_
    exact k
  obtain ⟨cl71, Ar71, -, S71, Ng71, -, -⟩ := id V69
  have K72 : own_K p e below SE T69 (mkF m 232 #[.val (.ref r0), .val (.ref b6), .val (.int (3 : Int32)), .val (.int (6 : Int32)), .val (.int x1), .val (.int x0)] [(.int (6 : Int32)), (.ref b6)]) := by
    intro t k
    refine K70 _ ?_
    refine X69.arraylength hx (by rw [e69]; exact Ar71.1) (State.isArrayOf_alike hZ.alike Ar71.2.1) (g := (mkF m 226 #[.val (.ref r0), .val (.ref b6), .val (.int (3 : Int32)), .val (.int (6 : Int32)), .val (.int x1), .val (.int x0)] [(.ref b6), (.int (6 : Int32))])) rfl rfl (hb hby d2_226) _ ?_
    rw [len_of S71 Ng71]
    show own_S p e below T69 (mkF m 227 #[.val (.ref r0), .val (.ref b6), .val (.int (3 : Int32)), .val (.int (6 : Int32)), .val (.int x1), .val (.int x0)] [(.int (7 : Int32)), (.int (6 : Int32))]) _
    refine XS.icmpNo X69.here hx rfl (hb hby d2_227) rfl (XT.ii_ge_f (by decide : (6 : Int32) < (7 : Int32))) ?_
    show own_S p e below T69 (mkF m 230 #[.val (.ref r0), .val (.ref b6), .val (.int (3 : Int32)), .val (.int (6 : Int32)), .val (.int x1), .val (.int x0)] []) _
    refine XS.aloadN X69.here hx rfl (hb hby d2_230) rfl rfl ?_
    show own_S p e below T69 (mkF m 231 #[.val (.ref r0), .val (.ref b6), .val (.int (3 : Int32)), .val (.int (6 : Int32)), .val (.int x1), .val (.int x0)] [(.ref b6)]) _
    refine XS.iloadN X69.here hx rfl (hb hby d2_231) rfl ?_
    exact k
  obtain ⟨T73, X73, e73, st73⟩ := getS2 X69 hx hZ hown (host := "") (Or.inl (hw _ (List.mem_of_getElem? (i := 16) rfl))) Via.refl e69 (SA.ext (own_ext Kp69)) (g := (mkF m 232 #[.val (.ref r0), .val (.ref b6), .val (.int (3 : Int32)), .val (.int (6 : Int32)), .val (.int x1), .val (.int x0)] [(.int (6 : Int32)), (.ref b6)])) rfl (hb hby d2_232)
  have K73 : own_K p e below SE T73 (mkF m 235 #[.val (.ref r0), .val (.ref b6), .val (.int (3 : Int32)), .val (.int (6 : Int32)), .val (.int x1), .val (.int x0)] [(.ref oAL), (.int (6 : Int32)), (.ref b6)]) := fun t k => K72 _ (st73 _ k)
  have K74 : own_K p e below SE T73 (mkF m 243 #[.val (.ref r0), .val (.ref b6), .val (.int (3 : Int32)), .val (.int (6 : Int32)), .val (.int x1), .val (.int x0)] [(.int (((x1.toUInt32 >>> ((6 : Int32) &&& 31).toUInt32).toInt32) &&& (63 : Int32))), (.ref oAL), (.int (6 : Int32)), (.ref b6)]) := by
    intro t k
    refine K73 _ ?_
    refine XS.iload X73.here hx rfl (hb hby d2_235) rfl ?_
    show own_S p e below T73 (mkF m 237 #[.val (.ref r0), .val (.ref b6), .val (.int (3 : Int32)), .val (.int (6 : Int32)), .val (.int x1), .val (.int x0)] [(.int x1), (.ref oAL), (.int (6 : Int32)), (.ref b6)]) _
    refine XS.bipush X73.here hx rfl (hb hby d2_237) ?_
    show own_S p e below T73 (mkF m 239 #[.val (.ref r0), .val (.ref b6), .val (.int (3 : Int32)), .val (.int (6 : Int32)), .val (.int x1), .val (.int x0)] [(.int (6 : Int32)), (.int x1), (.ref oAL), (.int (6 : Int32)), (.ref b6)]) _
    refine XS.iushr X73.here hx rfl (hb hby d2_239) rfl ?_
    show own_S p e below T73 (mkF m 240 #[.val (.ref r0), .val (.ref b6), .val (.int (3 : Int32)), .val (.int (6 : Int32)), .val (.int x1), .val (.int x0)] [(.int ((x1.toUInt32 >>> ((6 : Int32) &&& 31).toUInt32).toInt32)), (.ref oAL), (.int (6 : Int32)), (.ref b6)]) _
    refine XS.bipush X73.here hx rfl (hb hby d2_240) ?_
    show own_S p e below T73 (mkF m 242 #[.val (.ref r0), .val (.ref b6), .val (.int (3 : Int32)), .val (.int (6 : Int32)), .val (.int x1), .val (.int x0)] [(.int (63 : Int32)), (.int ((x1.toUInt32 >>> ((6 : Int32) &&& 31).toUInt32).toInt32)), (.ref oAL), (.int (6 : Int32)), (.ref b6)]) _
    refine XS.iand X73.here hx rfl (hb hby d2_242) rfl ?_
    exact k
  obtain ⟨Ar75, S75, Ng75, Hh75⟩ := id (TA.ext (own_ext Kp69))
  have hin75 : ¬ ((((x1.toUInt32 >>> ((6 : Int32) &&& 31).toUInt32).toInt32) &&& (63 : Int32)) < 0 ∨ cA.slots.size ≤ ((((x1.toUInt32 >>> ((6 : Int32) &&& 31).toUInt32).toInt32) &&& (63 : Int32))).toNatClampNeg) := inb_of S75 (own_b63 _)
  have hat75 := Hh75 _ hin75
  have K76 : own_K p e below SE T73 (mkF m 244 #[.val (.ref r0), .val (.ref b6), .val (.int (3 : Int32)), .val (.int (6 : Int32)), .val (.int x1), .val (.int x0)] [(.int (atv cA (((x1.toUInt32 >>> ((6 : Int32) &&& 31).toUInt32).toInt32) &&& (63 : Int32)))), (.int (6 : Int32)), (.ref b6)]) := by
    intro t k
    refine K74 _ ?_
    refine X73.baloadBytes hx (j := (((x1.toUInt32 >>> ((6 : Int32) &&& 31).toUInt32).toInt32) &&& (63 : Int32))) (v := (.int (atv cA (((x1.toUInt32 >>> ((6 : Int32) &&& 31).toUInt32).toInt32) &&& (63 : Int32))))) (by rw [e73]; exact Ar75.1) (State.isArrayOf_alike hZ.alike Ar75.2.1) Ar75.2.2 hin75 hat75 (g := (mkF m 243 #[.val (.ref r0), .val (.ref b6), .val (.int (3 : Int32)), .val (.int (6 : Int32)), .val (.int x1), .val (.int x0)] [(.int (((x1.toUInt32 >>> ((6 : Int32) &&& 31).toUInt32).toInt32) &&& (63 : Int32))), (.ref oAL), (.int (6 : Int32)), (.ref b6)])) rfl rfl (hb hby d2_243) _ ?_
    exact k
  obtain ⟨cl77, Ar77, qk77, S77, Ng77, Hh77, Gg77⟩ := id V69
  have hin77 : ¬ ((6 : Int32) < 0 ∨ cl77.slots.size ≤ ((6 : Int32)).toNatClampNeg) := inb_of S77 ⟨by decide, by decide⟩
  obtain ⟨T78, h78, X78, e78, W78, st78⟩ := stB X73 hx hZ e73 Ar77 (j := (6 : Int32)) hin77 (g := (mkF m 244 #[.val (.ref r0), .val (.ref b6), .val (.int (3 : Int32)), .val (.int (6 : Int32)), .val (.int x1), .val (.int x0)] [(.int (atv cA (((x1.toUInt32 >>> ((6 : Int32) &&& 31).toUInt32).toInt32) &&& (63 : Int32)))), (.int (6 : Int32)), (.ref b6)])) rfl rfl (hb hby d2_244)
  have V78 : Arv Z h78 b6 k6 .byte (7 : Int32) [(.int ((atv cA ((x0.toUInt32 >>> ((18 : Int32) &&& 31).toUInt32).toInt32))).toInt8.toInt32), (.int ((atv cA (((x0.toUInt32 >>> ((12 : Int32) &&& 31).toUInt32).toInt32) &&& (63 : Int32)))).toInt8.toInt32), (.int ((atv cA (((x0.toUInt32 >>> ((6 : Int32) &&& 31).toUInt32).toInt32) &&& (63 : Int32)))).toInt8.toInt32), (.int ((atv cA (x0 &&& (63 : Int32)))).toInt8.toInt32), (.int ((atv cA ((x1.toUInt32 >>> ((18 : Int32) &&& 31).toUInt32).toInt32))).toInt8.toInt32), (.int ((atv cA (((x1.toUInt32 >>> ((12 : Int32) &&& 31).toUInt32).toInt32) &&& (63 : Int32)))).toInt8.toInt32), (.int ((atv cA (((x1.toUInt32 >>> ((6 : Int32) &&& 31).toUInt32).toInt32) &&& (63 : Int32)))).toInt8.toInt32)] (.int (0 : Int32)) := Arv.set Ar77 qk77 S77 Ng77 Hh77 Gg77 (fits_nar_byte _) W78 6 rfl (Nat.le_of_ble_eq_true rfl)
  have N78 := Fr.snoc X78 N69 g_b6
  have Kp78 : Keep h0 h78 [] := Keep.wr Kp69 W78 (Or.inr sz_b6)
  have K78 : own_K p e below SE T78 (mkF m 245 #[.val (.ref r0), .val (.ref b6), .val (.int (3 : Int32)), .val (.int (6 : Int32)), .val (.int x1), .val (.int x0)] []) := fun t k => K76 _ (st78 _ k)
  have K79 : own_K p e below SE T78 (mkF m 246 #[.val (.ref r0), .val (.ref b6), .val (.int (3 : Int32)), .val (.int (6 : Int32)), .val (.int x1), .val (.int x0)] [(.ref b6)]) := by
    intro t k
    refine K78 _ ?_
    refine XS.aloadN X78.here hx rfl (hb hby d2_245) rfl rfl ?_
    exact k
  subst hx0
  subst hx1
  obtain ⟨fs, hr, hrun, hended, hW, hsame⟩ := X78.leave (v := some (.ref b6)) (fun h => by rw [Bd.returns] at h; cases h)
  refine ⟨_, _, K79 _ ?_, hrun, hended, _, _, rfl, ?_, ⟨_, rfl⟩, hW, hsame.mono (by decide) (by decide)⟩
  · show Steps p.tables e below (T78.setTop (mkF m 246 #[.val (.ref r0), .val (.ref b6), .val (.int (3 : Int32)), .val (.int (6 : Int32)), .val (.int (((ub3 &&& (255 : Int32)) <<< ((16 : Int32) &&& 31)) ||| ((ub4 &&& (255 : Int32)) <<< ((8 : Int32) &&& 31)))), .val (.int ((((ub0 &&& (255 : Int32)) <<< ((16 : Int32) &&& 31)) ||| ((ub1 &&& (255 : Int32)) <<< ((8 : Int32) &&& 31))) ||| (ub2 &&& (255 : Int32))))] [(.ref b6)])) _
    jvm_step X78.here [X78.here.top, hx, (hb hby d2_246), X78.method', Bd.returns, Value.isRef, FieldType.isReference]
    first | (intro acts; rw [hr _ acts rfl rfl rfl]) | rw [hr _ _ rfl rfl rfl]
    exact Steps.refl _
  · show Q2_5 Z r0 kA oAL cA ub0 ub1 ub2 ub3 ub4 h0 n0 _ T78.heap _
    rw [e78]
    exact ⟨congrArg (fun z => some (Value.ref z)) g6, N78, Kp78, _, (g6 ▸ V78)⟩
theorem ef_2_6 (m : MethodId) (r0 : Addr) : entryFrame m #[(.ref r0)] 6 = mkF m 0 #[.val (.ref r0), .unset, .unset, .unset, .unset, .unset] [] := by first | (simp [entryFrame, mkF, argsToLocals, Value.category]; done) | rfl
def Q2_6 (Z : State) (r0 : Addr) (kA : ClassId) (oAL : Addr) (cA : Cell) (ub0 : Int32) (ub1 : Int32) (ub2 : Int32) (ub3 : Int32) (ub4 : Int32) (ub5 : Int32) (h0 : Heap) (n0 : Nat) (v : Option Value) (h : Heap) (L : List Loc) : Prop := v = some (.ref h0.size) ∧ Fr n0 L ∧ Keep h0 h [] ∧ ∃ kT, Arv Z h h0.size kT .byte (8 : Int32) [(.int (atv cA ((((((ub0 &&& (255 : Int32)) <<< ((16 : Int32) &&& 31)) ||| ((ub1 &&& (255 : Int32)) <<< ((8 : Int32) &&& 31))) ||| (ub2 &&& (255 : Int32))).toUInt32 >>> ((18 : Int32) &&& 31).toUInt32).toInt32)).toInt8.toInt32), (.int (atv cA (((((((ub0 &&& (255 : Int32)) <<< ((16 : Int32) &&& 31)) ||| ((ub1 &&& (255 : Int32)) <<< ((8 : Int32) &&& 31))) ||| (ub2 &&& (255 : Int32))).toUInt32 >>> ((12 : Int32) &&& 31).toUInt32).toInt32) &&& (63 : Int32))).toInt8.toInt32), (.int (atv cA (((((((ub0 &&& (255 : Int32)) <<< ((16 : Int32) &&& 31)) ||| ((ub1 &&& (255 : Int32)) <<< ((8 : Int32) &&& 31))) ||| (ub2 &&& (255 : Int32))).toUInt32 >>> ((6 : Int32) &&& 31).toUInt32).toInt32) &&& (63 : Int32))).toInt8.toInt32), (.int (atv cA (((((ub0 &&& (255 : Int32)) <<< ((16 : Int32) &&& 31)) ||| ((ub1 &&& (255 : Int32)) <<< ((8 : Int32) &&& 31))) ||| (ub2 &&& (255 : Int32))) &&& (63 : Int32))).toInt8.toInt32), (.int (atv cA ((((((ub3 &&& (255 : Int32)) <<< ((16 : Int32) &&& 31)) ||| ((ub4 &&& (255 : Int32)) <<< ((8 : Int32) &&& 31))) ||| (ub5 &&& (255 : Int32))).toUInt32 >>> ((18 : Int32) &&& 31).toUInt32).toInt32)).toInt8.toInt32), (.int (atv cA (((((((ub3 &&& (255 : Int32)) <<< ((16 : Int32) &&& 31)) ||| ((ub4 &&& (255 : Int32)) <<< ((8 : Int32) &&& 31))) ||| (ub5 &&& (255 : Int32))).toUInt32 >>> ((12 : Int32) &&& 31).toUInt32).toInt32) &&& (63 : Int32))).toInt8.toInt32), (.int (atv cA (((((((ub3 &&& (255 : Int32)) <<< ((16 : Int32) &&& 31)) ||| ((ub4 &&& (255 : Int32)) <<< ((8 : Int32) &&& 31))) ||| (ub5 &&& (255 : Int32))).toUInt32 >>> ((6 : Int32) &&& 31).toUInt32).toInt32) &&& (63 : Int32))).toInt8.toInt32), (.int (atv cA (((((ub3 &&& (255 : Int32)) <<< ((16 : Int32) &&& 31)) ||| ((ub4 &&& (255 : Int32)) <<< ((8 : Int32) &&& 31))) ||| (ub5 &&& (255 : Int32))) &&& (63 : Int32))).toInt8.toInt32)] (.int (0 : Int32))
set_option maxRecDepth 65536 in
set_option maxHeartbeats 40000000 in
theorem rm2_6 (l : Launch) (Z : State) (a0 : Array Value) (hw : ∀ d ∈ tables_1, d.before a0 Z = true) (ws : List Jvm.Cond) (r0 : Addr) (kA : ClassId) (oAL : Addr) (cA : Cell) (ub0 : Int32) (ub1 : Int32) (ub2 : Int32) (ub3 : Int32) (ub4 : Int32) (ub5 : Int32) (h0 : Heap) (n0 : Nat) (Z0 : n0 ≤ h0.size) (V_r0 : Arv Z h0 r0 kA .byte (6 : Int32) [(.int ub0), (.int ub1), (.int ub2), (.int ub3), (.int ub4), (.int ub5)] (.int (0 : Int32))) (SA : Sta Z h0 "com/example/whorl/whorl/Base64url" "ALPHABET" "[B" (.ref oAL)) (TA : Tab Z h0 oAL cA .byte (64 : Int32)) :
    MetFree l (⟨"com/example/whorl/whorl/Base64url", "text", "([B)[B"⟩ : MethodName) (head1 (Jvm.Cond.code (⟨"com/example/whorl/whorl/Base64url", "text", "([B)[B"⟩ : MethodName) prog_1_method_3_code 6 (some (.array .byte)) :: ws) ({ frames := 0, cells := 1, slots := 8, locals := 0 } : Room)) (fun a U => a = #[(.ref r0)] ∧ Z.Warmed39 U.vm ∧ U.heap = h0) (fun _ _ _ _ _ => True) (fun _ U o U' => ∃ v L, o = .returned v ∧ Q2_6 Z r0 kA oAL cA ub0 ub1 ub2 ub3 ub4 ub5 h0 n0 v U'.heap L ∧ FrameEnd U o U' L ({ frames := 0, cells := 1, slots := 8, locals := 0 } : Room).cells ({ frames := 0, cells := 1, slots := 8, locals := 0 } : Room).slots) := by
  refine MetFree.of_bodySF (plainFor_of_name pn_2) hisR ?_
  intro p e s m args below meth c s₁ Bd hml0 hP hK
  obtain ⟨rfl, hZ, hh⟩ := hP
  have hx := Bd.exec
  have hby := Bd.bytes
  have hml : c.maxLocals = 6 := hml0
  have hown : s.vm.findClass "com/example/whorl/whorl/Base64url" = some m.cls := findClass_of_methodNamed Bd.named
  have hnm := (name_of_methodNamed Bd.named Bd.method).1
  have X0 : Stand p l e ({ frames := 0, cells := 1, slots := 8, locals := 0 } : Room) s m #[(.ref r0)] below meth c s₁ [] 0 0 := Stand.of_body Bd
  have e0 : s₁.heap = h0 := by rw [← hh, Bd.state]; rfl
  have N0 := Fr.nil n0
  have K0 : ∀ t, Steps p.tables e below (s₁.setTop (mkF m 0 #[.val (.ref r0), .unset, .unset, .unset, .unset, .unset] [])) t → Steps p.tables e below (s₁.setTop (entryFrame m #[(.ref r0)] 6)) t := fun t k => castTop (ef_2_6 m r0) k
  generalize s₁.setTop (entryFrame m #[(.ref r0)] 6) = SE at K0 ⊢
  have K1 : own_K p e below SE s₁ (mkF m 1 #[.val (.ref r0), .unset, .unset, .unset, .unset, .unset] [(.ref r0)]) := by
    intro t k
    refine K0 _ ?_
    refine XS.aloadN X0.here hx rfl (hb hby d2_0) rfl rfl ?_
    exact k
  obtain ⟨cl2, Ar2, -, S2, Ng2, -, -⟩ := id V_r0
  have K3 : own_K p e below SE s₁ (mkF m 3 #[.val (.ref r0), .unset, .unset, .unset, .unset, .unset] [(.long (((6 : Int32)).toInt64))]) := by
    intro t k
    refine K1 _ ?_
    refine X0.arraylength hx (by rw [e0]; exact Ar2.1) (State.isArrayOf_alike hZ.alike Ar2.2.1) (g := (mkF m 1 #[.val (.ref r0), .unset, .unset, .unset, .unset, .unset] [(.ref r0)])) rfl rfl (hb hby d2_1) _ ?_
    rw [len_of S2 Ng2]
    show own_S p e below s₁ (mkF m 2 #[.val (.ref r0), .unset, .unset, .unset, .unset, .unset] [(.int (6 : Int32))]) _
    refine XS.i2l X0.here hx rfl (hb hby d2_2) rfl ?_
    exact k
  rw [(by decide : (((6 : Int32)).toInt64) = (6 : Int64))] at K3
  have K4 : own_K p e below SE s₁ (mkF m 15 #[.val (.ref r0), .unset, .unset, .unset, .unset, .unset] [(.long ((26 : Int64) / (3 : Int64)))]) := by
    intro t k
    refine K3 _ ?_
    refine Stand.ldc2J X0 hx hown (mvT hZ (hw _ (List.mem_of_getElem? (i := 10) rfl))) (v := (4 : Int64)) (g := (mkF m 3 #[.val (.ref r0), .unset, .unset, .unset, .unset, .unset] [(.long (6 : Int64))])) rfl (hb hby d2_3) ?_
    show own_S p e below s₁ (mkF m 6 #[.val (.ref r0), .unset, .unset, .unset, .unset, .unset] [(.long (4 : Int64)), (.long (6 : Int64))]) _
    refine XS.lmul X0.here hx rfl (hb hby d2_6) rfl ?_
    show own_S p e below s₁ (mkF m 7 #[.val (.ref r0), .unset, .unset, .unset, .unset, .unset] [(.long (24 : Int64))]) _
    refine Stand.ldc2J X0 hx hown (mvT hZ (hw _ (List.mem_of_getElem? (i := 11) rfl))) (v := (2 : Int64)) (g := (mkF m 7 #[.val (.ref r0), .unset, .unset, .unset, .unset, .unset] [(.long (24 : Int64))])) rfl (hb hby d2_7) ?_
    show own_S p e below s₁ (mkF m 10 #[.val (.ref r0), .unset, .unset, .unset, .unset, .unset] [(.long (2 : Int64)), (.long (24 : Int64))]) _
    refine XS.ladd X0.here hx rfl (hb hby d2_10) rfl ?_
    show own_S p e below s₁ (mkF m 11 #[.val (.ref r0), .unset, .unset, .unset, .unset, .unset] [(.long (26 : Int64))]) _
    refine Stand.ldc2J X0 hx hown (mvT hZ (hw _ (List.mem_of_getElem? (i := 12) rfl))) (v := (3 : Int64)) (g := (mkF m 11 #[.val (.ref r0), .unset, .unset, .unset, .unset, .unset] [(.long (26 : Int64))])) rfl (hb hby d2_11) ?_
    show own_S p e below s₁ (mkF m 14 #[.val (.ref r0), .unset, .unset, .unset, .unset, .unset] [(.long (3 : Int64)), (.long (26 : Int64))]) _
    refine XS.ldiv X0.here hx rfl (hb hby d2_14) rfl (by decide) ?_
    exact k
  rw [(by decide : ((26 : Int64) / (3 : Int64)) = (8 : Int64))] at K4
  have K5 : own_K p e below SE s₁ (mkF m 16 #[.val (.ref r0), .unset, .unset, .unset, .unset, .unset] [(.int (((8 : Int64)).toInt32))]) := by
    intro t k
    refine K4 _ ?_
    refine XS.l2i X0.here hx rfl (hb hby d2_15) rfl ?_
    exact k
  rw [(by decide : (((8 : Int64)).toInt32) = (8 : Int32))] at K5
  obtain ⟨T6, h6, k6, X6, e6, E6, A6, st6⟩ := newP X0 hx hZ (hw _ (List.mem_of_getElem? (i := 1) rfl)) e0 (g := (mkF m 16 #[.val (.ref r0), .unset, .unset, .unset, .unset, .unset] [(.int (8 : Int32))])) rfl (hb hby d2_16) rfl (by decide) (cap := 8) (by decide) (by decide) (by decide) (by decide)
  obtain ⟨b6, g6⟩ : ∃ z, z = h0.size := ⟨_, rfl⟩
  rw [← g6] at A6 st6
  have g_b6 : n0 ≤ b6 := Nat.le_trans Z0 (Nat.le_of_eq g6.symm)
  have sz_b6 : h0.size ≤ b6 := Nat.le_trans (Nat.le_refl _) (Nat.le_of_eq g6.symm)
  have own_ne_r0_b6 : r0 ≠ b6 := Nat.ne_of_lt (Nat.lt_of_lt_of_le V_r0.lt (Nat.le_of_eq g6.symm))
  have Kp6 : Keep h0 h6 [] := Keep.ext (Keep.refl h0 []) E6
  have V6 : Arv Z h6 b6 k6 .byte (8 : Int32) [(.int (0 : Int32)), (.int (0 : Int32)), (.int (0 : Int32)), (.int (0 : Int32)), (.int (0 : Int32)), (.int (0 : Int32)), (.int (0 : Int32)), (.int (0 : Int32))] (.int (0 : Int32)) := (Arv.new A6 (by decide)).pad (pad_rep [] (.int (0 : Int32)) 8)
  have K6 : own_K p e below SE T6 (mkF m 18 #[.val (.ref r0), .unset, .unset, .unset, .unset, .unset] [(.ref b6)]) := fun t k => K5 _ (st6 _ k)
  have K7 : own_K p e below SE T6 (mkF m 20 #[.val (.ref r0), .val (.ref b6), .unset, .unset, .unset, .unset] [(.ref r0)]) := by
    intro t k
    refine K6 _ ?_
    refine XS.astoreN X6.here hx rfl (hb hby d2_18) rfl rfl (l' := #[.val (.ref r0), .val (.ref b6), .unset, .unset, .unset, .unset]) rfl ?_
    show own_S p e below T6 (mkF m 19 #[.val (.ref r0), .val (.ref b6), .unset, .unset, .unset, .unset] []) _
    refine XS.aloadN X6.here hx rfl (hb hby d2_19) rfl rfl ?_
    exact k
  obtain ⟨cl8, Ar8, -, S8, Ng8, -, -⟩ := id (V_r0.ext (own_ext Kp6))
  have K9 : own_K p e below SE T6 (mkF m 22 #[.val (.ref r0), .val (.ref b6), .unset, .unset, .unset, .unset] [(.ref r0), (.int (6 : Int32))]) := by
    intro t k
    refine K7 _ ?_
    refine X6.arraylength hx (by rw [e6]; exact Ar8.1) (State.isArrayOf_alike hZ.alike Ar8.2.1) (g := (mkF m 20 #[.val (.ref r0), .val (.ref b6), .unset, .unset, .unset, .unset] [(.ref r0)])) rfl rfl (hb hby d2_20) _ ?_
    rw [len_of S8 Ng8]
    show own_S p e below T6 (mkF m 21 #[.val (.ref r0), .val (.ref b6), .unset, .unset, .unset, .unset] [(.int (6 : Int32))]) _
    refine XS.aloadN X6.here hx rfl (hb hby d2_21) rfl rfl ?_
    exact k
  obtain ⟨cl10, Ar10, -, S10, Ng10, -, -⟩ := id (V_r0.ext (own_ext Kp6))
  have K11 : own_K p e below SE T6 (mkF m 25 #[.val (.ref r0), .val (.ref b6), .unset, .unset, .unset, .unset] [(.int ((6 : Int32) % (3 : Int32))), (.int (6 : Int32))]) := by
    intro t k
    refine K9 _ ?_
    refine X6.arraylength hx (by rw [e6]; exact Ar10.1) (State.isArrayOf_alike hZ.alike Ar10.2.1) (g := (mkF m 22 #[.val (.ref r0), .val (.ref b6), .unset, .unset, .unset, .unset] [(.ref r0), (.int (6 : Int32))])) rfl rfl (hb hby d2_22) _ ?_
    rw [len_of S10 Ng10]
    show own_S p e below T6 (mkF m 23 #[.val (.ref r0), .val (.ref b6), .unset, .unset, .unset, .unset] [(.int (6 : Int32)), (.int (6 : Int32))]) _
    refine XS.iconst X6.here hx rfl (hb hby d2_23) ?_
    show own_S p e below T6 (mkF m 24 #[.val (.ref r0), .val (.ref b6), .unset, .unset, .unset, .unset] [(.int (3 : Int32)), (.int (6 : Int32)), (.int (6 : Int32))]) _
    refine iremM X6 hx rfl (hb hby d2_24) rfl (by decide) ?_
    exact k
  rw [(by decide : ((6 : Int32) % (3 : Int32)) = (0 : Int32))] at K11
  have K12 : own_K p e below SE T6 (mkF m 41 #[.val (.ref r0), .val (.ref b6), .val (.int (6 : Int32)), .val (.int (0 : Int32)), .val (.int (0 : Int32)), .unset] [(.int (0 : Int32)), (.ref r0)]) := by
    intro t k
    refine K11 _ ?_
    refine XS.isub X6.here hx rfl (hb hby d2_25) rfl ?_
    show own_S p e below T6 (mkF m 26 #[.val (.ref r0), .val (.ref b6), .unset, .unset, .unset, .unset] [(.int (6 : Int32))]) _
    refine XS.istoreN X6.here hx rfl (hb hby d2_26) rfl (l' := #[.val (.ref r0), .val (.ref b6), .val (.int (6 : Int32)), .unset, .unset, .unset]) rfl ?_
    show own_S p e below T6 (mkF m 27 #[.val (.ref r0), .val (.ref b6), .val (.int (6 : Int32)), .unset, .unset, .unset] []) _
    refine XS.iconst X6.here hx rfl (hb hby d2_27) ?_
    show own_S p e below T6 (mkF m 28 #[.val (.ref r0), .val (.ref b6), .val (.int (6 : Int32)), .unset, .unset, .unset] [(.int (0 : Int32))]) _
    refine XS.istoreN X6.here hx rfl (hb hby d2_28) rfl (l' := #[.val (.ref r0), .val (.ref b6), .val (.int (6 : Int32)), .val (.int (0 : Int32)), .unset, .unset]) rfl ?_
    show own_S p e below T6 (mkF m 29 #[.val (.ref r0), .val (.ref b6), .val (.int (6 : Int32)), .val (.int (0 : Int32)), .unset, .unset] []) _
    refine XS.iconst X6.here hx rfl (hb hby d2_29) ?_
    show own_S p e below T6 (mkF m 30 #[.val (.ref r0), .val (.ref b6), .val (.int (6 : Int32)), .val (.int (0 : Int32)), .unset, .unset] [(.int (0 : Int32))]) _
    refine XS.istore X6.here hx rfl (hb hby d2_30) rfl (l' := #[.val (.ref r0), .val (.ref b6), .val (.int (6 : Int32)), .val (.int (0 : Int32)), .val (.int (0 : Int32)), .unset]) rfl ?_
    show own_S p e below T6 (mkF m 32 #[.val (.ref r0), .val (.ref b6), .val (.int (6 : Int32)), .val (.int (0 : Int32)), .val (.int (0 : Int32)), .unset] []) _
    refine XS.iload X6.here hx rfl (hb hby d2_32) rfl ?_
    show own_S p e below T6 (mkF m 34 #[.val (.ref r0), .val (.ref b6), .val (.int (6 : Int32)), .val (.int (0 : Int32)), .val (.int (0 : Int32)), .unset] [(.int (0 : Int32))]) _
    refine XS.iloadN X6.here hx rfl (hb hby d2_34) rfl ?_
    show own_S p e below T6 (mkF m 35 #[.val (.ref r0), .val (.ref b6), .val (.int (6 : Int32)), .val (.int (0 : Int32)), .val (.int (0 : Int32)), .unset] [(.int (6 : Int32)), (.int (0 : Int32))]) _
    refine XS.icmpNo X6.here hx rfl (hb hby d2_35) rfl (XT.ii_ge_f (by decide : (0 : Int32) < (6 : Int32))) ?_
    show own_S p e below T6 (mkF m 38 #[.val (.ref r0), .val (.ref b6), .val (.int (6 : Int32)), .val (.int (0 : Int32)), .val (.int (0 : Int32)), .unset] []) _
    refine XS.aloadN X6.here hx rfl (hb hby d2_38) rfl rfl ?_
    show own_S p e below T6 (mkF m 39 #[.val (.ref r0), .val (.ref b6), .val (.int (6 : Int32)), .val (.int (0 : Int32)), .val (.int (0 : Int32)), .unset] [(.ref r0)]) _
    refine XS.iload X6.here hx rfl (hb hby d2_39) rfl ?_
    exact k
  obtain ⟨cl13, Ar13, qk13, S13, Ng13, Hh13, Gg13⟩ := id (V_r0.ext (own_ext Kp6))
  have hin13 : ¬ ((0 : Int32) < 0 ∨ cl13.slots.size ≤ ((0 : Int32)).toNatClampNeg) := inb_of S13 ⟨by decide, by decide⟩
  have hat13 : cl13.slots[((0 : Int32)).toNatClampNeg]? = some (.int ub0) := Has.at Hh13 hin13 rfl
  have K14 : own_K p e below SE T6 (mkF m 54 #[.val (.ref r0), .val (.ref b6), .val (.int (6 : Int32)), .val (.int (0 : Int32)), .val (.int (0 : Int32)), .unset] [(.int (1 : Int32)), (.ref r0), (.int ((ub0 &&& (255 : Int32)) <<< ((16 : Int32) &&& 31)))]) := by
    intro t k
    refine K12 _ ?_
    refine X6.baloadBytes hx (j := (0 : Int32)) (v := (.int ub0)) (by rw [e6]; exact Ar13.1) (State.isArrayOf_alike hZ.alike Ar13.2.1) Ar13.2.2 hin13 hat13 (g := (mkF m 41 #[.val (.ref r0), .val (.ref b6), .val (.int (6 : Int32)), .val (.int (0 : Int32)), .val (.int (0 : Int32)), .unset] [(.int (0 : Int32)), (.ref r0)])) rfl rfl (hb hby d2_41) _ ?_
    show own_S p e below T6 (mkF m 42 #[.val (.ref r0), .val (.ref b6), .val (.int (6 : Int32)), .val (.int (0 : Int32)), .val (.int (0 : Int32)), .unset] [(.int ub0)]) _
    refine XS.sipush X6.here hx rfl (hb hby d2_42) ?_
    show own_S p e below T6 (mkF m 45 #[.val (.ref r0), .val (.ref b6), .val (.int (6 : Int32)), .val (.int (0 : Int32)), .val (.int (0 : Int32)), .unset] [(.int (255 : Int32)), (.int ub0)]) _
    refine XS.iand X6.here hx rfl (hb hby d2_45) rfl ?_
    show own_S p e below T6 (mkF m 46 #[.val (.ref r0), .val (.ref b6), .val (.int (6 : Int32)), .val (.int (0 : Int32)), .val (.int (0 : Int32)), .unset] [(.int (ub0 &&& (255 : Int32)))]) _
    refine XS.bipush X6.here hx rfl (hb hby d2_46) ?_
    show own_S p e below T6 (mkF m 48 #[.val (.ref r0), .val (.ref b6), .val (.int (6 : Int32)), .val (.int (0 : Int32)), .val (.int (0 : Int32)), .unset] [(.int (16 : Int32)), (.int (ub0 &&& (255 : Int32)))]) _
    refine XS.ishl X6.here hx rfl (hb hby d2_48) rfl ?_
    show own_S p e below T6 (mkF m 49 #[.val (.ref r0), .val (.ref b6), .val (.int (6 : Int32)), .val (.int (0 : Int32)), .val (.int (0 : Int32)), .unset] [(.int ((ub0 &&& (255 : Int32)) <<< ((16 : Int32) &&& 31)))]) _
    refine XS.aloadN X6.here hx rfl (hb hby d2_49) rfl rfl ?_
    show own_S p e below T6 (mkF m 50 #[.val (.ref r0), .val (.ref b6), .val (.int (6 : Int32)), .val (.int (0 : Int32)), .val (.int (0 : Int32)), .unset] [(.ref r0), (.int ((ub0 &&& (255 : Int32)) <<< ((16 : Int32) &&& 31)))]) _
    refine XS.iload X6.here hx rfl (hb hby d2_50) rfl ?_
    show own_S p e below T6 (mkF m 52 #[.val (.ref r0), .val (.ref b6), .val (.int (6 : Int32)), .val (.int (0 : Int32)), .val (.int (0 : Int32)), .unset] [(.int (0 : Int32)), (.ref r0), (.int ((ub0 &&& (255 : Int32)) <<< ((16 : Int32) &&& 31)))]) _
    refine XS.iconst X6.here hx rfl (hb hby d2_52) ?_
    show own_S p e below T6 (mkF m 53 #[.val (.ref r0), .val (.ref b6), .val (.int (6 : Int32)), .val (.int (0 : Int32)), .val (.int (0 : Int32)), .unset] [(.int (1 : Int32)), (.int (0 : Int32)), (.ref r0), (.int ((ub0 &&& (255 : Int32)) <<< ((16 : Int32) &&& 31)))]) _
    refine XS.iadd X6.here hx rfl (hb hby d2_53) rfl ?_
    exact k
  obtain ⟨cl15, Ar15, qk15, S15, Ng15, Hh15, Gg15⟩ := id (V_r0.ext (own_ext Kp6))
  have hin15 : ¬ ((1 : Int32) < 0 ∨ cl15.slots.size ≤ ((1 : Int32)).toNatClampNeg) := inb_of S15 ⟨by decide, by decide⟩
  have hat15 : cl15.slots[((1 : Int32)).toNatClampNeg]? = some (.int ub1) := Has.at Hh15 hin15 rfl
  have K16 : own_K p e below SE T6 (mkF m 68 #[.val (.ref r0), .val (.ref b6), .val (.int (6 : Int32)), .val (.int (0 : Int32)), .val (.int (0 : Int32)), .unset] [(.int (2 : Int32)), (.ref r0), (.int (((ub0 &&& (255 : Int32)) <<< ((16 : Int32) &&& 31)) ||| ((ub1 &&& (255 : Int32)) <<< ((8 : Int32) &&& 31))))]) := by
    intro t k
    refine K14 _ ?_
    refine X6.baloadBytes hx (j := (1 : Int32)) (v := (.int ub1)) (by rw [e6]; exact Ar15.1) (State.isArrayOf_alike hZ.alike Ar15.2.1) Ar15.2.2 hin15 hat15 (g := (mkF m 54 #[.val (.ref r0), .val (.ref b6), .val (.int (6 : Int32)), .val (.int (0 : Int32)), .val (.int (0 : Int32)), .unset] [(.int (1 : Int32)), (.ref r0), (.int ((ub0 &&& (255 : Int32)) <<< ((16 : Int32) &&& 31)))])) rfl rfl (hb hby d2_54) _ ?_
    show own_S p e below T6 (mkF m 55 #[.val (.ref r0), .val (.ref b6), .val (.int (6 : Int32)), .val (.int (0 : Int32)), .val (.int (0 : Int32)), .unset] [(.int ub1), (.int ((ub0 &&& (255 : Int32)) <<< ((16 : Int32) &&& 31)))]) _
    refine XS.sipush X6.here hx rfl (hb hby d2_55) ?_
    show own_S p e below T6 (mkF m 58 #[.val (.ref r0), .val (.ref b6), .val (.int (6 : Int32)), .val (.int (0 : Int32)), .val (.int (0 : Int32)), .unset] [(.int (255 : Int32)), (.int ub1), (.int ((ub0 &&& (255 : Int32)) <<< ((16 : Int32) &&& 31)))]) _
    refine XS.iand X6.here hx rfl (hb hby d2_58) rfl ?_
    show own_S p e below T6 (mkF m 59 #[.val (.ref r0), .val (.ref b6), .val (.int (6 : Int32)), .val (.int (0 : Int32)), .val (.int (0 : Int32)), .unset] [(.int (ub1 &&& (255 : Int32))), (.int ((ub0 &&& (255 : Int32)) <<< ((16 : Int32) &&& 31)))]) _
    refine XS.bipush X6.here hx rfl (hb hby d2_59) ?_
    show own_S p e below T6 (mkF m 61 #[.val (.ref r0), .val (.ref b6), .val (.int (6 : Int32)), .val (.int (0 : Int32)), .val (.int (0 : Int32)), .unset] [(.int (8 : Int32)), (.int (ub1 &&& (255 : Int32))), (.int ((ub0 &&& (255 : Int32)) <<< ((16 : Int32) &&& 31)))]) _
    refine XS.ishl X6.here hx rfl (hb hby d2_61) rfl ?_
    show own_S p e below T6 (mkF m 62 #[.val (.ref r0), .val (.ref b6), .val (.int (6 : Int32)), .val (.int (0 : Int32)), .val (.int (0 : Int32)), .unset] [(.int ((ub1 &&& (255 : Int32)) <<< ((8 : Int32) &&& 31))), (.int ((ub0 &&& (255 : Int32)) <<< ((16 : Int32) &&& 31)))]) _
    refine XS.ior X6.here hx rfl (hb hby d2_62) rfl ?_
    show own_S p e below T6 (mkF m 63 #[.val (.ref r0), .val (.ref b6), .val (.int (6 : Int32)), .val (.int (0 : Int32)), .val (.int (0 : Int32)), .unset] [(.int (((ub0 &&& (255 : Int32)) <<< ((16 : Int32) &&& 31)) ||| ((ub1 &&& (255 : Int32)) <<< ((8 : Int32) &&& 31))))]) _
    refine XS.aloadN X6.here hx rfl (hb hby d2_63) rfl rfl ?_
    show own_S p e below T6 (mkF m 64 #[.val (.ref r0), .val (.ref b6), .val (.int (6 : Int32)), .val (.int (0 : Int32)), .val (.int (0 : Int32)), .unset] [(.ref r0), (.int (((ub0 &&& (255 : Int32)) <<< ((16 : Int32) &&& 31)) ||| ((ub1 &&& (255 : Int32)) <<< ((8 : Int32) &&& 31))))]) _
    refine XS.iload X6.here hx rfl (hb hby d2_64) rfl ?_
    show own_S p e below T6 (mkF m 66 #[.val (.ref r0), .val (.ref b6), .val (.int (6 : Int32)), .val (.int (0 : Int32)), .val (.int (0 : Int32)), .unset] [(.int (0 : Int32)), (.ref r0), (.int (((ub0 &&& (255 : Int32)) <<< ((16 : Int32) &&& 31)) ||| ((ub1 &&& (255 : Int32)) <<< ((8 : Int32) &&& 31))))]) _
    refine XS.iconst X6.here hx rfl (hb hby d2_66) ?_
    show own_S p e below T6 (mkF m 67 #[.val (.ref r0), .val (.ref b6), .val (.int (6 : Int32)), .val (.int (0 : Int32)), .val (.int (0 : Int32)), .unset] [(.int (2 : Int32)), (.int (0 : Int32)), (.ref r0), (.int (((ub0 &&& (255 : Int32)) <<< ((16 : Int32) &&& 31)) ||| ((ub1 &&& (255 : Int32)) <<< ((8 : Int32) &&& 31))))]) _
    refine XS.iadd X6.here hx rfl (hb hby d2_67) rfl ?_
    exact k
  obtain ⟨cl17, Ar17, qk17, S17, Ng17, Hh17, Gg17⟩ := id (V_r0.ext (own_ext Kp6))
  have hin17 : ¬ ((2 : Int32) < 0 ∨ cl17.slots.size ≤ ((2 : Int32)).toNatClampNeg) := inb_of S17 ⟨by decide, by decide⟩
  have hat17 : cl17.slots[((2 : Int32)).toNatClampNeg]? = some (.int ub2) := Has.at Hh17 hin17 rfl
  have K18 : own_K p e below SE T6 (mkF m 76 #[.val (.ref r0), .val (.ref b6), .val (.int (6 : Int32)), .val (.int (0 : Int32)), .val (.int (0 : Int32)), .val (.int ((((ub0 &&& (255 : Int32)) <<< ((16 : Int32) &&& 31)) ||| ((ub1 &&& (255 : Int32)) <<< ((8 : Int32) &&& 31))) ||| (ub2 &&& (255 : Int32))))] []) := by
    intro t k
    refine K16 _ ?_
    refine X6.baloadBytes hx (j := (2 : Int32)) (v := (.int ub2)) (by rw [e6]; exact Ar17.1) (State.isArrayOf_alike hZ.alike Ar17.2.1) Ar17.2.2 hin17 hat17 (g := (mkF m 68 #[.val (.ref r0), .val (.ref b6), .val (.int (6 : Int32)), .val (.int (0 : Int32)), .val (.int (0 : Int32)), .unset] [(.int (2 : Int32)), (.ref r0), (.int (((ub0 &&& (255 : Int32)) <<< ((16 : Int32) &&& 31)) ||| ((ub1 &&& (255 : Int32)) <<< ((8 : Int32) &&& 31))))])) rfl rfl (hb hby d2_68) _ ?_
    show own_S p e below T6 (mkF m 69 #[.val (.ref r0), .val (.ref b6), .val (.int (6 : Int32)), .val (.int (0 : Int32)), .val (.int (0 : Int32)), .unset] [(.int ub2), (.int (((ub0 &&& (255 : Int32)) <<< ((16 : Int32) &&& 31)) ||| ((ub1 &&& (255 : Int32)) <<< ((8 : Int32) &&& 31))))]) _
    refine XS.sipush X6.here hx rfl (hb hby d2_69) ?_
    show own_S p e below T6 (mkF m 72 #[.val (.ref r0), .val (.ref b6), .val (.int (6 : Int32)), .val (.int (0 : Int32)), .val (.int (0 : Int32)), .unset] [(.int (255 : Int32)), (.int ub2), (.int (((ub0 &&& (255 : Int32)) <<< ((16 : Int32) &&& 31)) ||| ((ub1 &&& (255 : Int32)) <<< ((8 : Int32) &&& 31))))]) _
    refine XS.iand X6.here hx rfl (hb hby d2_72) rfl ?_
    show own_S p e below T6 (mkF m 73 #[.val (.ref r0), .val (.ref b6), .val (.int (6 : Int32)), .val (.int (0 : Int32)), .val (.int (0 : Int32)), .unset] [(.int (ub2 &&& (255 : Int32))), (.int (((ub0 &&& (255 : Int32)) <<< ((16 : Int32) &&& 31)) ||| ((ub1 &&& (255 : Int32)) <<< ((8 : Int32) &&& 31))))]) _
    refine XS.ior X6.here hx rfl (hb hby d2_73) rfl ?_
    show own_S p e below T6 (mkF m 74 #[.val (.ref r0), .val (.ref b6), .val (.int (6 : Int32)), .val (.int (0 : Int32)), .val (.int (0 : Int32)), .unset] [(.int ((((ub0 &&& (255 : Int32)) <<< ((16 : Int32) &&& 31)) ||| ((ub1 &&& (255 : Int32)) <<< ((8 : Int32) &&& 31))) ||| (ub2 &&& (255 : Int32))))]) _
    refine XS.istore X6.here hx rfl (hb hby d2_74) rfl (l' := #[.val (.ref r0), .val (.ref b6), .val (.int (6 : Int32)), .val (.int (0 : Int32)), .val (.int (0 : Int32)), .val (.int ((((ub0 &&& (255 : Int32)) <<< ((16 : Int32) &&& 31)) ||| ((ub1 &&& (255 : Int32)) <<< ((8 : Int32) &&& 31))) ||| (ub2 &&& (255 : Int32))))]) rfl ?_
    exact k
  obtain ⟨x0, hx0⟩ : ∃ z : Int32, z = ((((ub0 &&& (255 : Int32)) <<< ((16 : Int32) &&& 31)) ||| ((ub1 &&& (255 : Int32)) <<< ((8 : Int32) &&& 31))) ||| (ub2 &&& (255 : Int32))) := ⟨_, rfl⟩
  rw [← hx0] at K18
  have hb_x0 : 0 ≤ x0.toInt ∧ x0.toInt < 16777216 := by rw [hx0]; exact (own_xb (own_m255 _) (own_m255 _) (own_m255 _) (own_x3i ub0 ub1 ub2))
  have K19 : own_K p e below SE T6 (mkF m 81 #[.val (.ref r0), .val (.ref b6), .val (.int (6 : Int32)), .val (.int (1 : Int32)), .val (.int (0 : Int32)), .val (.int x0)] [(.int (0 : Int32)), (.ref b6)]) := by
    intro t k
    refine K18 _ ?_
    refine XS.aloadN X6.here hx rfl (hb hby d2_76) rfl rfl ?_
    show own_S p e below T6 (mkF m 77 #[.val (.ref r0), .val (.ref b6), .val (.int (6 : Int32)), .val (.int (0 : Int32)), .val (.int (0 : Int32)), .val (.int x0)] [(.ref b6)]) _
    refine XS.iloadN X6.here hx rfl (hb hby d2_77) rfl ?_
    show own_S p e below T6 (mkF m 78 #[.val (.ref r0), .val (.ref b6), .val (.int (6 : Int32)), .val (.int (0 : Int32)), .val (.int (0 : Int32)), .val (.int x0)] [(.int (0 : Int32)), (.ref b6)]) _
    refine XS.iinc X6.here hx rfl (hb hby d2_78) rfl (l' := #[.val (.ref r0), .val (.ref b6), .val (.int (6 : Int32)), .val (.int (1 : Int32)), .val (.int (0 : Int32)), .val (.int x0)]) rfl ?_
    exact k
  obtain ⟨T20, X20, e20, st20⟩ := getS2 X6 hx hZ hown (host := "") (Or.inl (hw _ (List.mem_of_getElem? (i := 16) rfl))) Via.refl e6 (SA.ext (own_ext Kp6)) (g := (mkF m 81 #[.val (.ref r0), .val (.ref b6), .val (.int (6 : Int32)), .val (.int (1 : Int32)), .val (.int (0 : Int32)), .val (.int x0)] [(.int (0 : Int32)), (.ref b6)])) rfl (hb hby d2_81)
  have K20 : own_K p e below SE T20 (mkF m 84 #[.val (.ref r0), .val (.ref b6), .val (.int (6 : Int32)), .val (.int (1 : Int32)), .val (.int (0 : Int32)), .val (.int x0)] [(.ref oAL), (.int (0 : Int32)), (.ref b6)]) := fun t k => K19 _ (st20 _ k)
  have K21 : own_K p e below SE T20 (mkF m 89 #[.val (.ref r0), .val (.ref b6), .val (.int (6 : Int32)), .val (.int (1 : Int32)), .val (.int (0 : Int32)), .val (.int x0)] [(.int ((x0.toUInt32 >>> ((18 : Int32) &&& 31).toUInt32).toInt32)), (.ref oAL), (.int (0 : Int32)), (.ref b6)]) := by
    intro t k
    refine K20 _ ?_
    refine XS.iload X20.here hx rfl (hb hby d2_84) rfl ?_
    show own_S p e below T20 (mkF m 86 #[.val (.ref r0), .val (.ref b6), .val (.int (6 : Int32)), .val (.int (1 : Int32)), .val (.int (0 : Int32)), .val (.int x0)] [(.int x0), (.ref oAL), (.int (0 : Int32)), (.ref b6)]) _
    refine XS.bipush X20.here hx rfl (hb hby d2_86) ?_
    show own_S p e below T20 (mkF m 88 #[.val (.ref r0), .val (.ref b6), .val (.int (6 : Int32)), .val (.int (1 : Int32)), .val (.int (0 : Int32)), .val (.int x0)] [(.int (18 : Int32)), (.int x0), (.ref oAL), (.int (0 : Int32)), (.ref b6)]) _
    refine XS.iushr X20.here hx rfl (hb hby d2_88) rfl ?_
    exact k
  obtain ⟨Ar22, S22, Ng22, Hh22⟩ := id (TA.ext (own_ext Kp6))
  have hin22 : ¬ (((x0.toUInt32 >>> ((18 : Int32) &&& 31).toUInt32).toInt32) < 0 ∨ cA.slots.size ≤ (((x0.toUInt32 >>> ((18 : Int32) &&& 31).toUInt32).toInt32)).toNatClampNeg) := inb_of S22 (own_b18 _ hb_x0)
  have hat22 := Hh22 _ hin22
  have K23 : own_K p e below SE T20 (mkF m 90 #[.val (.ref r0), .val (.ref b6), .val (.int (6 : Int32)), .val (.int (1 : Int32)), .val (.int (0 : Int32)), .val (.int x0)] [(.int (atv cA ((x0.toUInt32 >>> ((18 : Int32) &&& 31).toUInt32).toInt32))), (.int (0 : Int32)), (.ref b6)]) := by
    intro t k
    refine K21 _ ?_
    refine X20.baloadBytes hx (j := ((x0.toUInt32 >>> ((18 : Int32) &&& 31).toUInt32).toInt32)) (v := (.int (atv cA ((x0.toUInt32 >>> ((18 : Int32) &&& 31).toUInt32).toInt32)))) (by rw [e20]; exact Ar22.1) (State.isArrayOf_alike hZ.alike Ar22.2.1) Ar22.2.2 hin22 hat22 (g := (mkF m 89 #[.val (.ref r0), .val (.ref b6), .val (.int (6 : Int32)), .val (.int (1 : Int32)), .val (.int (0 : Int32)), .val (.int x0)] [(.int ((x0.toUInt32 >>> ((18 : Int32) &&& 31).toUInt32).toInt32)), (.ref oAL), (.int (0 : Int32)), (.ref b6)])) rfl rfl (hb hby d2_89) _ ?_
    exact k
  obtain ⟨cl24, Ar24, qk24, S24, Ng24, Hh24, Gg24⟩ := id V6
  have hin24 : ¬ ((0 : Int32) < 0 ∨ cl24.slots.size ≤ ((0 : Int32)).toNatClampNeg) := inb_of S24 ⟨by decide, by decide⟩
  obtain ⟨T25, h25, X25, e25, W25, st25⟩ := stB X20 hx hZ e20 Ar24 (j := (0 : Int32)) hin24 (g := (mkF m 90 #[.val (.ref r0), .val (.ref b6), .val (.int (6 : Int32)), .val (.int (1 : Int32)), .val (.int (0 : Int32)), .val (.int x0)] [(.int (atv cA ((x0.toUInt32 >>> ((18 : Int32) &&& 31).toUInt32).toInt32))), (.int (0 : Int32)), (.ref b6)])) rfl rfl (hb hby d2_90)
  have V25 : Arv Z h25 b6 k6 .byte (8 : Int32) [(.int ((atv cA ((x0.toUInt32 >>> ((18 : Int32) &&& 31).toUInt32).toInt32))).toInt8.toInt32), (.int (0 : Int32)), (.int (0 : Int32)), (.int (0 : Int32)), (.int (0 : Int32)), (.int (0 : Int32)), (.int (0 : Int32)), (.int (0 : Int32))] (.int (0 : Int32)) := Arv.set Ar24 qk24 S24 Ng24 Hh24 Gg24 (fits_nar_byte _) W25 0 rfl (Nat.le_of_ble_eq_true rfl)
  have N25 := Fr.snoc X25 N0 g_b6
  have Kp25 : Keep h0 h25 [] := Keep.wr Kp6 W25 (Or.inr sz_b6)
  have K25 : own_K p e below SE T25 (mkF m 91 #[.val (.ref r0), .val (.ref b6), .val (.int (6 : Int32)), .val (.int (1 : Int32)), .val (.int (0 : Int32)), .val (.int x0)] []) := fun t k => K23 _ (st25 _ k)
  have K26 : own_K p e below SE T25 (mkF m 96 #[.val (.ref r0), .val (.ref b6), .val (.int (6 : Int32)), .val (.int (2 : Int32)), .val (.int (0 : Int32)), .val (.int x0)] [(.int (1 : Int32)), (.ref b6)]) := by
    intro t k
    refine K25 _ ?_
    refine XS.aloadN X25.here hx rfl (hb hby d2_91) rfl rfl ?_
    show own_S p e below T25 (mkF m 92 #[.val (.ref r0), .val (.ref b6), .val (.int (6 : Int32)), .val (.int (1 : Int32)), .val (.int (0 : Int32)), .val (.int x0)] [(.ref b6)]) _
    refine XS.iloadN X25.here hx rfl (hb hby d2_92) rfl ?_
    show own_S p e below T25 (mkF m 93 #[.val (.ref r0), .val (.ref b6), .val (.int (6 : Int32)), .val (.int (1 : Int32)), .val (.int (0 : Int32)), .val (.int x0)] [(.int (1 : Int32)), (.ref b6)]) _
    refine XS.iinc X25.here hx rfl (hb hby d2_93) rfl (l' := #[.val (.ref r0), .val (.ref b6), .val (.int (6 : Int32)), .val (.int (2 : Int32)), .val (.int (0 : Int32)), .val (.int x0)]) rfl ?_
    exact k
  obtain ⟨T27, X27, e27, st27⟩ := getS2 X25 hx hZ hown (host := "") (Or.inl (hw _ (List.mem_of_getElem? (i := 16) rfl))) Via.refl e25 (SA.ext (own_ext Kp25)) (g := (mkF m 96 #[.val (.ref r0), .val (.ref b6), .val (.int (6 : Int32)), .val (.int (2 : Int32)), .val (.int (0 : Int32)), .val (.int x0)] [(.int (1 : Int32)), (.ref b6)])) rfl (hb hby d2_96)
  have K27 : own_K p e below SE T27 (mkF m 99 #[.val (.ref r0), .val (.ref b6), .val (.int (6 : Int32)), .val (.int (2 : Int32)), .val (.int (0 : Int32)), .val (.int x0)] [(.ref oAL), (.int (1 : Int32)), (.ref b6)]) := fun t k => K26 _ (st27 _ k)
  have K28 : own_K p e below SE T27 (mkF m 107 #[.val (.ref r0), .val (.ref b6), .val (.int (6 : Int32)), .val (.int (2 : Int32)), .val (.int (0 : Int32)), .val (.int x0)] [(.int (((x0.toUInt32 >>> ((12 : Int32) &&& 31).toUInt32).toInt32) &&& (63 : Int32))), (.ref oAL), (.int (1 : Int32)), (.ref b6)]) := by
    intro t k
    refine K27 _ ?_
    refine XS.iload X27.here hx rfl (hb hby d2_99) rfl ?_
    show own_S p e below T27 (mkF m 101 #[.val (.ref r0), .val (.ref b6), .val (.int (6 : Int32)), .val (.int (2 : Int32)), .val (.int (0 : Int32)), .val (.int x0)] [(.int x0), (.ref oAL), (.int (1 : Int32)), (.ref b6)]) _
    refine XS.bipush X27.here hx rfl (hb hby d2_101) ?_
    show own_S p e below T27 (mkF m 103 #[.val (.ref r0), .val (.ref b6), .val (.int (6 : Int32)), .val (.int (2 : Int32)), .val (.int (0 : Int32)), .val (.int x0)] [(.int (12 : Int32)), (.int x0), (.ref oAL), (.int (1 : Int32)), (.ref b6)]) _
    refine XS.iushr X27.here hx rfl (hb hby d2_103) rfl ?_
    show own_S p e below T27 (mkF m 104 #[.val (.ref r0), .val (.ref b6), .val (.int (6 : Int32)), .val (.int (2 : Int32)), .val (.int (0 : Int32)), .val (.int x0)] [(.int ((x0.toUInt32 >>> ((12 : Int32) &&& 31).toUInt32).toInt32)), (.ref oAL), (.int (1 : Int32)), (.ref b6)]) _
    refine XS.bipush X27.here hx rfl (hb hby d2_104) ?_
    show own_S p e below T27 (mkF m 106 #[.val (.ref r0), .val (.ref b6), .val (.int (6 : Int32)), .val (.int (2 : Int32)), .val (.int (0 : Int32)), .val (.int x0)] [(.int (63 : Int32)), (.int ((x0.toUInt32 >>> ((12 : Int32) &&& 31).toUInt32).toInt32)), (.ref oAL), (.int (1 : Int32)), (.ref b6)]) _
    refine XS.iand X27.here hx rfl (hb hby d2_106) rfl ?_
    exact k
  obtain ⟨Ar29, S29, Ng29, Hh29⟩ := id (TA.ext (own_ext Kp25))
  have hin29 : ¬ ((((x0.toUInt32 >>> ((12 : Int32) &&& 31).toUInt32).toInt32) &&& (63 : Int32)) < 0 ∨ cA.slots.size ≤ ((((x0.toUInt32 >>> ((12 : Int32) &&& 31).toUInt32).toInt32) &&& (63 : Int32))).toNatClampNeg) := inb_of S29 (own_b63 _)
  have hat29 := Hh29 _ hin29
  have K30 : own_K p e below SE T27 (mkF m 108 #[.val (.ref r0), .val (.ref b6), .val (.int (6 : Int32)), .val (.int (2 : Int32)), .val (.int (0 : Int32)), .val (.int x0)] [(.int (atv cA (((x0.toUInt32 >>> ((12 : Int32) &&& 31).toUInt32).toInt32) &&& (63 : Int32)))), (.int (1 : Int32)), (.ref b6)]) := by
    intro t k
    refine K28 _ ?_
    refine X27.baloadBytes hx (j := (((x0.toUInt32 >>> ((12 : Int32) &&& 31).toUInt32).toInt32) &&& (63 : Int32))) (v := (.int (atv cA (((x0.toUInt32 >>> ((12 : Int32) &&& 31).toUInt32).toInt32) &&& (63 : Int32))))) (by rw [e27]; exact Ar29.1) (State.isArrayOf_alike hZ.alike Ar29.2.1) Ar29.2.2 hin29 hat29 (g := (mkF m 107 #[.val (.ref r0), .val (.ref b6), .val (.int (6 : Int32)), .val (.int (2 : Int32)), .val (.int (0 : Int32)), .val (.int x0)] [(.int (((x0.toUInt32 >>> ((12 : Int32) &&& 31).toUInt32).toInt32) &&& (63 : Int32))), (.ref oAL), (.int (1 : Int32)), (.ref b6)])) rfl rfl (hb hby d2_107) _ ?_
    exact k
  obtain ⟨cl31, Ar31, qk31, S31, Ng31, Hh31, Gg31⟩ := id V25
  have hin31 : ¬ ((1 : Int32) < 0 ∨ cl31.slots.size ≤ ((1 : Int32)).toNatClampNeg) := inb_of S31 ⟨by decide, by decide⟩
  obtain ⟨T32, h32, X32, e32, W32, st32⟩ := stB X27 hx hZ e27 Ar31 (j := (1 : Int32)) hin31 (g := (mkF m 108 #[.val (.ref r0), .val (.ref b6), .val (.int (6 : Int32)), .val (.int (2 : Int32)), .val (.int (0 : Int32)), .val (.int x0)] [(.int (atv cA (((x0.toUInt32 >>> ((12 : Int32) &&& 31).toUInt32).toInt32) &&& (63 : Int32)))), (.int (1 : Int32)), (.ref b6)])) rfl rfl (hb hby d2_108)
  have V32 : Arv Z h32 b6 k6 .byte (8 : Int32) [(.int ((atv cA ((x0.toUInt32 >>> ((18 : Int32) &&& 31).toUInt32).toInt32))).toInt8.toInt32), (.int ((atv cA (((x0.toUInt32 >>> ((12 : Int32) &&& 31).toUInt32).toInt32) &&& (63 : Int32)))).toInt8.toInt32), (.int (0 : Int32)), (.int (0 : Int32)), (.int (0 : Int32)), (.int (0 : Int32)), (.int (0 : Int32)), (.int (0 : Int32))] (.int (0 : Int32)) := Arv.set Ar31 qk31 S31 Ng31 Hh31 Gg31 (fits_nar_byte _) W32 1 rfl (Nat.le_of_ble_eq_true rfl)
  have N32 := Fr.snoc X32 N25 g_b6
  have Kp32 : Keep h0 h32 [] := Keep.wr Kp25 W32 (Or.inr sz_b6)
  have K32 : own_K p e below SE T32 (mkF m 109 #[.val (.ref r0), .val (.ref b6), .val (.int (6 : Int32)), .val (.int (2 : Int32)), .val (.int (0 : Int32)), .val (.int x0)] []) := fun t k => K30 _ (st32 _ k)
  have K33 : own_K p e below SE T32 (mkF m 114 #[.val (.ref r0), .val (.ref b6), .val (.int (6 : Int32)), .val (.int (3 : Int32)), .val (.int (0 : Int32)), .val (.int x0)] [(.int (2 : Int32)), (.ref b6)]) := by
    intro t k
    refine K32 _ ?_
    refine XS.aloadN X32.here hx rfl (hb hby d2_109) rfl rfl ?_
    show own_S p e below T32 (mkF m 110 #[.val (.ref r0), .val (.ref b6), .val (.int (6 : Int32)), .val (.int (2 : Int32)), .val (.int (0 : Int32)), .val (.int x0)] [(.ref b6)]) _
    refine XS.iloadN X32.here hx rfl (hb hby d2_110) rfl ?_
    show own_S p e below T32 (mkF m 111 #[.val (.ref r0), .val (.ref b6), .val (.int (6 : Int32)), .val (.int (2 : Int32)), .val (.int (0 : Int32)), .val (.int x0)] [(.int (2 : Int32)), (.ref b6)]) _
    refine XS.iinc X32.here hx rfl (hb hby d2_111) rfl (l' := #[.val (.ref r0), .val (.ref b6), .val (.int (6 : Int32)), .val (.int (3 : Int32)), .val (.int (0 : Int32)), .val (.int x0)]) rfl ?_
    exact k
  obtain ⟨T34, X34, e34, st34⟩ := getS2 X32 hx hZ hown (host := "") (Or.inl (hw _ (List.mem_of_getElem? (i := 16) rfl))) Via.refl e32 (SA.ext (own_ext Kp32)) (g := (mkF m 114 #[.val (.ref r0), .val (.ref b6), .val (.int (6 : Int32)), .val (.int (3 : Int32)), .val (.int (0 : Int32)), .val (.int x0)] [(.int (2 : Int32)), (.ref b6)])) rfl (hb hby d2_114)
  have K34 : own_K p e below SE T34 (mkF m 117 #[.val (.ref r0), .val (.ref b6), .val (.int (6 : Int32)), .val (.int (3 : Int32)), .val (.int (0 : Int32)), .val (.int x0)] [(.ref oAL), (.int (2 : Int32)), (.ref b6)]) := fun t k => K33 _ (st34 _ k)
  have K35 : own_K p e below SE T34 (mkF m 125 #[.val (.ref r0), .val (.ref b6), .val (.int (6 : Int32)), .val (.int (3 : Int32)), .val (.int (0 : Int32)), .val (.int x0)] [(.int (((x0.toUInt32 >>> ((6 : Int32) &&& 31).toUInt32).toInt32) &&& (63 : Int32))), (.ref oAL), (.int (2 : Int32)), (.ref b6)]) := by
    intro t k
    refine K34 _ ?_
    refine XS.iload X34.here hx rfl (hb hby d2_117) rfl ?_
    show own_S p e below T34 (mkF m 119 #[.val (.ref r0), .val (.ref b6), .val (.int (6 : Int32)), .val (.int (3 : Int32)), .val (.int (0 : Int32)), .val (.int x0)] [(.int x0), (.ref oAL), (.int (2 : Int32)), (.ref b6)]) _
    refine XS.bipush X34.here hx rfl (hb hby d2_119) ?_
    show own_S p e below T34 (mkF m 121 #[.val (.ref r0), .val (.ref b6), .val (.int (6 : Int32)), .val (.int (3 : Int32)), .val (.int (0 : Int32)), .val (.int x0)] [(.int (6 : Int32)), (.int x0), (.ref oAL), (.int (2 : Int32)), (.ref b6)]) _
    refine XS.iushr X34.here hx rfl (hb hby d2_121) rfl ?_
    show own_S p e below T34 (mkF m 122 #[.val (.ref r0), .val (.ref b6), .val (.int (6 : Int32)), .val (.int (3 : Int32)), .val (.int (0 : Int32)), .val (.int x0)] [(.int ((x0.toUInt32 >>> ((6 : Int32) &&& 31).toUInt32).toInt32)), (.ref oAL), (.int (2 : Int32)), (.ref b6)]) _
    refine XS.bipush X34.here hx rfl (hb hby d2_122) ?_
    show own_S p e below T34 (mkF m 124 #[.val (.ref r0), .val (.ref b6), .val (.int (6 : Int32)), .val (.int (3 : Int32)), .val (.int (0 : Int32)), .val (.int x0)] [(.int (63 : Int32)), (.int ((x0.toUInt32 >>> ((6 : Int32) &&& 31).toUInt32).toInt32)), (.ref oAL), (.int (2 : Int32)), (.ref b6)]) _
    refine XS.iand X34.here hx rfl (hb hby d2_124) rfl ?_
    exact k
  obtain ⟨Ar36, S36, Ng36, Hh36⟩ := id (TA.ext (own_ext Kp32))
  have hin36 : ¬ ((((x0.toUInt32 >>> ((6 : Int32) &&& 31).toUInt32).toInt32) &&& (63 : Int32)) < 0 ∨ cA.slots.size ≤ ((((x0.toUInt32 >>> ((6 : Int32) &&& 31).toUInt32).toInt32) &&& (63 : Int32))).toNatClampNeg) := inb_of S36 (own_b63 _)
  have hat36 := Hh36 _ hin36
  have K37 : own_K p e below SE T34 (mkF m 126 #[.val (.ref r0), .val (.ref b6), .val (.int (6 : Int32)), .val (.int (3 : Int32)), .val (.int (0 : Int32)), .val (.int x0)] [(.int (atv cA (((x0.toUInt32 >>> ((6 : Int32) &&& 31).toUInt32).toInt32) &&& (63 : Int32)))), (.int (2 : Int32)), (.ref b6)]) := by
    intro t k
    refine K35 _ ?_
    refine X34.baloadBytes hx (j := (((x0.toUInt32 >>> ((6 : Int32) &&& 31).toUInt32).toInt32) &&& (63 : Int32))) (v := (.int (atv cA (((x0.toUInt32 >>> ((6 : Int32) &&& 31).toUInt32).toInt32) &&& (63 : Int32))))) (by rw [e34]; exact Ar36.1) (State.isArrayOf_alike hZ.alike Ar36.2.1) Ar36.2.2 hin36 hat36 (g := (mkF m 125 #[.val (.ref r0), .val (.ref b6), .val (.int (6 : Int32)), .val (.int (3 : Int32)), .val (.int (0 : Int32)), .val (.int x0)] [(.int (((x0.toUInt32 >>> ((6 : Int32) &&& 31).toUInt32).toInt32) &&& (63 : Int32))), (.ref oAL), (.int (2 : Int32)), (.ref b6)])) rfl rfl (hb hby d2_125) _ ?_
    exact k
  obtain ⟨cl38, Ar38, qk38, S38, Ng38, Hh38, Gg38⟩ := id V32
  have hin38 : ¬ ((2 : Int32) < 0 ∨ cl38.slots.size ≤ ((2 : Int32)).toNatClampNeg) := inb_of S38 ⟨by decide, by decide⟩
  obtain ⟨T39, h39, X39, e39, W39, st39⟩ := stB X34 hx hZ e34 Ar38 (j := (2 : Int32)) hin38 (g := (mkF m 126 #[.val (.ref r0), .val (.ref b6), .val (.int (6 : Int32)), .val (.int (3 : Int32)), .val (.int (0 : Int32)), .val (.int x0)] [(.int (atv cA (((x0.toUInt32 >>> ((6 : Int32) &&& 31).toUInt32).toInt32) &&& (63 : Int32)))), (.int (2 : Int32)), (.ref b6)])) rfl rfl (hb hby d2_126)
  have V39 : Arv Z h39 b6 k6 .byte (8 : Int32) [(.int ((atv cA ((x0.toUInt32 >>> ((18 : Int32) &&& 31).toUInt32).toInt32))).toInt8.toInt32), (.int ((atv cA (((x0.toUInt32 >>> ((12 : Int32) &&& 31).toUInt32).toInt32) &&& (63 : Int32)))).toInt8.toInt32), (.int ((atv cA (((x0.toUInt32 >>> ((6 : Int32) &&& 31).toUInt32).toInt32) &&& (63 : Int32)))).toInt8.toInt32), (.int (0 : Int32)), (.int (0 : Int32)), (.int (0 : Int32)), (.int (0 : Int32)), (.int (0 : Int32))] (.int (0 : Int32)) := Arv.set Ar38 qk38 S38 Ng38 Hh38 Gg38 (fits_nar_byte _) W39 2 rfl (Nat.le_of_ble_eq_true rfl)
  have N39 := Fr.snoc X39 N32 g_b6
  have Kp39 : Keep h0 h39 [] := Keep.wr Kp32 W39 (Or.inr sz_b6)
  have K39 : own_K p e below SE T39 (mkF m 127 #[.val (.ref r0), .val (.ref b6), .val (.int (6 : Int32)), .val (.int (3 : Int32)), .val (.int (0 : Int32)), .val (.int x0)] []) := fun t k => K37 _ (st39 _ k)
  have K40 : own_K p e below SE T39 (mkF m 132 #[.val (.ref r0), .val (.ref b6), .val (.int (6 : Int32)), .val (.int (4 : Int32)), .val (.int (0 : Int32)), .val (.int x0)] [(.int (3 : Int32)), (.ref b6)]) := by
    intro t k
    refine K39 _ ?_
    refine XS.aloadN X39.here hx rfl (hb hby d2_127) rfl rfl ?_
    show own_S p e below T39 (mkF m 128 #[.val (.ref r0), .val (.ref b6), .val (.int (6 : Int32)), .val (.int (3 : Int32)), .val (.int (0 : Int32)), .val (.int x0)] [(.ref b6)]) _
    refine XS.iloadN X39.here hx rfl (hb hby d2_128) rfl ?_
    show own_S p e below T39 (mkF m 129 #[.val (.ref r0), .val (.ref b6), .val (.int (6 : Int32)), .val (.int (3 : Int32)), .val (.int (0 : Int32)), .val (.int x0)] [(.int (3 : Int32)), (.ref b6)]) _
    refine XS.iinc X39.here hx rfl (hb hby d2_129) rfl (l' := #[.val (.ref r0), .val (.ref b6), .val (.int (6 : Int32)), .val (.int (4 : Int32)), .val (.int (0 : Int32)), .val (.int x0)]) rfl ?_
    exact k
  obtain ⟨T41, X41, e41, st41⟩ := getS2 X39 hx hZ hown (host := "") (Or.inl (hw _ (List.mem_of_getElem? (i := 16) rfl))) Via.refl e39 (SA.ext (own_ext Kp39)) (g := (mkF m 132 #[.val (.ref r0), .val (.ref b6), .val (.int (6 : Int32)), .val (.int (4 : Int32)), .val (.int (0 : Int32)), .val (.int x0)] [(.int (3 : Int32)), (.ref b6)])) rfl (hb hby d2_132)
  have K41 : own_K p e below SE T41 (mkF m 135 #[.val (.ref r0), .val (.ref b6), .val (.int (6 : Int32)), .val (.int (4 : Int32)), .val (.int (0 : Int32)), .val (.int x0)] [(.ref oAL), (.int (3 : Int32)), (.ref b6)]) := fun t k => K40 _ (st41 _ k)
  have K42 : own_K p e below SE T41 (mkF m 140 #[.val (.ref r0), .val (.ref b6), .val (.int (6 : Int32)), .val (.int (4 : Int32)), .val (.int (0 : Int32)), .val (.int x0)] [(.int (x0 &&& (63 : Int32))), (.ref oAL), (.int (3 : Int32)), (.ref b6)]) := by
    intro t k
    refine K41 _ ?_
    refine XS.iload X41.here hx rfl (hb hby d2_135) rfl ?_
    show own_S p e below T41 (mkF m 137 #[.val (.ref r0), .val (.ref b6), .val (.int (6 : Int32)), .val (.int (4 : Int32)), .val (.int (0 : Int32)), .val (.int x0)] [(.int x0), (.ref oAL), (.int (3 : Int32)), (.ref b6)]) _
    refine XS.bipush X41.here hx rfl (hb hby d2_137) ?_
    show own_S p e below T41 (mkF m 139 #[.val (.ref r0), .val (.ref b6), .val (.int (6 : Int32)), .val (.int (4 : Int32)), .val (.int (0 : Int32)), .val (.int x0)] [(.int (63 : Int32)), (.int x0), (.ref oAL), (.int (3 : Int32)), (.ref b6)]) _
    refine XS.iand X41.here hx rfl (hb hby d2_139) rfl ?_
    exact k
  obtain ⟨Ar43, S43, Ng43, Hh43⟩ := id (TA.ext (own_ext Kp39))
  have hin43 : ¬ ((x0 &&& (63 : Int32)) < 0 ∨ cA.slots.size ≤ ((x0 &&& (63 : Int32))).toNatClampNeg) := inb_of S43 (own_b63 _)
  have hat43 := Hh43 _ hin43
  have K44 : own_K p e below SE T41 (mkF m 141 #[.val (.ref r0), .val (.ref b6), .val (.int (6 : Int32)), .val (.int (4 : Int32)), .val (.int (0 : Int32)), .val (.int x0)] [(.int (atv cA (x0 &&& (63 : Int32)))), (.int (3 : Int32)), (.ref b6)]) := by
    intro t k
    refine K42 _ ?_
    refine X41.baloadBytes hx (j := (x0 &&& (63 : Int32))) (v := (.int (atv cA (x0 &&& (63 : Int32))))) (by rw [e41]; exact Ar43.1) (State.isArrayOf_alike hZ.alike Ar43.2.1) Ar43.2.2 hin43 hat43 (g := (mkF m 140 #[.val (.ref r0), .val (.ref b6), .val (.int (6 : Int32)), .val (.int (4 : Int32)), .val (.int (0 : Int32)), .val (.int x0)] [(.int (x0 &&& (63 : Int32))), (.ref oAL), (.int (3 : Int32)), (.ref b6)])) rfl rfl (hb hby d2_140) _ ?_
    exact k
  obtain ⟨cl45, Ar45, qk45, S45, Ng45, Hh45, Gg45⟩ := id V39
  have hin45 : ¬ ((3 : Int32) < 0 ∨ cl45.slots.size ≤ ((3 : Int32)).toNatClampNeg) := inb_of S45 ⟨by decide, by decide⟩
  obtain ⟨T46, h46, X46, e46, W46, st46⟩ := stB X41 hx hZ e41 Ar45 (j := (3 : Int32)) hin45 (g := (mkF m 141 #[.val (.ref r0), .val (.ref b6), .val (.int (6 : Int32)), .val (.int (4 : Int32)), .val (.int (0 : Int32)), .val (.int x0)] [(.int (atv cA (x0 &&& (63 : Int32)))), (.int (3 : Int32)), (.ref b6)])) rfl rfl (hb hby d2_141)
  have V46 : Arv Z h46 b6 k6 .byte (8 : Int32) [(.int ((atv cA ((x0.toUInt32 >>> ((18 : Int32) &&& 31).toUInt32).toInt32))).toInt8.toInt32), (.int ((atv cA (((x0.toUInt32 >>> ((12 : Int32) &&& 31).toUInt32).toInt32) &&& (63 : Int32)))).toInt8.toInt32), (.int ((atv cA (((x0.toUInt32 >>> ((6 : Int32) &&& 31).toUInt32).toInt32) &&& (63 : Int32)))).toInt8.toInt32), (.int ((atv cA (x0 &&& (63 : Int32)))).toInt8.toInt32), (.int (0 : Int32)), (.int (0 : Int32)), (.int (0 : Int32)), (.int (0 : Int32))] (.int (0 : Int32)) := Arv.set Ar45 qk45 S45 Ng45 Hh45 Gg45 (fits_nar_byte _) W46 3 rfl (Nat.le_of_ble_eq_true rfl)
  have N46 := Fr.snoc X46 N39 g_b6
  have Kp46 : Keep h0 h46 [] := Keep.wr Kp39 W46 (Or.inr sz_b6)
  have K46 : own_K p e below SE T46 (mkF m 142 #[.val (.ref r0), .val (.ref b6), .val (.int (6 : Int32)), .val (.int (4 : Int32)), .val (.int (0 : Int32)), .val (.int x0)] []) := fun t k => K44 _ (st46 _ k)
  have K47 : own_K p e below SE T46 (mkF m 41 #[.val (.ref r0), .val (.ref b6), .val (.int (6 : Int32)), .val (.int (4 : Int32)), .val (.int (3 : Int32)), .val (.int x0)] [(.int (3 : Int32)), (.ref r0)]) := by
    intro t k
    refine K46 _ ?_
    refine XS.iinc X46.here hx rfl (hb hby d2_142) rfl (l' := #[.val (.ref r0), .val (.ref b6), .val (.int (6 : Int32)), .val (.int (4 : Int32)), .val (.int (3 : Int32)), .val (.int x0)]) rfl ?_
    show own_S p e below T46 (mkF m 145 #[.val (.ref r0), .val (.ref b6), .val (.int (6 : Int32)), .val (.int (4 : Int32)), .val (.int (3 : Int32)), .val (.int x0)] []) _
    refine XS.goto X46.here hx rfl (pc0 := 145) (pc' := 32) rfl (hb hby d2_145) (by decide) (by decide) ?_
    show own_S p e below T46 (mkF m 32 #[.val (.ref r0), .val (.ref b6), .val (.int (6 : Int32)), .val (.int (4 : Int32)), .val (.int (3 : Int32)), .val (.int x0)] []) _
    refine XS.iload X46.here hx rfl (hb hby d2_32) rfl ?_
    show own_S p e below T46 (mkF m 34 #[.val (.ref r0), .val (.ref b6), .val (.int (6 : Int32)), .val (.int (4 : Int32)), .val (.int (3 : Int32)), .val (.int x0)] [(.int (3 : Int32))]) _
    refine XS.iloadN X46.here hx rfl (hb hby d2_34) rfl ?_
    show own_S p e below T46 (mkF m 35 #[.val (.ref r0), .val (.ref b6), .val (.int (6 : Int32)), .val (.int (4 : Int32)), .val (.int (3 : Int32)), .val (.int x0)] [(.int (6 : Int32)), (.int (3 : Int32))]) _
    refine XS.icmpNo X46.here hx rfl (hb hby d2_35) rfl (XT.ii_ge_f (by decide : (3 : Int32) < (6 : Int32))) ?_
    show own_S p e below T46 (mkF m 38 #[.val (.ref r0), .val (.ref b6), .val (.int (6 : Int32)), .val (.int (4 : Int32)), .val (.int (3 : Int32)), .val (.int x0)] []) _
    refine XS.aloadN X46.here hx rfl (hb hby d2_38) rfl rfl ?_
    show own_S p e below T46 (mkF m 39 #[.val (.ref r0), .val (.ref b6), .val (.int (6 : Int32)), .val (.int (4 : Int32)), .val (.int (3 : Int32)), .val (.int x0)] [(.ref r0)]) _
    refine XS.iload X46.here hx rfl (hb hby d2_39) rfl ?_
    exact k
  obtain ⟨cl48, Ar48, qk48, S48, Ng48, Hh48, Gg48⟩ := id (V_r0.ext (own_ext Kp46))
  have hin48 : ¬ ((3 : Int32) < 0 ∨ cl48.slots.size ≤ ((3 : Int32)).toNatClampNeg) := inb_of S48 ⟨by decide, by decide⟩
  have hat48 : cl48.slots[((3 : Int32)).toNatClampNeg]? = some (.int ub3) := Has.at Hh48 hin48 rfl
  have K49 : own_K p e below SE T46 (mkF m 54 #[.val (.ref r0), .val (.ref b6), .val (.int (6 : Int32)), .val (.int (4 : Int32)), .val (.int (3 : Int32)), .val (.int x0)] [(.int (4 : Int32)), (.ref r0), (.int ((ub3 &&& (255 : Int32)) <<< ((16 : Int32) &&& 31)))]) := by
    intro t k
    refine K47 _ ?_
    refine X46.baloadBytes hx (j := (3 : Int32)) (v := (.int ub3)) (by rw [e46]; exact Ar48.1) (State.isArrayOf_alike hZ.alike Ar48.2.1) Ar48.2.2 hin48 hat48 (g := (mkF m 41 #[.val (.ref r0), .val (.ref b6), .val (.int (6 : Int32)), .val (.int (4 : Int32)), .val (.int (3 : Int32)), .val (.int x0)] [(.int (3 : Int32)), (.ref r0)])) rfl rfl (hb hby d2_41) _ ?_
    show own_S p e below T46 (mkF m 42 #[.val (.ref r0), .val (.ref b6), .val (.int (6 : Int32)), .val (.int (4 : Int32)), .val (.int (3 : Int32)), .val (.int x0)] [(.int ub3)]) _
    refine XS.sipush X46.here hx rfl (hb hby d2_42) ?_
    show own_S p e below T46 (mkF m 45 #[.val (.ref r0), .val (.ref b6), .val (.int (6 : Int32)), .val (.int (4 : Int32)), .val (.int (3 : Int32)), .val (.int x0)] [(.int (255 : Int32)), (.int ub3)]) _
    refine XS.iand X46.here hx rfl (hb hby d2_45) rfl ?_
    show own_S p e below T46 (mkF m 46 #[.val (.ref r0), .val (.ref b6), .val (.int (6 : Int32)), .val (.int (4 : Int32)), .val (.int (3 : Int32)), .val (.int x0)] [(.int (ub3 &&& (255 : Int32)))]) _
    refine XS.bipush X46.here hx rfl (hb hby d2_46) ?_
    show own_S p e below T46 (mkF m 48 #[.val (.ref r0), .val (.ref b6), .val (.int (6 : Int32)), .val (.int (4 : Int32)), .val (.int (3 : Int32)), .val (.int x0)] [(.int (16 : Int32)), (.int (ub3 &&& (255 : Int32)))]) _
    refine XS.ishl X46.here hx rfl (hb hby d2_48) rfl ?_
    show own_S p e below T46 (mkF m 49 #[.val (.ref r0), .val (.ref b6), .val (.int (6 : Int32)), .val (.int (4 : Int32)), .val (.int (3 : Int32)), .val (.int x0)] [(.int ((ub3 &&& (255 : Int32)) <<< ((16 : Int32) &&& 31)))]) _
    refine XS.aloadN X46.here hx rfl (hb hby d2_49) rfl rfl ?_
    show own_S p e below T46 (mkF m 50 #[.val (.ref r0), .val (.ref b6), .val (.int (6 : Int32)), .val (.int (4 : Int32)), .val (.int (3 : Int32)), .val (.int x0)] [(.ref r0), (.int ((ub3 &&& (255 : Int32)) <<< ((16 : Int32) &&& 31)))]) _
    refine XS.iload X46.here hx rfl (hb hby d2_50) rfl ?_
    show own_S p e below T46 (mkF m 52 #[.val (.ref r0), .val (.ref b6), .val (.int (6 : Int32)), .val (.int (4 : Int32)), .val (.int (3 : Int32)), .val (.int x0)] [(.int (3 : Int32)), (.ref r0), (.int ((ub3 &&& (255 : Int32)) <<< ((16 : Int32) &&& 31)))]) _
    refine XS.iconst X46.here hx rfl (hb hby d2_52) ?_
    show own_S p e below T46 (mkF m 53 #[.val (.ref r0), .val (.ref b6), .val (.int (6 : Int32)), .val (.int (4 : Int32)), .val (.int (3 : Int32)), .val (.int x0)] [(.int (1 : Int32)), (.int (3 : Int32)), (.ref r0), (.int ((ub3 &&& (255 : Int32)) <<< ((16 : Int32) &&& 31)))]) _
    refine XS.iadd X46.here hx rfl (hb hby d2_53) rfl ?_
    exact k
  obtain ⟨cl50, Ar50, qk50, S50, Ng50, Hh50, Gg50⟩ := id (V_r0.ext (own_ext Kp46))
  have hin50 : ¬ ((4 : Int32) < 0 ∨ cl50.slots.size ≤ ((4 : Int32)).toNatClampNeg) := inb_of S50 ⟨by decide, by decide⟩
  have hat50 : cl50.slots[((4 : Int32)).toNatClampNeg]? = some (.int ub4) := Has.at Hh50 hin50 rfl
  have K51 : own_K p e below SE T46 (mkF m 68 #[.val (.ref r0), .val (.ref b6), .val (.int (6 : Int32)), .val (.int (4 : Int32)), .val (.int (3 : Int32)), .val (.int x0)] [(.int (5 : Int32)), (.ref r0), (.int (((ub3 &&& (255 : Int32)) <<< ((16 : Int32) &&& 31)) ||| ((ub4 &&& (255 : Int32)) <<< ((8 : Int32) &&& 31))))]) := by
    intro t k
    refine K49 _ ?_
    refine X46.baloadBytes hx (j := (4 : Int32)) (v := (.int ub4)) (by rw [e46]; exact Ar50.1) (State.isArrayOf_alike hZ.alike Ar50.2.1) Ar50.2.2 hin50 hat50 (g := (mkF m 54 #[.val (.ref r0), .val (.ref b6), .val (.int (6 : Int32)), .val (.int (4 : Int32)), .val (.int (3 : Int32)), .val (.int x0)] [(.int (4 : Int32)), (.ref r0), (.int ((ub3 &&& (255 : Int32)) <<< ((16 : Int32) &&& 31)))])) rfl rfl (hb hby d2_54) _ ?_
    show own_S p e below T46 (mkF m 55 #[.val (.ref r0), .val (.ref b6), .val (.int (6 : Int32)), .val (.int (4 : Int32)), .val (.int (3 : Int32)), .val (.int x0)] [(.int ub4), (.int ((ub3 &&& (255 : Int32)) <<< ((16 : Int32) &&& 31)))]) _
    refine XS.sipush X46.here hx rfl (hb hby d2_55) ?_
    show own_S p e below T46 (mkF m 58 #[.val (.ref r0), .val (.ref b6), .val (.int (6 : Int32)), .val (.int (4 : Int32)), .val (.int (3 : Int32)), .val (.int x0)] [(.int (255 : Int32)), (.int ub4), (.int ((ub3 &&& (255 : Int32)) <<< ((16 : Int32) &&& 31)))]) _
    refine XS.iand X46.here hx rfl (hb hby d2_58) rfl ?_
    show own_S p e below T46 (mkF m 59 #[.val (.ref r0), .val (.ref b6), .val (.int (6 : Int32)), .val (.int (4 : Int32)), .val (.int (3 : Int32)), .val (.int x0)] [(.int (ub4 &&& (255 : Int32))), (.int ((ub3 &&& (255 : Int32)) <<< ((16 : Int32) &&& 31)))]) _
    refine XS.bipush X46.here hx rfl (hb hby d2_59) ?_
    show own_S p e below T46 (mkF m 61 #[.val (.ref r0), .val (.ref b6), .val (.int (6 : Int32)), .val (.int (4 : Int32)), .val (.int (3 : Int32)), .val (.int x0)] [(.int (8 : Int32)), (.int (ub4 &&& (255 : Int32))), (.int ((ub3 &&& (255 : Int32)) <<< ((16 : Int32) &&& 31)))]) _
    refine XS.ishl X46.here hx rfl (hb hby d2_61) rfl ?_
    show own_S p e below T46 (mkF m 62 #[.val (.ref r0), .val (.ref b6), .val (.int (6 : Int32)), .val (.int (4 : Int32)), .val (.int (3 : Int32)), .val (.int x0)] [(.int ((ub4 &&& (255 : Int32)) <<< ((8 : Int32) &&& 31))), (.int ((ub3 &&& (255 : Int32)) <<< ((16 : Int32) &&& 31)))]) _
    refine XS.ior X46.here hx rfl (hb hby d2_62) rfl ?_
    show own_S p e below T46 (mkF m 63 #[.val (.ref r0), .val (.ref b6), .val (.int (6 : Int32)), .val (.int (4 : Int32)), .val (.int (3 : Int32)), .val (.int x0)] [(.int (((ub3 &&& (255 : Int32)) <<< ((16 : Int32) &&& 31)) ||| ((ub4 &&& (255 : Int32)) <<< ((8 : Int32) &&& 31))))]) _
    refine XS.aloadN X46.here hx rfl (hb hby d2_63) rfl rfl ?_
    show own_S p e below T46 (mkF m 64 #[.val (.ref r0), .val (.ref b6), .val (.int (6 : Int32)), .val (.int (4 : Int32)), .val (.int (3 : Int32)), .val (.int x0)] [(.ref r0), (.int (((ub3 &&& (255 : Int32)) <<< ((16 : Int32) &&& 31)) ||| ((ub4 &&& (255 : Int32)) <<< ((8 : Int32) &&& 31))))]) _
    refine XS.iload X46.here hx rfl (hb hby d2_64) rfl ?_
    show own_S p e below T46 (mkF m 66 #[.val (.ref r0), .val (.ref b6), .val (.int (6 : Int32)), .val (.int (4 : Int32)), .val (.int (3 : Int32)), .val (.int x0)] [(.int (3 : Int32)), (.ref r0), (.int (((ub3 &&& (255 : Int32)) <<< ((16 : Int32) &&& 31)) ||| ((ub4 &&& (255 : Int32)) <<< ((8 : Int32) &&& 31))))]) _
    refine XS.iconst X46.here hx rfl (hb hby d2_66) ?_
    show own_S p e below T46 (mkF m 67 #[.val (.ref r0), .val (.ref b6), .val (.int (6 : Int32)), .val (.int (4 : Int32)), .val (.int (3 : Int32)), .val (.int x0)] [(.int (2 : Int32)), (.int (3 : Int32)), (.ref r0), (.int (((ub3 &&& (255 : Int32)) <<< ((16 : Int32) &&& 31)) ||| ((ub4 &&& (255 : Int32)) <<< ((8 : Int32) &&& 31))))]) _
    refine XS.iadd X46.here hx rfl (hb hby d2_67) rfl ?_
    exact k
  obtain ⟨cl52, Ar52, qk52, S52, Ng52, Hh52, Gg52⟩ := id (V_r0.ext (own_ext Kp46))
  have hin52 : ¬ ((5 : Int32) < 0 ∨ cl52.slots.size ≤ ((5 : Int32)).toNatClampNeg) := inb_of S52 ⟨by decide, by decide⟩
  have hat52 : cl52.slots[((5 : Int32)).toNatClampNeg]? = some (.int ub5) := Has.at Hh52 hin52 rfl
  have K53 : own_K p e below SE T46 (mkF m 76 #[.val (.ref r0), .val (.ref b6), .val (.int (6 : Int32)), .val (.int (4 : Int32)), .val (.int (3 : Int32)), .val (.int ((((ub3 &&& (255 : Int32)) <<< ((16 : Int32) &&& 31)) ||| ((ub4 &&& (255 : Int32)) <<< ((8 : Int32) &&& 31))) ||| (ub5 &&& (255 : Int32))))] []) := by
    intro t k
    refine K51 _ ?_
    refine X46.baloadBytes hx (j := (5 : Int32)) (v := (.int ub5)) (by rw [e46]; exact Ar52.1) (State.isArrayOf_alike hZ.alike Ar52.2.1) Ar52.2.2 hin52 hat52 (g := (mkF m 68 #[.val (.ref r0), .val (.ref b6), .val (.int (6 : Int32)), .val (.int (4 : Int32)), .val (.int (3 : Int32)), .val (.int x0)] [(.int (5 : Int32)), (.ref r0), (.int (((ub3 &&& (255 : Int32)) <<< ((16 : Int32) &&& 31)) ||| ((ub4 &&& (255 : Int32)) <<< ((8 : Int32) &&& 31))))])) rfl rfl (hb hby d2_68) _ ?_
    show own_S p e below T46 (mkF m 69 #[.val (.ref r0), .val (.ref b6), .val (.int (6 : Int32)), .val (.int (4 : Int32)), .val (.int (3 : Int32)), .val (.int x0)] [(.int ub5), (.int (((ub3 &&& (255 : Int32)) <<< ((16 : Int32) &&& 31)) ||| ((ub4 &&& (255 : Int32)) <<< ((8 : Int32) &&& 31))))]) _
    refine XS.sipush X46.here hx rfl (hb hby d2_69) ?_
    show own_S p e below T46 (mkF m 72 #[.val (.ref r0), .val (.ref b6), .val (.int (6 : Int32)), .val (.int (4 : Int32)), .val (.int (3 : Int32)), .val (.int x0)] [(.int (255 : Int32)), (.int ub5), (.int (((ub3 &&& (255 : Int32)) <<< ((16 : Int32) &&& 31)) ||| ((ub4 &&& (255 : Int32)) <<< ((8 : Int32) &&& 31))))]) _
    refine XS.iand X46.here hx rfl (hb hby d2_72) rfl ?_
    show own_S p e below T46 (mkF m 73 #[.val (.ref r0), .val (.ref b6), .val (.int (6 : Int32)), .val (.int (4 : Int32)), .val (.int (3 : Int32)), .val (.int x0)] [(.int (ub5 &&& (255 : Int32))), (.int (((ub3 &&& (255 : Int32)) <<< ((16 : Int32) &&& 31)) ||| ((ub4 &&& (255 : Int32)) <<< ((8 : Int32) &&& 31))))]) _
    refine XS.ior X46.here hx rfl (hb hby d2_73) rfl ?_
    show own_S p e below T46 (mkF m 74 #[.val (.ref r0), .val (.ref b6), .val (.int (6 : Int32)), .val (.int (4 : Int32)), .val (.int (3 : Int32)), .val (.int x0)] [(.int ((((ub3 &&& (255 : Int32)) <<< ((16 : Int32) &&& 31)) ||| ((ub4 &&& (255 : Int32)) <<< ((8 : Int32) &&& 31))) ||| (ub5 &&& (255 : Int32))))]) _
    refine XS.istore X46.here hx rfl (hb hby d2_74) rfl (l' := #[.val (.ref r0), .val (.ref b6), .val (.int (6 : Int32)), .val (.int (4 : Int32)), .val (.int (3 : Int32)), .val (.int ((((ub3 &&& (255 : Int32)) <<< ((16 : Int32) &&& 31)) ||| ((ub4 &&& (255 : Int32)) <<< ((8 : Int32) &&& 31))) ||| (ub5 &&& (255 : Int32))))]) rfl ?_
    exact k
  obtain ⟨x1, hx1⟩ : ∃ z : Int32, z = ((((ub3 &&& (255 : Int32)) <<< ((16 : Int32) &&& 31)) ||| ((ub4 &&& (255 : Int32)) <<< ((8 : Int32) &&& 31))) ||| (ub5 &&& (255 : Int32))) := ⟨_, rfl⟩
  rw [← hx1] at K53
  have hb_x1 : 0 ≤ x1.toInt ∧ x1.toInt < 16777216 := by rw [hx1]; exact (own_xb (own_m255 _) (own_m255 _) (own_m255 _) (own_x3i ub3 ub4 ub5))
  have K54 : own_K p e below SE T46 (mkF m 81 #[.val (.ref r0), .val (.ref b6), .val (.int (6 : Int32)), .val (.int (5 : Int32)), .val (.int (3 : Int32)), .val (.int x1)] [(.int (4 : Int32)), (.ref b6)]) := by
    intro t k
    refine K53 _ ?_
    refine XS.aloadN X46.here hx rfl (hb hby d2_76) rfl rfl ?_
    show own_S p e below T46 (mkF m 77 #[.val (.ref r0), .val (.ref b6), .val (.int (6 : Int32)), .val (.int (4 : Int32)), .val (.int (3 : Int32)), .val (.int x1)] [(.ref b6)]) _
    refine XS.iloadN X46.here hx rfl (hb hby d2_77) rfl ?_
    show own_S p e below T46 (mkF m 78 #[.val (.ref r0), .val (.ref b6), .val (.int (6 : Int32)), .val (.int (4 : Int32)), .val (.int (3 : Int32)), .val (.int x1)] [(.int (4 : Int32)), (.ref b6)]) _
    refine XS.iinc X46.here hx rfl (hb hby d2_78) rfl (l' := #[.val (.ref r0), .val (.ref b6), .val (.int (6 : Int32)), .val (.int (5 : Int32)), .val (.int (3 : Int32)), .val (.int x1)]) rfl ?_
    exact k
  obtain ⟨T55, X55, e55, st55⟩ := getS2 X46 hx hZ hown (host := "") (Or.inl (hw _ (List.mem_of_getElem? (i := 16) rfl))) Via.refl e46 (SA.ext (own_ext Kp46)) (g := (mkF m 81 #[.val (.ref r0), .val (.ref b6), .val (.int (6 : Int32)), .val (.int (5 : Int32)), .val (.int (3 : Int32)), .val (.int x1)] [(.int (4 : Int32)), (.ref b6)])) rfl (hb hby d2_81)
  have K55 : own_K p e below SE T55 (mkF m 84 #[.val (.ref r0), .val (.ref b6), .val (.int (6 : Int32)), .val (.int (5 : Int32)), .val (.int (3 : Int32)), .val (.int x1)] [(.ref oAL), (.int (4 : Int32)), (.ref b6)]) := fun t k => K54 _ (st55 _ k)
  have K56 : own_K p e below SE T55 (mkF m 89 #[.val (.ref r0), .val (.ref b6), .val (.int (6 : Int32)), .val (.int (5 : Int32)), .val (.int (3 : Int32)), .val (.int x1)] [(.int ((x1.toUInt32 >>> ((18 : Int32) &&& 31).toUInt32).toInt32)), (.ref oAL), (.int (4 : Int32)), (.ref b6)]) := by
    intro t k
    refine K55 _ ?_
    refine XS.iload X55.here hx rfl (hb hby d2_84) rfl ?_
    show own_S p e below T55 (mkF m 86 #[.val (.ref r0), .val (.ref b6), .val (.int (6 : Int32)), .val (.int (5 : Int32)), .val (.int (3 : Int32)), .val (.int x1)] [(.int x1), (.ref oAL), (.int (4 : Int32)), (.ref b6)]) _
    refine XS.bipush X55.here hx rfl (hb hby d2_86) ?_
    show own_S p e below T55 (mkF m 88 #[.val (.ref r0), .val (.ref b6), .val (.int (6 : Int32)), .val (.int (5 : Int32)), .val (.int (3 : Int32)), .val (.int x1)] [(.int (18 : Int32)), (.int x1), (.ref oAL), (.int (4 : Int32)), (.ref b6)]) _
    refine XS.iushr X55.here hx rfl (hb hby d2_88) rfl ?_
    exact k
  obtain ⟨Ar57, S57, Ng57, Hh57⟩ := id (TA.ext (own_ext Kp46))
  have hin57 : ¬ (((x1.toUInt32 >>> ((18 : Int32) &&& 31).toUInt32).toInt32) < 0 ∨ cA.slots.size ≤ (((x1.toUInt32 >>> ((18 : Int32) &&& 31).toUInt32).toInt32)).toNatClampNeg) := inb_of S57 (own_b18 _ hb_x1)
  have hat57 := Hh57 _ hin57
  have K58 : own_K p e below SE T55 (mkF m 90 #[.val (.ref r0), .val (.ref b6), .val (.int (6 : Int32)), .val (.int (5 : Int32)), .val (.int (3 : Int32)), .val (.int x1)] [(.int (atv cA ((x1.toUInt32 >>> ((18 : Int32) &&& 31).toUInt32).toInt32))), (.int (4 : Int32)), (.ref b6)]) := by
    intro t k
    refine K56 _ ?_
    refine X55.baloadBytes hx (j := ((x1.toUInt32 >>> ((18 : Int32) &&& 31).toUInt32).toInt32)) (v := (.int (atv cA ((x1.toUInt32 >>> ((18 : Int32) &&& 31).toUInt32).toInt32)))) (by rw [e55]; exact Ar57.1) (State.isArrayOf_alike hZ.alike Ar57.2.1) Ar57.2.2 hin57 hat57 (g := (mkF m 89 #[.val (.ref r0), .val (.ref b6), .val (.int (6 : Int32)), .val (.int (5 : Int32)), .val (.int (3 : Int32)), .val (.int x1)] [(.int ((x1.toUInt32 >>> ((18 : Int32) &&& 31).toUInt32).toInt32)), (.ref oAL), (.int (4 : Int32)), (.ref b6)])) rfl rfl (hb hby d2_89) _ ?_
    exact k
  obtain ⟨cl59, Ar59, qk59, S59, Ng59, Hh59, Gg59⟩ := id V46
  have hin59 : ¬ ((4 : Int32) < 0 ∨ cl59.slots.size ≤ ((4 : Int32)).toNatClampNeg) := inb_of S59 ⟨by decide, by decide⟩
  obtain ⟨T60, h60, X60, e60, W60, st60⟩ := stB X55 hx hZ e55 Ar59 (j := (4 : Int32)) hin59 (g := (mkF m 90 #[.val (.ref r0), .val (.ref b6), .val (.int (6 : Int32)), .val (.int (5 : Int32)), .val (.int (3 : Int32)), .val (.int x1)] [(.int (atv cA ((x1.toUInt32 >>> ((18 : Int32) &&& 31).toUInt32).toInt32))), (.int (4 : Int32)), (.ref b6)])) rfl rfl (hb hby d2_90)
  have V60 : Arv Z h60 b6 k6 .byte (8 : Int32) [(.int ((atv cA ((x0.toUInt32 >>> ((18 : Int32) &&& 31).toUInt32).toInt32))).toInt8.toInt32), (.int ((atv cA (((x0.toUInt32 >>> ((12 : Int32) &&& 31).toUInt32).toInt32) &&& (63 : Int32)))).toInt8.toInt32), (.int ((atv cA (((x0.toUInt32 >>> ((6 : Int32) &&& 31).toUInt32).toInt32) &&& (63 : Int32)))).toInt8.toInt32), (.int ((atv cA (x0 &&& (63 : Int32)))).toInt8.toInt32), (.int ((atv cA ((x1.toUInt32 >>> ((18 : Int32) &&& 31).toUInt32).toInt32))).toInt8.toInt32), (.int (0 : Int32)), (.int (0 : Int32)), (.int (0 : Int32))] (.int (0 : Int32)) := Arv.set Ar59 qk59 S59 Ng59 Hh59 Gg59 (fits_nar_byte _) W60 4 rfl (Nat.le_of_ble_eq_true rfl)
  have N60 := Fr.snoc X60 N46 g_b6
  have Kp60 : Keep h0 h60 [] := Keep.wr Kp46 W60 (Or.inr sz_b6)
  have K60 : own_K p e below SE T60 (mkF m 91 #[.val (.ref r0), .val (.ref b6), .val (.int (6 : Int32)), .val (.int (5 : Int32)), .val (.int (3 : Int32)), .val (.int x1)] []) := fun t k => K58 _ (st60 _ k)
  have K61 : own_K p e below SE T60 (mkF m 96 #[.val (.ref r0), .val (.ref b6), .val (.int (6 : Int32)), .val (.int (6 : Int32)), .val (.int (3 : Int32)), .val (.int x1)] [(.int (5 : Int32)), (.ref b6)]) := by
    intro t k
    refine K60 _ ?_
    refine XS.aloadN X60.here hx rfl (hb hby d2_91) rfl rfl ?_
    show own_S p e below T60 (mkF m 92 #[.val (.ref r0), .val (.ref b6), .val (.int (6 : Int32)), .val (.int (5 : Int32)), .val (.int (3 : Int32)), .val (.int x1)] [(.ref b6)]) _
    refine XS.iloadN X60.here hx rfl (hb hby d2_92) rfl ?_
    show own_S p e below T60 (mkF m 93 #[.val (.ref r0), .val (.ref b6), .val (.int (6 : Int32)), .val (.int (5 : Int32)), .val (.int (3 : Int32)), .val (.int x1)] [(.int (5 : Int32)), (.ref b6)]) _
    refine XS.iinc X60.here hx rfl (hb hby d2_93) rfl (l' := #[.val (.ref r0), .val (.ref b6), .val (.int (6 : Int32)), .val (.int (6 : Int32)), .val (.int (3 : Int32)), .val (.int x1)]) rfl ?_
    exact k
  obtain ⟨T62, X62, e62, st62⟩ := getS2 X60 hx hZ hown (host := "") (Or.inl (hw _ (List.mem_of_getElem? (i := 16) rfl))) Via.refl e60 (SA.ext (own_ext Kp60)) (g := (mkF m 96 #[.val (.ref r0), .val (.ref b6), .val (.int (6 : Int32)), .val (.int (6 : Int32)), .val (.int (3 : Int32)), .val (.int x1)] [(.int (5 : Int32)), (.ref b6)])) rfl (hb hby d2_96)
  have K62 : own_K p e below SE T62 (mkF m 99 #[.val (.ref r0), .val (.ref b6), .val (.int (6 : Int32)), .val (.int (6 : Int32)), .val (.int (3 : Int32)), .val (.int x1)] [(.ref oAL), (.int (5 : Int32)), (.ref b6)]) := fun t k => K61 _ (st62 _ k)
  have K63 : own_K p e below SE T62 (mkF m 107 #[.val (.ref r0), .val (.ref b6), .val (.int (6 : Int32)), .val (.int (6 : Int32)), .val (.int (3 : Int32)), .val (.int x1)] [(.int (((x1.toUInt32 >>> ((12 : Int32) &&& 31).toUInt32).toInt32) &&& (63 : Int32))), (.ref oAL), (.int (5 : Int32)), (.ref b6)]) := by
    intro t k
    refine K62 _ ?_
    refine XS.iload X62.here hx rfl (hb hby d2_99) rfl ?_
    show own_S p e below T62 (mkF m 101 #[.val (.ref r0), .val (.ref b6), .val (.int (6 : Int32)), .val (.int (6 : Int32)), .val (.int (3 : Int32)), .val (.int x1)] [(.int x1), (.ref oAL), (.int (5 : Int32)), (.ref b6)]) _
    refine XS.bipush X62.here hx rfl (hb hby d2_101) ?_
    show own_S p e below T62 (mkF m 103 #[.val (.ref r0), .val (.ref b6), .val (.int (6 : Int32)), .val (.int (6 : Int32)), .val (.int (3 : Int32)), .val (.int x1)] [(.int (12 : Int32)), (.int x1), (.ref oAL), (.int (5 : Int32)), (.ref b6)]) _
    refine XS.iushr X62.here hx rfl (hb hby d2_103) rfl ?_
    show own_S p e below T62 (mkF m 104 #[.val (.ref r0), .val (.ref b6), .val (.int (6 : Int32)), .val (.int (6 : Int32)), .val (.int (3 : Int32)), .val (.int x1)] [(.int ((x1.toUInt32 >>> ((12 : Int32) &&& 31).toUInt32).toInt32)), (.ref oAL), (.int (5 : Int32)), (.ref b6)]) _
    refine XS.bipush X62.here hx rfl (hb hby d2_104) ?_
    show own_S p e below T62 (mkF m 106 #[.val (.ref r0), .val (.ref b6), .val (.int (6 : Int32)), .val (.int (6 : Int32)), .val (.int (3 : Int32)), .val (.int x1)] [(.int (63 : Int32)), (.int ((x1.toUInt32 >>> ((12 : Int32) &&& 31).toUInt32).toInt32)), (.ref oAL), (.int (5 : Int32)), (.ref b6)]) _
    refine XS.iand X62.here hx rfl (hb hby d2_106) rfl ?_
    exact k
  obtain ⟨Ar64, S64, Ng64, Hh64⟩ := id (TA.ext (own_ext Kp60))
  have hin64 : ¬ ((((x1.toUInt32 >>> ((12 : Int32) &&& 31).toUInt32).toInt32) &&& (63 : Int32)) < 0 ∨ cA.slots.size ≤ ((((x1.toUInt32 >>> ((12 : Int32) &&& 31).toUInt32).toInt32) &&& (63 : Int32))).toNatClampNeg) := inb_of S64 (own_b63 _)
  have hat64 := Hh64 _ hin64
  have K65 : own_K p e below SE T62 (mkF m 108 #[.val (.ref r0), .val (.ref b6), .val (.int (6 : Int32)), .val (.int (6 : Int32)), .val (.int (3 : Int32)), .val (.int x1)] [(.int (atv cA (((x1.toUInt32 >>> ((12 : Int32) &&& 31).toUInt32).toInt32) &&& (63 : Int32)))), (.int (5 : Int32)), (.ref b6)]) := by
    intro t k
    refine K63 _ ?_
    refine X62.baloadBytes hx (j := (((x1.toUInt32 >>> ((12 : Int32) &&& 31).toUInt32).toInt32) &&& (63 : Int32))) (v := (.int (atv cA (((x1.toUInt32 >>> ((12 : Int32) &&& 31).toUInt32).toInt32) &&& (63 : Int32))))) (by rw [e62]; exact Ar64.1) (State.isArrayOf_alike hZ.alike Ar64.2.1) Ar64.2.2 hin64 hat64 (g := (mkF m 107 #[.val (.ref r0), .val (.ref b6), .val (.int (6 : Int32)), .val (.int (6 : Int32)), .val (.int (3 : Int32)), .val (.int x1)] [(.int (((x1.toUInt32 >>> ((12 : Int32) &&& 31).toUInt32).toInt32) &&& (63 : Int32))), (.ref oAL), (.int (5 : Int32)), (.ref b6)])) rfl rfl (hb hby d2_107) _ ?_
    exact k
  obtain ⟨cl66, Ar66, qk66, S66, Ng66, Hh66, Gg66⟩ := id V60
  have hin66 : ¬ ((5 : Int32) < 0 ∨ cl66.slots.size ≤ ((5 : Int32)).toNatClampNeg) := inb_of S66 ⟨by decide, by decide⟩
  obtain ⟨T67, h67, X67, e67, W67, st67⟩ := stB X62 hx hZ e62 Ar66 (j := (5 : Int32)) hin66 (g := (mkF m 108 #[.val (.ref r0), .val (.ref b6), .val (.int (6 : Int32)), .val (.int (6 : Int32)), .val (.int (3 : Int32)), .val (.int x1)] [(.int (atv cA (((x1.toUInt32 >>> ((12 : Int32) &&& 31).toUInt32).toInt32) &&& (63 : Int32)))), (.int (5 : Int32)), (.ref b6)])) rfl rfl (hb hby d2_108)
  have V67 : Arv Z h67 b6 k6 .byte (8 : Int32) [(.int ((atv cA ((x0.toUInt32 >>> ((18 : Int32) &&& 31).toUInt32).toInt32))).toInt8.toInt32), (.int ((atv cA (((x0.toUInt32 >>> ((12 : Int32) &&& 31).toUInt32).toInt32) &&& (63 : Int32)))).toInt8.toInt32), (.int ((atv cA (((x0.toUInt32 >>> ((6 : Int32) &&& 31).toUInt32).toInt32) &&& (63 : Int32)))).toInt8.toInt32), (.int ((atv cA (x0 &&& (63 : Int32)))).toInt8.toInt32), (.int ((atv cA ((x1.toUInt32 >>> ((18 : Int32) &&& 31).toUInt32).toInt32))).toInt8.toInt32), (.int ((atv cA (((x1.toUInt32 >>> ((12 : Int32) &&& 31).toUInt32).toInt32) &&& (63 : Int32)))).toInt8.toInt32), (.int (0 : Int32)), (.int (0 : Int32))] (.int (0 : Int32)) := Arv.set Ar66 qk66 S66 Ng66 Hh66 Gg66 (fits_nar_byte _) W67 5 rfl (Nat.le_of_ble_eq_true rfl)
  have N67 := Fr.snoc X67 N60 g_b6
  have Kp67 : Keep h0 h67 [] := Keep.wr Kp60 W67 (Or.inr sz_b6)
  have K67 : own_K p e below SE T67 (mkF m 109 #[.val (.ref r0), .val (.ref b6), .val (.int (6 : Int32)), .val (.int (6 : Int32)), .val (.int (3 : Int32)), .val (.int x1)] []) := fun t k => K65 _ (st67 _ k)
  have K68 : own_K p e below SE T67 (mkF m 114 #[.val (.ref r0), .val (.ref b6), .val (.int (6 : Int32)), .val (.int (7 : Int32)), .val (.int (3 : Int32)), .val (.int x1)] [(.int (6 : Int32)), (.ref b6)]) := by
    intro t k
    refine K67 _ ?_
    refine XS.aloadN X67.here hx rfl (hb hby d2_109) rfl rfl ?_
    show own_S p e below T67 (mkF m 110 #[.val (.ref r0), .val (.ref b6), .val (.int (6 : Int32)), .val (.int (6 : Int32)), .val (.int (3 : Int32)), .val (.int x1)] [(.ref b6)]) _
    refine XS.iloadN X67.here hx rfl (hb hby d2_110) rfl ?_
    show own_S p e below T67 (mkF m 111 #[.val (.ref r0), .val (.ref b6), .val (.int (6 : Int32)), .val (.int (6 : Int32)), .val (.int (3 : Int32)), .val (.int x1)] [(.int (6 : Int32)), (.ref b6)]) _
    refine XS.iinc X67.here hx rfl (hb hby d2_111) rfl (l' := #[.val (.ref r0), .val (.ref b6), .val (.int (6 : Int32)), .val (.int (7 : Int32)), .val (.int (3 : Int32)), .val (.int x1)]) rfl ?_
    exact k
  obtain ⟨T69, X69, e69, st69⟩ := getS2 X67 hx hZ hown (host := "") (Or.inl (hw _ (List.mem_of_getElem? (i := 16) rfl))) Via.refl e67 (SA.ext (own_ext Kp67)) (g := (mkF m 114 #[.val (.ref r0), .val (.ref b6), .val (.int (6 : Int32)), .val (.int (7 : Int32)), .val (.int (3 : Int32)), .val (.int x1)] [(.int (6 : Int32)), (.ref b6)])) rfl (hb hby d2_114)
  have K69 : own_K p e below SE T69 (mkF m 117 #[.val (.ref r0), .val (.ref b6), .val (.int (6 : Int32)), .val (.int (7 : Int32)), .val (.int (3 : Int32)), .val (.int x1)] [(.ref oAL), (.int (6 : Int32)), (.ref b6)]) := fun t k => K68 _ (st69 _ k)
  have K70 : own_K p e below SE T69 (mkF m 125 #[.val (.ref r0), .val (.ref b6), .val (.int (6 : Int32)), .val (.int (7 : Int32)), .val (.int (3 : Int32)), .val (.int x1)] [(.int (((x1.toUInt32 >>> ((6 : Int32) &&& 31).toUInt32).toInt32) &&& (63 : Int32))), (.ref oAL), (.int (6 : Int32)), (.ref b6)]) := by
    intro t k
    refine K69 _ ?_
    refine XS.iload X69.here hx rfl (hb hby d2_117) rfl ?_
    show own_S p e below T69 (mkF m 119 #[.val (.ref r0), .val (.ref b6), .val (.int (6 : Int32)), .val (.int (7 : Int32)), .val (.int (3 : Int32)), .val (.int x1)] [(.int x1), (.ref oAL), (.int (6 : Int32)), (.ref b6)]) _
    refine XS.bipush X69.here hx rfl (hb hby d2_119) ?_
    show own_S p e below T69 (mkF m 121 #[.val (.ref r0), .val (.ref b6), .val (.int (6 : Int32)), .val (.int (7 : Int32)), .val (.int (3 : Int32)), .val (.int x1)] [(.int (6 : Int32)), (.int x1), (.ref oAL), (.int (6 : Int32)), (.ref b6)]) _
    refine XS.iushr X69.here hx rfl (hb hby d2_121) rfl ?_
    show own_S p e below T69 (mkF m 122 #[.val (.ref r0), .val (.ref b6), .val (.int (6 : Int32)), .val (.int (7 : Int32)), .val (.int (3 : Int32)), .val (.int x1)] [(.int ((x1.toUInt32 >>> ((6 : Int32) &&& 31).toUInt32).toInt32)), (.ref oAL), (.int (6 : Int32)), (.ref b6)]) _
    refine XS.bipush X69.here hx rfl (hb hby d2_122) ?_
    show own_S p e below T69 (mkF m 124 #[.val (.ref r0), .val (.ref b6), .val (.int (6 : Int32)), .val (.int (7 : Int32)), .val (.int (3 : Int32)), .val (.int x1)] [(.int (63 : Int32)), (.int ((x1.toUInt32 >>> ((6 : Int32) &&& 31).toUInt32).toInt32)), (.ref oAL), (.int (6 : Int32)), (.ref b6)]) _
    refine XS.iand X69.here hx rfl (hb hby d2_124) rfl ?_
    exact k
  obtain ⟨Ar71, S71, Ng71, Hh71⟩ := id (TA.ext (own_ext Kp67))
  have hin71 : ¬ ((((x1.toUInt32 >>> ((6 : Int32) &&& 31).toUInt32).toInt32) &&& (63 : Int32)) < 0 ∨ cA.slots.size ≤ ((((x1.toUInt32 >>> ((6 : Int32) &&& 31).toUInt32).toInt32) &&& (63 : Int32))).toNatClampNeg) := inb_of S71 (own_b63 _)
  have hat71 := Hh71 _ hin71
  have K72 : own_K p e below SE T69 (mkF m 126 #[.val (.ref r0), .val (.ref b6), .val (.int (6 : Int32)), .val (.int (7 : Int32)), .val (.int (3 : Int32)), .val (.int x1)] [(.int (atv cA (((x1.toUInt32 >>> ((6 : Int32) &&& 31).toUInt32).toInt32) &&& (63 : Int32)))), (.int (6 : Int32)), (.ref b6)]) := by
    intro t k
    refine K70 _ ?_
    refine X69.baloadBytes hx (j := (((x1.toUInt32 >>> ((6 : Int32) &&& 31).toUInt32).toInt32) &&& (63 : Int32))) (v := (.int (atv cA (((x1.toUInt32 >>> ((6 : Int32) &&& 31).toUInt32).toInt32) &&& (63 : Int32))))) (by rw [e69]; exact Ar71.1) (State.isArrayOf_alike hZ.alike Ar71.2.1) Ar71.2.2 hin71 hat71 (g := (mkF m 125 #[.val (.ref r0), .val (.ref b6), .val (.int (6 : Int32)), .val (.int (7 : Int32)), .val (.int (3 : Int32)), .val (.int x1)] [(.int (((x1.toUInt32 >>> ((6 : Int32) &&& 31).toUInt32).toInt32) &&& (63 : Int32))), (.ref oAL), (.int (6 : Int32)), (.ref b6)])) rfl rfl (hb hby d2_125) _ ?_
    exact k
  obtain ⟨cl73, Ar73, qk73, S73, Ng73, Hh73, Gg73⟩ := id V67
  have hin73 : ¬ ((6 : Int32) < 0 ∨ cl73.slots.size ≤ ((6 : Int32)).toNatClampNeg) := inb_of S73 ⟨by decide, by decide⟩
  obtain ⟨T74, h74, X74, e74, W74, st74⟩ := stB X69 hx hZ e69 Ar73 (j := (6 : Int32)) hin73 (g := (mkF m 126 #[.val (.ref r0), .val (.ref b6), .val (.int (6 : Int32)), .val (.int (7 : Int32)), .val (.int (3 : Int32)), .val (.int x1)] [(.int (atv cA (((x1.toUInt32 >>> ((6 : Int32) &&& 31).toUInt32).toInt32) &&& (63 : Int32)))), (.int (6 : Int32)), (.ref b6)])) rfl rfl (hb hby d2_126)
  have V74 : Arv Z h74 b6 k6 .byte (8 : Int32) [(.int ((atv cA ((x0.toUInt32 >>> ((18 : Int32) &&& 31).toUInt32).toInt32))).toInt8.toInt32), (.int ((atv cA (((x0.toUInt32 >>> ((12 : Int32) &&& 31).toUInt32).toInt32) &&& (63 : Int32)))).toInt8.toInt32), (.int ((atv cA (((x0.toUInt32 >>> ((6 : Int32) &&& 31).toUInt32).toInt32) &&& (63 : Int32)))).toInt8.toInt32), (.int ((atv cA (x0 &&& (63 : Int32)))).toInt8.toInt32), (.int ((atv cA ((x1.toUInt32 >>> ((18 : Int32) &&& 31).toUInt32).toInt32))).toInt8.toInt32), (.int ((atv cA (((x1.toUInt32 >>> ((12 : Int32) &&& 31).toUInt32).toInt32) &&& (63 : Int32)))).toInt8.toInt32), (.int ((atv cA (((x1.toUInt32 >>> ((6 : Int32) &&& 31).toUInt32).toInt32) &&& (63 : Int32)))).toInt8.toInt32), (.int (0 : Int32))] (.int (0 : Int32)) := Arv.set Ar73 qk73 S73 Ng73 Hh73 Gg73 (fits_nar_byte _) W74 6 rfl (Nat.le_of_ble_eq_true rfl)
  have N74 := Fr.snoc X74 N67 g_b6
  have Kp74 : Keep h0 h74 [] := Keep.wr Kp67 W74 (Or.inr sz_b6)
  have K74 : own_K p e below SE T74 (mkF m 127 #[.val (.ref r0), .val (.ref b6), .val (.int (6 : Int32)), .val (.int (7 : Int32)), .val (.int (3 : Int32)), .val (.int x1)] []) := fun t k => K72 _ (st74 _ k)
  have K75 : own_K p e below SE T74 (mkF m 132 #[.val (.ref r0), .val (.ref b6), .val (.int (6 : Int32)), .val (.int (8 : Int32)), .val (.int (3 : Int32)), .val (.int x1)] [(.int (7 : Int32)), (.ref b6)]) := by
    intro t k
    refine K74 _ ?_
    refine XS.aloadN X74.here hx rfl (hb hby d2_127) rfl rfl ?_
    show own_S p e below T74 (mkF m 128 #[.val (.ref r0), .val (.ref b6), .val (.int (6 : Int32)), .val (.int (7 : Int32)), .val (.int (3 : Int32)), .val (.int x1)] [(.ref b6)]) _
    refine XS.iloadN X74.here hx rfl (hb hby d2_128) rfl ?_
    show own_S p e below T74 (mkF m 129 #[.val (.ref r0), .val (.ref b6), .val (.int (6 : Int32)), .val (.int (7 : Int32)), .val (.int (3 : Int32)), .val (.int x1)] [(.int (7 : Int32)), (.ref b6)]) _
    refine XS.iinc X74.here hx rfl (hb hby d2_129) rfl (l' := #[.val (.ref r0), .val (.ref b6), .val (.int (6 : Int32)), .val (.int (8 : Int32)), .val (.int (3 : Int32)), .val (.int x1)]) rfl ?_
    exact k
  obtain ⟨T76, X76, e76, st76⟩ := getS2 X74 hx hZ hown (host := "") (Or.inl (hw _ (List.mem_of_getElem? (i := 16) rfl))) Via.refl e74 (SA.ext (own_ext Kp74)) (g := (mkF m 132 #[.val (.ref r0), .val (.ref b6), .val (.int (6 : Int32)), .val (.int (8 : Int32)), .val (.int (3 : Int32)), .val (.int x1)] [(.int (7 : Int32)), (.ref b6)])) rfl (hb hby d2_132)
  have K76 : own_K p e below SE T76 (mkF m 135 #[.val (.ref r0), .val (.ref b6), .val (.int (6 : Int32)), .val (.int (8 : Int32)), .val (.int (3 : Int32)), .val (.int x1)] [(.ref oAL), (.int (7 : Int32)), (.ref b6)]) := fun t k => K75 _ (st76 _ k)
  have K77 : own_K p e below SE T76 (mkF m 140 #[.val (.ref r0), .val (.ref b6), .val (.int (6 : Int32)), .val (.int (8 : Int32)), .val (.int (3 : Int32)), .val (.int x1)] [(.int (x1 &&& (63 : Int32))), (.ref oAL), (.int (7 : Int32)), (.ref b6)]) := by
    intro t k
    refine K76 _ ?_
    refine XS.iload X76.here hx rfl (hb hby d2_135) rfl ?_
    show own_S p e below T76 (mkF m 137 #[.val (.ref r0), .val (.ref b6), .val (.int (6 : Int32)), .val (.int (8 : Int32)), .val (.int (3 : Int32)), .val (.int x1)] [(.int x1), (.ref oAL), (.int (7 : Int32)), (.ref b6)]) _
    refine XS.bipush X76.here hx rfl (hb hby d2_137) ?_
    show own_S p e below T76 (mkF m 139 #[.val (.ref r0), .val (.ref b6), .val (.int (6 : Int32)), .val (.int (8 : Int32)), .val (.int (3 : Int32)), .val (.int x1)] [(.int (63 : Int32)), (.int x1), (.ref oAL), (.int (7 : Int32)), (.ref b6)]) _
    refine XS.iand X76.here hx rfl (hb hby d2_139) rfl ?_
    exact k
  obtain ⟨Ar78, S78, Ng78, Hh78⟩ := id (TA.ext (own_ext Kp74))
  have hin78 : ¬ ((x1 &&& (63 : Int32)) < 0 ∨ cA.slots.size ≤ ((x1 &&& (63 : Int32))).toNatClampNeg) := inb_of S78 (own_b63 _)
  have hat78 := Hh78 _ hin78
  have K79 : own_K p e below SE T76 (mkF m 141 #[.val (.ref r0), .val (.ref b6), .val (.int (6 : Int32)), .val (.int (8 : Int32)), .val (.int (3 : Int32)), .val (.int x1)] [(.int (atv cA (x1 &&& (63 : Int32)))), (.int (7 : Int32)), (.ref b6)]) := by
    intro t k
    refine K77 _ ?_
    refine X76.baloadBytes hx (j := (x1 &&& (63 : Int32))) (v := (.int (atv cA (x1 &&& (63 : Int32))))) (by rw [e76]; exact Ar78.1) (State.isArrayOf_alike hZ.alike Ar78.2.1) Ar78.2.2 hin78 hat78 (g := (mkF m 140 #[.val (.ref r0), .val (.ref b6), .val (.int (6 : Int32)), .val (.int (8 : Int32)), .val (.int (3 : Int32)), .val (.int x1)] [(.int (x1 &&& (63 : Int32))), (.ref oAL), (.int (7 : Int32)), (.ref b6)])) rfl rfl (hb hby d2_140) _ ?_
    exact k
  obtain ⟨cl80, Ar80, qk80, S80, Ng80, Hh80, Gg80⟩ := id V74
  have hin80 : ¬ ((7 : Int32) < 0 ∨ cl80.slots.size ≤ ((7 : Int32)).toNatClampNeg) := inb_of S80 ⟨by decide, by decide⟩
  obtain ⟨T81, h81, X81, e81, W81, st81⟩ := stB X76 hx hZ e76 Ar80 (j := (7 : Int32)) hin80 (g := (mkF m 141 #[.val (.ref r0), .val (.ref b6), .val (.int (6 : Int32)), .val (.int (8 : Int32)), .val (.int (3 : Int32)), .val (.int x1)] [(.int (atv cA (x1 &&& (63 : Int32)))), (.int (7 : Int32)), (.ref b6)])) rfl rfl (hb hby d2_141)
  have V81 : Arv Z h81 b6 k6 .byte (8 : Int32) [(.int ((atv cA ((x0.toUInt32 >>> ((18 : Int32) &&& 31).toUInt32).toInt32))).toInt8.toInt32), (.int ((atv cA (((x0.toUInt32 >>> ((12 : Int32) &&& 31).toUInt32).toInt32) &&& (63 : Int32)))).toInt8.toInt32), (.int ((atv cA (((x0.toUInt32 >>> ((6 : Int32) &&& 31).toUInt32).toInt32) &&& (63 : Int32)))).toInt8.toInt32), (.int ((atv cA (x0 &&& (63 : Int32)))).toInt8.toInt32), (.int ((atv cA ((x1.toUInt32 >>> ((18 : Int32) &&& 31).toUInt32).toInt32))).toInt8.toInt32), (.int ((atv cA (((x1.toUInt32 >>> ((12 : Int32) &&& 31).toUInt32).toInt32) &&& (63 : Int32)))).toInt8.toInt32), (.int ((atv cA (((x1.toUInt32 >>> ((6 : Int32) &&& 31).toUInt32).toInt32) &&& (63 : Int32)))).toInt8.toInt32), (.int ((atv cA (x1 &&& (63 : Int32)))).toInt8.toInt32)] (.int (0 : Int32)) := Arv.set Ar80 qk80 S80 Ng80 Hh80 Gg80 (fits_nar_byte _) W81 7 rfl (Nat.le_of_ble_eq_true rfl)
  have N81 := Fr.snoc X81 N74 g_b6
  have Kp81 : Keep h0 h81 [] := Keep.wr Kp74 W81 (Or.inr sz_b6)
  have K81 : own_K p e below SE T81 (mkF m 142 #[.val (.ref r0), .val (.ref b6), .val (.int (6 : Int32)), .val (.int (8 : Int32)), .val (.int (3 : Int32)), .val (.int x1)] []) := fun t k => K79 _ (st81 _ k)
  have K82 : own_K p e below SE T81 (mkF m 150 #[.val (.ref r0), .val (.ref b6), .val (.int (6 : Int32)), .val (.int (8 : Int32)), .val (.int (6 : Int32)), .val (.int x1)] [(.ref r0), (.int (6 : Int32))]) := by
    intro t k
    refine K81 _ ?_
    refine XS.iinc X81.here hx rfl (hb hby d2_142) rfl (l' := #[.val (.ref r0), .val (.ref b6), .val (.int (6 : Int32)), .val (.int (8 : Int32)), .val (.int (6 : Int32)), .val (.int x1)]) rfl ?_
    show own_S p e below T81 (mkF m 145 #[.val (.ref r0), .val (.ref b6), .val (.int (6 : Int32)), .val (.int (8 : Int32)), .val (.int (6 : Int32)), .val (.int x1)] []) _
    refine XS.goto X81.here hx rfl (pc0 := 145) (pc' := 32) rfl (hb hby d2_145) (by decide) (by decide) ?_
    show own_S p e below T81 (mkF m 32 #[.val (.ref r0), .val (.ref b6), .val (.int (6 : Int32)), .val (.int (8 : Int32)), .val (.int (6 : Int32)), .val (.int x1)] []) _
    refine XS.iload X81.here hx rfl (hb hby d2_32) rfl ?_
    show own_S p e below T81 (mkF m 34 #[.val (.ref r0), .val (.ref b6), .val (.int (6 : Int32)), .val (.int (8 : Int32)), .val (.int (6 : Int32)), .val (.int x1)] [(.int (6 : Int32))]) _
    refine XS.iloadN X81.here hx rfl (hb hby d2_34) rfl ?_
    show own_S p e below T81 (mkF m 35 #[.val (.ref r0), .val (.ref b6), .val (.int (6 : Int32)), .val (.int (8 : Int32)), .val (.int (6 : Int32)), .val (.int x1)] [(.int (6 : Int32)), (.int (6 : Int32))]) _
    refine XS.icmpYes X81.here hx rfl (pc0 := 35) (pc' := 148) rfl (hb hby d2_35) rfl (XT.ii_ge_t (by decide : ¬ ((6 : Int32) < (6 : Int32)))) (by decide) (by decide) ?_
    show own_S p e below T81 (mkF m 148 #[.val (.ref r0), .val (.ref b6), .val (.int (6 : Int32)), .val (.int (8 : Int32)), .val (.int (6 : Int32)), .val (.int x1)] []) _
    refine XS.iloadN X81.here hx rfl (hb hby d2_148) rfl ?_
    show own_S p e below T81 (mkF m 149 #[.val (.ref r0), .val (.ref b6), .val (.int (6 : Int32)), .val (.int (8 : Int32)), .val (.int (6 : Int32)), .val (.int x1)] [(.int (6 : Int32))]) _
    refine XS.aloadN X81.here hx rfl (hb hby d2_149) rfl rfl ?_
    exact k
  obtain ⟨cl83, Ar83, -, S83, Ng83, -, -⟩ := id (V_r0.ext (own_ext Kp81))
  have K84 : own_K p e below SE T81 (mkF m 246 #[.val (.ref r0), .val (.ref b6), .val (.int (6 : Int32)), .val (.int (8 : Int32)), .val (.int (6 : Int32)), .val (.int x1)] [(.ref b6)]) := by
    intro t k
    refine K82 _ ?_
    refine X81.arraylength hx (by rw [e81]; exact Ar83.1) (State.isArrayOf_alike hZ.alike Ar83.2.1) (g := (mkF m 150 #[.val (.ref r0), .val (.ref b6), .val (.int (6 : Int32)), .val (.int (8 : Int32)), .val (.int (6 : Int32)), .val (.int x1)] [(.ref r0), (.int (6 : Int32))])) rfl rfl (hb hby d2_150) _ ?_
    rw [len_of S83 Ng83]
    show own_S p e below T81 (mkF m 151 #[.val (.ref r0), .val (.ref b6), .val (.int (6 : Int32)), .val (.int (8 : Int32)), .val (.int (6 : Int32)), .val (.int x1)] [(.int (6 : Int32)), (.int (6 : Int32))]) _
    refine XS.icmpYes X81.here hx rfl (pc0 := 151) (pc' := 245) rfl (hb hby d2_151) rfl (XT.ii_ge_t (by decide : ¬ ((6 : Int32) < (6 : Int32)))) (by decide) (by decide) ?_
    show own_S p e below T81 (mkF m 245 #[.val (.ref r0), .val (.ref b6), .val (.int (6 : Int32)), .val (.int (8 : Int32)), .val (.int (6 : Int32)), .val (.int x1)] []) _
    refine XS.aloadN X81.here hx rfl (hb hby d2_245) rfl rfl ?_
    exact k
  subst hx0
  subst hx1
  obtain ⟨fs, hr, hrun, hended, hW, hsame⟩ := X81.leave (v := some (.ref b6)) (fun h => by rw [Bd.returns] at h; cases h)
  refine ⟨_, _, K84 _ ?_, hrun, hended, _, _, rfl, ?_, ⟨_, rfl⟩, hW, hsame.mono (by decide) (by decide)⟩
  · show Steps p.tables e below (T81.setTop (mkF m 246 #[.val (.ref r0), .val (.ref b6), .val (.int (6 : Int32)), .val (.int (8 : Int32)), .val (.int (6 : Int32)), .val (.int ((((ub3 &&& (255 : Int32)) <<< ((16 : Int32) &&& 31)) ||| ((ub4 &&& (255 : Int32)) <<< ((8 : Int32) &&& 31))) ||| (ub5 &&& (255 : Int32))))] [(.ref b6)])) _
    jvm_step X81.here [X81.here.top, hx, (hb hby d2_246), X81.method', Bd.returns, Value.isRef, FieldType.isReference]
    first | (intro acts; rw [hr _ acts rfl rfl rfl]) | rw [hr _ _ rfl rfl rfl]
    exact Steps.refl _
  · show Q2_6 Z r0 kA oAL cA ub0 ub1 ub2 ub3 ub4 ub5 h0 n0 _ T81.heap _
    rw [e81]
    exact ⟨congrArg (fun z => some (Value.ref z)) g6, N81, Kp81, _, (g6 ▸ V81)⟩
theorem own_chk {cA : Cell} (hAL : ∀ j : Int32, ¬ j < 0 → j < (64 : Int32) → atv cA j = (own_ch j).toInt8.toInt32) {i s : Int32} (hb : ¬ i < 0 ∧ i < (64 : Int32)) (h : i = s) : (atv cA i).toInt8.toInt32 = ((own_ch s)).toInt8.toInt32 := by
  rw [hAL i hb.1 hb.2, Int8.toInt8_toInt32, h]
theorem own_one {a b : Int32} (h : a = b) : ¬ (if a = b then (1 : Int32) else (0 : Int32)) = 0 := by
  rw [if_pos h]; decide
theorem own_eo (b : Int64) (i n : Int32) (h : i < n) : (((((((b.toUInt64 >>> (((8 : Int32) * i) &&& 0x3f).toInt64.toUInt64).toInt64)).toInt32).toInt8.toInt32).toInt8.toInt32) &&& (255 : Int32)) = own_oct b i n := by
  unfold own_oct
  rw [if_pos h, own_bv]
theorem own_n7 (x n : Int32) (h : n = ((x &&& (2147483647 : Int32)) % (7 : Int32))) : n = (0 : Int32) ∨ n = (1 : Int32) ∨ n = (2 : Int32) ∨ n = (3 : Int32) ∨ n = (4 : Int32) ∨ n = (5 : Int32) ∨ n = (6 : Int32) := by
  have e1 : (x &&& (2147483647 : Int32)).toInt = x.toInt % 2 ^ 31 := Jvm.Kit.i32_mask x 2147483647 (k := 31) (by decide) (by decide)
  have e2 : ((x &&& (2147483647 : Int32)) % (7 : Int32)).toInt = (x &&& (2147483647 : Int32)).toInt % (7 : Int32).toInt := Jvm.Kit.i32_rem_nonneg (by omega)
  have c7 : (7 : Int32).toInt = 7 := by decide
  have k0 : (0 : Int32).toInt = 0 := by decide
  have k1 : (1 : Int32).toInt = 1 := by decide
  have k2 : (2 : Int32).toInt = 2 := by decide
  have k3 : (3 : Int32).toInt = 3 := by decide
  have k4 : (4 : Int32).toInt = 4 := by decide
  have k5 : (5 : Int32).toInt = 5 := by decide
  have k6 : (6 : Int32).toInt = 6 := by decide
  rw [c7, ← h] at e2
  simp only [← Int32.toInt_inj]
  omega
theorem pd_0_0 : parseMethodDescriptor "([BIJ)V" = some ⟨[(.array .byte), .int, .long], none⟩ := by decide +kernel
theorem pd_0_1 : parseMethodDescriptor "([B)[B" = some ⟨[(.array .byte)], some (.array .byte)⟩ := by decide +kernel
theorem pd_0_2 : parseMethodDescriptor "([BIIJ)Z" = some ⟨[(.array .byte), .int, .int, .long], some .boolean⟩ := by decide +kernel
theorem ef_0 (m : MethodId) (p0 : Int32) (q1 : Int64) : entryFrame m #[(.int p0), (.long q1)] maxLocals = mkF m 0 #[.val (.int p0), .val (.long q1), .second, .unset, .unset, .unset, .unset, .unset] [] := by first | (simp [entryFrame, mkF, argsToLocals, Value.category, maxLocals]; done) | rfl
def Q0 (Z : State) (p0 : Int32) (q1 : Int64) (oAL : Addr) (cA : Cell) (h0 : Heap) (n0 : Nat) (v : Option Value) (h : Heap) (L : List Loc) : Prop := v = some (.int 1) ∧ Fr n0 L
set_option maxRecDepth 65536 in
set_option maxHeartbeats 40000000 in
theorem rm0 (l : Launch) (Z : State) (a0 : Array Value) (hw : ∀ d ∈ tables_1, d.before a0 Z = true) (ws : List Jvm.Cond) (p0 : Int32) (q1 : Int64) (oAL : Addr) (cA : Cell) (h0 : Heap) (n0 : Nat) (Z0 : n0 ≤ h0.size) (SA : Sta Z h0 "com/example/whorl/whorl/Base64url" "ALPHABET" "[B" (.ref oAL)) (TA : Tab Z h0 oAL cA .byte (64 : Int32)) (hAL : ∀ j : Int32, ¬ j < 0 → j < (64 : Int32) → atv cA j = (own_ch j).toInt8.toInt32) :
    MetFree l x (head1 (Jvm.Cond.code x code maxLocals ret :: ws) room_1) (fun a U => a = #[(.int p0), (.long q1)] ∧ Z.Warmed39 U.vm ∧ U.heap = h0) (fun _ _ _ _ _ => True) (fun _ U o U' => ∃ v L, o = .returned v ∧ Q0 Z p0 q1 oAL cA h0 n0 v U'.heap L ∧ FrameEnd U o U' L room_1.cells room_1.slots) := by
  refine MetFree.of_bodySF (plainFor_of_name pn_5) hisR ?_
  intro p e s m args below meth c s₁ Bd hml0 hP hK
  obtain ⟨rfl, hZ, hh⟩ := hP
  have hx := Bd.exec
  have hby := Bd.bytes
  have hml : c.maxLocals = 8 := hml0
  have hown : s.vm.findClass "com/example/whorl/whorl/Base64urlTextPinLaw" = some m.cls := findClass_of_methodNamed Bd.named
  have hnm := (name_of_methodNamed Bd.named Bd.method).1
  have X0 : Stand p l e room_1 s m #[(.int p0), (.long q1)] below meth c s₁ [] 0 0 := Stand.of_body Bd
  have e0 : s₁.heap = h0 := by rw [← hh, Bd.state]; rfl
  have N0 := Fr.nil n0
  have K0 : ∀ t, Steps p.tables e below (s₁.setTop (mkF m 0 #[.val (.int p0), .val (.long q1), .second, .unset, .unset, .unset, .unset, .unset] [])) t → Steps p.tables e below (s₁.setTop (entryFrame m #[(.int p0), (.long q1)] maxLocals)) t := fun t k => castTop (ef_0 m p0 q1) k
  generalize s₁.setTop (entryFrame m #[(.int p0), (.long q1)] maxLocals) = SE at K0 ⊢
  have K1 : own_K p e below SE s₁ (mkF m 8 #[.val (.int p0), .val (.long q1), .second, .val (.int ((p0 &&& (2147483647 : Int32)) % (7 : Int32))), .unset, .unset, .unset, .unset] []) := by
    intro t k
    refine K0 _ ?_
    refine XS.iloadN X0.here hx rfl (hb hby at_0) rfl ?_
    show own_S p e below s₁ (mkF m 1 #[.val (.int p0), .val (.long q1), .second, .unset, .unset, .unset, .unset, .unset] [(.int p0)]) _
    refine Stand.ldcI X0 hx hown (mvT hZ (hw _ (List.mem_of_getElem? (i := 0) rfl))) (v := (2147483647 : Int32)) (g := (mkF m 1 #[.val (.int p0), .val (.long q1), .second, .unset, .unset, .unset, .unset, .unset] [(.int p0)])) rfl (hb hby at_1) ?_
    show own_S p e below s₁ (mkF m 3 #[.val (.int p0), .val (.long q1), .second, .unset, .unset, .unset, .unset, .unset] [(.int (2147483647 : Int32)), (.int p0)]) _
    refine XS.iand X0.here hx rfl (hb hby at_3) rfl ?_
    show own_S p e below s₁ (mkF m 4 #[.val (.int p0), .val (.long q1), .second, .unset, .unset, .unset, .unset, .unset] [(.int (p0 &&& (2147483647 : Int32)))]) _
    refine XS.bipush X0.here hx rfl (hb hby at_4) ?_
    show own_S p e below s₁ (mkF m 6 #[.val (.int p0), .val (.long q1), .second, .unset, .unset, .unset, .unset, .unset] [(.int (7 : Int32)), (.int (p0 &&& (2147483647 : Int32)))]) _
    refine iremM X0 hx rfl (hb hby at_6) rfl (by decide) ?_
    show own_S p e below s₁ (mkF m 7 #[.val (.int p0), .val (.long q1), .second, .unset, .unset, .unset, .unset, .unset] [(.int ((p0 &&& (2147483647 : Int32)) % (7 : Int32)))]) _
    refine XS.istoreN X0.here hx rfl (hb hby at_7) rfl (l' := #[.val (.int p0), .val (.long q1), .second, .val (.int ((p0 &&& (2147483647 : Int32)) % (7 : Int32))), .unset, .unset, .unset, .unset]) rfl ?_
    exact k
  obtain ⟨nn, hnn⟩ : ∃ z : Int32, z = ((p0 &&& (2147483647 : Int32)) % (7 : Int32)) := ⟨_, rfl⟩
  rw [← hnn] at K1
  rcases own_n7 p0 nn hnn with q | q | q | q | q | q | q
  · skip
    rw [q] at K1
    have K2 : own_K p e below SE s₁ (mkF m 9 #[.val (.int p0), .val (.long q1), .second, .val (.int (0 : Int32)), .unset, .unset, .unset, .unset] [(.int (0 : Int32))]) := by
      intro t k
      refine K1 _ ?_
      refine XS.iloadN X0.here hx rfl (hb hby at_8) rfl ?_
      exact k
    obtain ⟨T3, h3, k3, X3, e3, E3, A3, st3⟩ := newP X0 hx hZ (hw _ (List.mem_of_getElem? (i := 1) rfl)) e0 (g := (mkF m 9 #[.val (.int p0), .val (.long q1), .second, .val (.int (0 : Int32)), .unset, .unset, .unset, .unset] [(.int (0 : Int32))])) rfl (hb hby at_9) rfl (by decide) (cap := 0) (by decide) (by decide) (by decide) (by decide)
    obtain ⟨b3, g3⟩ : ∃ z, z = h0.size := ⟨_, rfl⟩
    rw [← g3] at A3 st3
    have g_b3 : n0 ≤ b3 := Nat.le_trans Z0 (Nat.le_of_eq g3.symm)
    have sz_b3 : h0.size ≤ b3 := Nat.le_trans (Nat.le_refl _) (Nat.le_of_eq g3.symm)
    have Kp3 : Keep h0 h3 [] := Keep.ext (Keep.refl h0 []) E3
    have V3 : Arv Z h3 b3 k3 .byte (0 : Int32) [] (.int (0 : Int32)) := (Arv.new A3 (by decide)).pad (pad_rep [] (.int (0 : Int32)) 0)
    have K3 : own_K p e below SE T3 (mkF m 11 #[.val (.int p0), .val (.long q1), .second, .val (.int (0 : Int32)), .unset, .unset, .unset, .unset] [(.ref b3)]) := fun t k => K2 _ (st3 _ k)
    have K4 : own_K p e below SE T3 (mkF m 17 #[.val (.int p0), .val (.long q1), .second, .val (.int (0 : Int32)), .val (.ref b3), .unset, .unset, .unset] [(.long q1), (.int (0 : Int32)), (.ref b3)]) := by
      intro t k
      refine K3 _ ?_
      refine XS.astore X3.here hx rfl (hb hby at_11) rfl rfl (l' := #[.val (.int p0), .val (.long q1), .second, .val (.int (0 : Int32)), .val (.ref b3), .unset, .unset, .unset]) rfl ?_
      show own_S p e below T3 (mkF m 13 #[.val (.int p0), .val (.long q1), .second, .val (.int (0 : Int32)), .val (.ref b3), .unset, .unset, .unset] []) _
      refine XS.aload X3.here hx rfl (hb hby at_13) rfl rfl ?_
      show own_S p e below T3 (mkF m 15 #[.val (.int p0), .val (.long q1), .second, .val (.int (0 : Int32)), .val (.ref b3), .unset, .unset, .unset] [(.ref b3)]) _
      refine XS.iconst X3.here hx rfl (hb hby at_15) ?_
      show own_S p e below T3 (mkF m 16 #[.val (.int p0), .val (.long q1), .second, .val (.int (0 : Int32)), .val (.ref b3), .unset, .unset, .unset] [(.int (0 : Int32)), (.ref b3)]) _
      refine XS.lloadN X3.here hx rfl (hb hby at_16) rfl ?_
      exact k
    obtain ⟨_, _, ⟨T5, L5, k5, n5⟩, -, X5, ⟨Lc5, hQ5, l5, y5, z5⟩, st5⟩ := Jvm.LawKit.callS X3 hx (y := (⟨"com/example/whorl/whorl/Base64urlTextPinLaw", "put", "([BIJ)V"⟩ : MethodName)) hown (mvT hZ (hw _ (List.mem_of_getElem? (i := 2) rfl))) (mvT hZ (hw _ (List.mem_of_getElem? (i := 3) rfl))) (mvT hZ (hw _ (List.mem_of_getElem? (i := 4) rfl))) (mvT hZ (hw _ (List.mem_of_getElem? (i := 5) rfl))) (by decide) (backOf (W := 0) (rm1n l Z a0 hw [] b3 (0 : Int32) q1 k3 (0 : Int32) _ h3 n0 (Nat.le_trans Z0 Kp3.1) V3 (by decide)) hZ (hw _ (List.mem_of_getElem? (i := 5) rfl)) (hw _ (List.mem_of_getElem? (i := 4) rfl)) (by decide) (by decide)) (g := (mkF m 17 #[.val (.int p0), .val (.long q1), .second, .val (.int (0 : Int32)), .val (.ref b3), .unset, .unset, .unset] [(.long q1), (.int (0 : Int32)), (.ref b3)])) rfl (by rw [hml]; rfl) (argsL := [(.ref b3), (.int (0 : Int32)), (.long q1)]) (rest := []) (lenOf pd_0_0 rfl) rfl (by show 2 * 0 + _ ≤ _; exact Nat.le_of_eq rfl) (hb hby at_17) (fun _ _ => ⟨rfl, e3, (by decide : 1 + 0 ≤ _), (by decide : 0 + 0 ≤ _)⟩)
    dsimp only [Pt.U, Pt.locs, Pt.cells, Pt.slots] at X5 l5 y5 z5 st5 hQ5
    rw [y5, z5] at X5
    obtain ⟨rfl, Nq5, e5⟩ := hQ5
    have N5 : Fr n0 L5 := by rw [l5]; exact Fr.app N0 Nq5
    have K5 : own_K p e below SE T5 (mkF m 20 #[.val (.int p0), .val (.long q1), .second, .val (.int (0 : Int32)), .val (.ref b3), .unset, .unset, .unset] []) := fun t k => K4 _ (st5 _ k)
    have K6 : own_K p e below SE T5 (mkF m 24 #[.val (.int p0), .val (.long q1), .second, .val (.int (0 : Int32)), .val (.ref b3), .unset, .unset, .unset] [(.long q1), (.int (1 : Int32)), (.ref b3)]) := by
      intro t k
      refine K5 _ ?_
      refine XS.aload X5.here hx rfl (hb hby at_20) rfl rfl ?_
      show own_S p e below T5 (mkF m 22 #[.val (.int p0), .val (.long q1), .second, .val (.int (0 : Int32)), .val (.ref b3), .unset, .unset, .unset] [(.ref b3)]) _
      refine XS.iconst X5.here hx rfl (hb hby at_22) ?_
      show own_S p e below T5 (mkF m 23 #[.val (.int p0), .val (.long q1), .second, .val (.int (0 : Int32)), .val (.ref b3), .unset, .unset, .unset] [(.int (1 : Int32)), (.ref b3)]) _
      refine XS.lloadN X5.here hx rfl (hb hby at_23) rfl ?_
      exact k
    obtain ⟨_, _, ⟨T7, L7, k7, n7⟩, -, X7, ⟨Lc7, hQ7, l7, y7, z7⟩, st7⟩ := Jvm.LawKit.callS X5 hx (y := (⟨"com/example/whorl/whorl/Base64urlTextPinLaw", "put", "([BIJ)V"⟩ : MethodName)) hown (mvT hZ (hw _ (List.mem_of_getElem? (i := 2) rfl))) (mvT hZ (hw _ (List.mem_of_getElem? (i := 3) rfl))) (mvT hZ (hw _ (List.mem_of_getElem? (i := 4) rfl))) (mvT hZ (hw _ (List.mem_of_getElem? (i := 5) rfl))) (by decide) (backOf (W := 0) (rm1n l Z a0 hw [] b3 (1 : Int32) q1 k3 (0 : Int32) _ h3 n0 (Nat.le_trans Z0 Kp3.1) V3 (by decide)) hZ (hw _ (List.mem_of_getElem? (i := 5) rfl)) (hw _ (List.mem_of_getElem? (i := 4) rfl)) (by decide) (by decide)) (g := (mkF m 24 #[.val (.int p0), .val (.long q1), .second, .val (.int (0 : Int32)), .val (.ref b3), .unset, .unset, .unset] [(.long q1), (.int (1 : Int32)), (.ref b3)])) rfl (by rw [hml]; rfl) (argsL := [(.ref b3), (.int (1 : Int32)), (.long q1)]) (rest := []) (lenOf pd_0_0 rfl) rfl (by show 2 * 0 + _ ≤ _; exact Nat.le_of_eq rfl) (hb hby at_24) (fun _ _ => ⟨rfl, e5, (by decide : 1 + 0 ≤ _), (by decide : 0 + 0 ≤ _)⟩)
    dsimp only [Pt.U, Pt.locs, Pt.cells, Pt.slots] at X7 l7 y7 z7 st7 hQ7
    rw [y7, z7] at X7
    obtain ⟨rfl, Nq7, e7⟩ := hQ7
    have N7 : Fr n0 L7 := by rw [l7]; exact Fr.app N5 Nq7
    have K7 : own_K p e below SE T7 (mkF m 27 #[.val (.int p0), .val (.long q1), .second, .val (.int (0 : Int32)), .val (.ref b3), .unset, .unset, .unset] []) := fun t k => K6 _ (st7 _ k)
    have K8 : own_K p e below SE T7 (mkF m 31 #[.val (.int p0), .val (.long q1), .second, .val (.int (0 : Int32)), .val (.ref b3), .unset, .unset, .unset] [(.long q1), (.int (2 : Int32)), (.ref b3)]) := by
      intro t k
      refine K7 _ ?_
      refine XS.aload X7.here hx rfl (hb hby at_27) rfl rfl ?_
      show own_S p e below T7 (mkF m 29 #[.val (.int p0), .val (.long q1), .second, .val (.int (0 : Int32)), .val (.ref b3), .unset, .unset, .unset] [(.ref b3)]) _
      refine XS.iconst X7.here hx rfl (hb hby at_29) ?_
      show own_S p e below T7 (mkF m 30 #[.val (.int p0), .val (.long q1), .second, .val (.int (0 : Int32)), .val (.ref b3), .unset, .unset, .unset] [(.int (2 : Int32)), (.ref b3)]) _
      refine XS.lloadN X7.here hx rfl (hb hby at_30) rfl ?_
      exact k
    obtain ⟨_, _, ⟨T9, L9, k9, n9⟩, -, X9, ⟨Lc9, hQ9, l9, y9, z9⟩, st9⟩ := Jvm.LawKit.callS X7 hx (y := (⟨"com/example/whorl/whorl/Base64urlTextPinLaw", "put", "([BIJ)V"⟩ : MethodName)) hown (mvT hZ (hw _ (List.mem_of_getElem? (i := 2) rfl))) (mvT hZ (hw _ (List.mem_of_getElem? (i := 3) rfl))) (mvT hZ (hw _ (List.mem_of_getElem? (i := 4) rfl))) (mvT hZ (hw _ (List.mem_of_getElem? (i := 5) rfl))) (by decide) (backOf (W := 0) (rm1n l Z a0 hw [] b3 (2 : Int32) q1 k3 (0 : Int32) _ h3 n0 (Nat.le_trans Z0 Kp3.1) V3 (by decide)) hZ (hw _ (List.mem_of_getElem? (i := 5) rfl)) (hw _ (List.mem_of_getElem? (i := 4) rfl)) (by decide) (by decide)) (g := (mkF m 31 #[.val (.int p0), .val (.long q1), .second, .val (.int (0 : Int32)), .val (.ref b3), .unset, .unset, .unset] [(.long q1), (.int (2 : Int32)), (.ref b3)])) rfl (by rw [hml]; rfl) (argsL := [(.ref b3), (.int (2 : Int32)), (.long q1)]) (rest := []) (lenOf pd_0_0 rfl) rfl (by show 2 * 0 + _ ≤ _; exact Nat.le_of_eq rfl) (hb hby at_31) (fun _ _ => ⟨rfl, e7, (by decide : 1 + 0 ≤ _), (by decide : 0 + 0 ≤ _)⟩)
    dsimp only [Pt.U, Pt.locs, Pt.cells, Pt.slots] at X9 l9 y9 z9 st9 hQ9
    rw [y9, z9] at X9
    obtain ⟨rfl, Nq9, e9⟩ := hQ9
    have N9 : Fr n0 L9 := by rw [l9]; exact Fr.app N7 Nq9
    have K9 : own_K p e below SE T9 (mkF m 34 #[.val (.int p0), .val (.long q1), .second, .val (.int (0 : Int32)), .val (.ref b3), .unset, .unset, .unset] []) := fun t k => K8 _ (st9 _ k)
    have K10 : own_K p e below SE T9 (mkF m 38 #[.val (.int p0), .val (.long q1), .second, .val (.int (0 : Int32)), .val (.ref b3), .unset, .unset, .unset] [(.long q1), (.int (3 : Int32)), (.ref b3)]) := by
      intro t k
      refine K9 _ ?_
      refine XS.aload X9.here hx rfl (hb hby at_34) rfl rfl ?_
      show own_S p e below T9 (mkF m 36 #[.val (.int p0), .val (.long q1), .second, .val (.int (0 : Int32)), .val (.ref b3), .unset, .unset, .unset] [(.ref b3)]) _
      refine XS.iconst X9.here hx rfl (hb hby at_36) ?_
      show own_S p e below T9 (mkF m 37 #[.val (.int p0), .val (.long q1), .second, .val (.int (0 : Int32)), .val (.ref b3), .unset, .unset, .unset] [(.int (3 : Int32)), (.ref b3)]) _
      refine XS.lloadN X9.here hx rfl (hb hby at_37) rfl ?_
      exact k
    obtain ⟨_, _, ⟨T11, L11, k11, n11⟩, -, X11, ⟨Lc11, hQ11, l11, y11, z11⟩, st11⟩ := Jvm.LawKit.callS X9 hx (y := (⟨"com/example/whorl/whorl/Base64urlTextPinLaw", "put", "([BIJ)V"⟩ : MethodName)) hown (mvT hZ (hw _ (List.mem_of_getElem? (i := 2) rfl))) (mvT hZ (hw _ (List.mem_of_getElem? (i := 3) rfl))) (mvT hZ (hw _ (List.mem_of_getElem? (i := 4) rfl))) (mvT hZ (hw _ (List.mem_of_getElem? (i := 5) rfl))) (by decide) (backOf (W := 0) (rm1n l Z a0 hw [] b3 (3 : Int32) q1 k3 (0 : Int32) _ h3 n0 (Nat.le_trans Z0 Kp3.1) V3 (by decide)) hZ (hw _ (List.mem_of_getElem? (i := 5) rfl)) (hw _ (List.mem_of_getElem? (i := 4) rfl)) (by decide) (by decide)) (g := (mkF m 38 #[.val (.int p0), .val (.long q1), .second, .val (.int (0 : Int32)), .val (.ref b3), .unset, .unset, .unset] [(.long q1), (.int (3 : Int32)), (.ref b3)])) rfl (by rw [hml]; rfl) (argsL := [(.ref b3), (.int (3 : Int32)), (.long q1)]) (rest := []) (lenOf pd_0_0 rfl) rfl (by show 2 * 0 + _ ≤ _; exact Nat.le_of_eq rfl) (hb hby at_38) (fun _ _ => ⟨rfl, e9, (by decide : 1 + 0 ≤ _), (by decide : 0 + 0 ≤ _)⟩)
    dsimp only [Pt.U, Pt.locs, Pt.cells, Pt.slots] at X11 l11 y11 z11 st11 hQ11
    rw [y11, z11] at X11
    obtain ⟨rfl, Nq11, e11⟩ := hQ11
    have N11 : Fr n0 L11 := by rw [l11]; exact Fr.app N9 Nq11
    have K11 : own_K p e below SE T11 (mkF m 41 #[.val (.int p0), .val (.long q1), .second, .val (.int (0 : Int32)), .val (.ref b3), .unset, .unset, .unset] []) := fun t k => K10 _ (st11 _ k)
    have K12 : own_K p e below SE T11 (mkF m 45 #[.val (.int p0), .val (.long q1), .second, .val (.int (0 : Int32)), .val (.ref b3), .unset, .unset, .unset] [(.long q1), (.int (4 : Int32)), (.ref b3)]) := by
      intro t k
      refine K11 _ ?_
      refine XS.aload X11.here hx rfl (hb hby at_41) rfl rfl ?_
      show own_S p e below T11 (mkF m 43 #[.val (.int p0), .val (.long q1), .second, .val (.int (0 : Int32)), .val (.ref b3), .unset, .unset, .unset] [(.ref b3)]) _
      refine XS.iconst X11.here hx rfl (hb hby at_43) ?_
      show own_S p e below T11 (mkF m 44 #[.val (.int p0), .val (.long q1), .second, .val (.int (0 : Int32)), .val (.ref b3), .unset, .unset, .unset] [(.int (4 : Int32)), (.ref b3)]) _
      refine XS.lloadN X11.here hx rfl (hb hby at_44) rfl ?_
      exact k
    obtain ⟨_, _, ⟨T13, L13, k13, n13⟩, -, X13, ⟨Lc13, hQ13, l13, y13, z13⟩, st13⟩ := Jvm.LawKit.callS X11 hx (y := (⟨"com/example/whorl/whorl/Base64urlTextPinLaw", "put", "([BIJ)V"⟩ : MethodName)) hown (mvT hZ (hw _ (List.mem_of_getElem? (i := 2) rfl))) (mvT hZ (hw _ (List.mem_of_getElem? (i := 3) rfl))) (mvT hZ (hw _ (List.mem_of_getElem? (i := 4) rfl))) (mvT hZ (hw _ (List.mem_of_getElem? (i := 5) rfl))) (by decide) (backOf (W := 0) (rm1n l Z a0 hw [] b3 (4 : Int32) q1 k3 (0 : Int32) _ h3 n0 (Nat.le_trans Z0 Kp3.1) V3 (by decide)) hZ (hw _ (List.mem_of_getElem? (i := 5) rfl)) (hw _ (List.mem_of_getElem? (i := 4) rfl)) (by decide) (by decide)) (g := (mkF m 45 #[.val (.int p0), .val (.long q1), .second, .val (.int (0 : Int32)), .val (.ref b3), .unset, .unset, .unset] [(.long q1), (.int (4 : Int32)), (.ref b3)])) rfl (by rw [hml]; rfl) (argsL := [(.ref b3), (.int (4 : Int32)), (.long q1)]) (rest := []) (lenOf pd_0_0 rfl) rfl (by show 2 * 0 + _ ≤ _; exact Nat.le_of_eq rfl) (hb hby at_45) (fun _ _ => ⟨rfl, e11, (by decide : 1 + 0 ≤ _), (by decide : 0 + 0 ≤ _)⟩)
    dsimp only [Pt.U, Pt.locs, Pt.cells, Pt.slots] at X13 l13 y13 z13 st13 hQ13
    rw [y13, z13] at X13
    obtain ⟨rfl, Nq13, e13⟩ := hQ13
    have N13 : Fr n0 L13 := by rw [l13]; exact Fr.app N11 Nq13
    have K13 : own_K p e below SE T13 (mkF m 48 #[.val (.int p0), .val (.long q1), .second, .val (.int (0 : Int32)), .val (.ref b3), .unset, .unset, .unset] []) := fun t k => K12 _ (st13 _ k)
    have K14 : own_K p e below SE T13 (mkF m 52 #[.val (.int p0), .val (.long q1), .second, .val (.int (0 : Int32)), .val (.ref b3), .unset, .unset, .unset] [(.long q1), (.int (5 : Int32)), (.ref b3)]) := by
      intro t k
      refine K13 _ ?_
      refine XS.aload X13.here hx rfl (hb hby at_48) rfl rfl ?_
      show own_S p e below T13 (mkF m 50 #[.val (.int p0), .val (.long q1), .second, .val (.int (0 : Int32)), .val (.ref b3), .unset, .unset, .unset] [(.ref b3)]) _
      refine XS.iconst X13.here hx rfl (hb hby at_50) ?_
      show own_S p e below T13 (mkF m 51 #[.val (.int p0), .val (.long q1), .second, .val (.int (0 : Int32)), .val (.ref b3), .unset, .unset, .unset] [(.int (5 : Int32)), (.ref b3)]) _
      refine XS.lloadN X13.here hx rfl (hb hby at_51) rfl ?_
      exact k
    obtain ⟨_, _, ⟨T15, L15, k15, n15⟩, -, X15, ⟨Lc15, hQ15, l15, y15, z15⟩, st15⟩ := Jvm.LawKit.callS X13 hx (y := (⟨"com/example/whorl/whorl/Base64urlTextPinLaw", "put", "([BIJ)V"⟩ : MethodName)) hown (mvT hZ (hw _ (List.mem_of_getElem? (i := 2) rfl))) (mvT hZ (hw _ (List.mem_of_getElem? (i := 3) rfl))) (mvT hZ (hw _ (List.mem_of_getElem? (i := 4) rfl))) (mvT hZ (hw _ (List.mem_of_getElem? (i := 5) rfl))) (by decide) (backOf (W := 0) (rm1n l Z a0 hw [] b3 (5 : Int32) q1 k3 (0 : Int32) _ h3 n0 (Nat.le_trans Z0 Kp3.1) V3 (by decide)) hZ (hw _ (List.mem_of_getElem? (i := 5) rfl)) (hw _ (List.mem_of_getElem? (i := 4) rfl)) (by decide) (by decide)) (g := (mkF m 52 #[.val (.int p0), .val (.long q1), .second, .val (.int (0 : Int32)), .val (.ref b3), .unset, .unset, .unset] [(.long q1), (.int (5 : Int32)), (.ref b3)])) rfl (by rw [hml]; rfl) (argsL := [(.ref b3), (.int (5 : Int32)), (.long q1)]) (rest := []) (lenOf pd_0_0 rfl) rfl (by show 2 * 0 + _ ≤ _; exact Nat.le_of_eq rfl) (hb hby at_52) (fun _ _ => ⟨rfl, e13, (by decide : 1 + 0 ≤ _), (by decide : 0 + 0 ≤ _)⟩)
    dsimp only [Pt.U, Pt.locs, Pt.cells, Pt.slots] at X15 l15 y15 z15 st15 hQ15
    rw [y15, z15] at X15
    obtain ⟨rfl, Nq15, e15⟩ := hQ15
    have N15 : Fr n0 L15 := by rw [l15]; exact Fr.app N13 Nq15
    have K15 : own_K p e below SE T15 (mkF m 55 #[.val (.int p0), .val (.long q1), .second, .val (.int (0 : Int32)), .val (.ref b3), .unset, .unset, .unset] []) := fun t k => K14 _ (st15 _ k)
    have K16 : own_K p e below SE T15 (mkF m 57 #[.val (.int p0), .val (.long q1), .second, .val (.int (0 : Int32)), .val (.ref b3), .unset, .unset, .unset] [(.ref b3)]) := by
      intro t k
      refine K15 _ ?_
      refine XS.aload X15.here hx rfl (hb hby at_55) rfl rfl ?_
      exact k
    obtain ⟨_, _, ⟨T17, L17, k17, n17⟩, -, X17, ⟨Lc17, hQ17, l17, y17, z17⟩, st17⟩ := Jvm.LawKit.callS X15 hx (y := (⟨"com/example/whorl/whorl/Base64url", "text", "([B)[B"⟩ : MethodName)) hown (mvT hZ (hw _ (List.mem_of_getElem? (i := 6) rfl))) (mvT hZ (hw _ (List.mem_of_getElem? (i := 7) rfl))) (mvT hZ (hw _ (List.mem_of_getElem? (i := 8) rfl))) (mvT hZ (hw _ (List.mem_of_getElem? (i := 9) rfl))) (by decide) (backOf (W := 0) (rm2_0 l Z a0 hw [] b3 k3 oAL cA  h3 n0 (Nat.le_trans Z0 Kp3.1) V3 (SA.ext (own_ext Kp3)) (TA.ext (own_ext Kp3))) hZ (hw _ (List.mem_of_getElem? (i := 9) rfl)) (hw _ (List.mem_of_getElem? (i := 8) rfl)) (by decide) (by decide)) (g := (mkF m 57 #[.val (.int p0), .val (.long q1), .second, .val (.int (0 : Int32)), .val (.ref b3), .unset, .unset, .unset] [(.ref b3)])) rfl (by rw [hml]; rfl) (argsL := [(.ref b3)]) (rest := []) (lenOf pd_0_1 rfl) rfl (by show 2 * 0 + _ ≤ _; exact Nat.le_of_eq rfl) (hb hby at_57) (fun _ _ => ⟨rfl, e15, (by decide : 1 + 1 ≤ _), (by decide : 0 + 0 ≤ _)⟩)
    dsimp only [Pt.U, Pt.locs, Pt.cells, Pt.slots] at X17 l17 y17 z17 st17 hQ17
    rw [y17, z17] at X17
    obtain ⟨rfl, Nq17, Kq17, VT17⟩ := hQ17
    have N17 : Fr n0 L17 := by rw [l17]; exact Fr.app N15 Nq17
    have Kp17 : Keep h0 T17.heap [] := Keep.trans Kp3 Kq17 all0
    have K17 : own_K p e below SE T17 (mkF m 60 #[.val (.int p0), .val (.long q1), .second, .val (.int (0 : Int32)), .val (.ref b3), .unset, .unset, .unset] [(.ref h3.size)]) := fun t k => K16 _ (st17 _ k)
    obtain ⟨kT, VT⟩ := VT17
    obtain ⟨bt, gbt⟩ : ∃ z, z = h3.size := ⟨_, rfl⟩
    rw [← gbt] at K17 VT
    have K18 : own_K p e below SE T17 (mkF m 65 #[.val (.int p0), .val (.long q1), .second, .val (.int (0 : Int32)), .val (.ref b3), .val (.ref bt), .unset, .unset] [(.int ((0 : Int32) % (3 : Int32)))]) := by
      intro t k
      refine K17 _ ?_
      refine XS.astore X17.here hx rfl (hb hby at_60) rfl rfl (l' := #[.val (.int p0), .val (.long q1), .second, .val (.int (0 : Int32)), .val (.ref b3), .val (.ref bt), .unset, .unset]) rfl ?_
      show own_S p e below T17 (mkF m 62 #[.val (.int p0), .val (.long q1), .second, .val (.int (0 : Int32)), .val (.ref b3), .val (.ref bt), .unset, .unset] []) _
      refine XS.iloadN X17.here hx rfl (hb hby at_62) rfl ?_
      show own_S p e below T17 (mkF m 63 #[.val (.int p0), .val (.long q1), .second, .val (.int (0 : Int32)), .val (.ref b3), .val (.ref bt), .unset, .unset] [(.int (0 : Int32))]) _
      refine XS.iconst X17.here hx rfl (hb hby at_63) ?_
      show own_S p e below T17 (mkF m 64 #[.val (.int p0), .val (.long q1), .second, .val (.int (0 : Int32)), .val (.ref b3), .val (.ref bt), .unset, .unset] [(.int (3 : Int32)), (.int (0 : Int32))]) _
      refine iremM X17 hx rfl (hb hby at_64) rfl (by decide) ?_
      exact k
    rw [(by decide : ((0 : Int32) % (3 : Int32)) = (0 : Int32))] at K18
    have K19 : own_K p e below SE T17 (mkF m 70 #[.val (.int p0), .val (.long q1), .second, .val (.int (0 : Int32)), .val (.ref b3), .val (.ref bt), .val (.int (0 : Int32)), .unset] [(.int ((0 : Int32) / (3 : Int32)))]) := by
      intro t k
      refine K18 _ ?_
      refine XS.istore X17.here hx rfl (hb hby at_65) rfl (l' := #[.val (.int p0), .val (.long q1), .second, .val (.int (0 : Int32)), .val (.ref b3), .val (.ref bt), .val (.int (0 : Int32)), .unset]) rfl ?_
      show own_S p e below T17 (mkF m 67 #[.val (.int p0), .val (.long q1), .second, .val (.int (0 : Int32)), .val (.ref b3), .val (.ref bt), .val (.int (0 : Int32)), .unset] []) _
      refine XS.iloadN X17.here hx rfl (hb hby at_67) rfl ?_
      show own_S p e below T17 (mkF m 68 #[.val (.int p0), .val (.long q1), .second, .val (.int (0 : Int32)), .val (.ref b3), .val (.ref bt), .val (.int (0 : Int32)), .unset] [(.int (0 : Int32))]) _
      refine XS.iconst X17.here hx rfl (hb hby at_68) ?_
      show own_S p e below T17 (mkF m 69 #[.val (.int p0), .val (.long q1), .second, .val (.int (0 : Int32)), .val (.ref b3), .val (.ref bt), .val (.int (0 : Int32)), .unset] [(.int (3 : Int32)), (.int (0 : Int32))]) _
      refine XS.idiv X17.here hx rfl (hb hby at_69) rfl (by decide) ?_
      exact k
    rw [(by decide : ((0 : Int32) / (3 : Int32)) = (0 : Int32))] at K19
    have K20 : own_K p e below SE T17 (mkF m 90 #[.val (.int p0), .val (.long q1), .second, .val (.int (0 : Int32)), .val (.ref b3), .val (.ref bt), .val (.int (0 : Int32)), .val (.int (0 : Int32))] [(.ref bt)]) := by
      intro t k
      refine K19 _ ?_
      refine XS.iconst X17.here hx rfl (hb hby at_70) ?_
      show own_S p e below T17 (mkF m 71 #[.val (.int p0), .val (.long q1), .second, .val (.int (0 : Int32)), .val (.ref b3), .val (.ref bt), .val (.int (0 : Int32)), .unset] [(.int (4 : Int32)), (.int (0 : Int32))]) _
      refine XS.imul X17.here hx rfl (hb hby at_71) rfl ?_
      show own_S p e below T17 (mkF m 72 #[.val (.int p0), .val (.long q1), .second, .val (.int (0 : Int32)), .val (.ref b3), .val (.ref bt), .val (.int (0 : Int32)), .unset] [(.int (0 : Int32))]) _
      refine XS.iload X17.here hx rfl (hb hby at_72) rfl ?_
      show own_S p e below T17 (mkF m 74 #[.val (.int p0), .val (.long q1), .second, .val (.int (0 : Int32)), .val (.ref b3), .val (.ref bt), .val (.int (0 : Int32)), .unset] [(.int (0 : Int32)), (.int (0 : Int32))]) _
      refine XS.ifNo X17.here hx rfl (hb hby at_74) rfl (XT.i0_ne_f (by decide : (0 : Int32) = 0)) ?_
      show own_S p e below T17 (mkF m 77 #[.val (.int p0), .val (.long q1), .second, .val (.int (0 : Int32)), .val (.ref b3), .val (.ref bt), .val (.int (0 : Int32)), .unset] [(.int (0 : Int32))]) _
      refine XS.iconst X17.here hx rfl (hb hby at_77) ?_
      show own_S p e below T17 (mkF m 78 #[.val (.int p0), .val (.long q1), .second, .val (.int (0 : Int32)), .val (.ref b3), .val (.ref bt), .val (.int (0 : Int32)), .unset] [(.int (0 : Int32)), (.int (0 : Int32))]) _
      refine XS.goto X17.here hx rfl (pc0 := 78) (pc' := 85) rfl (hb hby at_78) (by decide) (by decide) ?_
      show own_S p e below T17 (mkF m 85 #[.val (.int p0), .val (.long q1), .second, .val (.int (0 : Int32)), .val (.ref b3), .val (.ref bt), .val (.int (0 : Int32)), .unset] [(.int (0 : Int32)), (.int (0 : Int32))]) _
      refine XS.iadd X17.here hx rfl (hb hby at_85) rfl ?_
      show own_S p e below T17 (mkF m 86 #[.val (.int p0), .val (.long q1), .second, .val (.int (0 : Int32)), .val (.ref b3), .val (.ref bt), .val (.int (0 : Int32)), .unset] [(.int (0 : Int32))]) _
      refine XS.istore X17.here hx rfl (hb hby at_86) rfl (l' := #[.val (.int p0), .val (.long q1), .second, .val (.int (0 : Int32)), .val (.ref b3), .val (.ref bt), .val (.int (0 : Int32)), .val (.int (0 : Int32))]) rfl ?_
      show own_S p e below T17 (mkF m 88 #[.val (.int p0), .val (.long q1), .second, .val (.int (0 : Int32)), .val (.ref b3), .val (.ref bt), .val (.int (0 : Int32)), .val (.int (0 : Int32))] []) _
      refine XS.aload X17.here hx rfl (hb hby at_88) rfl rfl ?_
      exact k
    obtain ⟨cl21, Ar21, -, S21, Ng21, -, -⟩ := id VT
    have K22 : own_K p e below SE T17 (mkF m 103 #[.val (.int p0), .val (.long q1), .second, .val (.int (0 : Int32)), .val (.ref b3), .val (.ref bt), .val (.int (0 : Int32)), .val (.int (0 : Int32))] [(.long q1), (.int (0 : Int32)), (.int (0 : Int32)), (.ref bt)]) := by
      intro t k
      refine K20 _ ?_
      refine X17.arraylength hx Ar21.1 (State.isArrayOf_alike hZ.alike Ar21.2.1) (g := (mkF m 90 #[.val (.int p0), .val (.long q1), .second, .val (.int (0 : Int32)), .val (.ref b3), .val (.ref bt), .val (.int (0 : Int32)), .val (.int (0 : Int32))] [(.ref bt)])) rfl rfl (hb hby at_90) _ ?_
      rw [len_of S21 Ng21]
      show own_S p e below T17 (mkF m 91 #[.val (.int p0), .val (.long q1), .second, .val (.int (0 : Int32)), .val (.ref b3), .val (.ref bt), .val (.int (0 : Int32)), .val (.int (0 : Int32))] [(.int (0 : Int32))]) _
      refine XS.iload X17.here hx rfl (hb hby at_91) rfl ?_
      show own_S p e below T17 (mkF m 93 #[.val (.int p0), .val (.long q1), .second, .val (.int (0 : Int32)), .val (.ref b3), .val (.ref bt), .val (.int (0 : Int32)), .val (.int (0 : Int32))] [(.int (0 : Int32)), (.int (0 : Int32))]) _
      refine XS.icmpYes X17.here hx rfl (pc0 := 93) (pc' := 98) rfl (hb hby at_93) rfl (XT.ii_eq_t (by decide : (0 : Int32) = (0 : Int32))) (by decide) (by decide) ?_
      show own_S p e below T17 (mkF m 98 #[.val (.int p0), .val (.long q1), .second, .val (.int (0 : Int32)), .val (.ref b3), .val (.ref bt), .val (.int (0 : Int32)), .val (.int (0 : Int32))] []) _
      refine XS.aload X17.here hx rfl (hb hby at_98) rfl rfl ?_
      show own_S p e below T17 (mkF m 100 #[.val (.int p0), .val (.long q1), .second, .val (.int (0 : Int32)), .val (.ref b3), .val (.ref bt), .val (.int (0 : Int32)), .val (.int (0 : Int32))] [(.ref bt)]) _
      refine XS.iconst X17.here hx rfl (hb hby at_100) ?_
      show own_S p e below T17 (mkF m 101 #[.val (.int p0), .val (.long q1), .second, .val (.int (0 : Int32)), .val (.ref b3), .val (.ref bt), .val (.int (0 : Int32)), .val (.int (0 : Int32))] [(.int (0 : Int32)), (.ref bt)]) _
      refine XS.iloadN X17.here hx rfl (hb hby at_101) rfl ?_
      show own_S p e below T17 (mkF m 102 #[.val (.int p0), .val (.long q1), .second, .val (.int (0 : Int32)), .val (.ref b3), .val (.ref bt), .val (.int (0 : Int32)), .val (.int (0 : Int32))] [(.int (0 : Int32)), (.int (0 : Int32)), (.ref bt)]) _
      refine XS.lloadN X17.here hx rfl (hb hby at_102) rfl ?_
      exact k
    obtain ⟨_, _, ⟨T23, L23, k23, n23⟩, -, X23, ⟨Lc23, hQ23, l23, y23, z23⟩, st23⟩ := Jvm.LawKit.callS X17 hx (y := (⟨"com/example/whorl/whorl/Base64urlTextPinLaw", "chk", "([BIIJ)Z"⟩ : MethodName)) hown (mvT hZ (hw _ (List.mem_of_getElem? (i := 13) rfl))) (mvT hZ (hw _ (List.mem_of_getElem? (i := 14) rfl))) (mvT hZ (hw _ (List.mem_of_getElem? (i := 4) rfl))) (mvT hZ (hw _ (List.mem_of_getElem? (i := 15) rfl))) (by decide) (backOf (W := 0) (rm3n l Z a0 hw [] bt (0 : Int32) (0 : Int32) q1 kT (0 : Int32) _ T17.heap n0 (Nat.le_trans Z0 Kp17.1) VT (by decide)) hZ (hw _ (List.mem_of_getElem? (i := 15) rfl)) (hw _ (List.mem_of_getElem? (i := 4) rfl)) (by decide) (by decide)) (g := (mkF m 103 #[.val (.int p0), .val (.long q1), .second, .val (.int (0 : Int32)), .val (.ref b3), .val (.ref bt), .val (.int (0 : Int32)), .val (.int (0 : Int32))] [(.long q1), (.int (0 : Int32)), (.int (0 : Int32)), (.ref bt)])) rfl (by rw [hml]; rfl) (argsL := [(.ref bt), (.int (0 : Int32)), (.int (0 : Int32)), (.long q1)]) (rest := []) (lenOf pd_0_2 rfl) rfl (by show 2 * 0 + _ ≤ _; exact Nat.le_of_eq rfl) (hb hby at_103) (fun _ _ => ⟨rfl, rfl, (by decide : 2 + 0 ≤ _), (by decide : 0 + 0 ≤ _)⟩)
    dsimp only [Pt.U, Pt.locs, Pt.cells, Pt.slots] at X23 l23 y23 z23 st23 hQ23
    rw [y23, z23] at X23
    obtain ⟨rfl, Nq23, e23⟩ := hQ23
    have N23 : Fr n0 L23 := by rw [l23]; exact Fr.app N17 Nq23
    have K23 : own_K p e below SE T23 (mkF m 106 #[.val (.int p0), .val (.long q1), .second, .val (.int (0 : Int32)), .val (.ref b3), .val (.ref bt), .val (.int (0 : Int32)), .val (.int (0 : Int32))] [(.int (1 : Int32))]) := fun t k => K22 _ (st23 _ k)
    have K24 : own_K p e below SE T23 (mkF m 114 #[.val (.int p0), .val (.long q1), .second, .val (.int (0 : Int32)), .val (.ref b3), .val (.ref bt), .val (.int (0 : Int32)), .val (.int (0 : Int32))] [(.long q1), (.int (0 : Int32)), (.int (1 : Int32)), (.ref bt)]) := by
      intro t k
      refine K23 _ ?_
      refine XS.ifNo X23.here hx rfl (hb hby at_106) rfl (XT.i0_eq_f (by decide : ¬ ((1 : Int32) = 0))) ?_
      show own_S p e below T23 (mkF m 109 #[.val (.int p0), .val (.long q1), .second, .val (.int (0 : Int32)), .val (.ref b3), .val (.ref bt), .val (.int (0 : Int32)), .val (.int (0 : Int32))] []) _
      refine XS.aload X23.here hx rfl (hb hby at_109) rfl rfl ?_
      show own_S p e below T23 (mkF m 111 #[.val (.int p0), .val (.long q1), .second, .val (.int (0 : Int32)), .val (.ref b3), .val (.ref bt), .val (.int (0 : Int32)), .val (.int (0 : Int32))] [(.ref bt)]) _
      refine XS.iconst X23.here hx rfl (hb hby at_111) ?_
      show own_S p e below T23 (mkF m 112 #[.val (.int p0), .val (.long q1), .second, .val (.int (0 : Int32)), .val (.ref b3), .val (.ref bt), .val (.int (0 : Int32)), .val (.int (0 : Int32))] [(.int (1 : Int32)), (.ref bt)]) _
      refine XS.iloadN X23.here hx rfl (hb hby at_112) rfl ?_
      show own_S p e below T23 (mkF m 113 #[.val (.int p0), .val (.long q1), .second, .val (.int (0 : Int32)), .val (.ref b3), .val (.ref bt), .val (.int (0 : Int32)), .val (.int (0 : Int32))] [(.int (0 : Int32)), (.int (1 : Int32)), (.ref bt)]) _
      refine XS.lloadN X23.here hx rfl (hb hby at_113) rfl ?_
      exact k
    obtain ⟨_, _, ⟨T25, L25, k25, n25⟩, -, X25, ⟨Lc25, hQ25, l25, y25, z25⟩, st25⟩ := Jvm.LawKit.callS X23 hx (y := (⟨"com/example/whorl/whorl/Base64urlTextPinLaw", "chk", "([BIIJ)Z"⟩ : MethodName)) hown (mvT hZ (hw _ (List.mem_of_getElem? (i := 13) rfl))) (mvT hZ (hw _ (List.mem_of_getElem? (i := 14) rfl))) (mvT hZ (hw _ (List.mem_of_getElem? (i := 4) rfl))) (mvT hZ (hw _ (List.mem_of_getElem? (i := 15) rfl))) (by decide) (backOf (W := 0) (rm3n l Z a0 hw [] bt (1 : Int32) (0 : Int32) q1 kT (0 : Int32) _ T17.heap n0 (Nat.le_trans Z0 Kp17.1) VT (by decide)) hZ (hw _ (List.mem_of_getElem? (i := 15) rfl)) (hw _ (List.mem_of_getElem? (i := 4) rfl)) (by decide) (by decide)) (g := (mkF m 114 #[.val (.int p0), .val (.long q1), .second, .val (.int (0 : Int32)), .val (.ref b3), .val (.ref bt), .val (.int (0 : Int32)), .val (.int (0 : Int32))] [(.long q1), (.int (0 : Int32)), (.int (1 : Int32)), (.ref bt)])) rfl (by rw [hml]; rfl) (argsL := [(.ref bt), (.int (1 : Int32)), (.int (0 : Int32)), (.long q1)]) (rest := []) (lenOf pd_0_2 rfl) rfl (by show 2 * 0 + _ ≤ _; exact Nat.le_of_eq rfl) (hb hby at_114) (fun _ _ => ⟨rfl, e23, (by decide : 2 + 0 ≤ _), (by decide : 0 + 0 ≤ _)⟩)
    dsimp only [Pt.U, Pt.locs, Pt.cells, Pt.slots] at X25 l25 y25 z25 st25 hQ25
    rw [y25, z25] at X25
    obtain ⟨rfl, Nq25, e25⟩ := hQ25
    have N25 : Fr n0 L25 := by rw [l25]; exact Fr.app N23 Nq25
    have K25 : own_K p e below SE T25 (mkF m 117 #[.val (.int p0), .val (.long q1), .second, .val (.int (0 : Int32)), .val (.ref b3), .val (.ref bt), .val (.int (0 : Int32)), .val (.int (0 : Int32))] [(.int (1 : Int32))]) := fun t k => K24 _ (st25 _ k)
    have K26 : own_K p e below SE T25 (mkF m 125 #[.val (.int p0), .val (.long q1), .second, .val (.int (0 : Int32)), .val (.ref b3), .val (.ref bt), .val (.int (0 : Int32)), .val (.int (0 : Int32))] [(.long q1), (.int (0 : Int32)), (.int (2 : Int32)), (.ref bt)]) := by
      intro t k
      refine K25 _ ?_
      refine XS.ifNo X25.here hx rfl (hb hby at_117) rfl (XT.i0_eq_f (by decide : ¬ ((1 : Int32) = 0))) ?_
      show own_S p e below T25 (mkF m 120 #[.val (.int p0), .val (.long q1), .second, .val (.int (0 : Int32)), .val (.ref b3), .val (.ref bt), .val (.int (0 : Int32)), .val (.int (0 : Int32))] []) _
      refine XS.aload X25.here hx rfl (hb hby at_120) rfl rfl ?_
      show own_S p e below T25 (mkF m 122 #[.val (.int p0), .val (.long q1), .second, .val (.int (0 : Int32)), .val (.ref b3), .val (.ref bt), .val (.int (0 : Int32)), .val (.int (0 : Int32))] [(.ref bt)]) _
      refine XS.iconst X25.here hx rfl (hb hby at_122) ?_
      show own_S p e below T25 (mkF m 123 #[.val (.int p0), .val (.long q1), .second, .val (.int (0 : Int32)), .val (.ref b3), .val (.ref bt), .val (.int (0 : Int32)), .val (.int (0 : Int32))] [(.int (2 : Int32)), (.ref bt)]) _
      refine XS.iloadN X25.here hx rfl (hb hby at_123) rfl ?_
      show own_S p e below T25 (mkF m 124 #[.val (.int p0), .val (.long q1), .second, .val (.int (0 : Int32)), .val (.ref b3), .val (.ref bt), .val (.int (0 : Int32)), .val (.int (0 : Int32))] [(.int (0 : Int32)), (.int (2 : Int32)), (.ref bt)]) _
      refine XS.lloadN X25.here hx rfl (hb hby at_124) rfl ?_
      exact k
    obtain ⟨_, _, ⟨T27, L27, k27, n27⟩, -, X27, ⟨Lc27, hQ27, l27, y27, z27⟩, st27⟩ := Jvm.LawKit.callS X25 hx (y := (⟨"com/example/whorl/whorl/Base64urlTextPinLaw", "chk", "([BIIJ)Z"⟩ : MethodName)) hown (mvT hZ (hw _ (List.mem_of_getElem? (i := 13) rfl))) (mvT hZ (hw _ (List.mem_of_getElem? (i := 14) rfl))) (mvT hZ (hw _ (List.mem_of_getElem? (i := 4) rfl))) (mvT hZ (hw _ (List.mem_of_getElem? (i := 15) rfl))) (by decide) (backOf (W := 0) (rm3n l Z a0 hw [] bt (2 : Int32) (0 : Int32) q1 kT (0 : Int32) _ T17.heap n0 (Nat.le_trans Z0 Kp17.1) VT (by decide)) hZ (hw _ (List.mem_of_getElem? (i := 15) rfl)) (hw _ (List.mem_of_getElem? (i := 4) rfl)) (by decide) (by decide)) (g := (mkF m 125 #[.val (.int p0), .val (.long q1), .second, .val (.int (0 : Int32)), .val (.ref b3), .val (.ref bt), .val (.int (0 : Int32)), .val (.int (0 : Int32))] [(.long q1), (.int (0 : Int32)), (.int (2 : Int32)), (.ref bt)])) rfl (by rw [hml]; rfl) (argsL := [(.ref bt), (.int (2 : Int32)), (.int (0 : Int32)), (.long q1)]) (rest := []) (lenOf pd_0_2 rfl) rfl (by show 2 * 0 + _ ≤ _; exact Nat.le_of_eq rfl) (hb hby at_125) (fun _ _ => ⟨rfl, e25, (by decide : 2 + 0 ≤ _), (by decide : 0 + 0 ≤ _)⟩)
    dsimp only [Pt.U, Pt.locs, Pt.cells, Pt.slots] at X27 l27 y27 z27 st27 hQ27
    rw [y27, z27] at X27
    obtain ⟨rfl, Nq27, e27⟩ := hQ27
    have N27 : Fr n0 L27 := by rw [l27]; exact Fr.app N25 Nq27
    have K27 : own_K p e below SE T27 (mkF m 128 #[.val (.int p0), .val (.long q1), .second, .val (.int (0 : Int32)), .val (.ref b3), .val (.ref bt), .val (.int (0 : Int32)), .val (.int (0 : Int32))] [(.int (1 : Int32))]) := fun t k => K26 _ (st27 _ k)
    have K28 : own_K p e below SE T27 (mkF m 136 #[.val (.int p0), .val (.long q1), .second, .val (.int (0 : Int32)), .val (.ref b3), .val (.ref bt), .val (.int (0 : Int32)), .val (.int (0 : Int32))] [(.long q1), (.int (0 : Int32)), (.int (3 : Int32)), (.ref bt)]) := by
      intro t k
      refine K27 _ ?_
      refine XS.ifNo X27.here hx rfl (hb hby at_128) rfl (XT.i0_eq_f (by decide : ¬ ((1 : Int32) = 0))) ?_
      show own_S p e below T27 (mkF m 131 #[.val (.int p0), .val (.long q1), .second, .val (.int (0 : Int32)), .val (.ref b3), .val (.ref bt), .val (.int (0 : Int32)), .val (.int (0 : Int32))] []) _
      refine XS.aload X27.here hx rfl (hb hby at_131) rfl rfl ?_
      show own_S p e below T27 (mkF m 133 #[.val (.int p0), .val (.long q1), .second, .val (.int (0 : Int32)), .val (.ref b3), .val (.ref bt), .val (.int (0 : Int32)), .val (.int (0 : Int32))] [(.ref bt)]) _
      refine XS.iconst X27.here hx rfl (hb hby at_133) ?_
      show own_S p e below T27 (mkF m 134 #[.val (.int p0), .val (.long q1), .second, .val (.int (0 : Int32)), .val (.ref b3), .val (.ref bt), .val (.int (0 : Int32)), .val (.int (0 : Int32))] [(.int (3 : Int32)), (.ref bt)]) _
      refine XS.iloadN X27.here hx rfl (hb hby at_134) rfl ?_
      show own_S p e below T27 (mkF m 135 #[.val (.int p0), .val (.long q1), .second, .val (.int (0 : Int32)), .val (.ref b3), .val (.ref bt), .val (.int (0 : Int32)), .val (.int (0 : Int32))] [(.int (0 : Int32)), (.int (3 : Int32)), (.ref bt)]) _
      refine XS.lloadN X27.here hx rfl (hb hby at_135) rfl ?_
      exact k
    obtain ⟨_, _, ⟨T29, L29, k29, n29⟩, -, X29, ⟨Lc29, hQ29, l29, y29, z29⟩, st29⟩ := Jvm.LawKit.callS X27 hx (y := (⟨"com/example/whorl/whorl/Base64urlTextPinLaw", "chk", "([BIIJ)Z"⟩ : MethodName)) hown (mvT hZ (hw _ (List.mem_of_getElem? (i := 13) rfl))) (mvT hZ (hw _ (List.mem_of_getElem? (i := 14) rfl))) (mvT hZ (hw _ (List.mem_of_getElem? (i := 4) rfl))) (mvT hZ (hw _ (List.mem_of_getElem? (i := 15) rfl))) (by decide) (backOf (W := 0) (rm3n l Z a0 hw [] bt (3 : Int32) (0 : Int32) q1 kT (0 : Int32) _ T17.heap n0 (Nat.le_trans Z0 Kp17.1) VT (by decide)) hZ (hw _ (List.mem_of_getElem? (i := 15) rfl)) (hw _ (List.mem_of_getElem? (i := 4) rfl)) (by decide) (by decide)) (g := (mkF m 136 #[.val (.int p0), .val (.long q1), .second, .val (.int (0 : Int32)), .val (.ref b3), .val (.ref bt), .val (.int (0 : Int32)), .val (.int (0 : Int32))] [(.long q1), (.int (0 : Int32)), (.int (3 : Int32)), (.ref bt)])) rfl (by rw [hml]; rfl) (argsL := [(.ref bt), (.int (3 : Int32)), (.int (0 : Int32)), (.long q1)]) (rest := []) (lenOf pd_0_2 rfl) rfl (by show 2 * 0 + _ ≤ _; exact Nat.le_of_eq rfl) (hb hby at_136) (fun _ _ => ⟨rfl, e27, (by decide : 2 + 0 ≤ _), (by decide : 0 + 0 ≤ _)⟩)
    dsimp only [Pt.U, Pt.locs, Pt.cells, Pt.slots] at X29 l29 y29 z29 st29 hQ29
    rw [y29, z29] at X29
    obtain ⟨rfl, Nq29, e29⟩ := hQ29
    have N29 : Fr n0 L29 := by rw [l29]; exact Fr.app N27 Nq29
    have K29 : own_K p e below SE T29 (mkF m 139 #[.val (.int p0), .val (.long q1), .second, .val (.int (0 : Int32)), .val (.ref b3), .val (.ref bt), .val (.int (0 : Int32)), .val (.int (0 : Int32))] [(.int (1 : Int32))]) := fun t k => K28 _ (st29 _ k)
    have K30 : own_K p e below SE T29 (mkF m 147 #[.val (.int p0), .val (.long q1), .second, .val (.int (0 : Int32)), .val (.ref b3), .val (.ref bt), .val (.int (0 : Int32)), .val (.int (0 : Int32))] [(.long q1), (.int (0 : Int32)), (.int (4 : Int32)), (.ref bt)]) := by
      intro t k
      refine K29 _ ?_
      refine XS.ifNo X29.here hx rfl (hb hby at_139) rfl (XT.i0_eq_f (by decide : ¬ ((1 : Int32) = 0))) ?_
      show own_S p e below T29 (mkF m 142 #[.val (.int p0), .val (.long q1), .second, .val (.int (0 : Int32)), .val (.ref b3), .val (.ref bt), .val (.int (0 : Int32)), .val (.int (0 : Int32))] []) _
      refine XS.aload X29.here hx rfl (hb hby at_142) rfl rfl ?_
      show own_S p e below T29 (mkF m 144 #[.val (.int p0), .val (.long q1), .second, .val (.int (0 : Int32)), .val (.ref b3), .val (.ref bt), .val (.int (0 : Int32)), .val (.int (0 : Int32))] [(.ref bt)]) _
      refine XS.iconst X29.here hx rfl (hb hby at_144) ?_
      show own_S p e below T29 (mkF m 145 #[.val (.int p0), .val (.long q1), .second, .val (.int (0 : Int32)), .val (.ref b3), .val (.ref bt), .val (.int (0 : Int32)), .val (.int (0 : Int32))] [(.int (4 : Int32)), (.ref bt)]) _
      refine XS.iloadN X29.here hx rfl (hb hby at_145) rfl ?_
      show own_S p e below T29 (mkF m 146 #[.val (.int p0), .val (.long q1), .second, .val (.int (0 : Int32)), .val (.ref b3), .val (.ref bt), .val (.int (0 : Int32)), .val (.int (0 : Int32))] [(.int (0 : Int32)), (.int (4 : Int32)), (.ref bt)]) _
      refine XS.lloadN X29.here hx rfl (hb hby at_146) rfl ?_
      exact k
    obtain ⟨_, _, ⟨T31, L31, k31, n31⟩, -, X31, ⟨Lc31, hQ31, l31, y31, z31⟩, st31⟩ := Jvm.LawKit.callS X29 hx (y := (⟨"com/example/whorl/whorl/Base64urlTextPinLaw", "chk", "([BIIJ)Z"⟩ : MethodName)) hown (mvT hZ (hw _ (List.mem_of_getElem? (i := 13) rfl))) (mvT hZ (hw _ (List.mem_of_getElem? (i := 14) rfl))) (mvT hZ (hw _ (List.mem_of_getElem? (i := 4) rfl))) (mvT hZ (hw _ (List.mem_of_getElem? (i := 15) rfl))) (by decide) (backOf (W := 0) (rm3n l Z a0 hw [] bt (4 : Int32) (0 : Int32) q1 kT (0 : Int32) _ T17.heap n0 (Nat.le_trans Z0 Kp17.1) VT (by decide)) hZ (hw _ (List.mem_of_getElem? (i := 15) rfl)) (hw _ (List.mem_of_getElem? (i := 4) rfl)) (by decide) (by decide)) (g := (mkF m 147 #[.val (.int p0), .val (.long q1), .second, .val (.int (0 : Int32)), .val (.ref b3), .val (.ref bt), .val (.int (0 : Int32)), .val (.int (0 : Int32))] [(.long q1), (.int (0 : Int32)), (.int (4 : Int32)), (.ref bt)])) rfl (by rw [hml]; rfl) (argsL := [(.ref bt), (.int (4 : Int32)), (.int (0 : Int32)), (.long q1)]) (rest := []) (lenOf pd_0_2 rfl) rfl (by show 2 * 0 + _ ≤ _; exact Nat.le_of_eq rfl) (hb hby at_147) (fun _ _ => ⟨rfl, e29, (by decide : 2 + 0 ≤ _), (by decide : 0 + 0 ≤ _)⟩)
    dsimp only [Pt.U, Pt.locs, Pt.cells, Pt.slots] at X31 l31 y31 z31 st31 hQ31
    rw [y31, z31] at X31
    obtain ⟨rfl, Nq31, e31⟩ := hQ31
    have N31 : Fr n0 L31 := by rw [l31]; exact Fr.app N29 Nq31
    have K31 : own_K p e below SE T31 (mkF m 150 #[.val (.int p0), .val (.long q1), .second, .val (.int (0 : Int32)), .val (.ref b3), .val (.ref bt), .val (.int (0 : Int32)), .val (.int (0 : Int32))] [(.int (1 : Int32))]) := fun t k => K30 _ (st31 _ k)
    have K32 : own_K p e below SE T31 (mkF m 158 #[.val (.int p0), .val (.long q1), .second, .val (.int (0 : Int32)), .val (.ref b3), .val (.ref bt), .val (.int (0 : Int32)), .val (.int (0 : Int32))] [(.long q1), (.int (0 : Int32)), (.int (5 : Int32)), (.ref bt)]) := by
      intro t k
      refine K31 _ ?_
      refine XS.ifNo X31.here hx rfl (hb hby at_150) rfl (XT.i0_eq_f (by decide : ¬ ((1 : Int32) = 0))) ?_
      show own_S p e below T31 (mkF m 153 #[.val (.int p0), .val (.long q1), .second, .val (.int (0 : Int32)), .val (.ref b3), .val (.ref bt), .val (.int (0 : Int32)), .val (.int (0 : Int32))] []) _
      refine XS.aload X31.here hx rfl (hb hby at_153) rfl rfl ?_
      show own_S p e below T31 (mkF m 155 #[.val (.int p0), .val (.long q1), .second, .val (.int (0 : Int32)), .val (.ref b3), .val (.ref bt), .val (.int (0 : Int32)), .val (.int (0 : Int32))] [(.ref bt)]) _
      refine XS.iconst X31.here hx rfl (hb hby at_155) ?_
      show own_S p e below T31 (mkF m 156 #[.val (.int p0), .val (.long q1), .second, .val (.int (0 : Int32)), .val (.ref b3), .val (.ref bt), .val (.int (0 : Int32)), .val (.int (0 : Int32))] [(.int (5 : Int32)), (.ref bt)]) _
      refine XS.iloadN X31.here hx rfl (hb hby at_156) rfl ?_
      show own_S p e below T31 (mkF m 157 #[.val (.int p0), .val (.long q1), .second, .val (.int (0 : Int32)), .val (.ref b3), .val (.ref bt), .val (.int (0 : Int32)), .val (.int (0 : Int32))] [(.int (0 : Int32)), (.int (5 : Int32)), (.ref bt)]) _
      refine XS.lloadN X31.here hx rfl (hb hby at_157) rfl ?_
      exact k
    obtain ⟨_, _, ⟨T33, L33, k33, n33⟩, -, X33, ⟨Lc33, hQ33, l33, y33, z33⟩, st33⟩ := Jvm.LawKit.callS X31 hx (y := (⟨"com/example/whorl/whorl/Base64urlTextPinLaw", "chk", "([BIIJ)Z"⟩ : MethodName)) hown (mvT hZ (hw _ (List.mem_of_getElem? (i := 13) rfl))) (mvT hZ (hw _ (List.mem_of_getElem? (i := 14) rfl))) (mvT hZ (hw _ (List.mem_of_getElem? (i := 4) rfl))) (mvT hZ (hw _ (List.mem_of_getElem? (i := 15) rfl))) (by decide) (backOf (W := 0) (rm3n l Z a0 hw [] bt (5 : Int32) (0 : Int32) q1 kT (0 : Int32) _ T17.heap n0 (Nat.le_trans Z0 Kp17.1) VT (by decide)) hZ (hw _ (List.mem_of_getElem? (i := 15) rfl)) (hw _ (List.mem_of_getElem? (i := 4) rfl)) (by decide) (by decide)) (g := (mkF m 158 #[.val (.int p0), .val (.long q1), .second, .val (.int (0 : Int32)), .val (.ref b3), .val (.ref bt), .val (.int (0 : Int32)), .val (.int (0 : Int32))] [(.long q1), (.int (0 : Int32)), (.int (5 : Int32)), (.ref bt)])) rfl (by rw [hml]; rfl) (argsL := [(.ref bt), (.int (5 : Int32)), (.int (0 : Int32)), (.long q1)]) (rest := []) (lenOf pd_0_2 rfl) rfl (by show 2 * 0 + _ ≤ _; exact Nat.le_of_eq rfl) (hb hby at_158) (fun _ _ => ⟨rfl, e31, (by decide : 2 + 0 ≤ _), (by decide : 0 + 0 ≤ _)⟩)
    dsimp only [Pt.U, Pt.locs, Pt.cells, Pt.slots] at X33 l33 y33 z33 st33 hQ33
    rw [y33, z33] at X33
    obtain ⟨rfl, Nq33, e33⟩ := hQ33
    have N33 : Fr n0 L33 := by rw [l33]; exact Fr.app N31 Nq33
    have K33 : own_K p e below SE T33 (mkF m 161 #[.val (.int p0), .val (.long q1), .second, .val (.int (0 : Int32)), .val (.ref b3), .val (.ref bt), .val (.int (0 : Int32)), .val (.int (0 : Int32))] [(.int (1 : Int32))]) := fun t k => K32 _ (st33 _ k)
    have K34 : own_K p e below SE T33 (mkF m 170 #[.val (.int p0), .val (.long q1), .second, .val (.int (0 : Int32)), .val (.ref b3), .val (.ref bt), .val (.int (0 : Int32)), .val (.int (0 : Int32))] [(.long q1), (.int (0 : Int32)), (.int (6 : Int32)), (.ref bt)]) := by
      intro t k
      refine K33 _ ?_
      refine XS.ifNo X33.here hx rfl (hb hby at_161) rfl (XT.i0_eq_f (by decide : ¬ ((1 : Int32) = 0))) ?_
      show own_S p e below T33 (mkF m 164 #[.val (.int p0), .val (.long q1), .second, .val (.int (0 : Int32)), .val (.ref b3), .val (.ref bt), .val (.int (0 : Int32)), .val (.int (0 : Int32))] []) _
      refine XS.aload X33.here hx rfl (hb hby at_164) rfl rfl ?_
      show own_S p e below T33 (mkF m 166 #[.val (.int p0), .val (.long q1), .second, .val (.int (0 : Int32)), .val (.ref b3), .val (.ref bt), .val (.int (0 : Int32)), .val (.int (0 : Int32))] [(.ref bt)]) _
      refine XS.bipush X33.here hx rfl (hb hby at_166) ?_
      show own_S p e below T33 (mkF m 168 #[.val (.int p0), .val (.long q1), .second, .val (.int (0 : Int32)), .val (.ref b3), .val (.ref bt), .val (.int (0 : Int32)), .val (.int (0 : Int32))] [(.int (6 : Int32)), (.ref bt)]) _
      refine XS.iloadN X33.here hx rfl (hb hby at_168) rfl ?_
      show own_S p e below T33 (mkF m 169 #[.val (.int p0), .val (.long q1), .second, .val (.int (0 : Int32)), .val (.ref b3), .val (.ref bt), .val (.int (0 : Int32)), .val (.int (0 : Int32))] [(.int (0 : Int32)), (.int (6 : Int32)), (.ref bt)]) _
      refine XS.lloadN X33.here hx rfl (hb hby at_169) rfl ?_
      exact k
    obtain ⟨_, _, ⟨T35, L35, k35, n35⟩, -, X35, ⟨Lc35, hQ35, l35, y35, z35⟩, st35⟩ := Jvm.LawKit.callS X33 hx (y := (⟨"com/example/whorl/whorl/Base64urlTextPinLaw", "chk", "([BIIJ)Z"⟩ : MethodName)) hown (mvT hZ (hw _ (List.mem_of_getElem? (i := 13) rfl))) (mvT hZ (hw _ (List.mem_of_getElem? (i := 14) rfl))) (mvT hZ (hw _ (List.mem_of_getElem? (i := 4) rfl))) (mvT hZ (hw _ (List.mem_of_getElem? (i := 15) rfl))) (by decide) (backOf (W := 0) (rm3n l Z a0 hw [] bt (6 : Int32) (0 : Int32) q1 kT (0 : Int32) _ T17.heap n0 (Nat.le_trans Z0 Kp17.1) VT (by decide)) hZ (hw _ (List.mem_of_getElem? (i := 15) rfl)) (hw _ (List.mem_of_getElem? (i := 4) rfl)) (by decide) (by decide)) (g := (mkF m 170 #[.val (.int p0), .val (.long q1), .second, .val (.int (0 : Int32)), .val (.ref b3), .val (.ref bt), .val (.int (0 : Int32)), .val (.int (0 : Int32))] [(.long q1), (.int (0 : Int32)), (.int (6 : Int32)), (.ref bt)])) rfl (by rw [hml]; rfl) (argsL := [(.ref bt), (.int (6 : Int32)), (.int (0 : Int32)), (.long q1)]) (rest := []) (lenOf pd_0_2 rfl) rfl (by show 2 * 0 + _ ≤ _; exact Nat.le_of_eq rfl) (hb hby at_170) (fun _ _ => ⟨rfl, e33, (by decide : 2 + 0 ≤ _), (by decide : 0 + 0 ≤ _)⟩)
    dsimp only [Pt.U, Pt.locs, Pt.cells, Pt.slots] at X35 l35 y35 z35 st35 hQ35
    rw [y35, z35] at X35
    obtain ⟨rfl, Nq35, e35⟩ := hQ35
    have N35 : Fr n0 L35 := by rw [l35]; exact Fr.app N33 Nq35
    have K35 : own_K p e below SE T35 (mkF m 173 #[.val (.int p0), .val (.long q1), .second, .val (.int (0 : Int32)), .val (.ref b3), .val (.ref bt), .val (.int (0 : Int32)), .val (.int (0 : Int32))] [(.int (1 : Int32))]) := fun t k => K34 _ (st35 _ k)
    have K36 : own_K p e below SE T35 (mkF m 182 #[.val (.int p0), .val (.long q1), .second, .val (.int (0 : Int32)), .val (.ref b3), .val (.ref bt), .val (.int (0 : Int32)), .val (.int (0 : Int32))] [(.long q1), (.int (0 : Int32)), (.int (7 : Int32)), (.ref bt)]) := by
      intro t k
      refine K35 _ ?_
      refine XS.ifNo X35.here hx rfl (hb hby at_173) rfl (XT.i0_eq_f (by decide : ¬ ((1 : Int32) = 0))) ?_
      show own_S p e below T35 (mkF m 176 #[.val (.int p0), .val (.long q1), .second, .val (.int (0 : Int32)), .val (.ref b3), .val (.ref bt), .val (.int (0 : Int32)), .val (.int (0 : Int32))] []) _
      refine XS.aload X35.here hx rfl (hb hby at_176) rfl rfl ?_
      show own_S p e below T35 (mkF m 178 #[.val (.int p0), .val (.long q1), .second, .val (.int (0 : Int32)), .val (.ref b3), .val (.ref bt), .val (.int (0 : Int32)), .val (.int (0 : Int32))] [(.ref bt)]) _
      refine XS.bipush X35.here hx rfl (hb hby at_178) ?_
      show own_S p e below T35 (mkF m 180 #[.val (.int p0), .val (.long q1), .second, .val (.int (0 : Int32)), .val (.ref b3), .val (.ref bt), .val (.int (0 : Int32)), .val (.int (0 : Int32))] [(.int (7 : Int32)), (.ref bt)]) _
      refine XS.iloadN X35.here hx rfl (hb hby at_180) rfl ?_
      show own_S p e below T35 (mkF m 181 #[.val (.int p0), .val (.long q1), .second, .val (.int (0 : Int32)), .val (.ref b3), .val (.ref bt), .val (.int (0 : Int32)), .val (.int (0 : Int32))] [(.int (0 : Int32)), (.int (7 : Int32)), (.ref bt)]) _
      refine XS.lloadN X35.here hx rfl (hb hby at_181) rfl ?_
      exact k
    obtain ⟨_, _, ⟨T37, L37, k37, n37⟩, -, X37, ⟨Lc37, hQ37, l37, y37, z37⟩, st37⟩ := Jvm.LawKit.callS X35 hx (y := (⟨"com/example/whorl/whorl/Base64urlTextPinLaw", "chk", "([BIIJ)Z"⟩ : MethodName)) hown (mvT hZ (hw _ (List.mem_of_getElem? (i := 13) rfl))) (mvT hZ (hw _ (List.mem_of_getElem? (i := 14) rfl))) (mvT hZ (hw _ (List.mem_of_getElem? (i := 4) rfl))) (mvT hZ (hw _ (List.mem_of_getElem? (i := 15) rfl))) (by decide) (backOf (W := 0) (rm3n l Z a0 hw [] bt (7 : Int32) (0 : Int32) q1 kT (0 : Int32) _ T17.heap n0 (Nat.le_trans Z0 Kp17.1) VT (by decide)) hZ (hw _ (List.mem_of_getElem? (i := 15) rfl)) (hw _ (List.mem_of_getElem? (i := 4) rfl)) (by decide) (by decide)) (g := (mkF m 182 #[.val (.int p0), .val (.long q1), .second, .val (.int (0 : Int32)), .val (.ref b3), .val (.ref bt), .val (.int (0 : Int32)), .val (.int (0 : Int32))] [(.long q1), (.int (0 : Int32)), (.int (7 : Int32)), (.ref bt)])) rfl (by rw [hml]; rfl) (argsL := [(.ref bt), (.int (7 : Int32)), (.int (0 : Int32)), (.long q1)]) (rest := []) (lenOf pd_0_2 rfl) rfl (by show 2 * 0 + _ ≤ _; exact Nat.le_of_eq rfl) (hb hby at_182) (fun _ _ => ⟨rfl, e35, (by decide : 2 + 0 ≤ _), (by decide : 0 + 0 ≤ _)⟩)
    dsimp only [Pt.U, Pt.locs, Pt.cells, Pt.slots] at X37 l37 y37 z37 st37 hQ37
    rw [y37, z37] at X37
    obtain ⟨rfl, Nq37, e37⟩ := hQ37
    have N37 : Fr n0 L37 := by rw [l37]; exact Fr.app N35 Nq37
    have K37 : own_K p e below SE T37 (mkF m 185 #[.val (.int p0), .val (.long q1), .second, .val (.int (0 : Int32)), .val (.ref b3), .val (.ref bt), .val (.int (0 : Int32)), .val (.int (0 : Int32))] [(.int (1 : Int32))]) := fun t k => K36 _ (st37 _ k)
    have K38 : own_K p e below SE T37 (mkF m 193 #[.val (.int p0), .val (.long q1), .second, .val (.int (0 : Int32)), .val (.ref b3), .val (.ref bt), .val (.int (0 : Int32)), .val (.int (0 : Int32))] [(.int (1 : Int32))]) := by
      intro t k
      refine K37 _ ?_
      refine XS.ifNo X37.here hx rfl (hb hby at_185) rfl (XT.i0_eq_f (by decide : ¬ ((1 : Int32) = 0))) ?_
      show own_S p e below T37 (mkF m 188 #[.val (.int p0), .val (.long q1), .second, .val (.int (0 : Int32)), .val (.ref b3), .val (.ref bt), .val (.int (0 : Int32)), .val (.int (0 : Int32))] []) _
      refine XS.iconst X37.here hx rfl (hb hby at_188) ?_
      show own_S p e below T37 (mkF m 189 #[.val (.int p0), .val (.long q1), .second, .val (.int (0 : Int32)), .val (.ref b3), .val (.ref bt), .val (.int (0 : Int32)), .val (.int (0 : Int32))] [(.int (1 : Int32))]) _
      refine XS.goto X37.here hx rfl (pc0 := 189) (pc' := 193) rfl (hb hby at_189) (by decide) (by decide) ?_
      exact k
    obtain ⟨fs, hr, hrun, hended, hW, hsame⟩ := X37.leave (v := some (.int (1 : Int32))) (fun h => by rw [Bd.returns] at h; cases h)
    refine ⟨_, _, K38 _ ?_, hrun, hended, _, _, rfl, ?_, ⟨_, rfl⟩, hW, hsame.mono (by decide) (by decide)⟩
    · exact retN X37 hx (t := .boolean) Bd.returns (by simp) (hb hby at_193) hr
    · show Q0 Z p0 q1 oAL cA h0 n0 _ T37.heap _
      rw [e37]
      exact ⟨rfl, N37⟩
  · skip
    rw [q] at K1
    have K39 : own_K p e below SE s₁ (mkF m 9 #[.val (.int p0), .val (.long q1), .second, .val (.int (1 : Int32)), .unset, .unset, .unset, .unset] [(.int (1 : Int32))]) := by
      intro t k
      refine K1 _ ?_
      refine XS.iloadN X0.here hx rfl (hb hby at_8) rfl ?_
      exact k
    obtain ⟨T40, h40, k40, X40, e40, E40, A40, st40⟩ := newP X0 hx hZ (hw _ (List.mem_of_getElem? (i := 1) rfl)) e0 (g := (mkF m 9 #[.val (.int p0), .val (.long q1), .second, .val (.int (1 : Int32)), .unset, .unset, .unset, .unset] [(.int (1 : Int32))])) rfl (hb hby at_9) rfl (by decide) (cap := 1) (by decide) (by decide) (by decide) (by decide)
    obtain ⟨b40, g40⟩ : ∃ z, z = h0.size := ⟨_, rfl⟩
    rw [← g40] at A40 st40
    have g_b40 : n0 ≤ b40 := Nat.le_trans Z0 (Nat.le_of_eq g40.symm)
    have sz_b40 : h0.size ≤ b40 := Nat.le_trans (Nat.le_refl _) (Nat.le_of_eq g40.symm)
    have Kp40 : Keep h0 h40 [] := Keep.ext (Keep.refl h0 []) E40
    have V40 : Arv Z h40 b40 k40 .byte (1 : Int32) [(.int (0 : Int32))] (.int (0 : Int32)) := (Arv.new A40 (by decide)).pad (pad_rep [] (.int (0 : Int32)) 1)
    have K40 : own_K p e below SE T40 (mkF m 11 #[.val (.int p0), .val (.long q1), .second, .val (.int (1 : Int32)), .unset, .unset, .unset, .unset] [(.ref b40)]) := fun t k => K39 _ (st40 _ k)
    have K41 : own_K p e below SE T40 (mkF m 17 #[.val (.int p0), .val (.long q1), .second, .val (.int (1 : Int32)), .val (.ref b40), .unset, .unset, .unset] [(.long q1), (.int (0 : Int32)), (.ref b40)]) := by
      intro t k
      refine K40 _ ?_
      refine XS.astore X40.here hx rfl (hb hby at_11) rfl rfl (l' := #[.val (.int p0), .val (.long q1), .second, .val (.int (1 : Int32)), .val (.ref b40), .unset, .unset, .unset]) rfl ?_
      show own_S p e below T40 (mkF m 13 #[.val (.int p0), .val (.long q1), .second, .val (.int (1 : Int32)), .val (.ref b40), .unset, .unset, .unset] []) _
      refine XS.aload X40.here hx rfl (hb hby at_13) rfl rfl ?_
      show own_S p e below T40 (mkF m 15 #[.val (.int p0), .val (.long q1), .second, .val (.int (1 : Int32)), .val (.ref b40), .unset, .unset, .unset] [(.ref b40)]) _
      refine XS.iconst X40.here hx rfl (hb hby at_15) ?_
      show own_S p e below T40 (mkF m 16 #[.val (.int p0), .val (.long q1), .second, .val (.int (1 : Int32)), .val (.ref b40), .unset, .unset, .unset] [(.int (0 : Int32)), (.ref b40)]) _
      refine XS.lloadN X40.here hx rfl (hb hby at_16) rfl ?_
      exact k
    obtain ⟨_, _, ⟨T42, L42, k42, n42⟩, -, X42, ⟨Lc42, hQ42, l42, y42, z42⟩, st42⟩ := Jvm.LawKit.callS X40 hx (y := (⟨"com/example/whorl/whorl/Base64urlTextPinLaw", "put", "([BIJ)V"⟩ : MethodName)) hown (mvT hZ (hw _ (List.mem_of_getElem? (i := 2) rfl))) (mvT hZ (hw _ (List.mem_of_getElem? (i := 3) rfl))) (mvT hZ (hw _ (List.mem_of_getElem? (i := 4) rfl))) (mvT hZ (hw _ (List.mem_of_getElem? (i := 5) rfl))) (by decide) (backOf (W := 0) (rm1y l Z a0 hw [] b40 (0 : Int32) q1 k40 (1 : Int32) _ 0 h40 n0 (Nat.le_trans Z0 Kp40.1) V40 (by decide) (by decide) rfl (Nat.le_of_ble_eq_true rfl) g_b40) hZ (hw _ (List.mem_of_getElem? (i := 5) rfl)) (hw _ (List.mem_of_getElem? (i := 4) rfl)) (by decide) (by decide)) (g := (mkF m 17 #[.val (.int p0), .val (.long q1), .second, .val (.int (1 : Int32)), .val (.ref b40), .unset, .unset, .unset] [(.long q1), (.int (0 : Int32)), (.ref b40)])) rfl (by rw [hml]; rfl) (argsL := [(.ref b40), (.int (0 : Int32)), (.long q1)]) (rest := []) (lenOf pd_0_0 rfl) rfl (by show 2 * 0 + _ ≤ _; exact Nat.le_of_eq rfl) (hb hby at_17) (fun _ _ => ⟨rfl, e40, (by decide : 1 + 0 ≤ _), (by decide : 1 + 0 ≤ _)⟩)
    dsimp only [Pt.U, Pt.locs, Pt.cells, Pt.slots] at X42 l42 y42 z42 st42 hQ42
    rw [y42, z42] at X42
    obtain ⟨rfl, Nq42, Kq42, Vq42⟩ := hQ42
    have N42 : Fr n0 L42 := by rw [l42]; exact Fr.app N0 Nq42
    have Kp42 : Keep h0 T42.heap [] := Keep.trans Kp40 Kq42 (allS (Or.inr sz_b40) all0)
    have K42 : own_K p e below SE T42 (mkF m 20 #[.val (.int p0), .val (.long q1), .second, .val (.int (1 : Int32)), .val (.ref b40), .unset, .unset, .unset] []) := fun t k => K41 _ (st42 _ k)
    obtain ⟨ub0, hub0⟩ : ∃ z : Int32, z = ((((((q1.toUInt64 >>> (((8 : Int32) * (0 : Int32)) &&& 0x3f).toInt64.toUInt64).toInt64)).toInt32).toInt8.toInt32).toInt8.toInt32) := ⟨_, rfl⟩
    rw [← hub0] at Vq42
    have Vr42 : Arv Z T42.heap b40 k40 .byte (1 : Int32) [(.int ub0)] (.int (0 : Int32)) := Vq42
    have K43 : own_K p e below SE T42 (mkF m 24 #[.val (.int p0), .val (.long q1), .second, .val (.int (1 : Int32)), .val (.ref b40), .unset, .unset, .unset] [(.long q1), (.int (1 : Int32)), (.ref b40)]) := by
      intro t k
      refine K42 _ ?_
      refine XS.aload X42.here hx rfl (hb hby at_20) rfl rfl ?_
      show own_S p e below T42 (mkF m 22 #[.val (.int p0), .val (.long q1), .second, .val (.int (1 : Int32)), .val (.ref b40), .unset, .unset, .unset] [(.ref b40)]) _
      refine XS.iconst X42.here hx rfl (hb hby at_22) ?_
      show own_S p e below T42 (mkF m 23 #[.val (.int p0), .val (.long q1), .second, .val (.int (1 : Int32)), .val (.ref b40), .unset, .unset, .unset] [(.int (1 : Int32)), (.ref b40)]) _
      refine XS.lloadN X42.here hx rfl (hb hby at_23) rfl ?_
      exact k
    obtain ⟨_, _, ⟨T44, L44, k44, n44⟩, -, X44, ⟨Lc44, hQ44, l44, y44, z44⟩, st44⟩ := Jvm.LawKit.callS X42 hx (y := (⟨"com/example/whorl/whorl/Base64urlTextPinLaw", "put", "([BIJ)V"⟩ : MethodName)) hown (mvT hZ (hw _ (List.mem_of_getElem? (i := 2) rfl))) (mvT hZ (hw _ (List.mem_of_getElem? (i := 3) rfl))) (mvT hZ (hw _ (List.mem_of_getElem? (i := 4) rfl))) (mvT hZ (hw _ (List.mem_of_getElem? (i := 5) rfl))) (by decide) (backOf (W := 0) (rm1n l Z a0 hw [] b40 (1 : Int32) q1 k40 (1 : Int32) _ T42.heap n0 (Nat.le_trans Z0 Kp42.1) Vr42 (by decide)) hZ (hw _ (List.mem_of_getElem? (i := 5) rfl)) (hw _ (List.mem_of_getElem? (i := 4) rfl)) (by decide) (by decide)) (g := (mkF m 24 #[.val (.int p0), .val (.long q1), .second, .val (.int (1 : Int32)), .val (.ref b40), .unset, .unset, .unset] [(.long q1), (.int (1 : Int32)), (.ref b40)])) rfl (by rw [hml]; rfl) (argsL := [(.ref b40), (.int (1 : Int32)), (.long q1)]) (rest := []) (lenOf pd_0_0 rfl) rfl (by show 2 * 0 + _ ≤ _; exact Nat.le_of_eq rfl) (hb hby at_24) (fun _ _ => ⟨rfl, rfl, (by decide : 1 + 0 ≤ _), (by decide : 1 + 0 ≤ _)⟩)
    dsimp only [Pt.U, Pt.locs, Pt.cells, Pt.slots] at X44 l44 y44 z44 st44 hQ44
    rw [y44, z44] at X44
    obtain ⟨rfl, Nq44, e44⟩ := hQ44
    have N44 : Fr n0 L44 := by rw [l44]; exact Fr.app N42 Nq44
    have K44 : own_K p e below SE T44 (mkF m 27 #[.val (.int p0), .val (.long q1), .second, .val (.int (1 : Int32)), .val (.ref b40), .unset, .unset, .unset] []) := fun t k => K43 _ (st44 _ k)
    have K45 : own_K p e below SE T44 (mkF m 31 #[.val (.int p0), .val (.long q1), .second, .val (.int (1 : Int32)), .val (.ref b40), .unset, .unset, .unset] [(.long q1), (.int (2 : Int32)), (.ref b40)]) := by
      intro t k
      refine K44 _ ?_
      refine XS.aload X44.here hx rfl (hb hby at_27) rfl rfl ?_
      show own_S p e below T44 (mkF m 29 #[.val (.int p0), .val (.long q1), .second, .val (.int (1 : Int32)), .val (.ref b40), .unset, .unset, .unset] [(.ref b40)]) _
      refine XS.iconst X44.here hx rfl (hb hby at_29) ?_
      show own_S p e below T44 (mkF m 30 #[.val (.int p0), .val (.long q1), .second, .val (.int (1 : Int32)), .val (.ref b40), .unset, .unset, .unset] [(.int (2 : Int32)), (.ref b40)]) _
      refine XS.lloadN X44.here hx rfl (hb hby at_30) rfl ?_
      exact k
    obtain ⟨_, _, ⟨T46, L46, k46, n46⟩, -, X46, ⟨Lc46, hQ46, l46, y46, z46⟩, st46⟩ := Jvm.LawKit.callS X44 hx (y := (⟨"com/example/whorl/whorl/Base64urlTextPinLaw", "put", "([BIJ)V"⟩ : MethodName)) hown (mvT hZ (hw _ (List.mem_of_getElem? (i := 2) rfl))) (mvT hZ (hw _ (List.mem_of_getElem? (i := 3) rfl))) (mvT hZ (hw _ (List.mem_of_getElem? (i := 4) rfl))) (mvT hZ (hw _ (List.mem_of_getElem? (i := 5) rfl))) (by decide) (backOf (W := 0) (rm1n l Z a0 hw [] b40 (2 : Int32) q1 k40 (1 : Int32) _ T42.heap n0 (Nat.le_trans Z0 Kp42.1) Vr42 (by decide)) hZ (hw _ (List.mem_of_getElem? (i := 5) rfl)) (hw _ (List.mem_of_getElem? (i := 4) rfl)) (by decide) (by decide)) (g := (mkF m 31 #[.val (.int p0), .val (.long q1), .second, .val (.int (1 : Int32)), .val (.ref b40), .unset, .unset, .unset] [(.long q1), (.int (2 : Int32)), (.ref b40)])) rfl (by rw [hml]; rfl) (argsL := [(.ref b40), (.int (2 : Int32)), (.long q1)]) (rest := []) (lenOf pd_0_0 rfl) rfl (by show 2 * 0 + _ ≤ _; exact Nat.le_of_eq rfl) (hb hby at_31) (fun _ _ => ⟨rfl, e44, (by decide : 1 + 0 ≤ _), (by decide : 1 + 0 ≤ _)⟩)
    dsimp only [Pt.U, Pt.locs, Pt.cells, Pt.slots] at X46 l46 y46 z46 st46 hQ46
    rw [y46, z46] at X46
    obtain ⟨rfl, Nq46, e46⟩ := hQ46
    have N46 : Fr n0 L46 := by rw [l46]; exact Fr.app N44 Nq46
    have K46 : own_K p e below SE T46 (mkF m 34 #[.val (.int p0), .val (.long q1), .second, .val (.int (1 : Int32)), .val (.ref b40), .unset, .unset, .unset] []) := fun t k => K45 _ (st46 _ k)
    have K47 : own_K p e below SE T46 (mkF m 38 #[.val (.int p0), .val (.long q1), .second, .val (.int (1 : Int32)), .val (.ref b40), .unset, .unset, .unset] [(.long q1), (.int (3 : Int32)), (.ref b40)]) := by
      intro t k
      refine K46 _ ?_
      refine XS.aload X46.here hx rfl (hb hby at_34) rfl rfl ?_
      show own_S p e below T46 (mkF m 36 #[.val (.int p0), .val (.long q1), .second, .val (.int (1 : Int32)), .val (.ref b40), .unset, .unset, .unset] [(.ref b40)]) _
      refine XS.iconst X46.here hx rfl (hb hby at_36) ?_
      show own_S p e below T46 (mkF m 37 #[.val (.int p0), .val (.long q1), .second, .val (.int (1 : Int32)), .val (.ref b40), .unset, .unset, .unset] [(.int (3 : Int32)), (.ref b40)]) _
      refine XS.lloadN X46.here hx rfl (hb hby at_37) rfl ?_
      exact k
    obtain ⟨_, _, ⟨T48, L48, k48, n48⟩, -, X48, ⟨Lc48, hQ48, l48, y48, z48⟩, st48⟩ := Jvm.LawKit.callS X46 hx (y := (⟨"com/example/whorl/whorl/Base64urlTextPinLaw", "put", "([BIJ)V"⟩ : MethodName)) hown (mvT hZ (hw _ (List.mem_of_getElem? (i := 2) rfl))) (mvT hZ (hw _ (List.mem_of_getElem? (i := 3) rfl))) (mvT hZ (hw _ (List.mem_of_getElem? (i := 4) rfl))) (mvT hZ (hw _ (List.mem_of_getElem? (i := 5) rfl))) (by decide) (backOf (W := 0) (rm1n l Z a0 hw [] b40 (3 : Int32) q1 k40 (1 : Int32) _ T42.heap n0 (Nat.le_trans Z0 Kp42.1) Vr42 (by decide)) hZ (hw _ (List.mem_of_getElem? (i := 5) rfl)) (hw _ (List.mem_of_getElem? (i := 4) rfl)) (by decide) (by decide)) (g := (mkF m 38 #[.val (.int p0), .val (.long q1), .second, .val (.int (1 : Int32)), .val (.ref b40), .unset, .unset, .unset] [(.long q1), (.int (3 : Int32)), (.ref b40)])) rfl (by rw [hml]; rfl) (argsL := [(.ref b40), (.int (3 : Int32)), (.long q1)]) (rest := []) (lenOf pd_0_0 rfl) rfl (by show 2 * 0 + _ ≤ _; exact Nat.le_of_eq rfl) (hb hby at_38) (fun _ _ => ⟨rfl, e46, (by decide : 1 + 0 ≤ _), (by decide : 1 + 0 ≤ _)⟩)
    dsimp only [Pt.U, Pt.locs, Pt.cells, Pt.slots] at X48 l48 y48 z48 st48 hQ48
    rw [y48, z48] at X48
    obtain ⟨rfl, Nq48, e48⟩ := hQ48
    have N48 : Fr n0 L48 := by rw [l48]; exact Fr.app N46 Nq48
    have K48 : own_K p e below SE T48 (mkF m 41 #[.val (.int p0), .val (.long q1), .second, .val (.int (1 : Int32)), .val (.ref b40), .unset, .unset, .unset] []) := fun t k => K47 _ (st48 _ k)
    have K49 : own_K p e below SE T48 (mkF m 45 #[.val (.int p0), .val (.long q1), .second, .val (.int (1 : Int32)), .val (.ref b40), .unset, .unset, .unset] [(.long q1), (.int (4 : Int32)), (.ref b40)]) := by
      intro t k
      refine K48 _ ?_
      refine XS.aload X48.here hx rfl (hb hby at_41) rfl rfl ?_
      show own_S p e below T48 (mkF m 43 #[.val (.int p0), .val (.long q1), .second, .val (.int (1 : Int32)), .val (.ref b40), .unset, .unset, .unset] [(.ref b40)]) _
      refine XS.iconst X48.here hx rfl (hb hby at_43) ?_
      show own_S p e below T48 (mkF m 44 #[.val (.int p0), .val (.long q1), .second, .val (.int (1 : Int32)), .val (.ref b40), .unset, .unset, .unset] [(.int (4 : Int32)), (.ref b40)]) _
      refine XS.lloadN X48.here hx rfl (hb hby at_44) rfl ?_
      exact k
    obtain ⟨_, _, ⟨T50, L50, k50, n50⟩, -, X50, ⟨Lc50, hQ50, l50, y50, z50⟩, st50⟩ := Jvm.LawKit.callS X48 hx (y := (⟨"com/example/whorl/whorl/Base64urlTextPinLaw", "put", "([BIJ)V"⟩ : MethodName)) hown (mvT hZ (hw _ (List.mem_of_getElem? (i := 2) rfl))) (mvT hZ (hw _ (List.mem_of_getElem? (i := 3) rfl))) (mvT hZ (hw _ (List.mem_of_getElem? (i := 4) rfl))) (mvT hZ (hw _ (List.mem_of_getElem? (i := 5) rfl))) (by decide) (backOf (W := 0) (rm1n l Z a0 hw [] b40 (4 : Int32) q1 k40 (1 : Int32) _ T42.heap n0 (Nat.le_trans Z0 Kp42.1) Vr42 (by decide)) hZ (hw _ (List.mem_of_getElem? (i := 5) rfl)) (hw _ (List.mem_of_getElem? (i := 4) rfl)) (by decide) (by decide)) (g := (mkF m 45 #[.val (.int p0), .val (.long q1), .second, .val (.int (1 : Int32)), .val (.ref b40), .unset, .unset, .unset] [(.long q1), (.int (4 : Int32)), (.ref b40)])) rfl (by rw [hml]; rfl) (argsL := [(.ref b40), (.int (4 : Int32)), (.long q1)]) (rest := []) (lenOf pd_0_0 rfl) rfl (by show 2 * 0 + _ ≤ _; exact Nat.le_of_eq rfl) (hb hby at_45) (fun _ _ => ⟨rfl, e48, (by decide : 1 + 0 ≤ _), (by decide : 1 + 0 ≤ _)⟩)
    dsimp only [Pt.U, Pt.locs, Pt.cells, Pt.slots] at X50 l50 y50 z50 st50 hQ50
    rw [y50, z50] at X50
    obtain ⟨rfl, Nq50, e50⟩ := hQ50
    have N50 : Fr n0 L50 := by rw [l50]; exact Fr.app N48 Nq50
    have K50 : own_K p e below SE T50 (mkF m 48 #[.val (.int p0), .val (.long q1), .second, .val (.int (1 : Int32)), .val (.ref b40), .unset, .unset, .unset] []) := fun t k => K49 _ (st50 _ k)
    have K51 : own_K p e below SE T50 (mkF m 52 #[.val (.int p0), .val (.long q1), .second, .val (.int (1 : Int32)), .val (.ref b40), .unset, .unset, .unset] [(.long q1), (.int (5 : Int32)), (.ref b40)]) := by
      intro t k
      refine K50 _ ?_
      refine XS.aload X50.here hx rfl (hb hby at_48) rfl rfl ?_
      show own_S p e below T50 (mkF m 50 #[.val (.int p0), .val (.long q1), .second, .val (.int (1 : Int32)), .val (.ref b40), .unset, .unset, .unset] [(.ref b40)]) _
      refine XS.iconst X50.here hx rfl (hb hby at_50) ?_
      show own_S p e below T50 (mkF m 51 #[.val (.int p0), .val (.long q1), .second, .val (.int (1 : Int32)), .val (.ref b40), .unset, .unset, .unset] [(.int (5 : Int32)), (.ref b40)]) _
      refine XS.lloadN X50.here hx rfl (hb hby at_51) rfl ?_
      exact k
    obtain ⟨_, _, ⟨T52, L52, k52, n52⟩, -, X52, ⟨Lc52, hQ52, l52, y52, z52⟩, st52⟩ := Jvm.LawKit.callS X50 hx (y := (⟨"com/example/whorl/whorl/Base64urlTextPinLaw", "put", "([BIJ)V"⟩ : MethodName)) hown (mvT hZ (hw _ (List.mem_of_getElem? (i := 2) rfl))) (mvT hZ (hw _ (List.mem_of_getElem? (i := 3) rfl))) (mvT hZ (hw _ (List.mem_of_getElem? (i := 4) rfl))) (mvT hZ (hw _ (List.mem_of_getElem? (i := 5) rfl))) (by decide) (backOf (W := 0) (rm1n l Z a0 hw [] b40 (5 : Int32) q1 k40 (1 : Int32) _ T42.heap n0 (Nat.le_trans Z0 Kp42.1) Vr42 (by decide)) hZ (hw _ (List.mem_of_getElem? (i := 5) rfl)) (hw _ (List.mem_of_getElem? (i := 4) rfl)) (by decide) (by decide)) (g := (mkF m 52 #[.val (.int p0), .val (.long q1), .second, .val (.int (1 : Int32)), .val (.ref b40), .unset, .unset, .unset] [(.long q1), (.int (5 : Int32)), (.ref b40)])) rfl (by rw [hml]; rfl) (argsL := [(.ref b40), (.int (5 : Int32)), (.long q1)]) (rest := []) (lenOf pd_0_0 rfl) rfl (by show 2 * 0 + _ ≤ _; exact Nat.le_of_eq rfl) (hb hby at_52) (fun _ _ => ⟨rfl, e50, (by decide : 1 + 0 ≤ _), (by decide : 1 + 0 ≤ _)⟩)
    dsimp only [Pt.U, Pt.locs, Pt.cells, Pt.slots] at X52 l52 y52 z52 st52 hQ52
    rw [y52, z52] at X52
    obtain ⟨rfl, Nq52, e52⟩ := hQ52
    have N52 : Fr n0 L52 := by rw [l52]; exact Fr.app N50 Nq52
    have K52 : own_K p e below SE T52 (mkF m 55 #[.val (.int p0), .val (.long q1), .second, .val (.int (1 : Int32)), .val (.ref b40), .unset, .unset, .unset] []) := fun t k => K51 _ (st52 _ k)
    have K53 : own_K p e below SE T52 (mkF m 57 #[.val (.int p0), .val (.long q1), .second, .val (.int (1 : Int32)), .val (.ref b40), .unset, .unset, .unset] [(.ref b40)]) := by
      intro t k
      refine K52 _ ?_
      refine XS.aload X52.here hx rfl (hb hby at_55) rfl rfl ?_
      exact k
    obtain ⟨_, _, ⟨T54, L54, k54, n54⟩, -, X54, ⟨Lc54, hQ54, l54, y54, z54⟩, st54⟩ := Jvm.LawKit.callS X52 hx (y := (⟨"com/example/whorl/whorl/Base64url", "text", "([B)[B"⟩ : MethodName)) hown (mvT hZ (hw _ (List.mem_of_getElem? (i := 6) rfl))) (mvT hZ (hw _ (List.mem_of_getElem? (i := 7) rfl))) (mvT hZ (hw _ (List.mem_of_getElem? (i := 8) rfl))) (mvT hZ (hw _ (List.mem_of_getElem? (i := 9) rfl))) (by decide) (backOf (W := 0) (rm2_1 l Z a0 hw [] b40 k40 oAL cA ub0 T42.heap n0 (Nat.le_trans Z0 Kp42.1) Vr42 (SA.ext (own_ext Kp42)) (TA.ext (own_ext Kp42))) hZ (hw _ (List.mem_of_getElem? (i := 9) rfl)) (hw _ (List.mem_of_getElem? (i := 8) rfl)) (by decide) (by decide)) (g := (mkF m 57 #[.val (.int p0), .val (.long q1), .second, .val (.int (1 : Int32)), .val (.ref b40), .unset, .unset, .unset] [(.ref b40)])) rfl (by rw [hml]; rfl) (argsL := [(.ref b40)]) (rest := []) (lenOf pd_0_1 rfl) rfl (by show 2 * 0 + _ ≤ _; exact Nat.le_of_eq rfl) (hb hby at_57) (fun _ _ => ⟨rfl, e52, (by decide : 1 + 1 ≤ _), (by decide : 1 + 2 ≤ _)⟩)
    dsimp only [Pt.U, Pt.locs, Pt.cells, Pt.slots] at X54 l54 y54 z54 st54 hQ54
    rw [y54, z54] at X54
    obtain ⟨rfl, Nq54, Kq54, VT54⟩ := hQ54
    have N54 : Fr n0 L54 := by rw [l54]; exact Fr.app N52 Nq54
    have Kp54 : Keep h0 T54.heap [] := Keep.trans Kp42 Kq54 all0
    have K54 : own_K p e below SE T54 (mkF m 60 #[.val (.int p0), .val (.long q1), .second, .val (.int (1 : Int32)), .val (.ref b40), .unset, .unset, .unset] [(.ref T42.heap.size)]) := fun t k => K53 _ (st54 _ k)
    obtain ⟨kT, VT⟩ := VT54
    obtain ⟨bt, gbt⟩ : ∃ z, z = T42.heap.size := ⟨_, rfl⟩
    rw [← gbt] at K54 VT
    have K55 : own_K p e below SE T54 (mkF m 65 #[.val (.int p0), .val (.long q1), .second, .val (.int (1 : Int32)), .val (.ref b40), .val (.ref bt), .unset, .unset] [(.int ((1 : Int32) % (3 : Int32)))]) := by
      intro t k
      refine K54 _ ?_
      refine XS.astore X54.here hx rfl (hb hby at_60) rfl rfl (l' := #[.val (.int p0), .val (.long q1), .second, .val (.int (1 : Int32)), .val (.ref b40), .val (.ref bt), .unset, .unset]) rfl ?_
      show own_S p e below T54 (mkF m 62 #[.val (.int p0), .val (.long q1), .second, .val (.int (1 : Int32)), .val (.ref b40), .val (.ref bt), .unset, .unset] []) _
      refine XS.iloadN X54.here hx rfl (hb hby at_62) rfl ?_
      show own_S p e below T54 (mkF m 63 #[.val (.int p0), .val (.long q1), .second, .val (.int (1 : Int32)), .val (.ref b40), .val (.ref bt), .unset, .unset] [(.int (1 : Int32))]) _
      refine XS.iconst X54.here hx rfl (hb hby at_63) ?_
      show own_S p e below T54 (mkF m 64 #[.val (.int p0), .val (.long q1), .second, .val (.int (1 : Int32)), .val (.ref b40), .val (.ref bt), .unset, .unset] [(.int (3 : Int32)), (.int (1 : Int32))]) _
      refine iremM X54 hx rfl (hb hby at_64) rfl (by decide) ?_
      exact k
    rw [(by decide : ((1 : Int32) % (3 : Int32)) = (1 : Int32))] at K55
    have K56 : own_K p e below SE T54 (mkF m 70 #[.val (.int p0), .val (.long q1), .second, .val (.int (1 : Int32)), .val (.ref b40), .val (.ref bt), .val (.int (1 : Int32)), .unset] [(.int ((1 : Int32) / (3 : Int32)))]) := by
      intro t k
      refine K55 _ ?_
      refine XS.istore X54.here hx rfl (hb hby at_65) rfl (l' := #[.val (.int p0), .val (.long q1), .second, .val (.int (1 : Int32)), .val (.ref b40), .val (.ref bt), .val (.int (1 : Int32)), .unset]) rfl ?_
      show own_S p e below T54 (mkF m 67 #[.val (.int p0), .val (.long q1), .second, .val (.int (1 : Int32)), .val (.ref b40), .val (.ref bt), .val (.int (1 : Int32)), .unset] []) _
      refine XS.iloadN X54.here hx rfl (hb hby at_67) rfl ?_
      show own_S p e below T54 (mkF m 68 #[.val (.int p0), .val (.long q1), .second, .val (.int (1 : Int32)), .val (.ref b40), .val (.ref bt), .val (.int (1 : Int32)), .unset] [(.int (1 : Int32))]) _
      refine XS.iconst X54.here hx rfl (hb hby at_68) ?_
      show own_S p e below T54 (mkF m 69 #[.val (.int p0), .val (.long q1), .second, .val (.int (1 : Int32)), .val (.ref b40), .val (.ref bt), .val (.int (1 : Int32)), .unset] [(.int (3 : Int32)), (.int (1 : Int32))]) _
      refine XS.idiv X54.here hx rfl (hb hby at_69) rfl (by decide) ?_
      exact k
    rw [(by decide : ((1 : Int32) / (3 : Int32)) = (0 : Int32))] at K56
    have K57 : own_K p e below SE T54 (mkF m 90 #[.val (.int p0), .val (.long q1), .second, .val (.int (1 : Int32)), .val (.ref b40), .val (.ref bt), .val (.int (1 : Int32)), .val (.int (2 : Int32))] [(.ref bt)]) := by
      intro t k
      refine K56 _ ?_
      refine XS.iconst X54.here hx rfl (hb hby at_70) ?_
      show own_S p e below T54 (mkF m 71 #[.val (.int p0), .val (.long q1), .second, .val (.int (1 : Int32)), .val (.ref b40), .val (.ref bt), .val (.int (1 : Int32)), .unset] [(.int (4 : Int32)), (.int (0 : Int32))]) _
      refine XS.imul X54.here hx rfl (hb hby at_71) rfl ?_
      show own_S p e below T54 (mkF m 72 #[.val (.int p0), .val (.long q1), .second, .val (.int (1 : Int32)), .val (.ref b40), .val (.ref bt), .val (.int (1 : Int32)), .unset] [(.int (0 : Int32))]) _
      refine XS.iload X54.here hx rfl (hb hby at_72) rfl ?_
      show own_S p e below T54 (mkF m 74 #[.val (.int p0), .val (.long q1), .second, .val (.int (1 : Int32)), .val (.ref b40), .val (.ref bt), .val (.int (1 : Int32)), .unset] [(.int (1 : Int32)), (.int (0 : Int32))]) _
      refine XS.ifYes X54.here hx rfl (pc0 := 74) (pc' := 81) rfl (hb hby at_74) rfl (XT.i0_ne_t (by decide : ¬ ((1 : Int32) = 0))) (by decide) (by decide) ?_
      show own_S p e below T54 (mkF m 81 #[.val (.int p0), .val (.long q1), .second, .val (.int (1 : Int32)), .val (.ref b40), .val (.ref bt), .val (.int (1 : Int32)), .unset] [(.int (0 : Int32))]) _
      refine XS.iload X54.here hx rfl (hb hby at_81) rfl ?_
      show own_S p e below T54 (mkF m 83 #[.val (.int p0), .val (.long q1), .second, .val (.int (1 : Int32)), .val (.ref b40), .val (.ref bt), .val (.int (1 : Int32)), .unset] [(.int (1 : Int32)), (.int (0 : Int32))]) _
      refine XS.iconst X54.here hx rfl (hb hby at_83) ?_
      show own_S p e below T54 (mkF m 84 #[.val (.int p0), .val (.long q1), .second, .val (.int (1 : Int32)), .val (.ref b40), .val (.ref bt), .val (.int (1 : Int32)), .unset] [(.int (1 : Int32)), (.int (1 : Int32)), (.int (0 : Int32))]) _
      refine XS.iadd X54.here hx rfl (hb hby at_84) rfl ?_
      show own_S p e below T54 (mkF m 85 #[.val (.int p0), .val (.long q1), .second, .val (.int (1 : Int32)), .val (.ref b40), .val (.ref bt), .val (.int (1 : Int32)), .unset] [(.int (2 : Int32)), (.int (0 : Int32))]) _
      refine XS.iadd X54.here hx rfl (hb hby at_85) rfl ?_
      show own_S p e below T54 (mkF m 86 #[.val (.int p0), .val (.long q1), .second, .val (.int (1 : Int32)), .val (.ref b40), .val (.ref bt), .val (.int (1 : Int32)), .unset] [(.int (2 : Int32))]) _
      refine XS.istore X54.here hx rfl (hb hby at_86) rfl (l' := #[.val (.int p0), .val (.long q1), .second, .val (.int (1 : Int32)), .val (.ref b40), .val (.ref bt), .val (.int (1 : Int32)), .val (.int (2 : Int32))]) rfl ?_
      show own_S p e below T54 (mkF m 88 #[.val (.int p0), .val (.long q1), .second, .val (.int (1 : Int32)), .val (.ref b40), .val (.ref bt), .val (.int (1 : Int32)), .val (.int (2 : Int32))] []) _
      refine XS.aload X54.here hx rfl (hb hby at_88) rfl rfl ?_
      exact k
    obtain ⟨cl58, Ar58, -, S58, Ng58, -, -⟩ := id VT
    have K59 : own_K p e below SE T54 (mkF m 103 #[.val (.int p0), .val (.long q1), .second, .val (.int (1 : Int32)), .val (.ref b40), .val (.ref bt), .val (.int (1 : Int32)), .val (.int (2 : Int32))] [(.long q1), (.int (1 : Int32)), (.int (0 : Int32)), (.ref bt)]) := by
      intro t k
      refine K57 _ ?_
      refine X54.arraylength hx Ar58.1 (State.isArrayOf_alike hZ.alike Ar58.2.1) (g := (mkF m 90 #[.val (.int p0), .val (.long q1), .second, .val (.int (1 : Int32)), .val (.ref b40), .val (.ref bt), .val (.int (1 : Int32)), .val (.int (2 : Int32))] [(.ref bt)])) rfl rfl (hb hby at_90) _ ?_
      rw [len_of S58 Ng58]
      show own_S p e below T54 (mkF m 91 #[.val (.int p0), .val (.long q1), .second, .val (.int (1 : Int32)), .val (.ref b40), .val (.ref bt), .val (.int (1 : Int32)), .val (.int (2 : Int32))] [(.int (2 : Int32))]) _
      refine XS.iload X54.here hx rfl (hb hby at_91) rfl ?_
      show own_S p e below T54 (mkF m 93 #[.val (.int p0), .val (.long q1), .second, .val (.int (1 : Int32)), .val (.ref b40), .val (.ref bt), .val (.int (1 : Int32)), .val (.int (2 : Int32))] [(.int (2 : Int32)), (.int (2 : Int32))]) _
      refine XS.icmpYes X54.here hx rfl (pc0 := 93) (pc' := 98) rfl (hb hby at_93) rfl (XT.ii_eq_t (by decide : (2 : Int32) = (2 : Int32))) (by decide) (by decide) ?_
      show own_S p e below T54 (mkF m 98 #[.val (.int p0), .val (.long q1), .second, .val (.int (1 : Int32)), .val (.ref b40), .val (.ref bt), .val (.int (1 : Int32)), .val (.int (2 : Int32))] []) _
      refine XS.aload X54.here hx rfl (hb hby at_98) rfl rfl ?_
      show own_S p e below T54 (mkF m 100 #[.val (.int p0), .val (.long q1), .second, .val (.int (1 : Int32)), .val (.ref b40), .val (.ref bt), .val (.int (1 : Int32)), .val (.int (2 : Int32))] [(.ref bt)]) _
      refine XS.iconst X54.here hx rfl (hb hby at_100) ?_
      show own_S p e below T54 (mkF m 101 #[.val (.int p0), .val (.long q1), .second, .val (.int (1 : Int32)), .val (.ref b40), .val (.ref bt), .val (.int (1 : Int32)), .val (.int (2 : Int32))] [(.int (0 : Int32)), (.ref bt)]) _
      refine XS.iloadN X54.here hx rfl (hb hby at_101) rfl ?_
      show own_S p e below T54 (mkF m 102 #[.val (.int p0), .val (.long q1), .second, .val (.int (1 : Int32)), .val (.ref b40), .val (.ref bt), .val (.int (1 : Int32)), .val (.int (2 : Int32))] [(.int (1 : Int32)), (.int (0 : Int32)), (.ref bt)]) _
      refine XS.lloadN X54.here hx rfl (hb hby at_102) rfl ?_
      exact k
    have sx0 : (((((ub0 &&& (255 : Int32)) <<< ((16 : Int32) &&& 31)) ||| (0 : Int32)).toUInt32 >>> ((18 : Int32) &&& 31).toUInt32).toInt32) = own_sx q1 (1 : Int32) ((0 : Int32) / (4 : Int32)) ((0 : Int32) % (4 : Int32)) := by
      have h1 := own_i0 _ _ _ _ (own_m255 ub0) (own_r0) (own_r0) (own_x1i ub0)
      have o0 : (ub0 &&& (255 : Int32)) = own_oct q1 (0 : Int32) (1 : Int32) := by rw [hub0]; exact own_eo q1 (0 : Int32) (1 : Int32) (by decide)
      have o1 : (0 : Int32) = own_oct q1 (1 : Int32) (1 : Int32) := by unfold own_oct; rw [if_neg (by decide)]
      have o2 : (0 : Int32) = own_oct q1 (2 : Int32) (1 : Int32) := by unfold own_oct; rw [if_neg (by decide)]
      rw [h1]
      unfold own_sx
      rw [show ((0 : Int32) / (4 : Int32)) = (0 : Int32) by decide, show ((0 : Int32) % (4 : Int32)) = (0 : Int32) by decide, show ((3 : Int32) * (0 : Int32)) = (0 : Int32) by decide, show ((0 : Int32) + (1 : Int32)) = (1 : Int32) by decide, show ((0 : Int32) + (2 : Int32)) = (2 : Int32) by decide]
      rw [if_pos (by decide), ← o0]
    have ck0 : ¬ (if (atv cA (((((ub0 &&& (255 : Int32)) <<< ((16 : Int32) &&& 31)) ||| (0 : Int32)).toUInt32 >>> ((18 : Int32) &&& 31).toUInt32).toInt32)).toInt8.toInt32 = ((own_ch (own_sx q1 (1 : Int32) ((0 : Int32) / (4 : Int32)) ((0 : Int32) % (4 : Int32))))).toInt8.toInt32 then (1 : Int32) else (0 : Int32)) = 0 := own_one (own_chk hAL (own_b18 _ (own_xb (own_m255 _) own_r0 own_r0 (own_x1i ub0))) sx0)
    obtain ⟨_, _, ⟨T60, L60, k60, n60⟩, -, X60, ⟨Lc60, hQ60, l60, y60, z60⟩, st60⟩ := Jvm.LawKit.callS X54 hx (y := (⟨"com/example/whorl/whorl/Base64urlTextPinLaw", "chk", "([BIIJ)Z"⟩ : MethodName)) hown (mvT hZ (hw _ (List.mem_of_getElem? (i := 13) rfl))) (mvT hZ (hw _ (List.mem_of_getElem? (i := 14) rfl))) (mvT hZ (hw _ (List.mem_of_getElem? (i := 4) rfl))) (mvT hZ (hw _ (List.mem_of_getElem? (i := 15) rfl))) (by decide) (backOf (W := 0) (rm3y l Z a0 hw [] bt (0 : Int32) (1 : Int32) q1 kT (2 : Int32) _ ((atv cA (((((ub0 &&& (255 : Int32)) <<< ((16 : Int32) &&& 31)) ||| (0 : Int32)).toUInt32 >>> ((18 : Int32) &&& 31).toUInt32).toInt32)).toInt8.toInt32) T54.heap n0 (Nat.le_trans Z0 Kp54.1) VT (by decide) (by decide) rfl) hZ (hw _ (List.mem_of_getElem? (i := 15) rfl)) (hw _ (List.mem_of_getElem? (i := 4) rfl)) (by decide) (by decide)) (g := (mkF m 103 #[.val (.int p0), .val (.long q1), .second, .val (.int (1 : Int32)), .val (.ref b40), .val (.ref bt), .val (.int (1 : Int32)), .val (.int (2 : Int32))] [(.long q1), (.int (1 : Int32)), (.int (0 : Int32)), (.ref bt)])) rfl (by rw [hml]; rfl) (argsL := [(.ref bt), (.int (0 : Int32)), (.int (1 : Int32)), (.long q1)]) (rest := []) (lenOf pd_0_2 rfl) rfl (by show 2 * 0 + _ ≤ _; exact Nat.le_of_eq rfl) (hb hby at_103) (fun _ _ => ⟨rfl, rfl, (by decide : 2 + 0 ≤ _), (by decide : 3 + 0 ≤ _)⟩)
    dsimp only [Pt.U, Pt.locs, Pt.cells, Pt.slots] at X60 l60 y60 z60 st60 hQ60
    rw [y60, z60] at X60
    obtain ⟨rfl, Nq60, e60⟩ := hQ60
    have N60 : Fr n0 L60 := by rw [l60]; exact Fr.app N54 Nq60
    have K60 : own_K p e below SE T60 (mkF m 106 #[.val (.int p0), .val (.long q1), .second, .val (.int (1 : Int32)), .val (.ref b40), .val (.ref bt), .val (.int (1 : Int32)), .val (.int (2 : Int32))] [(.int (if (atv cA (((((ub0 &&& (255 : Int32)) <<< ((16 : Int32) &&& 31)) ||| (0 : Int32)).toUInt32 >>> ((18 : Int32) &&& 31).toUInt32).toInt32)).toInt8.toInt32 = ((own_ch (own_sx q1 (1 : Int32) ((0 : Int32) / (4 : Int32)) ((0 : Int32) % (4 : Int32))))).toInt8.toInt32 then (1 : Int32) else (0 : Int32)))]) := fun t k => K59 _ (st60 _ k)
    have K61 : own_K p e below SE T60 (mkF m 114 #[.val (.int p0), .val (.long q1), .second, .val (.int (1 : Int32)), .val (.ref b40), .val (.ref bt), .val (.int (1 : Int32)), .val (.int (2 : Int32))] [(.long q1), (.int (1 : Int32)), (.int (1 : Int32)), (.ref bt)]) := by
      intro t k
      refine K60 _ ?_
      refine XS.ifNo X60.here hx rfl (hb hby at_106) rfl (XT.i0_eq_f ck0) ?_
      show own_S p e below T60 (mkF m 109 #[.val (.int p0), .val (.long q1), .second, .val (.int (1 : Int32)), .val (.ref b40), .val (.ref bt), .val (.int (1 : Int32)), .val (.int (2 : Int32))] []) _
      refine XS.aload X60.here hx rfl (hb hby at_109) rfl rfl ?_
      show own_S p e below T60 (mkF m 111 #[.val (.int p0), .val (.long q1), .second, .val (.int (1 : Int32)), .val (.ref b40), .val (.ref bt), .val (.int (1 : Int32)), .val (.int (2 : Int32))] [(.ref bt)]) _
      refine XS.iconst X60.here hx rfl (hb hby at_111) ?_
      show own_S p e below T60 (mkF m 112 #[.val (.int p0), .val (.long q1), .second, .val (.int (1 : Int32)), .val (.ref b40), .val (.ref bt), .val (.int (1 : Int32)), .val (.int (2 : Int32))] [(.int (1 : Int32)), (.ref bt)]) _
      refine XS.iloadN X60.here hx rfl (hb hby at_112) rfl ?_
      show own_S p e below T60 (mkF m 113 #[.val (.int p0), .val (.long q1), .second, .val (.int (1 : Int32)), .val (.ref b40), .val (.ref bt), .val (.int (1 : Int32)), .val (.int (2 : Int32))] [(.int (1 : Int32)), (.int (1 : Int32)), (.ref bt)]) _
      refine XS.lloadN X60.here hx rfl (hb hby at_113) rfl ?_
      exact k
    have sx1 : ((((((ub0 &&& (255 : Int32)) <<< ((16 : Int32) &&& 31)) ||| (0 : Int32)).toUInt32 >>> ((12 : Int32) &&& 31).toUInt32).toInt32) &&& (63 : Int32)) = own_sx q1 (1 : Int32) ((1 : Int32) / (4 : Int32)) ((1 : Int32) % (4 : Int32)) := by
      have h1 := own_i1 _ _ _ _ (own_m255 ub0) (own_r0) (own_r0) (own_x1i ub0)
      have o0 : (ub0 &&& (255 : Int32)) = own_oct q1 (0 : Int32) (1 : Int32) := by rw [hub0]; exact own_eo q1 (0 : Int32) (1 : Int32) (by decide)
      have o1 : (0 : Int32) = own_oct q1 (1 : Int32) (1 : Int32) := by unfold own_oct; rw [if_neg (by decide)]
      have o2 : (0 : Int32) = own_oct q1 (2 : Int32) (1 : Int32) := by unfold own_oct; rw [if_neg (by decide)]
      rw [h1]
      unfold own_sx
      rw [show ((1 : Int32) / (4 : Int32)) = (0 : Int32) by decide, show ((1 : Int32) % (4 : Int32)) = (1 : Int32) by decide, show ((3 : Int32) * (0 : Int32)) = (0 : Int32) by decide, show ((0 : Int32) + (1 : Int32)) = (1 : Int32) by decide, show ((0 : Int32) + (2 : Int32)) = (2 : Int32) by decide]
      rw [if_neg (by decide), if_pos (by decide), ← o0, ← o1]
    have ck1 : ¬ (if (atv cA ((((((ub0 &&& (255 : Int32)) <<< ((16 : Int32) &&& 31)) ||| (0 : Int32)).toUInt32 >>> ((12 : Int32) &&& 31).toUInt32).toInt32) &&& (63 : Int32))).toInt8.toInt32 = ((own_ch (own_sx q1 (1 : Int32) ((1 : Int32) / (4 : Int32)) ((1 : Int32) % (4 : Int32))))).toInt8.toInt32 then (1 : Int32) else (0 : Int32)) = 0 := own_one (own_chk hAL (own_b63 _) sx1)
    obtain ⟨_, _, ⟨T62, L62, k62, n62⟩, -, X62, ⟨Lc62, hQ62, l62, y62, z62⟩, st62⟩ := Jvm.LawKit.callS X60 hx (y := (⟨"com/example/whorl/whorl/Base64urlTextPinLaw", "chk", "([BIIJ)Z"⟩ : MethodName)) hown (mvT hZ (hw _ (List.mem_of_getElem? (i := 13) rfl))) (mvT hZ (hw _ (List.mem_of_getElem? (i := 14) rfl))) (mvT hZ (hw _ (List.mem_of_getElem? (i := 4) rfl))) (mvT hZ (hw _ (List.mem_of_getElem? (i := 15) rfl))) (by decide) (backOf (W := 0) (rm3y l Z a0 hw [] bt (1 : Int32) (1 : Int32) q1 kT (2 : Int32) _ ((atv cA ((((((ub0 &&& (255 : Int32)) <<< ((16 : Int32) &&& 31)) ||| (0 : Int32)).toUInt32 >>> ((12 : Int32) &&& 31).toUInt32).toInt32) &&& (63 : Int32))).toInt8.toInt32) T54.heap n0 (Nat.le_trans Z0 Kp54.1) VT (by decide) (by decide) rfl) hZ (hw _ (List.mem_of_getElem? (i := 15) rfl)) (hw _ (List.mem_of_getElem? (i := 4) rfl)) (by decide) (by decide)) (g := (mkF m 114 #[.val (.int p0), .val (.long q1), .second, .val (.int (1 : Int32)), .val (.ref b40), .val (.ref bt), .val (.int (1 : Int32)), .val (.int (2 : Int32))] [(.long q1), (.int (1 : Int32)), (.int (1 : Int32)), (.ref bt)])) rfl (by rw [hml]; rfl) (argsL := [(.ref bt), (.int (1 : Int32)), (.int (1 : Int32)), (.long q1)]) (rest := []) (lenOf pd_0_2 rfl) rfl (by show 2 * 0 + _ ≤ _; exact Nat.le_of_eq rfl) (hb hby at_114) (fun _ _ => ⟨rfl, e60, (by decide : 2 + 0 ≤ _), (by decide : 3 + 0 ≤ _)⟩)
    dsimp only [Pt.U, Pt.locs, Pt.cells, Pt.slots] at X62 l62 y62 z62 st62 hQ62
    rw [y62, z62] at X62
    obtain ⟨rfl, Nq62, e62⟩ := hQ62
    have N62 : Fr n0 L62 := by rw [l62]; exact Fr.app N60 Nq62
    have K62 : own_K p e below SE T62 (mkF m 117 #[.val (.int p0), .val (.long q1), .second, .val (.int (1 : Int32)), .val (.ref b40), .val (.ref bt), .val (.int (1 : Int32)), .val (.int (2 : Int32))] [(.int (if (atv cA ((((((ub0 &&& (255 : Int32)) <<< ((16 : Int32) &&& 31)) ||| (0 : Int32)).toUInt32 >>> ((12 : Int32) &&& 31).toUInt32).toInt32) &&& (63 : Int32))).toInt8.toInt32 = ((own_ch (own_sx q1 (1 : Int32) ((1 : Int32) / (4 : Int32)) ((1 : Int32) % (4 : Int32))))).toInt8.toInt32 then (1 : Int32) else (0 : Int32)))]) := fun t k => K61 _ (st62 _ k)
    have K63 : own_K p e below SE T62 (mkF m 125 #[.val (.int p0), .val (.long q1), .second, .val (.int (1 : Int32)), .val (.ref b40), .val (.ref bt), .val (.int (1 : Int32)), .val (.int (2 : Int32))] [(.long q1), (.int (1 : Int32)), (.int (2 : Int32)), (.ref bt)]) := by
      intro t k
      refine K62 _ ?_
      refine XS.ifNo X62.here hx rfl (hb hby at_117) rfl (XT.i0_eq_f ck1) ?_
      show own_S p e below T62 (mkF m 120 #[.val (.int p0), .val (.long q1), .second, .val (.int (1 : Int32)), .val (.ref b40), .val (.ref bt), .val (.int (1 : Int32)), .val (.int (2 : Int32))] []) _
      refine XS.aload X62.here hx rfl (hb hby at_120) rfl rfl ?_
      show own_S p e below T62 (mkF m 122 #[.val (.int p0), .val (.long q1), .second, .val (.int (1 : Int32)), .val (.ref b40), .val (.ref bt), .val (.int (1 : Int32)), .val (.int (2 : Int32))] [(.ref bt)]) _
      refine XS.iconst X62.here hx rfl (hb hby at_122) ?_
      show own_S p e below T62 (mkF m 123 #[.val (.int p0), .val (.long q1), .second, .val (.int (1 : Int32)), .val (.ref b40), .val (.ref bt), .val (.int (1 : Int32)), .val (.int (2 : Int32))] [(.int (2 : Int32)), (.ref bt)]) _
      refine XS.iloadN X62.here hx rfl (hb hby at_123) rfl ?_
      show own_S p e below T62 (mkF m 124 #[.val (.int p0), .val (.long q1), .second, .val (.int (1 : Int32)), .val (.ref b40), .val (.ref bt), .val (.int (1 : Int32)), .val (.int (2 : Int32))] [(.int (1 : Int32)), (.int (2 : Int32)), (.ref bt)]) _
      refine XS.lloadN X62.here hx rfl (hb hby at_124) rfl ?_
      exact k
    obtain ⟨_, _, ⟨T64, L64, k64, n64⟩, -, X64, ⟨Lc64, hQ64, l64, y64, z64⟩, st64⟩ := Jvm.LawKit.callS X62 hx (y := (⟨"com/example/whorl/whorl/Base64urlTextPinLaw", "chk", "([BIIJ)Z"⟩ : MethodName)) hown (mvT hZ (hw _ (List.mem_of_getElem? (i := 13) rfl))) (mvT hZ (hw _ (List.mem_of_getElem? (i := 14) rfl))) (mvT hZ (hw _ (List.mem_of_getElem? (i := 4) rfl))) (mvT hZ (hw _ (List.mem_of_getElem? (i := 15) rfl))) (by decide) (backOf (W := 0) (rm3n l Z a0 hw [] bt (2 : Int32) (1 : Int32) q1 kT (2 : Int32) _ T54.heap n0 (Nat.le_trans Z0 Kp54.1) VT (by decide)) hZ (hw _ (List.mem_of_getElem? (i := 15) rfl)) (hw _ (List.mem_of_getElem? (i := 4) rfl)) (by decide) (by decide)) (g := (mkF m 125 #[.val (.int p0), .val (.long q1), .second, .val (.int (1 : Int32)), .val (.ref b40), .val (.ref bt), .val (.int (1 : Int32)), .val (.int (2 : Int32))] [(.long q1), (.int (1 : Int32)), (.int (2 : Int32)), (.ref bt)])) rfl (by rw [hml]; rfl) (argsL := [(.ref bt), (.int (2 : Int32)), (.int (1 : Int32)), (.long q1)]) (rest := []) (lenOf pd_0_2 rfl) rfl (by show 2 * 0 + _ ≤ _; exact Nat.le_of_eq rfl) (hb hby at_125) (fun _ _ => ⟨rfl, e62, (by decide : 2 + 0 ≤ _), (by decide : 3 + 0 ≤ _)⟩)
    dsimp only [Pt.U, Pt.locs, Pt.cells, Pt.slots] at X64 l64 y64 z64 st64 hQ64
    rw [y64, z64] at X64
    obtain ⟨rfl, Nq64, e64⟩ := hQ64
    have N64 : Fr n0 L64 := by rw [l64]; exact Fr.app N62 Nq64
    have K64 : own_K p e below SE T64 (mkF m 128 #[.val (.int p0), .val (.long q1), .second, .val (.int (1 : Int32)), .val (.ref b40), .val (.ref bt), .val (.int (1 : Int32)), .val (.int (2 : Int32))] [(.int (1 : Int32))]) := fun t k => K63 _ (st64 _ k)
    have K65 : own_K p e below SE T64 (mkF m 136 #[.val (.int p0), .val (.long q1), .second, .val (.int (1 : Int32)), .val (.ref b40), .val (.ref bt), .val (.int (1 : Int32)), .val (.int (2 : Int32))] [(.long q1), (.int (1 : Int32)), (.int (3 : Int32)), (.ref bt)]) := by
      intro t k
      refine K64 _ ?_
      refine XS.ifNo X64.here hx rfl (hb hby at_128) rfl (XT.i0_eq_f (by decide : ¬ ((1 : Int32) = 0))) ?_
      show own_S p e below T64 (mkF m 131 #[.val (.int p0), .val (.long q1), .second, .val (.int (1 : Int32)), .val (.ref b40), .val (.ref bt), .val (.int (1 : Int32)), .val (.int (2 : Int32))] []) _
      refine XS.aload X64.here hx rfl (hb hby at_131) rfl rfl ?_
      show own_S p e below T64 (mkF m 133 #[.val (.int p0), .val (.long q1), .second, .val (.int (1 : Int32)), .val (.ref b40), .val (.ref bt), .val (.int (1 : Int32)), .val (.int (2 : Int32))] [(.ref bt)]) _
      refine XS.iconst X64.here hx rfl (hb hby at_133) ?_
      show own_S p e below T64 (mkF m 134 #[.val (.int p0), .val (.long q1), .second, .val (.int (1 : Int32)), .val (.ref b40), .val (.ref bt), .val (.int (1 : Int32)), .val (.int (2 : Int32))] [(.int (3 : Int32)), (.ref bt)]) _
      refine XS.iloadN X64.here hx rfl (hb hby at_134) rfl ?_
      show own_S p e below T64 (mkF m 135 #[.val (.int p0), .val (.long q1), .second, .val (.int (1 : Int32)), .val (.ref b40), .val (.ref bt), .val (.int (1 : Int32)), .val (.int (2 : Int32))] [(.int (1 : Int32)), (.int (3 : Int32)), (.ref bt)]) _
      refine XS.lloadN X64.here hx rfl (hb hby at_135) rfl ?_
      exact k
    obtain ⟨_, _, ⟨T66, L66, k66, n66⟩, -, X66, ⟨Lc66, hQ66, l66, y66, z66⟩, st66⟩ := Jvm.LawKit.callS X64 hx (y := (⟨"com/example/whorl/whorl/Base64urlTextPinLaw", "chk", "([BIIJ)Z"⟩ : MethodName)) hown (mvT hZ (hw _ (List.mem_of_getElem? (i := 13) rfl))) (mvT hZ (hw _ (List.mem_of_getElem? (i := 14) rfl))) (mvT hZ (hw _ (List.mem_of_getElem? (i := 4) rfl))) (mvT hZ (hw _ (List.mem_of_getElem? (i := 15) rfl))) (by decide) (backOf (W := 0) (rm3n l Z a0 hw [] bt (3 : Int32) (1 : Int32) q1 kT (2 : Int32) _ T54.heap n0 (Nat.le_trans Z0 Kp54.1) VT (by decide)) hZ (hw _ (List.mem_of_getElem? (i := 15) rfl)) (hw _ (List.mem_of_getElem? (i := 4) rfl)) (by decide) (by decide)) (g := (mkF m 136 #[.val (.int p0), .val (.long q1), .second, .val (.int (1 : Int32)), .val (.ref b40), .val (.ref bt), .val (.int (1 : Int32)), .val (.int (2 : Int32))] [(.long q1), (.int (1 : Int32)), (.int (3 : Int32)), (.ref bt)])) rfl (by rw [hml]; rfl) (argsL := [(.ref bt), (.int (3 : Int32)), (.int (1 : Int32)), (.long q1)]) (rest := []) (lenOf pd_0_2 rfl) rfl (by show 2 * 0 + _ ≤ _; exact Nat.le_of_eq rfl) (hb hby at_136) (fun _ _ => ⟨rfl, e64, (by decide : 2 + 0 ≤ _), (by decide : 3 + 0 ≤ _)⟩)
    dsimp only [Pt.U, Pt.locs, Pt.cells, Pt.slots] at X66 l66 y66 z66 st66 hQ66
    rw [y66, z66] at X66
    obtain ⟨rfl, Nq66, e66⟩ := hQ66
    have N66 : Fr n0 L66 := by rw [l66]; exact Fr.app N64 Nq66
    have K66 : own_K p e below SE T66 (mkF m 139 #[.val (.int p0), .val (.long q1), .second, .val (.int (1 : Int32)), .val (.ref b40), .val (.ref bt), .val (.int (1 : Int32)), .val (.int (2 : Int32))] [(.int (1 : Int32))]) := fun t k => K65 _ (st66 _ k)
    have K67 : own_K p e below SE T66 (mkF m 147 #[.val (.int p0), .val (.long q1), .second, .val (.int (1 : Int32)), .val (.ref b40), .val (.ref bt), .val (.int (1 : Int32)), .val (.int (2 : Int32))] [(.long q1), (.int (1 : Int32)), (.int (4 : Int32)), (.ref bt)]) := by
      intro t k
      refine K66 _ ?_
      refine XS.ifNo X66.here hx rfl (hb hby at_139) rfl (XT.i0_eq_f (by decide : ¬ ((1 : Int32) = 0))) ?_
      show own_S p e below T66 (mkF m 142 #[.val (.int p0), .val (.long q1), .second, .val (.int (1 : Int32)), .val (.ref b40), .val (.ref bt), .val (.int (1 : Int32)), .val (.int (2 : Int32))] []) _
      refine XS.aload X66.here hx rfl (hb hby at_142) rfl rfl ?_
      show own_S p e below T66 (mkF m 144 #[.val (.int p0), .val (.long q1), .second, .val (.int (1 : Int32)), .val (.ref b40), .val (.ref bt), .val (.int (1 : Int32)), .val (.int (2 : Int32))] [(.ref bt)]) _
      refine XS.iconst X66.here hx rfl (hb hby at_144) ?_
      show own_S p e below T66 (mkF m 145 #[.val (.int p0), .val (.long q1), .second, .val (.int (1 : Int32)), .val (.ref b40), .val (.ref bt), .val (.int (1 : Int32)), .val (.int (2 : Int32))] [(.int (4 : Int32)), (.ref bt)]) _
      refine XS.iloadN X66.here hx rfl (hb hby at_145) rfl ?_
      show own_S p e below T66 (mkF m 146 #[.val (.int p0), .val (.long q1), .second, .val (.int (1 : Int32)), .val (.ref b40), .val (.ref bt), .val (.int (1 : Int32)), .val (.int (2 : Int32))] [(.int (1 : Int32)), (.int (4 : Int32)), (.ref bt)]) _
      refine XS.lloadN X66.here hx rfl (hb hby at_146) rfl ?_
      exact k
    obtain ⟨_, _, ⟨T68, L68, k68, n68⟩, -, X68, ⟨Lc68, hQ68, l68, y68, z68⟩, st68⟩ := Jvm.LawKit.callS X66 hx (y := (⟨"com/example/whorl/whorl/Base64urlTextPinLaw", "chk", "([BIIJ)Z"⟩ : MethodName)) hown (mvT hZ (hw _ (List.mem_of_getElem? (i := 13) rfl))) (mvT hZ (hw _ (List.mem_of_getElem? (i := 14) rfl))) (mvT hZ (hw _ (List.mem_of_getElem? (i := 4) rfl))) (mvT hZ (hw _ (List.mem_of_getElem? (i := 15) rfl))) (by decide) (backOf (W := 0) (rm3n l Z a0 hw [] bt (4 : Int32) (1 : Int32) q1 kT (2 : Int32) _ T54.heap n0 (Nat.le_trans Z0 Kp54.1) VT (by decide)) hZ (hw _ (List.mem_of_getElem? (i := 15) rfl)) (hw _ (List.mem_of_getElem? (i := 4) rfl)) (by decide) (by decide)) (g := (mkF m 147 #[.val (.int p0), .val (.long q1), .second, .val (.int (1 : Int32)), .val (.ref b40), .val (.ref bt), .val (.int (1 : Int32)), .val (.int (2 : Int32))] [(.long q1), (.int (1 : Int32)), (.int (4 : Int32)), (.ref bt)])) rfl (by rw [hml]; rfl) (argsL := [(.ref bt), (.int (4 : Int32)), (.int (1 : Int32)), (.long q1)]) (rest := []) (lenOf pd_0_2 rfl) rfl (by show 2 * 0 + _ ≤ _; exact Nat.le_of_eq rfl) (hb hby at_147) (fun _ _ => ⟨rfl, e66, (by decide : 2 + 0 ≤ _), (by decide : 3 + 0 ≤ _)⟩)
    dsimp only [Pt.U, Pt.locs, Pt.cells, Pt.slots] at X68 l68 y68 z68 st68 hQ68
    rw [y68, z68] at X68
    obtain ⟨rfl, Nq68, e68⟩ := hQ68
    have N68 : Fr n0 L68 := by rw [l68]; exact Fr.app N66 Nq68
    have K68 : own_K p e below SE T68 (mkF m 150 #[.val (.int p0), .val (.long q1), .second, .val (.int (1 : Int32)), .val (.ref b40), .val (.ref bt), .val (.int (1 : Int32)), .val (.int (2 : Int32))] [(.int (1 : Int32))]) := fun t k => K67 _ (st68 _ k)
    have K69 : own_K p e below SE T68 (mkF m 158 #[.val (.int p0), .val (.long q1), .second, .val (.int (1 : Int32)), .val (.ref b40), .val (.ref bt), .val (.int (1 : Int32)), .val (.int (2 : Int32))] [(.long q1), (.int (1 : Int32)), (.int (5 : Int32)), (.ref bt)]) := by
      intro t k
      refine K68 _ ?_
      refine XS.ifNo X68.here hx rfl (hb hby at_150) rfl (XT.i0_eq_f (by decide : ¬ ((1 : Int32) = 0))) ?_
      show own_S p e below T68 (mkF m 153 #[.val (.int p0), .val (.long q1), .second, .val (.int (1 : Int32)), .val (.ref b40), .val (.ref bt), .val (.int (1 : Int32)), .val (.int (2 : Int32))] []) _
      refine XS.aload X68.here hx rfl (hb hby at_153) rfl rfl ?_
      show own_S p e below T68 (mkF m 155 #[.val (.int p0), .val (.long q1), .second, .val (.int (1 : Int32)), .val (.ref b40), .val (.ref bt), .val (.int (1 : Int32)), .val (.int (2 : Int32))] [(.ref bt)]) _
      refine XS.iconst X68.here hx rfl (hb hby at_155) ?_
      show own_S p e below T68 (mkF m 156 #[.val (.int p0), .val (.long q1), .second, .val (.int (1 : Int32)), .val (.ref b40), .val (.ref bt), .val (.int (1 : Int32)), .val (.int (2 : Int32))] [(.int (5 : Int32)), (.ref bt)]) _
      refine XS.iloadN X68.here hx rfl (hb hby at_156) rfl ?_
      show own_S p e below T68 (mkF m 157 #[.val (.int p0), .val (.long q1), .second, .val (.int (1 : Int32)), .val (.ref b40), .val (.ref bt), .val (.int (1 : Int32)), .val (.int (2 : Int32))] [(.int (1 : Int32)), (.int (5 : Int32)), (.ref bt)]) _
      refine XS.lloadN X68.here hx rfl (hb hby at_157) rfl ?_
      exact k
    obtain ⟨_, _, ⟨T70, L70, k70, n70⟩, -, X70, ⟨Lc70, hQ70, l70, y70, z70⟩, st70⟩ := Jvm.LawKit.callS X68 hx (y := (⟨"com/example/whorl/whorl/Base64urlTextPinLaw", "chk", "([BIIJ)Z"⟩ : MethodName)) hown (mvT hZ (hw _ (List.mem_of_getElem? (i := 13) rfl))) (mvT hZ (hw _ (List.mem_of_getElem? (i := 14) rfl))) (mvT hZ (hw _ (List.mem_of_getElem? (i := 4) rfl))) (mvT hZ (hw _ (List.mem_of_getElem? (i := 15) rfl))) (by decide) (backOf (W := 0) (rm3n l Z a0 hw [] bt (5 : Int32) (1 : Int32) q1 kT (2 : Int32) _ T54.heap n0 (Nat.le_trans Z0 Kp54.1) VT (by decide)) hZ (hw _ (List.mem_of_getElem? (i := 15) rfl)) (hw _ (List.mem_of_getElem? (i := 4) rfl)) (by decide) (by decide)) (g := (mkF m 158 #[.val (.int p0), .val (.long q1), .second, .val (.int (1 : Int32)), .val (.ref b40), .val (.ref bt), .val (.int (1 : Int32)), .val (.int (2 : Int32))] [(.long q1), (.int (1 : Int32)), (.int (5 : Int32)), (.ref bt)])) rfl (by rw [hml]; rfl) (argsL := [(.ref bt), (.int (5 : Int32)), (.int (1 : Int32)), (.long q1)]) (rest := []) (lenOf pd_0_2 rfl) rfl (by show 2 * 0 + _ ≤ _; exact Nat.le_of_eq rfl) (hb hby at_158) (fun _ _ => ⟨rfl, e68, (by decide : 2 + 0 ≤ _), (by decide : 3 + 0 ≤ _)⟩)
    dsimp only [Pt.U, Pt.locs, Pt.cells, Pt.slots] at X70 l70 y70 z70 st70 hQ70
    rw [y70, z70] at X70
    obtain ⟨rfl, Nq70, e70⟩ := hQ70
    have N70 : Fr n0 L70 := by rw [l70]; exact Fr.app N68 Nq70
    have K70 : own_K p e below SE T70 (mkF m 161 #[.val (.int p0), .val (.long q1), .second, .val (.int (1 : Int32)), .val (.ref b40), .val (.ref bt), .val (.int (1 : Int32)), .val (.int (2 : Int32))] [(.int (1 : Int32))]) := fun t k => K69 _ (st70 _ k)
    have K71 : own_K p e below SE T70 (mkF m 170 #[.val (.int p0), .val (.long q1), .second, .val (.int (1 : Int32)), .val (.ref b40), .val (.ref bt), .val (.int (1 : Int32)), .val (.int (2 : Int32))] [(.long q1), (.int (1 : Int32)), (.int (6 : Int32)), (.ref bt)]) := by
      intro t k
      refine K70 _ ?_
      refine XS.ifNo X70.here hx rfl (hb hby at_161) rfl (XT.i0_eq_f (by decide : ¬ ((1 : Int32) = 0))) ?_
      show own_S p e below T70 (mkF m 164 #[.val (.int p0), .val (.long q1), .second, .val (.int (1 : Int32)), .val (.ref b40), .val (.ref bt), .val (.int (1 : Int32)), .val (.int (2 : Int32))] []) _
      refine XS.aload X70.here hx rfl (hb hby at_164) rfl rfl ?_
      show own_S p e below T70 (mkF m 166 #[.val (.int p0), .val (.long q1), .second, .val (.int (1 : Int32)), .val (.ref b40), .val (.ref bt), .val (.int (1 : Int32)), .val (.int (2 : Int32))] [(.ref bt)]) _
      refine XS.bipush X70.here hx rfl (hb hby at_166) ?_
      show own_S p e below T70 (mkF m 168 #[.val (.int p0), .val (.long q1), .second, .val (.int (1 : Int32)), .val (.ref b40), .val (.ref bt), .val (.int (1 : Int32)), .val (.int (2 : Int32))] [(.int (6 : Int32)), (.ref bt)]) _
      refine XS.iloadN X70.here hx rfl (hb hby at_168) rfl ?_
      show own_S p e below T70 (mkF m 169 #[.val (.int p0), .val (.long q1), .second, .val (.int (1 : Int32)), .val (.ref b40), .val (.ref bt), .val (.int (1 : Int32)), .val (.int (2 : Int32))] [(.int (1 : Int32)), (.int (6 : Int32)), (.ref bt)]) _
      refine XS.lloadN X70.here hx rfl (hb hby at_169) rfl ?_
      exact k
    obtain ⟨_, _, ⟨T72, L72, k72, n72⟩, -, X72, ⟨Lc72, hQ72, l72, y72, z72⟩, st72⟩ := Jvm.LawKit.callS X70 hx (y := (⟨"com/example/whorl/whorl/Base64urlTextPinLaw", "chk", "([BIIJ)Z"⟩ : MethodName)) hown (mvT hZ (hw _ (List.mem_of_getElem? (i := 13) rfl))) (mvT hZ (hw _ (List.mem_of_getElem? (i := 14) rfl))) (mvT hZ (hw _ (List.mem_of_getElem? (i := 4) rfl))) (mvT hZ (hw _ (List.mem_of_getElem? (i := 15) rfl))) (by decide) (backOf (W := 0) (rm3n l Z a0 hw [] bt (6 : Int32) (1 : Int32) q1 kT (2 : Int32) _ T54.heap n0 (Nat.le_trans Z0 Kp54.1) VT (by decide)) hZ (hw _ (List.mem_of_getElem? (i := 15) rfl)) (hw _ (List.mem_of_getElem? (i := 4) rfl)) (by decide) (by decide)) (g := (mkF m 170 #[.val (.int p0), .val (.long q1), .second, .val (.int (1 : Int32)), .val (.ref b40), .val (.ref bt), .val (.int (1 : Int32)), .val (.int (2 : Int32))] [(.long q1), (.int (1 : Int32)), (.int (6 : Int32)), (.ref bt)])) rfl (by rw [hml]; rfl) (argsL := [(.ref bt), (.int (6 : Int32)), (.int (1 : Int32)), (.long q1)]) (rest := []) (lenOf pd_0_2 rfl) rfl (by show 2 * 0 + _ ≤ _; exact Nat.le_of_eq rfl) (hb hby at_170) (fun _ _ => ⟨rfl, e70, (by decide : 2 + 0 ≤ _), (by decide : 3 + 0 ≤ _)⟩)
    dsimp only [Pt.U, Pt.locs, Pt.cells, Pt.slots] at X72 l72 y72 z72 st72 hQ72
    rw [y72, z72] at X72
    obtain ⟨rfl, Nq72, e72⟩ := hQ72
    have N72 : Fr n0 L72 := by rw [l72]; exact Fr.app N70 Nq72
    have K72 : own_K p e below SE T72 (mkF m 173 #[.val (.int p0), .val (.long q1), .second, .val (.int (1 : Int32)), .val (.ref b40), .val (.ref bt), .val (.int (1 : Int32)), .val (.int (2 : Int32))] [(.int (1 : Int32))]) := fun t k => K71 _ (st72 _ k)
    have K73 : own_K p e below SE T72 (mkF m 182 #[.val (.int p0), .val (.long q1), .second, .val (.int (1 : Int32)), .val (.ref b40), .val (.ref bt), .val (.int (1 : Int32)), .val (.int (2 : Int32))] [(.long q1), (.int (1 : Int32)), (.int (7 : Int32)), (.ref bt)]) := by
      intro t k
      refine K72 _ ?_
      refine XS.ifNo X72.here hx rfl (hb hby at_173) rfl (XT.i0_eq_f (by decide : ¬ ((1 : Int32) = 0))) ?_
      show own_S p e below T72 (mkF m 176 #[.val (.int p0), .val (.long q1), .second, .val (.int (1 : Int32)), .val (.ref b40), .val (.ref bt), .val (.int (1 : Int32)), .val (.int (2 : Int32))] []) _
      refine XS.aload X72.here hx rfl (hb hby at_176) rfl rfl ?_
      show own_S p e below T72 (mkF m 178 #[.val (.int p0), .val (.long q1), .second, .val (.int (1 : Int32)), .val (.ref b40), .val (.ref bt), .val (.int (1 : Int32)), .val (.int (2 : Int32))] [(.ref bt)]) _
      refine XS.bipush X72.here hx rfl (hb hby at_178) ?_
      show own_S p e below T72 (mkF m 180 #[.val (.int p0), .val (.long q1), .second, .val (.int (1 : Int32)), .val (.ref b40), .val (.ref bt), .val (.int (1 : Int32)), .val (.int (2 : Int32))] [(.int (7 : Int32)), (.ref bt)]) _
      refine XS.iloadN X72.here hx rfl (hb hby at_180) rfl ?_
      show own_S p e below T72 (mkF m 181 #[.val (.int p0), .val (.long q1), .second, .val (.int (1 : Int32)), .val (.ref b40), .val (.ref bt), .val (.int (1 : Int32)), .val (.int (2 : Int32))] [(.int (1 : Int32)), (.int (7 : Int32)), (.ref bt)]) _
      refine XS.lloadN X72.here hx rfl (hb hby at_181) rfl ?_
      exact k
    obtain ⟨_, _, ⟨T74, L74, k74, n74⟩, -, X74, ⟨Lc74, hQ74, l74, y74, z74⟩, st74⟩ := Jvm.LawKit.callS X72 hx (y := (⟨"com/example/whorl/whorl/Base64urlTextPinLaw", "chk", "([BIIJ)Z"⟩ : MethodName)) hown (mvT hZ (hw _ (List.mem_of_getElem? (i := 13) rfl))) (mvT hZ (hw _ (List.mem_of_getElem? (i := 14) rfl))) (mvT hZ (hw _ (List.mem_of_getElem? (i := 4) rfl))) (mvT hZ (hw _ (List.mem_of_getElem? (i := 15) rfl))) (by decide) (backOf (W := 0) (rm3n l Z a0 hw [] bt (7 : Int32) (1 : Int32) q1 kT (2 : Int32) _ T54.heap n0 (Nat.le_trans Z0 Kp54.1) VT (by decide)) hZ (hw _ (List.mem_of_getElem? (i := 15) rfl)) (hw _ (List.mem_of_getElem? (i := 4) rfl)) (by decide) (by decide)) (g := (mkF m 182 #[.val (.int p0), .val (.long q1), .second, .val (.int (1 : Int32)), .val (.ref b40), .val (.ref bt), .val (.int (1 : Int32)), .val (.int (2 : Int32))] [(.long q1), (.int (1 : Int32)), (.int (7 : Int32)), (.ref bt)])) rfl (by rw [hml]; rfl) (argsL := [(.ref bt), (.int (7 : Int32)), (.int (1 : Int32)), (.long q1)]) (rest := []) (lenOf pd_0_2 rfl) rfl (by show 2 * 0 + _ ≤ _; exact Nat.le_of_eq rfl) (hb hby at_182) (fun _ _ => ⟨rfl, e72, (by decide : 2 + 0 ≤ _), (by decide : 3 + 0 ≤ _)⟩)
    dsimp only [Pt.U, Pt.locs, Pt.cells, Pt.slots] at X74 l74 y74 z74 st74 hQ74
    rw [y74, z74] at X74
    obtain ⟨rfl, Nq74, e74⟩ := hQ74
    have N74 : Fr n0 L74 := by rw [l74]; exact Fr.app N72 Nq74
    have K74 : own_K p e below SE T74 (mkF m 185 #[.val (.int p0), .val (.long q1), .second, .val (.int (1 : Int32)), .val (.ref b40), .val (.ref bt), .val (.int (1 : Int32)), .val (.int (2 : Int32))] [(.int (1 : Int32))]) := fun t k => K73 _ (st74 _ k)
    have K75 : own_K p e below SE T74 (mkF m 193 #[.val (.int p0), .val (.long q1), .second, .val (.int (1 : Int32)), .val (.ref b40), .val (.ref bt), .val (.int (1 : Int32)), .val (.int (2 : Int32))] [(.int (1 : Int32))]) := by
      intro t k
      refine K74 _ ?_
      refine XS.ifNo X74.here hx rfl (hb hby at_185) rfl (XT.i0_eq_f (by decide : ¬ ((1 : Int32) = 0))) ?_
      show own_S p e below T74 (mkF m 188 #[.val (.int p0), .val (.long q1), .second, .val (.int (1 : Int32)), .val (.ref b40), .val (.ref bt), .val (.int (1 : Int32)), .val (.int (2 : Int32))] []) _
      refine XS.iconst X74.here hx rfl (hb hby at_188) ?_
      show own_S p e below T74 (mkF m 189 #[.val (.int p0), .val (.long q1), .second, .val (.int (1 : Int32)), .val (.ref b40), .val (.ref bt), .val (.int (1 : Int32)), .val (.int (2 : Int32))] [(.int (1 : Int32))]) _
      refine XS.goto X74.here hx rfl (pc0 := 189) (pc' := 193) rfl (hb hby at_189) (by decide) (by decide) ?_
      exact k
    obtain ⟨fs, hr, hrun, hended, hW, hsame⟩ := X74.leave (v := some (.int (1 : Int32))) (fun h => by rw [Bd.returns] at h; cases h)
    refine ⟨_, _, K75 _ ?_, hrun, hended, _, _, rfl, ?_, ⟨_, rfl⟩, hW, hsame.mono (by decide) (by decide)⟩
    · exact retN X74 hx (t := .boolean) Bd.returns (by simp) (hb hby at_193) hr
    · show Q0 Z p0 q1 oAL cA h0 n0 _ T74.heap _
      rw [e74]
      exact ⟨rfl, N74⟩
  · skip
    rw [q] at K1
    have K76 : own_K p e below SE s₁ (mkF m 9 #[.val (.int p0), .val (.long q1), .second, .val (.int (2 : Int32)), .unset, .unset, .unset, .unset] [(.int (2 : Int32))]) := by
      intro t k
      refine K1 _ ?_
      refine XS.iloadN X0.here hx rfl (hb hby at_8) rfl ?_
      exact k
    obtain ⟨T77, h77, k77, X77, e77, E77, A77, st77⟩ := newP X0 hx hZ (hw _ (List.mem_of_getElem? (i := 1) rfl)) e0 (g := (mkF m 9 #[.val (.int p0), .val (.long q1), .second, .val (.int (2 : Int32)), .unset, .unset, .unset, .unset] [(.int (2 : Int32))])) rfl (hb hby at_9) rfl (by decide) (cap := 2) (by decide) (by decide) (by decide) (by decide)
    obtain ⟨b77, g77⟩ : ∃ z, z = h0.size := ⟨_, rfl⟩
    rw [← g77] at A77 st77
    have g_b77 : n0 ≤ b77 := Nat.le_trans Z0 (Nat.le_of_eq g77.symm)
    have sz_b77 : h0.size ≤ b77 := Nat.le_trans (Nat.le_refl _) (Nat.le_of_eq g77.symm)
    have Kp77 : Keep h0 h77 [] := Keep.ext (Keep.refl h0 []) E77
    have V77 : Arv Z h77 b77 k77 .byte (2 : Int32) [(.int (0 : Int32)), (.int (0 : Int32))] (.int (0 : Int32)) := (Arv.new A77 (by decide)).pad (pad_rep [] (.int (0 : Int32)) 2)
    have K77 : own_K p e below SE T77 (mkF m 11 #[.val (.int p0), .val (.long q1), .second, .val (.int (2 : Int32)), .unset, .unset, .unset, .unset] [(.ref b77)]) := fun t k => K76 _ (st77 _ k)
    have K78 : own_K p e below SE T77 (mkF m 17 #[.val (.int p0), .val (.long q1), .second, .val (.int (2 : Int32)), .val (.ref b77), .unset, .unset, .unset] [(.long q1), (.int (0 : Int32)), (.ref b77)]) := by
      intro t k
      refine K77 _ ?_
      refine XS.astore X77.here hx rfl (hb hby at_11) rfl rfl (l' := #[.val (.int p0), .val (.long q1), .second, .val (.int (2 : Int32)), .val (.ref b77), .unset, .unset, .unset]) rfl ?_
      show own_S p e below T77 (mkF m 13 #[.val (.int p0), .val (.long q1), .second, .val (.int (2 : Int32)), .val (.ref b77), .unset, .unset, .unset] []) _
      refine XS.aload X77.here hx rfl (hb hby at_13) rfl rfl ?_
      show own_S p e below T77 (mkF m 15 #[.val (.int p0), .val (.long q1), .second, .val (.int (2 : Int32)), .val (.ref b77), .unset, .unset, .unset] [(.ref b77)]) _
      refine XS.iconst X77.here hx rfl (hb hby at_15) ?_
      show own_S p e below T77 (mkF m 16 #[.val (.int p0), .val (.long q1), .second, .val (.int (2 : Int32)), .val (.ref b77), .unset, .unset, .unset] [(.int (0 : Int32)), (.ref b77)]) _
      refine XS.lloadN X77.here hx rfl (hb hby at_16) rfl ?_
      exact k
    obtain ⟨_, _, ⟨T79, L79, k79, n79⟩, -, X79, ⟨Lc79, hQ79, l79, y79, z79⟩, st79⟩ := Jvm.LawKit.callS X77 hx (y := (⟨"com/example/whorl/whorl/Base64urlTextPinLaw", "put", "([BIJ)V"⟩ : MethodName)) hown (mvT hZ (hw _ (List.mem_of_getElem? (i := 2) rfl))) (mvT hZ (hw _ (List.mem_of_getElem? (i := 3) rfl))) (mvT hZ (hw _ (List.mem_of_getElem? (i := 4) rfl))) (mvT hZ (hw _ (List.mem_of_getElem? (i := 5) rfl))) (by decide) (backOf (W := 0) (rm1y l Z a0 hw [] b77 (0 : Int32) q1 k77 (2 : Int32) _ 0 h77 n0 (Nat.le_trans Z0 Kp77.1) V77 (by decide) (by decide) rfl (Nat.le_of_ble_eq_true rfl) g_b77) hZ (hw _ (List.mem_of_getElem? (i := 5) rfl)) (hw _ (List.mem_of_getElem? (i := 4) rfl)) (by decide) (by decide)) (g := (mkF m 17 #[.val (.int p0), .val (.long q1), .second, .val (.int (2 : Int32)), .val (.ref b77), .unset, .unset, .unset] [(.long q1), (.int (0 : Int32)), (.ref b77)])) rfl (by rw [hml]; rfl) (argsL := [(.ref b77), (.int (0 : Int32)), (.long q1)]) (rest := []) (lenOf pd_0_0 rfl) rfl (by show 2 * 0 + _ ≤ _; exact Nat.le_of_eq rfl) (hb hby at_17) (fun _ _ => ⟨rfl, e77, (by decide : 1 + 0 ≤ _), (by decide : 2 + 0 ≤ _)⟩)
    dsimp only [Pt.U, Pt.locs, Pt.cells, Pt.slots] at X79 l79 y79 z79 st79 hQ79
    rw [y79, z79] at X79
    obtain ⟨rfl, Nq79, Kq79, Vq79⟩ := hQ79
    have N79 : Fr n0 L79 := by rw [l79]; exact Fr.app N0 Nq79
    have Kp79 : Keep h0 T79.heap [] := Keep.trans Kp77 Kq79 (allS (Or.inr sz_b77) all0)
    have K79 : own_K p e below SE T79 (mkF m 20 #[.val (.int p0), .val (.long q1), .second, .val (.int (2 : Int32)), .val (.ref b77), .unset, .unset, .unset] []) := fun t k => K78 _ (st79 _ k)
    obtain ⟨ub0, hub0⟩ : ∃ z : Int32, z = ((((((q1.toUInt64 >>> (((8 : Int32) * (0 : Int32)) &&& 0x3f).toInt64.toUInt64).toInt64)).toInt32).toInt8.toInt32).toInt8.toInt32) := ⟨_, rfl⟩
    rw [← hub0] at Vq79
    have Vr79 : Arv Z T79.heap b77 k77 .byte (2 : Int32) [(.int ub0), (.int (0 : Int32))] (.int (0 : Int32)) := Vq79
    have K80 : own_K p e below SE T79 (mkF m 24 #[.val (.int p0), .val (.long q1), .second, .val (.int (2 : Int32)), .val (.ref b77), .unset, .unset, .unset] [(.long q1), (.int (1 : Int32)), (.ref b77)]) := by
      intro t k
      refine K79 _ ?_
      refine XS.aload X79.here hx rfl (hb hby at_20) rfl rfl ?_
      show own_S p e below T79 (mkF m 22 #[.val (.int p0), .val (.long q1), .second, .val (.int (2 : Int32)), .val (.ref b77), .unset, .unset, .unset] [(.ref b77)]) _
      refine XS.iconst X79.here hx rfl (hb hby at_22) ?_
      show own_S p e below T79 (mkF m 23 #[.val (.int p0), .val (.long q1), .second, .val (.int (2 : Int32)), .val (.ref b77), .unset, .unset, .unset] [(.int (1 : Int32)), (.ref b77)]) _
      refine XS.lloadN X79.here hx rfl (hb hby at_23) rfl ?_
      exact k
    obtain ⟨_, _, ⟨T81, L81, k81, n81⟩, -, X81, ⟨Lc81, hQ81, l81, y81, z81⟩, st81⟩ := Jvm.LawKit.callS X79 hx (y := (⟨"com/example/whorl/whorl/Base64urlTextPinLaw", "put", "([BIJ)V"⟩ : MethodName)) hown (mvT hZ (hw _ (List.mem_of_getElem? (i := 2) rfl))) (mvT hZ (hw _ (List.mem_of_getElem? (i := 3) rfl))) (mvT hZ (hw _ (List.mem_of_getElem? (i := 4) rfl))) (mvT hZ (hw _ (List.mem_of_getElem? (i := 5) rfl))) (by decide) (backOf (W := 0) (rm1y l Z a0 hw [] b77 (1 : Int32) q1 k77 (2 : Int32) _ 1 T79.heap n0 (Nat.le_trans Z0 Kp79.1) Vr79 (by decide) (by decide) rfl (Nat.le_of_ble_eq_true rfl) g_b77) hZ (hw _ (List.mem_of_getElem? (i := 5) rfl)) (hw _ (List.mem_of_getElem? (i := 4) rfl)) (by decide) (by decide)) (g := (mkF m 24 #[.val (.int p0), .val (.long q1), .second, .val (.int (2 : Int32)), .val (.ref b77), .unset, .unset, .unset] [(.long q1), (.int (1 : Int32)), (.ref b77)])) rfl (by rw [hml]; rfl) (argsL := [(.ref b77), (.int (1 : Int32)), (.long q1)]) (rest := []) (lenOf pd_0_0 rfl) rfl (by show 2 * 0 + _ ≤ _; exact Nat.le_of_eq rfl) (hb hby at_24) (fun _ _ => ⟨rfl, rfl, (by decide : 1 + 0 ≤ _), (by decide : 2 + 0 ≤ _)⟩)
    dsimp only [Pt.U, Pt.locs, Pt.cells, Pt.slots] at X81 l81 y81 z81 st81 hQ81
    rw [y81, z81] at X81
    obtain ⟨rfl, Nq81, Kq81, Vq81⟩ := hQ81
    have N81 : Fr n0 L81 := by rw [l81]; exact Fr.app N79 Nq81
    have Kp81 : Keep h0 T81.heap [] := Keep.trans Kp79 Kq81 (allS (Or.inr sz_b77) all0)
    have K81 : own_K p e below SE T81 (mkF m 27 #[.val (.int p0), .val (.long q1), .second, .val (.int (2 : Int32)), .val (.ref b77), .unset, .unset, .unset] []) := fun t k => K80 _ (st81 _ k)
    obtain ⟨ub1, hub1⟩ : ∃ z : Int32, z = ((((((q1.toUInt64 >>> (((8 : Int32) * (1 : Int32)) &&& 0x3f).toInt64.toUInt64).toInt64)).toInt32).toInt8.toInt32).toInt8.toInt32) := ⟨_, rfl⟩
    rw [← hub1] at Vq81
    have Vr81 : Arv Z T81.heap b77 k77 .byte (2 : Int32) [(.int ub0), (.int ub1)] (.int (0 : Int32)) := Vq81
    have K82 : own_K p e below SE T81 (mkF m 31 #[.val (.int p0), .val (.long q1), .second, .val (.int (2 : Int32)), .val (.ref b77), .unset, .unset, .unset] [(.long q1), (.int (2 : Int32)), (.ref b77)]) := by
      intro t k
      refine K81 _ ?_
      refine XS.aload X81.here hx rfl (hb hby at_27) rfl rfl ?_
      show own_S p e below T81 (mkF m 29 #[.val (.int p0), .val (.long q1), .second, .val (.int (2 : Int32)), .val (.ref b77), .unset, .unset, .unset] [(.ref b77)]) _
      refine XS.iconst X81.here hx rfl (hb hby at_29) ?_
      show own_S p e below T81 (mkF m 30 #[.val (.int p0), .val (.long q1), .second, .val (.int (2 : Int32)), .val (.ref b77), .unset, .unset, .unset] [(.int (2 : Int32)), (.ref b77)]) _
      refine XS.lloadN X81.here hx rfl (hb hby at_30) rfl ?_
      exact k
    obtain ⟨_, _, ⟨T83, L83, k83, n83⟩, -, X83, ⟨Lc83, hQ83, l83, y83, z83⟩, st83⟩ := Jvm.LawKit.callS X81 hx (y := (⟨"com/example/whorl/whorl/Base64urlTextPinLaw", "put", "([BIJ)V"⟩ : MethodName)) hown (mvT hZ (hw _ (List.mem_of_getElem? (i := 2) rfl))) (mvT hZ (hw _ (List.mem_of_getElem? (i := 3) rfl))) (mvT hZ (hw _ (List.mem_of_getElem? (i := 4) rfl))) (mvT hZ (hw _ (List.mem_of_getElem? (i := 5) rfl))) (by decide) (backOf (W := 0) (rm1n l Z a0 hw [] b77 (2 : Int32) q1 k77 (2 : Int32) _ T81.heap n0 (Nat.le_trans Z0 Kp81.1) Vr81 (by decide)) hZ (hw _ (List.mem_of_getElem? (i := 5) rfl)) (hw _ (List.mem_of_getElem? (i := 4) rfl)) (by decide) (by decide)) (g := (mkF m 31 #[.val (.int p0), .val (.long q1), .second, .val (.int (2 : Int32)), .val (.ref b77), .unset, .unset, .unset] [(.long q1), (.int (2 : Int32)), (.ref b77)])) rfl (by rw [hml]; rfl) (argsL := [(.ref b77), (.int (2 : Int32)), (.long q1)]) (rest := []) (lenOf pd_0_0 rfl) rfl (by show 2 * 0 + _ ≤ _; exact Nat.le_of_eq rfl) (hb hby at_31) (fun _ _ => ⟨rfl, rfl, (by decide : 1 + 0 ≤ _), (by decide : 2 + 0 ≤ _)⟩)
    dsimp only [Pt.U, Pt.locs, Pt.cells, Pt.slots] at X83 l83 y83 z83 st83 hQ83
    rw [y83, z83] at X83
    obtain ⟨rfl, Nq83, e83⟩ := hQ83
    have N83 : Fr n0 L83 := by rw [l83]; exact Fr.app N81 Nq83
    have K83 : own_K p e below SE T83 (mkF m 34 #[.val (.int p0), .val (.long q1), .second, .val (.int (2 : Int32)), .val (.ref b77), .unset, .unset, .unset] []) := fun t k => K82 _ (st83 _ k)
    have K84 : own_K p e below SE T83 (mkF m 38 #[.val (.int p0), .val (.long q1), .second, .val (.int (2 : Int32)), .val (.ref b77), .unset, .unset, .unset] [(.long q1), (.int (3 : Int32)), (.ref b77)]) := by
      intro t k
      refine K83 _ ?_
      refine XS.aload X83.here hx rfl (hb hby at_34) rfl rfl ?_
      show own_S p e below T83 (mkF m 36 #[.val (.int p0), .val (.long q1), .second, .val (.int (2 : Int32)), .val (.ref b77), .unset, .unset, .unset] [(.ref b77)]) _
      refine XS.iconst X83.here hx rfl (hb hby at_36) ?_
      show own_S p e below T83 (mkF m 37 #[.val (.int p0), .val (.long q1), .second, .val (.int (2 : Int32)), .val (.ref b77), .unset, .unset, .unset] [(.int (3 : Int32)), (.ref b77)]) _
      refine XS.lloadN X83.here hx rfl (hb hby at_37) rfl ?_
      exact k
    obtain ⟨_, _, ⟨T85, L85, k85, n85⟩, -, X85, ⟨Lc85, hQ85, l85, y85, z85⟩, st85⟩ := Jvm.LawKit.callS X83 hx (y := (⟨"com/example/whorl/whorl/Base64urlTextPinLaw", "put", "([BIJ)V"⟩ : MethodName)) hown (mvT hZ (hw _ (List.mem_of_getElem? (i := 2) rfl))) (mvT hZ (hw _ (List.mem_of_getElem? (i := 3) rfl))) (mvT hZ (hw _ (List.mem_of_getElem? (i := 4) rfl))) (mvT hZ (hw _ (List.mem_of_getElem? (i := 5) rfl))) (by decide) (backOf (W := 0) (rm1n l Z a0 hw [] b77 (3 : Int32) q1 k77 (2 : Int32) _ T81.heap n0 (Nat.le_trans Z0 Kp81.1) Vr81 (by decide)) hZ (hw _ (List.mem_of_getElem? (i := 5) rfl)) (hw _ (List.mem_of_getElem? (i := 4) rfl)) (by decide) (by decide)) (g := (mkF m 38 #[.val (.int p0), .val (.long q1), .second, .val (.int (2 : Int32)), .val (.ref b77), .unset, .unset, .unset] [(.long q1), (.int (3 : Int32)), (.ref b77)])) rfl (by rw [hml]; rfl) (argsL := [(.ref b77), (.int (3 : Int32)), (.long q1)]) (rest := []) (lenOf pd_0_0 rfl) rfl (by show 2 * 0 + _ ≤ _; exact Nat.le_of_eq rfl) (hb hby at_38) (fun _ _ => ⟨rfl, e83, (by decide : 1 + 0 ≤ _), (by decide : 2 + 0 ≤ _)⟩)
    dsimp only [Pt.U, Pt.locs, Pt.cells, Pt.slots] at X85 l85 y85 z85 st85 hQ85
    rw [y85, z85] at X85
    obtain ⟨rfl, Nq85, e85⟩ := hQ85
    have N85 : Fr n0 L85 := by rw [l85]; exact Fr.app N83 Nq85
    have K85 : own_K p e below SE T85 (mkF m 41 #[.val (.int p0), .val (.long q1), .second, .val (.int (2 : Int32)), .val (.ref b77), .unset, .unset, .unset] []) := fun t k => K84 _ (st85 _ k)
    have K86 : own_K p e below SE T85 (mkF m 45 #[.val (.int p0), .val (.long q1), .second, .val (.int (2 : Int32)), .val (.ref b77), .unset, .unset, .unset] [(.long q1), (.int (4 : Int32)), (.ref b77)]) := by
      intro t k
      refine K85 _ ?_
      refine XS.aload X85.here hx rfl (hb hby at_41) rfl rfl ?_
      show own_S p e below T85 (mkF m 43 #[.val (.int p0), .val (.long q1), .second, .val (.int (2 : Int32)), .val (.ref b77), .unset, .unset, .unset] [(.ref b77)]) _
      refine XS.iconst X85.here hx rfl (hb hby at_43) ?_
      show own_S p e below T85 (mkF m 44 #[.val (.int p0), .val (.long q1), .second, .val (.int (2 : Int32)), .val (.ref b77), .unset, .unset, .unset] [(.int (4 : Int32)), (.ref b77)]) _
      refine XS.lloadN X85.here hx rfl (hb hby at_44) rfl ?_
      exact k
    obtain ⟨_, _, ⟨T87, L87, k87, n87⟩, -, X87, ⟨Lc87, hQ87, l87, y87, z87⟩, st87⟩ := Jvm.LawKit.callS X85 hx (y := (⟨"com/example/whorl/whorl/Base64urlTextPinLaw", "put", "([BIJ)V"⟩ : MethodName)) hown (mvT hZ (hw _ (List.mem_of_getElem? (i := 2) rfl))) (mvT hZ (hw _ (List.mem_of_getElem? (i := 3) rfl))) (mvT hZ (hw _ (List.mem_of_getElem? (i := 4) rfl))) (mvT hZ (hw _ (List.mem_of_getElem? (i := 5) rfl))) (by decide) (backOf (W := 0) (rm1n l Z a0 hw [] b77 (4 : Int32) q1 k77 (2 : Int32) _ T81.heap n0 (Nat.le_trans Z0 Kp81.1) Vr81 (by decide)) hZ (hw _ (List.mem_of_getElem? (i := 5) rfl)) (hw _ (List.mem_of_getElem? (i := 4) rfl)) (by decide) (by decide)) (g := (mkF m 45 #[.val (.int p0), .val (.long q1), .second, .val (.int (2 : Int32)), .val (.ref b77), .unset, .unset, .unset] [(.long q1), (.int (4 : Int32)), (.ref b77)])) rfl (by rw [hml]; rfl) (argsL := [(.ref b77), (.int (4 : Int32)), (.long q1)]) (rest := []) (lenOf pd_0_0 rfl) rfl (by show 2 * 0 + _ ≤ _; exact Nat.le_of_eq rfl) (hb hby at_45) (fun _ _ => ⟨rfl, e85, (by decide : 1 + 0 ≤ _), (by decide : 2 + 0 ≤ _)⟩)
    dsimp only [Pt.U, Pt.locs, Pt.cells, Pt.slots] at X87 l87 y87 z87 st87 hQ87
    rw [y87, z87] at X87
    obtain ⟨rfl, Nq87, e87⟩ := hQ87
    have N87 : Fr n0 L87 := by rw [l87]; exact Fr.app N85 Nq87
    have K87 : own_K p e below SE T87 (mkF m 48 #[.val (.int p0), .val (.long q1), .second, .val (.int (2 : Int32)), .val (.ref b77), .unset, .unset, .unset] []) := fun t k => K86 _ (st87 _ k)
    have K88 : own_K p e below SE T87 (mkF m 52 #[.val (.int p0), .val (.long q1), .second, .val (.int (2 : Int32)), .val (.ref b77), .unset, .unset, .unset] [(.long q1), (.int (5 : Int32)), (.ref b77)]) := by
      intro t k
      refine K87 _ ?_
      refine XS.aload X87.here hx rfl (hb hby at_48) rfl rfl ?_
      show own_S p e below T87 (mkF m 50 #[.val (.int p0), .val (.long q1), .second, .val (.int (2 : Int32)), .val (.ref b77), .unset, .unset, .unset] [(.ref b77)]) _
      refine XS.iconst X87.here hx rfl (hb hby at_50) ?_
      show own_S p e below T87 (mkF m 51 #[.val (.int p0), .val (.long q1), .second, .val (.int (2 : Int32)), .val (.ref b77), .unset, .unset, .unset] [(.int (5 : Int32)), (.ref b77)]) _
      refine XS.lloadN X87.here hx rfl (hb hby at_51) rfl ?_
      exact k
    obtain ⟨_, _, ⟨T89, L89, k89, n89⟩, -, X89, ⟨Lc89, hQ89, l89, y89, z89⟩, st89⟩ := Jvm.LawKit.callS X87 hx (y := (⟨"com/example/whorl/whorl/Base64urlTextPinLaw", "put", "([BIJ)V"⟩ : MethodName)) hown (mvT hZ (hw _ (List.mem_of_getElem? (i := 2) rfl))) (mvT hZ (hw _ (List.mem_of_getElem? (i := 3) rfl))) (mvT hZ (hw _ (List.mem_of_getElem? (i := 4) rfl))) (mvT hZ (hw _ (List.mem_of_getElem? (i := 5) rfl))) (by decide) (backOf (W := 0) (rm1n l Z a0 hw [] b77 (5 : Int32) q1 k77 (2 : Int32) _ T81.heap n0 (Nat.le_trans Z0 Kp81.1) Vr81 (by decide)) hZ (hw _ (List.mem_of_getElem? (i := 5) rfl)) (hw _ (List.mem_of_getElem? (i := 4) rfl)) (by decide) (by decide)) (g := (mkF m 52 #[.val (.int p0), .val (.long q1), .second, .val (.int (2 : Int32)), .val (.ref b77), .unset, .unset, .unset] [(.long q1), (.int (5 : Int32)), (.ref b77)])) rfl (by rw [hml]; rfl) (argsL := [(.ref b77), (.int (5 : Int32)), (.long q1)]) (rest := []) (lenOf pd_0_0 rfl) rfl (by show 2 * 0 + _ ≤ _; exact Nat.le_of_eq rfl) (hb hby at_52) (fun _ _ => ⟨rfl, e87, (by decide : 1 + 0 ≤ _), (by decide : 2 + 0 ≤ _)⟩)
    dsimp only [Pt.U, Pt.locs, Pt.cells, Pt.slots] at X89 l89 y89 z89 st89 hQ89
    rw [y89, z89] at X89
    obtain ⟨rfl, Nq89, e89⟩ := hQ89
    have N89 : Fr n0 L89 := by rw [l89]; exact Fr.app N87 Nq89
    have K89 : own_K p e below SE T89 (mkF m 55 #[.val (.int p0), .val (.long q1), .second, .val (.int (2 : Int32)), .val (.ref b77), .unset, .unset, .unset] []) := fun t k => K88 _ (st89 _ k)
    have K90 : own_K p e below SE T89 (mkF m 57 #[.val (.int p0), .val (.long q1), .second, .val (.int (2 : Int32)), .val (.ref b77), .unset, .unset, .unset] [(.ref b77)]) := by
      intro t k
      refine K89 _ ?_
      refine XS.aload X89.here hx rfl (hb hby at_55) rfl rfl ?_
      exact k
    obtain ⟨_, _, ⟨T91, L91, k91, n91⟩, -, X91, ⟨Lc91, hQ91, l91, y91, z91⟩, st91⟩ := Jvm.LawKit.callS X89 hx (y := (⟨"com/example/whorl/whorl/Base64url", "text", "([B)[B"⟩ : MethodName)) hown (mvT hZ (hw _ (List.mem_of_getElem? (i := 6) rfl))) (mvT hZ (hw _ (List.mem_of_getElem? (i := 7) rfl))) (mvT hZ (hw _ (List.mem_of_getElem? (i := 8) rfl))) (mvT hZ (hw _ (List.mem_of_getElem? (i := 9) rfl))) (by decide) (backOf (W := 0) (rm2_2 l Z a0 hw [] b77 k77 oAL cA ub0 ub1 T81.heap n0 (Nat.le_trans Z0 Kp81.1) Vr81 (SA.ext (own_ext Kp81)) (TA.ext (own_ext Kp81))) hZ (hw _ (List.mem_of_getElem? (i := 9) rfl)) (hw _ (List.mem_of_getElem? (i := 8) rfl)) (by decide) (by decide)) (g := (mkF m 57 #[.val (.int p0), .val (.long q1), .second, .val (.int (2 : Int32)), .val (.ref b77), .unset, .unset, .unset] [(.ref b77)])) rfl (by rw [hml]; rfl) (argsL := [(.ref b77)]) (rest := []) (lenOf pd_0_1 rfl) rfl (by show 2 * 0 + _ ≤ _; exact Nat.le_of_eq rfl) (hb hby at_57) (fun _ _ => ⟨rfl, e89, (by decide : 1 + 1 ≤ _), (by decide : 2 + 3 ≤ _)⟩)
    dsimp only [Pt.U, Pt.locs, Pt.cells, Pt.slots] at X91 l91 y91 z91 st91 hQ91
    rw [y91, z91] at X91
    obtain ⟨rfl, Nq91, Kq91, VT91⟩ := hQ91
    have N91 : Fr n0 L91 := by rw [l91]; exact Fr.app N89 Nq91
    have Kp91 : Keep h0 T91.heap [] := Keep.trans Kp81 Kq91 all0
    have K91 : own_K p e below SE T91 (mkF m 60 #[.val (.int p0), .val (.long q1), .second, .val (.int (2 : Int32)), .val (.ref b77), .unset, .unset, .unset] [(.ref T81.heap.size)]) := fun t k => K90 _ (st91 _ k)
    obtain ⟨kT, VT⟩ := VT91
    obtain ⟨bt, gbt⟩ : ∃ z, z = T81.heap.size := ⟨_, rfl⟩
    rw [← gbt] at K91 VT
    have K92 : own_K p e below SE T91 (mkF m 65 #[.val (.int p0), .val (.long q1), .second, .val (.int (2 : Int32)), .val (.ref b77), .val (.ref bt), .unset, .unset] [(.int ((2 : Int32) % (3 : Int32)))]) := by
      intro t k
      refine K91 _ ?_
      refine XS.astore X91.here hx rfl (hb hby at_60) rfl rfl (l' := #[.val (.int p0), .val (.long q1), .second, .val (.int (2 : Int32)), .val (.ref b77), .val (.ref bt), .unset, .unset]) rfl ?_
      show own_S p e below T91 (mkF m 62 #[.val (.int p0), .val (.long q1), .second, .val (.int (2 : Int32)), .val (.ref b77), .val (.ref bt), .unset, .unset] []) _
      refine XS.iloadN X91.here hx rfl (hb hby at_62) rfl ?_
      show own_S p e below T91 (mkF m 63 #[.val (.int p0), .val (.long q1), .second, .val (.int (2 : Int32)), .val (.ref b77), .val (.ref bt), .unset, .unset] [(.int (2 : Int32))]) _
      refine XS.iconst X91.here hx rfl (hb hby at_63) ?_
      show own_S p e below T91 (mkF m 64 #[.val (.int p0), .val (.long q1), .second, .val (.int (2 : Int32)), .val (.ref b77), .val (.ref bt), .unset, .unset] [(.int (3 : Int32)), (.int (2 : Int32))]) _
      refine iremM X91 hx rfl (hb hby at_64) rfl (by decide) ?_
      exact k
    rw [(by decide : ((2 : Int32) % (3 : Int32)) = (2 : Int32))] at K92
    have K93 : own_K p e below SE T91 (mkF m 70 #[.val (.int p0), .val (.long q1), .second, .val (.int (2 : Int32)), .val (.ref b77), .val (.ref bt), .val (.int (2 : Int32)), .unset] [(.int ((2 : Int32) / (3 : Int32)))]) := by
      intro t k
      refine K92 _ ?_
      refine XS.istore X91.here hx rfl (hb hby at_65) rfl (l' := #[.val (.int p0), .val (.long q1), .second, .val (.int (2 : Int32)), .val (.ref b77), .val (.ref bt), .val (.int (2 : Int32)), .unset]) rfl ?_
      show own_S p e below T91 (mkF m 67 #[.val (.int p0), .val (.long q1), .second, .val (.int (2 : Int32)), .val (.ref b77), .val (.ref bt), .val (.int (2 : Int32)), .unset] []) _
      refine XS.iloadN X91.here hx rfl (hb hby at_67) rfl ?_
      show own_S p e below T91 (mkF m 68 #[.val (.int p0), .val (.long q1), .second, .val (.int (2 : Int32)), .val (.ref b77), .val (.ref bt), .val (.int (2 : Int32)), .unset] [(.int (2 : Int32))]) _
      refine XS.iconst X91.here hx rfl (hb hby at_68) ?_
      show own_S p e below T91 (mkF m 69 #[.val (.int p0), .val (.long q1), .second, .val (.int (2 : Int32)), .val (.ref b77), .val (.ref bt), .val (.int (2 : Int32)), .unset] [(.int (3 : Int32)), (.int (2 : Int32))]) _
      refine XS.idiv X91.here hx rfl (hb hby at_69) rfl (by decide) ?_
      exact k
    rw [(by decide : ((2 : Int32) / (3 : Int32)) = (0 : Int32))] at K93
    have K94 : own_K p e below SE T91 (mkF m 90 #[.val (.int p0), .val (.long q1), .second, .val (.int (2 : Int32)), .val (.ref b77), .val (.ref bt), .val (.int (2 : Int32)), .val (.int (3 : Int32))] [(.ref bt)]) := by
      intro t k
      refine K93 _ ?_
      refine XS.iconst X91.here hx rfl (hb hby at_70) ?_
      show own_S p e below T91 (mkF m 71 #[.val (.int p0), .val (.long q1), .second, .val (.int (2 : Int32)), .val (.ref b77), .val (.ref bt), .val (.int (2 : Int32)), .unset] [(.int (4 : Int32)), (.int (0 : Int32))]) _
      refine XS.imul X91.here hx rfl (hb hby at_71) rfl ?_
      show own_S p e below T91 (mkF m 72 #[.val (.int p0), .val (.long q1), .second, .val (.int (2 : Int32)), .val (.ref b77), .val (.ref bt), .val (.int (2 : Int32)), .unset] [(.int (0 : Int32))]) _
      refine XS.iload X91.here hx rfl (hb hby at_72) rfl ?_
      show own_S p e below T91 (mkF m 74 #[.val (.int p0), .val (.long q1), .second, .val (.int (2 : Int32)), .val (.ref b77), .val (.ref bt), .val (.int (2 : Int32)), .unset] [(.int (2 : Int32)), (.int (0 : Int32))]) _
      refine XS.ifYes X91.here hx rfl (pc0 := 74) (pc' := 81) rfl (hb hby at_74) rfl (XT.i0_ne_t (by decide : ¬ ((2 : Int32) = 0))) (by decide) (by decide) ?_
      show own_S p e below T91 (mkF m 81 #[.val (.int p0), .val (.long q1), .second, .val (.int (2 : Int32)), .val (.ref b77), .val (.ref bt), .val (.int (2 : Int32)), .unset] [(.int (0 : Int32))]) _
      refine XS.iload X91.here hx rfl (hb hby at_81) rfl ?_
      show own_S p e below T91 (mkF m 83 #[.val (.int p0), .val (.long q1), .second, .val (.int (2 : Int32)), .val (.ref b77), .val (.ref bt), .val (.int (2 : Int32)), .unset] [(.int (2 : Int32)), (.int (0 : Int32))]) _
      refine XS.iconst X91.here hx rfl (hb hby at_83) ?_
      show own_S p e below T91 (mkF m 84 #[.val (.int p0), .val (.long q1), .second, .val (.int (2 : Int32)), .val (.ref b77), .val (.ref bt), .val (.int (2 : Int32)), .unset] [(.int (1 : Int32)), (.int (2 : Int32)), (.int (0 : Int32))]) _
      refine XS.iadd X91.here hx rfl (hb hby at_84) rfl ?_
      show own_S p e below T91 (mkF m 85 #[.val (.int p0), .val (.long q1), .second, .val (.int (2 : Int32)), .val (.ref b77), .val (.ref bt), .val (.int (2 : Int32)), .unset] [(.int (3 : Int32)), (.int (0 : Int32))]) _
      refine XS.iadd X91.here hx rfl (hb hby at_85) rfl ?_
      show own_S p e below T91 (mkF m 86 #[.val (.int p0), .val (.long q1), .second, .val (.int (2 : Int32)), .val (.ref b77), .val (.ref bt), .val (.int (2 : Int32)), .unset] [(.int (3 : Int32))]) _
      refine XS.istore X91.here hx rfl (hb hby at_86) rfl (l' := #[.val (.int p0), .val (.long q1), .second, .val (.int (2 : Int32)), .val (.ref b77), .val (.ref bt), .val (.int (2 : Int32)), .val (.int (3 : Int32))]) rfl ?_
      show own_S p e below T91 (mkF m 88 #[.val (.int p0), .val (.long q1), .second, .val (.int (2 : Int32)), .val (.ref b77), .val (.ref bt), .val (.int (2 : Int32)), .val (.int (3 : Int32))] []) _
      refine XS.aload X91.here hx rfl (hb hby at_88) rfl rfl ?_
      exact k
    obtain ⟨cl95, Ar95, -, S95, Ng95, -, -⟩ := id VT
    have K96 : own_K p e below SE T91 (mkF m 103 #[.val (.int p0), .val (.long q1), .second, .val (.int (2 : Int32)), .val (.ref b77), .val (.ref bt), .val (.int (2 : Int32)), .val (.int (3 : Int32))] [(.long q1), (.int (2 : Int32)), (.int (0 : Int32)), (.ref bt)]) := by
      intro t k
      refine K94 _ ?_
      refine X91.arraylength hx Ar95.1 (State.isArrayOf_alike hZ.alike Ar95.2.1) (g := (mkF m 90 #[.val (.int p0), .val (.long q1), .second, .val (.int (2 : Int32)), .val (.ref b77), .val (.ref bt), .val (.int (2 : Int32)), .val (.int (3 : Int32))] [(.ref bt)])) rfl rfl (hb hby at_90) _ ?_
      rw [len_of S95 Ng95]
      show own_S p e below T91 (mkF m 91 #[.val (.int p0), .val (.long q1), .second, .val (.int (2 : Int32)), .val (.ref b77), .val (.ref bt), .val (.int (2 : Int32)), .val (.int (3 : Int32))] [(.int (3 : Int32))]) _
      refine XS.iload X91.here hx rfl (hb hby at_91) rfl ?_
      show own_S p e below T91 (mkF m 93 #[.val (.int p0), .val (.long q1), .second, .val (.int (2 : Int32)), .val (.ref b77), .val (.ref bt), .val (.int (2 : Int32)), .val (.int (3 : Int32))] [(.int (3 : Int32)), (.int (3 : Int32))]) _
      refine XS.icmpYes X91.here hx rfl (pc0 := 93) (pc' := 98) rfl (hb hby at_93) rfl (XT.ii_eq_t (by decide : (3 : Int32) = (3 : Int32))) (by decide) (by decide) ?_
      show own_S p e below T91 (mkF m 98 #[.val (.int p0), .val (.long q1), .second, .val (.int (2 : Int32)), .val (.ref b77), .val (.ref bt), .val (.int (2 : Int32)), .val (.int (3 : Int32))] []) _
      refine XS.aload X91.here hx rfl (hb hby at_98) rfl rfl ?_
      show own_S p e below T91 (mkF m 100 #[.val (.int p0), .val (.long q1), .second, .val (.int (2 : Int32)), .val (.ref b77), .val (.ref bt), .val (.int (2 : Int32)), .val (.int (3 : Int32))] [(.ref bt)]) _
      refine XS.iconst X91.here hx rfl (hb hby at_100) ?_
      show own_S p e below T91 (mkF m 101 #[.val (.int p0), .val (.long q1), .second, .val (.int (2 : Int32)), .val (.ref b77), .val (.ref bt), .val (.int (2 : Int32)), .val (.int (3 : Int32))] [(.int (0 : Int32)), (.ref bt)]) _
      refine XS.iloadN X91.here hx rfl (hb hby at_101) rfl ?_
      show own_S p e below T91 (mkF m 102 #[.val (.int p0), .val (.long q1), .second, .val (.int (2 : Int32)), .val (.ref b77), .val (.ref bt), .val (.int (2 : Int32)), .val (.int (3 : Int32))] [(.int (2 : Int32)), (.int (0 : Int32)), (.ref bt)]) _
      refine XS.lloadN X91.here hx rfl (hb hby at_102) rfl ?_
      exact k
    have sx0 : (((((ub0 &&& (255 : Int32)) <<< ((16 : Int32) &&& 31)) ||| ((ub1 &&& (255 : Int32)) <<< ((8 : Int32) &&& 31))).toUInt32 >>> ((18 : Int32) &&& 31).toUInt32).toInt32) = own_sx q1 (2 : Int32) ((0 : Int32) / (4 : Int32)) ((0 : Int32) % (4 : Int32)) := by
      have h1 := own_i0 _ _ _ _ (own_m255 ub0) (own_m255 ub1) (own_r0) (own_x2i ub0 ub1)
      have o0 : (ub0 &&& (255 : Int32)) = own_oct q1 (0 : Int32) (2 : Int32) := by rw [hub0]; exact own_eo q1 (0 : Int32) (2 : Int32) (by decide)
      have o1 : (ub1 &&& (255 : Int32)) = own_oct q1 (1 : Int32) (2 : Int32) := by rw [hub1]; exact own_eo q1 (1 : Int32) (2 : Int32) (by decide)
      have o2 : (0 : Int32) = own_oct q1 (2 : Int32) (2 : Int32) := by unfold own_oct; rw [if_neg (by decide)]
      rw [h1]
      unfold own_sx
      rw [show ((0 : Int32) / (4 : Int32)) = (0 : Int32) by decide, show ((0 : Int32) % (4 : Int32)) = (0 : Int32) by decide, show ((3 : Int32) * (0 : Int32)) = (0 : Int32) by decide, show ((0 : Int32) + (1 : Int32)) = (1 : Int32) by decide, show ((0 : Int32) + (2 : Int32)) = (2 : Int32) by decide]
      rw [if_pos (by decide), ← o0]
    have ck0 : ¬ (if (atv cA (((((ub0 &&& (255 : Int32)) <<< ((16 : Int32) &&& 31)) ||| ((ub1 &&& (255 : Int32)) <<< ((8 : Int32) &&& 31))).toUInt32 >>> ((18 : Int32) &&& 31).toUInt32).toInt32)).toInt8.toInt32 = ((own_ch (own_sx q1 (2 : Int32) ((0 : Int32) / (4 : Int32)) ((0 : Int32) % (4 : Int32))))).toInt8.toInt32 then (1 : Int32) else (0 : Int32)) = 0 := own_one (own_chk hAL (own_b18 _ (own_xb (own_m255 _) (own_m255 _) own_r0 (own_x2i ub0 ub1))) sx0)
    obtain ⟨_, _, ⟨T97, L97, k97, n97⟩, -, X97, ⟨Lc97, hQ97, l97, y97, z97⟩, st97⟩ := Jvm.LawKit.callS X91 hx (y := (⟨"com/example/whorl/whorl/Base64urlTextPinLaw", "chk", "([BIIJ)Z"⟩ : MethodName)) hown (mvT hZ (hw _ (List.mem_of_getElem? (i := 13) rfl))) (mvT hZ (hw _ (List.mem_of_getElem? (i := 14) rfl))) (mvT hZ (hw _ (List.mem_of_getElem? (i := 4) rfl))) (mvT hZ (hw _ (List.mem_of_getElem? (i := 15) rfl))) (by decide) (backOf (W := 0) (rm3y l Z a0 hw [] bt (0 : Int32) (2 : Int32) q1 kT (3 : Int32) _ ((atv cA (((((ub0 &&& (255 : Int32)) <<< ((16 : Int32) &&& 31)) ||| ((ub1 &&& (255 : Int32)) <<< ((8 : Int32) &&& 31))).toUInt32 >>> ((18 : Int32) &&& 31).toUInt32).toInt32)).toInt8.toInt32) T91.heap n0 (Nat.le_trans Z0 Kp91.1) VT (by decide) (by decide) rfl) hZ (hw _ (List.mem_of_getElem? (i := 15) rfl)) (hw _ (List.mem_of_getElem? (i := 4) rfl)) (by decide) (by decide)) (g := (mkF m 103 #[.val (.int p0), .val (.long q1), .second, .val (.int (2 : Int32)), .val (.ref b77), .val (.ref bt), .val (.int (2 : Int32)), .val (.int (3 : Int32))] [(.long q1), (.int (2 : Int32)), (.int (0 : Int32)), (.ref bt)])) rfl (by rw [hml]; rfl) (argsL := [(.ref bt), (.int (0 : Int32)), (.int (2 : Int32)), (.long q1)]) (rest := []) (lenOf pd_0_2 rfl) rfl (by show 2 * 0 + _ ≤ _; exact Nat.le_of_eq rfl) (hb hby at_103) (fun _ _ => ⟨rfl, rfl, (by decide : 2 + 0 ≤ _), (by decide : 5 + 0 ≤ _)⟩)
    dsimp only [Pt.U, Pt.locs, Pt.cells, Pt.slots] at X97 l97 y97 z97 st97 hQ97
    rw [y97, z97] at X97
    obtain ⟨rfl, Nq97, e97⟩ := hQ97
    have N97 : Fr n0 L97 := by rw [l97]; exact Fr.app N91 Nq97
    have K97 : own_K p e below SE T97 (mkF m 106 #[.val (.int p0), .val (.long q1), .second, .val (.int (2 : Int32)), .val (.ref b77), .val (.ref bt), .val (.int (2 : Int32)), .val (.int (3 : Int32))] [(.int (if (atv cA (((((ub0 &&& (255 : Int32)) <<< ((16 : Int32) &&& 31)) ||| ((ub1 &&& (255 : Int32)) <<< ((8 : Int32) &&& 31))).toUInt32 >>> ((18 : Int32) &&& 31).toUInt32).toInt32)).toInt8.toInt32 = ((own_ch (own_sx q1 (2 : Int32) ((0 : Int32) / (4 : Int32)) ((0 : Int32) % (4 : Int32))))).toInt8.toInt32 then (1 : Int32) else (0 : Int32)))]) := fun t k => K96 _ (st97 _ k)
    have K98 : own_K p e below SE T97 (mkF m 114 #[.val (.int p0), .val (.long q1), .second, .val (.int (2 : Int32)), .val (.ref b77), .val (.ref bt), .val (.int (2 : Int32)), .val (.int (3 : Int32))] [(.long q1), (.int (2 : Int32)), (.int (1 : Int32)), (.ref bt)]) := by
      intro t k
      refine K97 _ ?_
      refine XS.ifNo X97.here hx rfl (hb hby at_106) rfl (XT.i0_eq_f ck0) ?_
      show own_S p e below T97 (mkF m 109 #[.val (.int p0), .val (.long q1), .second, .val (.int (2 : Int32)), .val (.ref b77), .val (.ref bt), .val (.int (2 : Int32)), .val (.int (3 : Int32))] []) _
      refine XS.aload X97.here hx rfl (hb hby at_109) rfl rfl ?_
      show own_S p e below T97 (mkF m 111 #[.val (.int p0), .val (.long q1), .second, .val (.int (2 : Int32)), .val (.ref b77), .val (.ref bt), .val (.int (2 : Int32)), .val (.int (3 : Int32))] [(.ref bt)]) _
      refine XS.iconst X97.here hx rfl (hb hby at_111) ?_
      show own_S p e below T97 (mkF m 112 #[.val (.int p0), .val (.long q1), .second, .val (.int (2 : Int32)), .val (.ref b77), .val (.ref bt), .val (.int (2 : Int32)), .val (.int (3 : Int32))] [(.int (1 : Int32)), (.ref bt)]) _
      refine XS.iloadN X97.here hx rfl (hb hby at_112) rfl ?_
      show own_S p e below T97 (mkF m 113 #[.val (.int p0), .val (.long q1), .second, .val (.int (2 : Int32)), .val (.ref b77), .val (.ref bt), .val (.int (2 : Int32)), .val (.int (3 : Int32))] [(.int (2 : Int32)), (.int (1 : Int32)), (.ref bt)]) _
      refine XS.lloadN X97.here hx rfl (hb hby at_113) rfl ?_
      exact k
    have sx1 : ((((((ub0 &&& (255 : Int32)) <<< ((16 : Int32) &&& 31)) ||| ((ub1 &&& (255 : Int32)) <<< ((8 : Int32) &&& 31))).toUInt32 >>> ((12 : Int32) &&& 31).toUInt32).toInt32) &&& (63 : Int32)) = own_sx q1 (2 : Int32) ((1 : Int32) / (4 : Int32)) ((1 : Int32) % (4 : Int32)) := by
      have h1 := own_i1 _ _ _ _ (own_m255 ub0) (own_m255 ub1) (own_r0) (own_x2i ub0 ub1)
      have o0 : (ub0 &&& (255 : Int32)) = own_oct q1 (0 : Int32) (2 : Int32) := by rw [hub0]; exact own_eo q1 (0 : Int32) (2 : Int32) (by decide)
      have o1 : (ub1 &&& (255 : Int32)) = own_oct q1 (1 : Int32) (2 : Int32) := by rw [hub1]; exact own_eo q1 (1 : Int32) (2 : Int32) (by decide)
      have o2 : (0 : Int32) = own_oct q1 (2 : Int32) (2 : Int32) := by unfold own_oct; rw [if_neg (by decide)]
      rw [h1]
      unfold own_sx
      rw [show ((1 : Int32) / (4 : Int32)) = (0 : Int32) by decide, show ((1 : Int32) % (4 : Int32)) = (1 : Int32) by decide, show ((3 : Int32) * (0 : Int32)) = (0 : Int32) by decide, show ((0 : Int32) + (1 : Int32)) = (1 : Int32) by decide, show ((0 : Int32) + (2 : Int32)) = (2 : Int32) by decide]
      rw [if_neg (by decide), if_pos (by decide), ← o0, ← o1]
    have ck1 : ¬ (if (atv cA ((((((ub0 &&& (255 : Int32)) <<< ((16 : Int32) &&& 31)) ||| ((ub1 &&& (255 : Int32)) <<< ((8 : Int32) &&& 31))).toUInt32 >>> ((12 : Int32) &&& 31).toUInt32).toInt32) &&& (63 : Int32))).toInt8.toInt32 = ((own_ch (own_sx q1 (2 : Int32) ((1 : Int32) / (4 : Int32)) ((1 : Int32) % (4 : Int32))))).toInt8.toInt32 then (1 : Int32) else (0 : Int32)) = 0 := own_one (own_chk hAL (own_b63 _) sx1)
    obtain ⟨_, _, ⟨T99, L99, k99, n99⟩, -, X99, ⟨Lc99, hQ99, l99, y99, z99⟩, st99⟩ := Jvm.LawKit.callS X97 hx (y := (⟨"com/example/whorl/whorl/Base64urlTextPinLaw", "chk", "([BIIJ)Z"⟩ : MethodName)) hown (mvT hZ (hw _ (List.mem_of_getElem? (i := 13) rfl))) (mvT hZ (hw _ (List.mem_of_getElem? (i := 14) rfl))) (mvT hZ (hw _ (List.mem_of_getElem? (i := 4) rfl))) (mvT hZ (hw _ (List.mem_of_getElem? (i := 15) rfl))) (by decide) (backOf (W := 0) (rm3y l Z a0 hw [] bt (1 : Int32) (2 : Int32) q1 kT (3 : Int32) _ ((atv cA ((((((ub0 &&& (255 : Int32)) <<< ((16 : Int32) &&& 31)) ||| ((ub1 &&& (255 : Int32)) <<< ((8 : Int32) &&& 31))).toUInt32 >>> ((12 : Int32) &&& 31).toUInt32).toInt32) &&& (63 : Int32))).toInt8.toInt32) T91.heap n0 (Nat.le_trans Z0 Kp91.1) VT (by decide) (by decide) rfl) hZ (hw _ (List.mem_of_getElem? (i := 15) rfl)) (hw _ (List.mem_of_getElem? (i := 4) rfl)) (by decide) (by decide)) (g := (mkF m 114 #[.val (.int p0), .val (.long q1), .second, .val (.int (2 : Int32)), .val (.ref b77), .val (.ref bt), .val (.int (2 : Int32)), .val (.int (3 : Int32))] [(.long q1), (.int (2 : Int32)), (.int (1 : Int32)), (.ref bt)])) rfl (by rw [hml]; rfl) (argsL := [(.ref bt), (.int (1 : Int32)), (.int (2 : Int32)), (.long q1)]) (rest := []) (lenOf pd_0_2 rfl) rfl (by show 2 * 0 + _ ≤ _; exact Nat.le_of_eq rfl) (hb hby at_114) (fun _ _ => ⟨rfl, e97, (by decide : 2 + 0 ≤ _), (by decide : 5 + 0 ≤ _)⟩)
    dsimp only [Pt.U, Pt.locs, Pt.cells, Pt.slots] at X99 l99 y99 z99 st99 hQ99
    rw [y99, z99] at X99
    obtain ⟨rfl, Nq99, e99⟩ := hQ99
    have N99 : Fr n0 L99 := by rw [l99]; exact Fr.app N97 Nq99
    have K99 : own_K p e below SE T99 (mkF m 117 #[.val (.int p0), .val (.long q1), .second, .val (.int (2 : Int32)), .val (.ref b77), .val (.ref bt), .val (.int (2 : Int32)), .val (.int (3 : Int32))] [(.int (if (atv cA ((((((ub0 &&& (255 : Int32)) <<< ((16 : Int32) &&& 31)) ||| ((ub1 &&& (255 : Int32)) <<< ((8 : Int32) &&& 31))).toUInt32 >>> ((12 : Int32) &&& 31).toUInt32).toInt32) &&& (63 : Int32))).toInt8.toInt32 = ((own_ch (own_sx q1 (2 : Int32) ((1 : Int32) / (4 : Int32)) ((1 : Int32) % (4 : Int32))))).toInt8.toInt32 then (1 : Int32) else (0 : Int32)))]) := fun t k => K98 _ (st99 _ k)
    have K100 : own_K p e below SE T99 (mkF m 125 #[.val (.int p0), .val (.long q1), .second, .val (.int (2 : Int32)), .val (.ref b77), .val (.ref bt), .val (.int (2 : Int32)), .val (.int (3 : Int32))] [(.long q1), (.int (2 : Int32)), (.int (2 : Int32)), (.ref bt)]) := by
      intro t k
      refine K99 _ ?_
      refine XS.ifNo X99.here hx rfl (hb hby at_117) rfl (XT.i0_eq_f ck1) ?_
      show own_S p e below T99 (mkF m 120 #[.val (.int p0), .val (.long q1), .second, .val (.int (2 : Int32)), .val (.ref b77), .val (.ref bt), .val (.int (2 : Int32)), .val (.int (3 : Int32))] []) _
      refine XS.aload X99.here hx rfl (hb hby at_120) rfl rfl ?_
      show own_S p e below T99 (mkF m 122 #[.val (.int p0), .val (.long q1), .second, .val (.int (2 : Int32)), .val (.ref b77), .val (.ref bt), .val (.int (2 : Int32)), .val (.int (3 : Int32))] [(.ref bt)]) _
      refine XS.iconst X99.here hx rfl (hb hby at_122) ?_
      show own_S p e below T99 (mkF m 123 #[.val (.int p0), .val (.long q1), .second, .val (.int (2 : Int32)), .val (.ref b77), .val (.ref bt), .val (.int (2 : Int32)), .val (.int (3 : Int32))] [(.int (2 : Int32)), (.ref bt)]) _
      refine XS.iloadN X99.here hx rfl (hb hby at_123) rfl ?_
      show own_S p e below T99 (mkF m 124 #[.val (.int p0), .val (.long q1), .second, .val (.int (2 : Int32)), .val (.ref b77), .val (.ref bt), .val (.int (2 : Int32)), .val (.int (3 : Int32))] [(.int (2 : Int32)), (.int (2 : Int32)), (.ref bt)]) _
      refine XS.lloadN X99.here hx rfl (hb hby at_124) rfl ?_
      exact k
    have sx2 : ((((((ub0 &&& (255 : Int32)) <<< ((16 : Int32) &&& 31)) ||| ((ub1 &&& (255 : Int32)) <<< ((8 : Int32) &&& 31))).toUInt32 >>> ((6 : Int32) &&& 31).toUInt32).toInt32) &&& (63 : Int32)) = own_sx q1 (2 : Int32) ((2 : Int32) / (4 : Int32)) ((2 : Int32) % (4 : Int32)) := by
      have h1 := own_i2 _ _ _ _ (own_m255 ub0) (own_m255 ub1) (own_r0) (own_x2i ub0 ub1)
      have o0 : (ub0 &&& (255 : Int32)) = own_oct q1 (0 : Int32) (2 : Int32) := by rw [hub0]; exact own_eo q1 (0 : Int32) (2 : Int32) (by decide)
      have o1 : (ub1 &&& (255 : Int32)) = own_oct q1 (1 : Int32) (2 : Int32) := by rw [hub1]; exact own_eo q1 (1 : Int32) (2 : Int32) (by decide)
      have o2 : (0 : Int32) = own_oct q1 (2 : Int32) (2 : Int32) := by unfold own_oct; rw [if_neg (by decide)]
      rw [h1]
      unfold own_sx
      rw [show ((2 : Int32) / (4 : Int32)) = (0 : Int32) by decide, show ((2 : Int32) % (4 : Int32)) = (2 : Int32) by decide, show ((3 : Int32) * (0 : Int32)) = (0 : Int32) by decide, show ((0 : Int32) + (1 : Int32)) = (1 : Int32) by decide, show ((0 : Int32) + (2 : Int32)) = (2 : Int32) by decide]
      rw [if_neg (by decide), if_neg (by decide), if_pos (by decide), ← o1, ← o2]
    have ck2 : ¬ (if (atv cA ((((((ub0 &&& (255 : Int32)) <<< ((16 : Int32) &&& 31)) ||| ((ub1 &&& (255 : Int32)) <<< ((8 : Int32) &&& 31))).toUInt32 >>> ((6 : Int32) &&& 31).toUInt32).toInt32) &&& (63 : Int32))).toInt8.toInt32 = ((own_ch (own_sx q1 (2 : Int32) ((2 : Int32) / (4 : Int32)) ((2 : Int32) % (4 : Int32))))).toInt8.toInt32 then (1 : Int32) else (0 : Int32)) = 0 := own_one (own_chk hAL (own_b63 _) sx2)
    obtain ⟨_, _, ⟨T101, L101, k101, n101⟩, -, X101, ⟨Lc101, hQ101, l101, y101, z101⟩, st101⟩ := Jvm.LawKit.callS X99 hx (y := (⟨"com/example/whorl/whorl/Base64urlTextPinLaw", "chk", "([BIIJ)Z"⟩ : MethodName)) hown (mvT hZ (hw _ (List.mem_of_getElem? (i := 13) rfl))) (mvT hZ (hw _ (List.mem_of_getElem? (i := 14) rfl))) (mvT hZ (hw _ (List.mem_of_getElem? (i := 4) rfl))) (mvT hZ (hw _ (List.mem_of_getElem? (i := 15) rfl))) (by decide) (backOf (W := 0) (rm3y l Z a0 hw [] bt (2 : Int32) (2 : Int32) q1 kT (3 : Int32) _ ((atv cA ((((((ub0 &&& (255 : Int32)) <<< ((16 : Int32) &&& 31)) ||| ((ub1 &&& (255 : Int32)) <<< ((8 : Int32) &&& 31))).toUInt32 >>> ((6 : Int32) &&& 31).toUInt32).toInt32) &&& (63 : Int32))).toInt8.toInt32) T91.heap n0 (Nat.le_trans Z0 Kp91.1) VT (by decide) (by decide) rfl) hZ (hw _ (List.mem_of_getElem? (i := 15) rfl)) (hw _ (List.mem_of_getElem? (i := 4) rfl)) (by decide) (by decide)) (g := (mkF m 125 #[.val (.int p0), .val (.long q1), .second, .val (.int (2 : Int32)), .val (.ref b77), .val (.ref bt), .val (.int (2 : Int32)), .val (.int (3 : Int32))] [(.long q1), (.int (2 : Int32)), (.int (2 : Int32)), (.ref bt)])) rfl (by rw [hml]; rfl) (argsL := [(.ref bt), (.int (2 : Int32)), (.int (2 : Int32)), (.long q1)]) (rest := []) (lenOf pd_0_2 rfl) rfl (by show 2 * 0 + _ ≤ _; exact Nat.le_of_eq rfl) (hb hby at_125) (fun _ _ => ⟨rfl, e99, (by decide : 2 + 0 ≤ _), (by decide : 5 + 0 ≤ _)⟩)
    dsimp only [Pt.U, Pt.locs, Pt.cells, Pt.slots] at X101 l101 y101 z101 st101 hQ101
    rw [y101, z101] at X101
    obtain ⟨rfl, Nq101, e101⟩ := hQ101
    have N101 : Fr n0 L101 := by rw [l101]; exact Fr.app N99 Nq101
    have K101 : own_K p e below SE T101 (mkF m 128 #[.val (.int p0), .val (.long q1), .second, .val (.int (2 : Int32)), .val (.ref b77), .val (.ref bt), .val (.int (2 : Int32)), .val (.int (3 : Int32))] [(.int (if (atv cA ((((((ub0 &&& (255 : Int32)) <<< ((16 : Int32) &&& 31)) ||| ((ub1 &&& (255 : Int32)) <<< ((8 : Int32) &&& 31))).toUInt32 >>> ((6 : Int32) &&& 31).toUInt32).toInt32) &&& (63 : Int32))).toInt8.toInt32 = ((own_ch (own_sx q1 (2 : Int32) ((2 : Int32) / (4 : Int32)) ((2 : Int32) % (4 : Int32))))).toInt8.toInt32 then (1 : Int32) else (0 : Int32)))]) := fun t k => K100 _ (st101 _ k)
    have K102 : own_K p e below SE T101 (mkF m 136 #[.val (.int p0), .val (.long q1), .second, .val (.int (2 : Int32)), .val (.ref b77), .val (.ref bt), .val (.int (2 : Int32)), .val (.int (3 : Int32))] [(.long q1), (.int (2 : Int32)), (.int (3 : Int32)), (.ref bt)]) := by
      intro t k
      refine K101 _ ?_
      refine XS.ifNo X101.here hx rfl (hb hby at_128) rfl (XT.i0_eq_f ck2) ?_
      show own_S p e below T101 (mkF m 131 #[.val (.int p0), .val (.long q1), .second, .val (.int (2 : Int32)), .val (.ref b77), .val (.ref bt), .val (.int (2 : Int32)), .val (.int (3 : Int32))] []) _
      refine XS.aload X101.here hx rfl (hb hby at_131) rfl rfl ?_
      show own_S p e below T101 (mkF m 133 #[.val (.int p0), .val (.long q1), .second, .val (.int (2 : Int32)), .val (.ref b77), .val (.ref bt), .val (.int (2 : Int32)), .val (.int (3 : Int32))] [(.ref bt)]) _
      refine XS.iconst X101.here hx rfl (hb hby at_133) ?_
      show own_S p e below T101 (mkF m 134 #[.val (.int p0), .val (.long q1), .second, .val (.int (2 : Int32)), .val (.ref b77), .val (.ref bt), .val (.int (2 : Int32)), .val (.int (3 : Int32))] [(.int (3 : Int32)), (.ref bt)]) _
      refine XS.iloadN X101.here hx rfl (hb hby at_134) rfl ?_
      show own_S p e below T101 (mkF m 135 #[.val (.int p0), .val (.long q1), .second, .val (.int (2 : Int32)), .val (.ref b77), .val (.ref bt), .val (.int (2 : Int32)), .val (.int (3 : Int32))] [(.int (2 : Int32)), (.int (3 : Int32)), (.ref bt)]) _
      refine XS.lloadN X101.here hx rfl (hb hby at_135) rfl ?_
      exact k
    obtain ⟨_, _, ⟨T103, L103, k103, n103⟩, -, X103, ⟨Lc103, hQ103, l103, y103, z103⟩, st103⟩ := Jvm.LawKit.callS X101 hx (y := (⟨"com/example/whorl/whorl/Base64urlTextPinLaw", "chk", "([BIIJ)Z"⟩ : MethodName)) hown (mvT hZ (hw _ (List.mem_of_getElem? (i := 13) rfl))) (mvT hZ (hw _ (List.mem_of_getElem? (i := 14) rfl))) (mvT hZ (hw _ (List.mem_of_getElem? (i := 4) rfl))) (mvT hZ (hw _ (List.mem_of_getElem? (i := 15) rfl))) (by decide) (backOf (W := 0) (rm3n l Z a0 hw [] bt (3 : Int32) (2 : Int32) q1 kT (3 : Int32) _ T91.heap n0 (Nat.le_trans Z0 Kp91.1) VT (by decide)) hZ (hw _ (List.mem_of_getElem? (i := 15) rfl)) (hw _ (List.mem_of_getElem? (i := 4) rfl)) (by decide) (by decide)) (g := (mkF m 136 #[.val (.int p0), .val (.long q1), .second, .val (.int (2 : Int32)), .val (.ref b77), .val (.ref bt), .val (.int (2 : Int32)), .val (.int (3 : Int32))] [(.long q1), (.int (2 : Int32)), (.int (3 : Int32)), (.ref bt)])) rfl (by rw [hml]; rfl) (argsL := [(.ref bt), (.int (3 : Int32)), (.int (2 : Int32)), (.long q1)]) (rest := []) (lenOf pd_0_2 rfl) rfl (by show 2 * 0 + _ ≤ _; exact Nat.le_of_eq rfl) (hb hby at_136) (fun _ _ => ⟨rfl, e101, (by decide : 2 + 0 ≤ _), (by decide : 5 + 0 ≤ _)⟩)
    dsimp only [Pt.U, Pt.locs, Pt.cells, Pt.slots] at X103 l103 y103 z103 st103 hQ103
    rw [y103, z103] at X103
    obtain ⟨rfl, Nq103, e103⟩ := hQ103
    have N103 : Fr n0 L103 := by rw [l103]; exact Fr.app N101 Nq103
    have K103 : own_K p e below SE T103 (mkF m 139 #[.val (.int p0), .val (.long q1), .second, .val (.int (2 : Int32)), .val (.ref b77), .val (.ref bt), .val (.int (2 : Int32)), .val (.int (3 : Int32))] [(.int (1 : Int32))]) := fun t k => K102 _ (st103 _ k)
    have K104 : own_K p e below SE T103 (mkF m 147 #[.val (.int p0), .val (.long q1), .second, .val (.int (2 : Int32)), .val (.ref b77), .val (.ref bt), .val (.int (2 : Int32)), .val (.int (3 : Int32))] [(.long q1), (.int (2 : Int32)), (.int (4 : Int32)), (.ref bt)]) := by
      intro t k
      refine K103 _ ?_
      refine XS.ifNo X103.here hx rfl (hb hby at_139) rfl (XT.i0_eq_f (by decide : ¬ ((1 : Int32) = 0))) ?_
      show own_S p e below T103 (mkF m 142 #[.val (.int p0), .val (.long q1), .second, .val (.int (2 : Int32)), .val (.ref b77), .val (.ref bt), .val (.int (2 : Int32)), .val (.int (3 : Int32))] []) _
      refine XS.aload X103.here hx rfl (hb hby at_142) rfl rfl ?_
      show own_S p e below T103 (mkF m 144 #[.val (.int p0), .val (.long q1), .second, .val (.int (2 : Int32)), .val (.ref b77), .val (.ref bt), .val (.int (2 : Int32)), .val (.int (3 : Int32))] [(.ref bt)]) _
      refine XS.iconst X103.here hx rfl (hb hby at_144) ?_
      show own_S p e below T103 (mkF m 145 #[.val (.int p0), .val (.long q1), .second, .val (.int (2 : Int32)), .val (.ref b77), .val (.ref bt), .val (.int (2 : Int32)), .val (.int (3 : Int32))] [(.int (4 : Int32)), (.ref bt)]) _
      refine XS.iloadN X103.here hx rfl (hb hby at_145) rfl ?_
      show own_S p e below T103 (mkF m 146 #[.val (.int p0), .val (.long q1), .second, .val (.int (2 : Int32)), .val (.ref b77), .val (.ref bt), .val (.int (2 : Int32)), .val (.int (3 : Int32))] [(.int (2 : Int32)), (.int (4 : Int32)), (.ref bt)]) _
      refine XS.lloadN X103.here hx rfl (hb hby at_146) rfl ?_
      exact k
    obtain ⟨_, _, ⟨T105, L105, k105, n105⟩, -, X105, ⟨Lc105, hQ105, l105, y105, z105⟩, st105⟩ := Jvm.LawKit.callS X103 hx (y := (⟨"com/example/whorl/whorl/Base64urlTextPinLaw", "chk", "([BIIJ)Z"⟩ : MethodName)) hown (mvT hZ (hw _ (List.mem_of_getElem? (i := 13) rfl))) (mvT hZ (hw _ (List.mem_of_getElem? (i := 14) rfl))) (mvT hZ (hw _ (List.mem_of_getElem? (i := 4) rfl))) (mvT hZ (hw _ (List.mem_of_getElem? (i := 15) rfl))) (by decide) (backOf (W := 0) (rm3n l Z a0 hw [] bt (4 : Int32) (2 : Int32) q1 kT (3 : Int32) _ T91.heap n0 (Nat.le_trans Z0 Kp91.1) VT (by decide)) hZ (hw _ (List.mem_of_getElem? (i := 15) rfl)) (hw _ (List.mem_of_getElem? (i := 4) rfl)) (by decide) (by decide)) (g := (mkF m 147 #[.val (.int p0), .val (.long q1), .second, .val (.int (2 : Int32)), .val (.ref b77), .val (.ref bt), .val (.int (2 : Int32)), .val (.int (3 : Int32))] [(.long q1), (.int (2 : Int32)), (.int (4 : Int32)), (.ref bt)])) rfl (by rw [hml]; rfl) (argsL := [(.ref bt), (.int (4 : Int32)), (.int (2 : Int32)), (.long q1)]) (rest := []) (lenOf pd_0_2 rfl) rfl (by show 2 * 0 + _ ≤ _; exact Nat.le_of_eq rfl) (hb hby at_147) (fun _ _ => ⟨rfl, e103, (by decide : 2 + 0 ≤ _), (by decide : 5 + 0 ≤ _)⟩)
    dsimp only [Pt.U, Pt.locs, Pt.cells, Pt.slots] at X105 l105 y105 z105 st105 hQ105
    rw [y105, z105] at X105
    obtain ⟨rfl, Nq105, e105⟩ := hQ105
    have N105 : Fr n0 L105 := by rw [l105]; exact Fr.app N103 Nq105
    have K105 : own_K p e below SE T105 (mkF m 150 #[.val (.int p0), .val (.long q1), .second, .val (.int (2 : Int32)), .val (.ref b77), .val (.ref bt), .val (.int (2 : Int32)), .val (.int (3 : Int32))] [(.int (1 : Int32))]) := fun t k => K104 _ (st105 _ k)
    have K106 : own_K p e below SE T105 (mkF m 158 #[.val (.int p0), .val (.long q1), .second, .val (.int (2 : Int32)), .val (.ref b77), .val (.ref bt), .val (.int (2 : Int32)), .val (.int (3 : Int32))] [(.long q1), (.int (2 : Int32)), (.int (5 : Int32)), (.ref bt)]) := by
      intro t k
      refine K105 _ ?_
      refine XS.ifNo X105.here hx rfl (hb hby at_150) rfl (XT.i0_eq_f (by decide : ¬ ((1 : Int32) = 0))) ?_
      show own_S p e below T105 (mkF m 153 #[.val (.int p0), .val (.long q1), .second, .val (.int (2 : Int32)), .val (.ref b77), .val (.ref bt), .val (.int (2 : Int32)), .val (.int (3 : Int32))] []) _
      refine XS.aload X105.here hx rfl (hb hby at_153) rfl rfl ?_
      show own_S p e below T105 (mkF m 155 #[.val (.int p0), .val (.long q1), .second, .val (.int (2 : Int32)), .val (.ref b77), .val (.ref bt), .val (.int (2 : Int32)), .val (.int (3 : Int32))] [(.ref bt)]) _
      refine XS.iconst X105.here hx rfl (hb hby at_155) ?_
      show own_S p e below T105 (mkF m 156 #[.val (.int p0), .val (.long q1), .second, .val (.int (2 : Int32)), .val (.ref b77), .val (.ref bt), .val (.int (2 : Int32)), .val (.int (3 : Int32))] [(.int (5 : Int32)), (.ref bt)]) _
      refine XS.iloadN X105.here hx rfl (hb hby at_156) rfl ?_
      show own_S p e below T105 (mkF m 157 #[.val (.int p0), .val (.long q1), .second, .val (.int (2 : Int32)), .val (.ref b77), .val (.ref bt), .val (.int (2 : Int32)), .val (.int (3 : Int32))] [(.int (2 : Int32)), (.int (5 : Int32)), (.ref bt)]) _
      refine XS.lloadN X105.here hx rfl (hb hby at_157) rfl ?_
      exact k
    obtain ⟨_, _, ⟨T107, L107, k107, n107⟩, -, X107, ⟨Lc107, hQ107, l107, y107, z107⟩, st107⟩ := Jvm.LawKit.callS X105 hx (y := (⟨"com/example/whorl/whorl/Base64urlTextPinLaw", "chk", "([BIIJ)Z"⟩ : MethodName)) hown (mvT hZ (hw _ (List.mem_of_getElem? (i := 13) rfl))) (mvT hZ (hw _ (List.mem_of_getElem? (i := 14) rfl))) (mvT hZ (hw _ (List.mem_of_getElem? (i := 4) rfl))) (mvT hZ (hw _ (List.mem_of_getElem? (i := 15) rfl))) (by decide) (backOf (W := 0) (rm3n l Z a0 hw [] bt (5 : Int32) (2 : Int32) q1 kT (3 : Int32) _ T91.heap n0 (Nat.le_trans Z0 Kp91.1) VT (by decide)) hZ (hw _ (List.mem_of_getElem? (i := 15) rfl)) (hw _ (List.mem_of_getElem? (i := 4) rfl)) (by decide) (by decide)) (g := (mkF m 158 #[.val (.int p0), .val (.long q1), .second, .val (.int (2 : Int32)), .val (.ref b77), .val (.ref bt), .val (.int (2 : Int32)), .val (.int (3 : Int32))] [(.long q1), (.int (2 : Int32)), (.int (5 : Int32)), (.ref bt)])) rfl (by rw [hml]; rfl) (argsL := [(.ref bt), (.int (5 : Int32)), (.int (2 : Int32)), (.long q1)]) (rest := []) (lenOf pd_0_2 rfl) rfl (by show 2 * 0 + _ ≤ _; exact Nat.le_of_eq rfl) (hb hby at_158) (fun _ _ => ⟨rfl, e105, (by decide : 2 + 0 ≤ _), (by decide : 5 + 0 ≤ _)⟩)
    dsimp only [Pt.U, Pt.locs, Pt.cells, Pt.slots] at X107 l107 y107 z107 st107 hQ107
    rw [y107, z107] at X107
    obtain ⟨rfl, Nq107, e107⟩ := hQ107
    have N107 : Fr n0 L107 := by rw [l107]; exact Fr.app N105 Nq107
    have K107 : own_K p e below SE T107 (mkF m 161 #[.val (.int p0), .val (.long q1), .second, .val (.int (2 : Int32)), .val (.ref b77), .val (.ref bt), .val (.int (2 : Int32)), .val (.int (3 : Int32))] [(.int (1 : Int32))]) := fun t k => K106 _ (st107 _ k)
    have K108 : own_K p e below SE T107 (mkF m 170 #[.val (.int p0), .val (.long q1), .second, .val (.int (2 : Int32)), .val (.ref b77), .val (.ref bt), .val (.int (2 : Int32)), .val (.int (3 : Int32))] [(.long q1), (.int (2 : Int32)), (.int (6 : Int32)), (.ref bt)]) := by
      intro t k
      refine K107 _ ?_
      refine XS.ifNo X107.here hx rfl (hb hby at_161) rfl (XT.i0_eq_f (by decide : ¬ ((1 : Int32) = 0))) ?_
      show own_S p e below T107 (mkF m 164 #[.val (.int p0), .val (.long q1), .second, .val (.int (2 : Int32)), .val (.ref b77), .val (.ref bt), .val (.int (2 : Int32)), .val (.int (3 : Int32))] []) _
      refine XS.aload X107.here hx rfl (hb hby at_164) rfl rfl ?_
      show own_S p e below T107 (mkF m 166 #[.val (.int p0), .val (.long q1), .second, .val (.int (2 : Int32)), .val (.ref b77), .val (.ref bt), .val (.int (2 : Int32)), .val (.int (3 : Int32))] [(.ref bt)]) _
      refine XS.bipush X107.here hx rfl (hb hby at_166) ?_
      show own_S p e below T107 (mkF m 168 #[.val (.int p0), .val (.long q1), .second, .val (.int (2 : Int32)), .val (.ref b77), .val (.ref bt), .val (.int (2 : Int32)), .val (.int (3 : Int32))] [(.int (6 : Int32)), (.ref bt)]) _
      refine XS.iloadN X107.here hx rfl (hb hby at_168) rfl ?_
      show own_S p e below T107 (mkF m 169 #[.val (.int p0), .val (.long q1), .second, .val (.int (2 : Int32)), .val (.ref b77), .val (.ref bt), .val (.int (2 : Int32)), .val (.int (3 : Int32))] [(.int (2 : Int32)), (.int (6 : Int32)), (.ref bt)]) _
      refine XS.lloadN X107.here hx rfl (hb hby at_169) rfl ?_
      exact k
    obtain ⟨_, _, ⟨T109, L109, k109, n109⟩, -, X109, ⟨Lc109, hQ109, l109, y109, z109⟩, st109⟩ := Jvm.LawKit.callS X107 hx (y := (⟨"com/example/whorl/whorl/Base64urlTextPinLaw", "chk", "([BIIJ)Z"⟩ : MethodName)) hown (mvT hZ (hw _ (List.mem_of_getElem? (i := 13) rfl))) (mvT hZ (hw _ (List.mem_of_getElem? (i := 14) rfl))) (mvT hZ (hw _ (List.mem_of_getElem? (i := 4) rfl))) (mvT hZ (hw _ (List.mem_of_getElem? (i := 15) rfl))) (by decide) (backOf (W := 0) (rm3n l Z a0 hw [] bt (6 : Int32) (2 : Int32) q1 kT (3 : Int32) _ T91.heap n0 (Nat.le_trans Z0 Kp91.1) VT (by decide)) hZ (hw _ (List.mem_of_getElem? (i := 15) rfl)) (hw _ (List.mem_of_getElem? (i := 4) rfl)) (by decide) (by decide)) (g := (mkF m 170 #[.val (.int p0), .val (.long q1), .second, .val (.int (2 : Int32)), .val (.ref b77), .val (.ref bt), .val (.int (2 : Int32)), .val (.int (3 : Int32))] [(.long q1), (.int (2 : Int32)), (.int (6 : Int32)), (.ref bt)])) rfl (by rw [hml]; rfl) (argsL := [(.ref bt), (.int (6 : Int32)), (.int (2 : Int32)), (.long q1)]) (rest := []) (lenOf pd_0_2 rfl) rfl (by show 2 * 0 + _ ≤ _; exact Nat.le_of_eq rfl) (hb hby at_170) (fun _ _ => ⟨rfl, e107, (by decide : 2 + 0 ≤ _), (by decide : 5 + 0 ≤ _)⟩)
    dsimp only [Pt.U, Pt.locs, Pt.cells, Pt.slots] at X109 l109 y109 z109 st109 hQ109
    rw [y109, z109] at X109
    obtain ⟨rfl, Nq109, e109⟩ := hQ109
    have N109 : Fr n0 L109 := by rw [l109]; exact Fr.app N107 Nq109
    have K109 : own_K p e below SE T109 (mkF m 173 #[.val (.int p0), .val (.long q1), .second, .val (.int (2 : Int32)), .val (.ref b77), .val (.ref bt), .val (.int (2 : Int32)), .val (.int (3 : Int32))] [(.int (1 : Int32))]) := fun t k => K108 _ (st109 _ k)
    have K110 : own_K p e below SE T109 (mkF m 182 #[.val (.int p0), .val (.long q1), .second, .val (.int (2 : Int32)), .val (.ref b77), .val (.ref bt), .val (.int (2 : Int32)), .val (.int (3 : Int32))] [(.long q1), (.int (2 : Int32)), (.int (7 : Int32)), (.ref bt)]) := by
      intro t k
      refine K109 _ ?_
      refine XS.ifNo X109.here hx rfl (hb hby at_173) rfl (XT.i0_eq_f (by decide : ¬ ((1 : Int32) = 0))) ?_
      show own_S p e below T109 (mkF m 176 #[.val (.int p0), .val (.long q1), .second, .val (.int (2 : Int32)), .val (.ref b77), .val (.ref bt), .val (.int (2 : Int32)), .val (.int (3 : Int32))] []) _
      refine XS.aload X109.here hx rfl (hb hby at_176) rfl rfl ?_
      show own_S p e below T109 (mkF m 178 #[.val (.int p0), .val (.long q1), .second, .val (.int (2 : Int32)), .val (.ref b77), .val (.ref bt), .val (.int (2 : Int32)), .val (.int (3 : Int32))] [(.ref bt)]) _
      refine XS.bipush X109.here hx rfl (hb hby at_178) ?_
      show own_S p e below T109 (mkF m 180 #[.val (.int p0), .val (.long q1), .second, .val (.int (2 : Int32)), .val (.ref b77), .val (.ref bt), .val (.int (2 : Int32)), .val (.int (3 : Int32))] [(.int (7 : Int32)), (.ref bt)]) _
      refine XS.iloadN X109.here hx rfl (hb hby at_180) rfl ?_
      show own_S p e below T109 (mkF m 181 #[.val (.int p0), .val (.long q1), .second, .val (.int (2 : Int32)), .val (.ref b77), .val (.ref bt), .val (.int (2 : Int32)), .val (.int (3 : Int32))] [(.int (2 : Int32)), (.int (7 : Int32)), (.ref bt)]) _
      refine XS.lloadN X109.here hx rfl (hb hby at_181) rfl ?_
      exact k
    obtain ⟨_, _, ⟨T111, L111, k111, n111⟩, -, X111, ⟨Lc111, hQ111, l111, y111, z111⟩, st111⟩ := Jvm.LawKit.callS X109 hx (y := (⟨"com/example/whorl/whorl/Base64urlTextPinLaw", "chk", "([BIIJ)Z"⟩ : MethodName)) hown (mvT hZ (hw _ (List.mem_of_getElem? (i := 13) rfl))) (mvT hZ (hw _ (List.mem_of_getElem? (i := 14) rfl))) (mvT hZ (hw _ (List.mem_of_getElem? (i := 4) rfl))) (mvT hZ (hw _ (List.mem_of_getElem? (i := 15) rfl))) (by decide) (backOf (W := 0) (rm3n l Z a0 hw [] bt (7 : Int32) (2 : Int32) q1 kT (3 : Int32) _ T91.heap n0 (Nat.le_trans Z0 Kp91.1) VT (by decide)) hZ (hw _ (List.mem_of_getElem? (i := 15) rfl)) (hw _ (List.mem_of_getElem? (i := 4) rfl)) (by decide) (by decide)) (g := (mkF m 182 #[.val (.int p0), .val (.long q1), .second, .val (.int (2 : Int32)), .val (.ref b77), .val (.ref bt), .val (.int (2 : Int32)), .val (.int (3 : Int32))] [(.long q1), (.int (2 : Int32)), (.int (7 : Int32)), (.ref bt)])) rfl (by rw [hml]; rfl) (argsL := [(.ref bt), (.int (7 : Int32)), (.int (2 : Int32)), (.long q1)]) (rest := []) (lenOf pd_0_2 rfl) rfl (by show 2 * 0 + _ ≤ _; exact Nat.le_of_eq rfl) (hb hby at_182) (fun _ _ => ⟨rfl, e109, (by decide : 2 + 0 ≤ _), (by decide : 5 + 0 ≤ _)⟩)
    dsimp only [Pt.U, Pt.locs, Pt.cells, Pt.slots] at X111 l111 y111 z111 st111 hQ111
    rw [y111, z111] at X111
    obtain ⟨rfl, Nq111, e111⟩ := hQ111
    have N111 : Fr n0 L111 := by rw [l111]; exact Fr.app N109 Nq111
    have K111 : own_K p e below SE T111 (mkF m 185 #[.val (.int p0), .val (.long q1), .second, .val (.int (2 : Int32)), .val (.ref b77), .val (.ref bt), .val (.int (2 : Int32)), .val (.int (3 : Int32))] [(.int (1 : Int32))]) := fun t k => K110 _ (st111 _ k)
    have K112 : own_K p e below SE T111 (mkF m 193 #[.val (.int p0), .val (.long q1), .second, .val (.int (2 : Int32)), .val (.ref b77), .val (.ref bt), .val (.int (2 : Int32)), .val (.int (3 : Int32))] [(.int (1 : Int32))]) := by
      intro t k
      refine K111 _ ?_
      refine XS.ifNo X111.here hx rfl (hb hby at_185) rfl (XT.i0_eq_f (by decide : ¬ ((1 : Int32) = 0))) ?_
      show own_S p e below T111 (mkF m 188 #[.val (.int p0), .val (.long q1), .second, .val (.int (2 : Int32)), .val (.ref b77), .val (.ref bt), .val (.int (2 : Int32)), .val (.int (3 : Int32))] []) _
      refine XS.iconst X111.here hx rfl (hb hby at_188) ?_
      show own_S p e below T111 (mkF m 189 #[.val (.int p0), .val (.long q1), .second, .val (.int (2 : Int32)), .val (.ref b77), .val (.ref bt), .val (.int (2 : Int32)), .val (.int (3 : Int32))] [(.int (1 : Int32))]) _
      refine XS.goto X111.here hx rfl (pc0 := 189) (pc' := 193) rfl (hb hby at_189) (by decide) (by decide) ?_
      exact k
    obtain ⟨fs, hr, hrun, hended, hW, hsame⟩ := X111.leave (v := some (.int (1 : Int32))) (fun h => by rw [Bd.returns] at h; cases h)
    refine ⟨_, _, K112 _ ?_, hrun, hended, _, _, rfl, ?_, ⟨_, rfl⟩, hW, hsame.mono (by decide) (by decide)⟩
    · exact retN X111 hx (t := .boolean) Bd.returns (by simp) (hb hby at_193) hr
    · show Q0 Z p0 q1 oAL cA h0 n0 _ T111.heap _
      rw [e111]
      exact ⟨rfl, N111⟩
  · skip
    rw [q] at K1
    have K113 : own_K p e below SE s₁ (mkF m 9 #[.val (.int p0), .val (.long q1), .second, .val (.int (3 : Int32)), .unset, .unset, .unset, .unset] [(.int (3 : Int32))]) := by
      intro t k
      refine K1 _ ?_
      refine XS.iloadN X0.here hx rfl (hb hby at_8) rfl ?_
      exact k
    obtain ⟨T114, h114, k114, X114, e114, E114, A114, st114⟩ := newP X0 hx hZ (hw _ (List.mem_of_getElem? (i := 1) rfl)) e0 (g := (mkF m 9 #[.val (.int p0), .val (.long q1), .second, .val (.int (3 : Int32)), .unset, .unset, .unset, .unset] [(.int (3 : Int32))])) rfl (hb hby at_9) rfl (by decide) (cap := 3) (by decide) (by decide) (by decide) (by decide)
    obtain ⟨b114, g114⟩ : ∃ z, z = h0.size := ⟨_, rfl⟩
    rw [← g114] at A114 st114
    have g_b114 : n0 ≤ b114 := Nat.le_trans Z0 (Nat.le_of_eq g114.symm)
    have sz_b114 : h0.size ≤ b114 := Nat.le_trans (Nat.le_refl _) (Nat.le_of_eq g114.symm)
    have Kp114 : Keep h0 h114 [] := Keep.ext (Keep.refl h0 []) E114
    have V114 : Arv Z h114 b114 k114 .byte (3 : Int32) [(.int (0 : Int32)), (.int (0 : Int32)), (.int (0 : Int32))] (.int (0 : Int32)) := (Arv.new A114 (by decide)).pad (pad_rep [] (.int (0 : Int32)) 3)
    have K114 : own_K p e below SE T114 (mkF m 11 #[.val (.int p0), .val (.long q1), .second, .val (.int (3 : Int32)), .unset, .unset, .unset, .unset] [(.ref b114)]) := fun t k => K113 _ (st114 _ k)
    have K115 : own_K p e below SE T114 (mkF m 17 #[.val (.int p0), .val (.long q1), .second, .val (.int (3 : Int32)), .val (.ref b114), .unset, .unset, .unset] [(.long q1), (.int (0 : Int32)), (.ref b114)]) := by
      intro t k
      refine K114 _ ?_
      refine XS.astore X114.here hx rfl (hb hby at_11) rfl rfl (l' := #[.val (.int p0), .val (.long q1), .second, .val (.int (3 : Int32)), .val (.ref b114), .unset, .unset, .unset]) rfl ?_
      show own_S p e below T114 (mkF m 13 #[.val (.int p0), .val (.long q1), .second, .val (.int (3 : Int32)), .val (.ref b114), .unset, .unset, .unset] []) _
      refine XS.aload X114.here hx rfl (hb hby at_13) rfl rfl ?_
      show own_S p e below T114 (mkF m 15 #[.val (.int p0), .val (.long q1), .second, .val (.int (3 : Int32)), .val (.ref b114), .unset, .unset, .unset] [(.ref b114)]) _
      refine XS.iconst X114.here hx rfl (hb hby at_15) ?_
      show own_S p e below T114 (mkF m 16 #[.val (.int p0), .val (.long q1), .second, .val (.int (3 : Int32)), .val (.ref b114), .unset, .unset, .unset] [(.int (0 : Int32)), (.ref b114)]) _
      refine XS.lloadN X114.here hx rfl (hb hby at_16) rfl ?_
      exact k
    obtain ⟨_, _, ⟨T116, L116, k116, n116⟩, -, X116, ⟨Lc116, hQ116, l116, y116, z116⟩, st116⟩ := Jvm.LawKit.callS X114 hx (y := (⟨"com/example/whorl/whorl/Base64urlTextPinLaw", "put", "([BIJ)V"⟩ : MethodName)) hown (mvT hZ (hw _ (List.mem_of_getElem? (i := 2) rfl))) (mvT hZ (hw _ (List.mem_of_getElem? (i := 3) rfl))) (mvT hZ (hw _ (List.mem_of_getElem? (i := 4) rfl))) (mvT hZ (hw _ (List.mem_of_getElem? (i := 5) rfl))) (by decide) (backOf (W := 0) (rm1y l Z a0 hw [] b114 (0 : Int32) q1 k114 (3 : Int32) _ 0 h114 n0 (Nat.le_trans Z0 Kp114.1) V114 (by decide) (by decide) rfl (Nat.le_of_ble_eq_true rfl) g_b114) hZ (hw _ (List.mem_of_getElem? (i := 5) rfl)) (hw _ (List.mem_of_getElem? (i := 4) rfl)) (by decide) (by decide)) (g := (mkF m 17 #[.val (.int p0), .val (.long q1), .second, .val (.int (3 : Int32)), .val (.ref b114), .unset, .unset, .unset] [(.long q1), (.int (0 : Int32)), (.ref b114)])) rfl (by rw [hml]; rfl) (argsL := [(.ref b114), (.int (0 : Int32)), (.long q1)]) (rest := []) (lenOf pd_0_0 rfl) rfl (by show 2 * 0 + _ ≤ _; exact Nat.le_of_eq rfl) (hb hby at_17) (fun _ _ => ⟨rfl, e114, (by decide : 1 + 0 ≤ _), (by decide : 3 + 0 ≤ _)⟩)
    dsimp only [Pt.U, Pt.locs, Pt.cells, Pt.slots] at X116 l116 y116 z116 st116 hQ116
    rw [y116, z116] at X116
    obtain ⟨rfl, Nq116, Kq116, Vq116⟩ := hQ116
    have N116 : Fr n0 L116 := by rw [l116]; exact Fr.app N0 Nq116
    have Kp116 : Keep h0 T116.heap [] := Keep.trans Kp114 Kq116 (allS (Or.inr sz_b114) all0)
    have K116 : own_K p e below SE T116 (mkF m 20 #[.val (.int p0), .val (.long q1), .second, .val (.int (3 : Int32)), .val (.ref b114), .unset, .unset, .unset] []) := fun t k => K115 _ (st116 _ k)
    obtain ⟨ub0, hub0⟩ : ∃ z : Int32, z = ((((((q1.toUInt64 >>> (((8 : Int32) * (0 : Int32)) &&& 0x3f).toInt64.toUInt64).toInt64)).toInt32).toInt8.toInt32).toInt8.toInt32) := ⟨_, rfl⟩
    rw [← hub0] at Vq116
    have Vr116 : Arv Z T116.heap b114 k114 .byte (3 : Int32) [(.int ub0), (.int (0 : Int32)), (.int (0 : Int32))] (.int (0 : Int32)) := Vq116
    have K117 : own_K p e below SE T116 (mkF m 24 #[.val (.int p0), .val (.long q1), .second, .val (.int (3 : Int32)), .val (.ref b114), .unset, .unset, .unset] [(.long q1), (.int (1 : Int32)), (.ref b114)]) := by
      intro t k
      refine K116 _ ?_
      refine XS.aload X116.here hx rfl (hb hby at_20) rfl rfl ?_
      show own_S p e below T116 (mkF m 22 #[.val (.int p0), .val (.long q1), .second, .val (.int (3 : Int32)), .val (.ref b114), .unset, .unset, .unset] [(.ref b114)]) _
      refine XS.iconst X116.here hx rfl (hb hby at_22) ?_
      show own_S p e below T116 (mkF m 23 #[.val (.int p0), .val (.long q1), .second, .val (.int (3 : Int32)), .val (.ref b114), .unset, .unset, .unset] [(.int (1 : Int32)), (.ref b114)]) _
      refine XS.lloadN X116.here hx rfl (hb hby at_23) rfl ?_
      exact k
    obtain ⟨_, _, ⟨T118, L118, k118, n118⟩, -, X118, ⟨Lc118, hQ118, l118, y118, z118⟩, st118⟩ := Jvm.LawKit.callS X116 hx (y := (⟨"com/example/whorl/whorl/Base64urlTextPinLaw", "put", "([BIJ)V"⟩ : MethodName)) hown (mvT hZ (hw _ (List.mem_of_getElem? (i := 2) rfl))) (mvT hZ (hw _ (List.mem_of_getElem? (i := 3) rfl))) (mvT hZ (hw _ (List.mem_of_getElem? (i := 4) rfl))) (mvT hZ (hw _ (List.mem_of_getElem? (i := 5) rfl))) (by decide) (backOf (W := 0) (rm1y l Z a0 hw [] b114 (1 : Int32) q1 k114 (3 : Int32) _ 1 T116.heap n0 (Nat.le_trans Z0 Kp116.1) Vr116 (by decide) (by decide) rfl (Nat.le_of_ble_eq_true rfl) g_b114) hZ (hw _ (List.mem_of_getElem? (i := 5) rfl)) (hw _ (List.mem_of_getElem? (i := 4) rfl)) (by decide) (by decide)) (g := (mkF m 24 #[.val (.int p0), .val (.long q1), .second, .val (.int (3 : Int32)), .val (.ref b114), .unset, .unset, .unset] [(.long q1), (.int (1 : Int32)), (.ref b114)])) rfl (by rw [hml]; rfl) (argsL := [(.ref b114), (.int (1 : Int32)), (.long q1)]) (rest := []) (lenOf pd_0_0 rfl) rfl (by show 2 * 0 + _ ≤ _; exact Nat.le_of_eq rfl) (hb hby at_24) (fun _ _ => ⟨rfl, rfl, (by decide : 1 + 0 ≤ _), (by decide : 3 + 0 ≤ _)⟩)
    dsimp only [Pt.U, Pt.locs, Pt.cells, Pt.slots] at X118 l118 y118 z118 st118 hQ118
    rw [y118, z118] at X118
    obtain ⟨rfl, Nq118, Kq118, Vq118⟩ := hQ118
    have N118 : Fr n0 L118 := by rw [l118]; exact Fr.app N116 Nq118
    have Kp118 : Keep h0 T118.heap [] := Keep.trans Kp116 Kq118 (allS (Or.inr sz_b114) all0)
    have K118 : own_K p e below SE T118 (mkF m 27 #[.val (.int p0), .val (.long q1), .second, .val (.int (3 : Int32)), .val (.ref b114), .unset, .unset, .unset] []) := fun t k => K117 _ (st118 _ k)
    obtain ⟨ub1, hub1⟩ : ∃ z : Int32, z = ((((((q1.toUInt64 >>> (((8 : Int32) * (1 : Int32)) &&& 0x3f).toInt64.toUInt64).toInt64)).toInt32).toInt8.toInt32).toInt8.toInt32) := ⟨_, rfl⟩
    rw [← hub1] at Vq118
    have Vr118 : Arv Z T118.heap b114 k114 .byte (3 : Int32) [(.int ub0), (.int ub1), (.int (0 : Int32))] (.int (0 : Int32)) := Vq118
    have K119 : own_K p e below SE T118 (mkF m 31 #[.val (.int p0), .val (.long q1), .second, .val (.int (3 : Int32)), .val (.ref b114), .unset, .unset, .unset] [(.long q1), (.int (2 : Int32)), (.ref b114)]) := by
      intro t k
      refine K118 _ ?_
      refine XS.aload X118.here hx rfl (hb hby at_27) rfl rfl ?_
      show own_S p e below T118 (mkF m 29 #[.val (.int p0), .val (.long q1), .second, .val (.int (3 : Int32)), .val (.ref b114), .unset, .unset, .unset] [(.ref b114)]) _
      refine XS.iconst X118.here hx rfl (hb hby at_29) ?_
      show own_S p e below T118 (mkF m 30 #[.val (.int p0), .val (.long q1), .second, .val (.int (3 : Int32)), .val (.ref b114), .unset, .unset, .unset] [(.int (2 : Int32)), (.ref b114)]) _
      refine XS.lloadN X118.here hx rfl (hb hby at_30) rfl ?_
      exact k
    obtain ⟨_, _, ⟨T120, L120, k120, n120⟩, -, X120, ⟨Lc120, hQ120, l120, y120, z120⟩, st120⟩ := Jvm.LawKit.callS X118 hx (y := (⟨"com/example/whorl/whorl/Base64urlTextPinLaw", "put", "([BIJ)V"⟩ : MethodName)) hown (mvT hZ (hw _ (List.mem_of_getElem? (i := 2) rfl))) (mvT hZ (hw _ (List.mem_of_getElem? (i := 3) rfl))) (mvT hZ (hw _ (List.mem_of_getElem? (i := 4) rfl))) (mvT hZ (hw _ (List.mem_of_getElem? (i := 5) rfl))) (by decide) (backOf (W := 0) (rm1y l Z a0 hw [] b114 (2 : Int32) q1 k114 (3 : Int32) _ 2 T118.heap n0 (Nat.le_trans Z0 Kp118.1) Vr118 (by decide) (by decide) rfl (Nat.le_of_ble_eq_true rfl) g_b114) hZ (hw _ (List.mem_of_getElem? (i := 5) rfl)) (hw _ (List.mem_of_getElem? (i := 4) rfl)) (by decide) (by decide)) (g := (mkF m 31 #[.val (.int p0), .val (.long q1), .second, .val (.int (3 : Int32)), .val (.ref b114), .unset, .unset, .unset] [(.long q1), (.int (2 : Int32)), (.ref b114)])) rfl (by rw [hml]; rfl) (argsL := [(.ref b114), (.int (2 : Int32)), (.long q1)]) (rest := []) (lenOf pd_0_0 rfl) rfl (by show 2 * 0 + _ ≤ _; exact Nat.le_of_eq rfl) (hb hby at_31) (fun _ _ => ⟨rfl, rfl, (by decide : 1 + 0 ≤ _), (by decide : 3 + 0 ≤ _)⟩)
    dsimp only [Pt.U, Pt.locs, Pt.cells, Pt.slots] at X120 l120 y120 z120 st120 hQ120
    rw [y120, z120] at X120
    obtain ⟨rfl, Nq120, Kq120, Vq120⟩ := hQ120
    have N120 : Fr n0 L120 := by rw [l120]; exact Fr.app N118 Nq120
    have Kp120 : Keep h0 T120.heap [] := Keep.trans Kp118 Kq120 (allS (Or.inr sz_b114) all0)
    have K120 : own_K p e below SE T120 (mkF m 34 #[.val (.int p0), .val (.long q1), .second, .val (.int (3 : Int32)), .val (.ref b114), .unset, .unset, .unset] []) := fun t k => K119 _ (st120 _ k)
    obtain ⟨ub2, hub2⟩ : ∃ z : Int32, z = ((((((q1.toUInt64 >>> (((8 : Int32) * (2 : Int32)) &&& 0x3f).toInt64.toUInt64).toInt64)).toInt32).toInt8.toInt32).toInt8.toInt32) := ⟨_, rfl⟩
    rw [← hub2] at Vq120
    have Vr120 : Arv Z T120.heap b114 k114 .byte (3 : Int32) [(.int ub0), (.int ub1), (.int ub2)] (.int (0 : Int32)) := Vq120
    have K121 : own_K p e below SE T120 (mkF m 38 #[.val (.int p0), .val (.long q1), .second, .val (.int (3 : Int32)), .val (.ref b114), .unset, .unset, .unset] [(.long q1), (.int (3 : Int32)), (.ref b114)]) := by
      intro t k
      refine K120 _ ?_
      refine XS.aload X120.here hx rfl (hb hby at_34) rfl rfl ?_
      show own_S p e below T120 (mkF m 36 #[.val (.int p0), .val (.long q1), .second, .val (.int (3 : Int32)), .val (.ref b114), .unset, .unset, .unset] [(.ref b114)]) _
      refine XS.iconst X120.here hx rfl (hb hby at_36) ?_
      show own_S p e below T120 (mkF m 37 #[.val (.int p0), .val (.long q1), .second, .val (.int (3 : Int32)), .val (.ref b114), .unset, .unset, .unset] [(.int (3 : Int32)), (.ref b114)]) _
      refine XS.lloadN X120.here hx rfl (hb hby at_37) rfl ?_
      exact k
    obtain ⟨_, _, ⟨T122, L122, k122, n122⟩, -, X122, ⟨Lc122, hQ122, l122, y122, z122⟩, st122⟩ := Jvm.LawKit.callS X120 hx (y := (⟨"com/example/whorl/whorl/Base64urlTextPinLaw", "put", "([BIJ)V"⟩ : MethodName)) hown (mvT hZ (hw _ (List.mem_of_getElem? (i := 2) rfl))) (mvT hZ (hw _ (List.mem_of_getElem? (i := 3) rfl))) (mvT hZ (hw _ (List.mem_of_getElem? (i := 4) rfl))) (mvT hZ (hw _ (List.mem_of_getElem? (i := 5) rfl))) (by decide) (backOf (W := 0) (rm1n l Z a0 hw [] b114 (3 : Int32) q1 k114 (3 : Int32) _ T120.heap n0 (Nat.le_trans Z0 Kp120.1) Vr120 (by decide)) hZ (hw _ (List.mem_of_getElem? (i := 5) rfl)) (hw _ (List.mem_of_getElem? (i := 4) rfl)) (by decide) (by decide)) (g := (mkF m 38 #[.val (.int p0), .val (.long q1), .second, .val (.int (3 : Int32)), .val (.ref b114), .unset, .unset, .unset] [(.long q1), (.int (3 : Int32)), (.ref b114)])) rfl (by rw [hml]; rfl) (argsL := [(.ref b114), (.int (3 : Int32)), (.long q1)]) (rest := []) (lenOf pd_0_0 rfl) rfl (by show 2 * 0 + _ ≤ _; exact Nat.le_of_eq rfl) (hb hby at_38) (fun _ _ => ⟨rfl, rfl, (by decide : 1 + 0 ≤ _), (by decide : 3 + 0 ≤ _)⟩)
    dsimp only [Pt.U, Pt.locs, Pt.cells, Pt.slots] at X122 l122 y122 z122 st122 hQ122
    rw [y122, z122] at X122
    obtain ⟨rfl, Nq122, e122⟩ := hQ122
    have N122 : Fr n0 L122 := by rw [l122]; exact Fr.app N120 Nq122
    have K122 : own_K p e below SE T122 (mkF m 41 #[.val (.int p0), .val (.long q1), .second, .val (.int (3 : Int32)), .val (.ref b114), .unset, .unset, .unset] []) := fun t k => K121 _ (st122 _ k)
    have K123 : own_K p e below SE T122 (mkF m 45 #[.val (.int p0), .val (.long q1), .second, .val (.int (3 : Int32)), .val (.ref b114), .unset, .unset, .unset] [(.long q1), (.int (4 : Int32)), (.ref b114)]) := by
      intro t k
      refine K122 _ ?_
      refine XS.aload X122.here hx rfl (hb hby at_41) rfl rfl ?_
      show own_S p e below T122 (mkF m 43 #[.val (.int p0), .val (.long q1), .second, .val (.int (3 : Int32)), .val (.ref b114), .unset, .unset, .unset] [(.ref b114)]) _
      refine XS.iconst X122.here hx rfl (hb hby at_43) ?_
      show own_S p e below T122 (mkF m 44 #[.val (.int p0), .val (.long q1), .second, .val (.int (3 : Int32)), .val (.ref b114), .unset, .unset, .unset] [(.int (4 : Int32)), (.ref b114)]) _
      refine XS.lloadN X122.here hx rfl (hb hby at_44) rfl ?_
      exact k
    obtain ⟨_, _, ⟨T124, L124, k124, n124⟩, -, X124, ⟨Lc124, hQ124, l124, y124, z124⟩, st124⟩ := Jvm.LawKit.callS X122 hx (y := (⟨"com/example/whorl/whorl/Base64urlTextPinLaw", "put", "([BIJ)V"⟩ : MethodName)) hown (mvT hZ (hw _ (List.mem_of_getElem? (i := 2) rfl))) (mvT hZ (hw _ (List.mem_of_getElem? (i := 3) rfl))) (mvT hZ (hw _ (List.mem_of_getElem? (i := 4) rfl))) (mvT hZ (hw _ (List.mem_of_getElem? (i := 5) rfl))) (by decide) (backOf (W := 0) (rm1n l Z a0 hw [] b114 (4 : Int32) q1 k114 (3 : Int32) _ T120.heap n0 (Nat.le_trans Z0 Kp120.1) Vr120 (by decide)) hZ (hw _ (List.mem_of_getElem? (i := 5) rfl)) (hw _ (List.mem_of_getElem? (i := 4) rfl)) (by decide) (by decide)) (g := (mkF m 45 #[.val (.int p0), .val (.long q1), .second, .val (.int (3 : Int32)), .val (.ref b114), .unset, .unset, .unset] [(.long q1), (.int (4 : Int32)), (.ref b114)])) rfl (by rw [hml]; rfl) (argsL := [(.ref b114), (.int (4 : Int32)), (.long q1)]) (rest := []) (lenOf pd_0_0 rfl) rfl (by show 2 * 0 + _ ≤ _; exact Nat.le_of_eq rfl) (hb hby at_45) (fun _ _ => ⟨rfl, e122, (by decide : 1 + 0 ≤ _), (by decide : 3 + 0 ≤ _)⟩)
    dsimp only [Pt.U, Pt.locs, Pt.cells, Pt.slots] at X124 l124 y124 z124 st124 hQ124
    rw [y124, z124] at X124
    obtain ⟨rfl, Nq124, e124⟩ := hQ124
    have N124 : Fr n0 L124 := by rw [l124]; exact Fr.app N122 Nq124
    have K124 : own_K p e below SE T124 (mkF m 48 #[.val (.int p0), .val (.long q1), .second, .val (.int (3 : Int32)), .val (.ref b114), .unset, .unset, .unset] []) := fun t k => K123 _ (st124 _ k)
    have K125 : own_K p e below SE T124 (mkF m 52 #[.val (.int p0), .val (.long q1), .second, .val (.int (3 : Int32)), .val (.ref b114), .unset, .unset, .unset] [(.long q1), (.int (5 : Int32)), (.ref b114)]) := by
      intro t k
      refine K124 _ ?_
      refine XS.aload X124.here hx rfl (hb hby at_48) rfl rfl ?_
      show own_S p e below T124 (mkF m 50 #[.val (.int p0), .val (.long q1), .second, .val (.int (3 : Int32)), .val (.ref b114), .unset, .unset, .unset] [(.ref b114)]) _
      refine XS.iconst X124.here hx rfl (hb hby at_50) ?_
      show own_S p e below T124 (mkF m 51 #[.val (.int p0), .val (.long q1), .second, .val (.int (3 : Int32)), .val (.ref b114), .unset, .unset, .unset] [(.int (5 : Int32)), (.ref b114)]) _
      refine XS.lloadN X124.here hx rfl (hb hby at_51) rfl ?_
      exact k
    obtain ⟨_, _, ⟨T126, L126, k126, n126⟩, -, X126, ⟨Lc126, hQ126, l126, y126, z126⟩, st126⟩ := Jvm.LawKit.callS X124 hx (y := (⟨"com/example/whorl/whorl/Base64urlTextPinLaw", "put", "([BIJ)V"⟩ : MethodName)) hown (mvT hZ (hw _ (List.mem_of_getElem? (i := 2) rfl))) (mvT hZ (hw _ (List.mem_of_getElem? (i := 3) rfl))) (mvT hZ (hw _ (List.mem_of_getElem? (i := 4) rfl))) (mvT hZ (hw _ (List.mem_of_getElem? (i := 5) rfl))) (by decide) (backOf (W := 0) (rm1n l Z a0 hw [] b114 (5 : Int32) q1 k114 (3 : Int32) _ T120.heap n0 (Nat.le_trans Z0 Kp120.1) Vr120 (by decide)) hZ (hw _ (List.mem_of_getElem? (i := 5) rfl)) (hw _ (List.mem_of_getElem? (i := 4) rfl)) (by decide) (by decide)) (g := (mkF m 52 #[.val (.int p0), .val (.long q1), .second, .val (.int (3 : Int32)), .val (.ref b114), .unset, .unset, .unset] [(.long q1), (.int (5 : Int32)), (.ref b114)])) rfl (by rw [hml]; rfl) (argsL := [(.ref b114), (.int (5 : Int32)), (.long q1)]) (rest := []) (lenOf pd_0_0 rfl) rfl (by show 2 * 0 + _ ≤ _; exact Nat.le_of_eq rfl) (hb hby at_52) (fun _ _ => ⟨rfl, e124, (by decide : 1 + 0 ≤ _), (by decide : 3 + 0 ≤ _)⟩)
    dsimp only [Pt.U, Pt.locs, Pt.cells, Pt.slots] at X126 l126 y126 z126 st126 hQ126
    rw [y126, z126] at X126
    obtain ⟨rfl, Nq126, e126⟩ := hQ126
    have N126 : Fr n0 L126 := by rw [l126]; exact Fr.app N124 Nq126
    have K126 : own_K p e below SE T126 (mkF m 55 #[.val (.int p0), .val (.long q1), .second, .val (.int (3 : Int32)), .val (.ref b114), .unset, .unset, .unset] []) := fun t k => K125 _ (st126 _ k)
    have K127 : own_K p e below SE T126 (mkF m 57 #[.val (.int p0), .val (.long q1), .second, .val (.int (3 : Int32)), .val (.ref b114), .unset, .unset, .unset] [(.ref b114)]) := by
      intro t k
      refine K126 _ ?_
      refine XS.aload X126.here hx rfl (hb hby at_55) rfl rfl ?_
      exact k
    obtain ⟨_, _, ⟨T128, L128, k128, n128⟩, -, X128, ⟨Lc128, hQ128, l128, y128, z128⟩, st128⟩ := Jvm.LawKit.callS X126 hx (y := (⟨"com/example/whorl/whorl/Base64url", "text", "([B)[B"⟩ : MethodName)) hown (mvT hZ (hw _ (List.mem_of_getElem? (i := 6) rfl))) (mvT hZ (hw _ (List.mem_of_getElem? (i := 7) rfl))) (mvT hZ (hw _ (List.mem_of_getElem? (i := 8) rfl))) (mvT hZ (hw _ (List.mem_of_getElem? (i := 9) rfl))) (by decide) (backOf (W := 0) (rm2_3 l Z a0 hw [] b114 k114 oAL cA ub0 ub1 ub2 T120.heap n0 (Nat.le_trans Z0 Kp120.1) Vr120 (SA.ext (own_ext Kp120)) (TA.ext (own_ext Kp120))) hZ (hw _ (List.mem_of_getElem? (i := 9) rfl)) (hw _ (List.mem_of_getElem? (i := 8) rfl)) (by decide) (by decide)) (g := (mkF m 57 #[.val (.int p0), .val (.long q1), .second, .val (.int (3 : Int32)), .val (.ref b114), .unset, .unset, .unset] [(.ref b114)])) rfl (by rw [hml]; rfl) (argsL := [(.ref b114)]) (rest := []) (lenOf pd_0_1 rfl) rfl (by show 2 * 0 + _ ≤ _; exact Nat.le_of_eq rfl) (hb hby at_57) (fun _ _ => ⟨rfl, e126, (by decide : 1 + 1 ≤ _), (by decide : 3 + 4 ≤ _)⟩)
    dsimp only [Pt.U, Pt.locs, Pt.cells, Pt.slots] at X128 l128 y128 z128 st128 hQ128
    rw [y128, z128] at X128
    obtain ⟨rfl, Nq128, Kq128, VT128⟩ := hQ128
    have N128 : Fr n0 L128 := by rw [l128]; exact Fr.app N126 Nq128
    have Kp128 : Keep h0 T128.heap [] := Keep.trans Kp120 Kq128 all0
    have K128 : own_K p e below SE T128 (mkF m 60 #[.val (.int p0), .val (.long q1), .second, .val (.int (3 : Int32)), .val (.ref b114), .unset, .unset, .unset] [(.ref T120.heap.size)]) := fun t k => K127 _ (st128 _ k)
    obtain ⟨kT, VT⟩ := VT128
    obtain ⟨bt, gbt⟩ : ∃ z, z = T120.heap.size := ⟨_, rfl⟩
    rw [← gbt] at K128 VT
    have K129 : own_K p e below SE T128 (mkF m 65 #[.val (.int p0), .val (.long q1), .second, .val (.int (3 : Int32)), .val (.ref b114), .val (.ref bt), .unset, .unset] [(.int ((3 : Int32) % (3 : Int32)))]) := by
      intro t k
      refine K128 _ ?_
      refine XS.astore X128.here hx rfl (hb hby at_60) rfl rfl (l' := #[.val (.int p0), .val (.long q1), .second, .val (.int (3 : Int32)), .val (.ref b114), .val (.ref bt), .unset, .unset]) rfl ?_
      show own_S p e below T128 (mkF m 62 #[.val (.int p0), .val (.long q1), .second, .val (.int (3 : Int32)), .val (.ref b114), .val (.ref bt), .unset, .unset] []) _
      refine XS.iloadN X128.here hx rfl (hb hby at_62) rfl ?_
      show own_S p e below T128 (mkF m 63 #[.val (.int p0), .val (.long q1), .second, .val (.int (3 : Int32)), .val (.ref b114), .val (.ref bt), .unset, .unset] [(.int (3 : Int32))]) _
      refine XS.iconst X128.here hx rfl (hb hby at_63) ?_
      show own_S p e below T128 (mkF m 64 #[.val (.int p0), .val (.long q1), .second, .val (.int (3 : Int32)), .val (.ref b114), .val (.ref bt), .unset, .unset] [(.int (3 : Int32)), (.int (3 : Int32))]) _
      refine iremM X128 hx rfl (hb hby at_64) rfl (by decide) ?_
      exact k
    rw [(by decide : ((3 : Int32) % (3 : Int32)) = (0 : Int32))] at K129
    have K130 : own_K p e below SE T128 (mkF m 70 #[.val (.int p0), .val (.long q1), .second, .val (.int (3 : Int32)), .val (.ref b114), .val (.ref bt), .val (.int (0 : Int32)), .unset] [(.int ((3 : Int32) / (3 : Int32)))]) := by
      intro t k
      refine K129 _ ?_
      refine XS.istore X128.here hx rfl (hb hby at_65) rfl (l' := #[.val (.int p0), .val (.long q1), .second, .val (.int (3 : Int32)), .val (.ref b114), .val (.ref bt), .val (.int (0 : Int32)), .unset]) rfl ?_
      show own_S p e below T128 (mkF m 67 #[.val (.int p0), .val (.long q1), .second, .val (.int (3 : Int32)), .val (.ref b114), .val (.ref bt), .val (.int (0 : Int32)), .unset] []) _
      refine XS.iloadN X128.here hx rfl (hb hby at_67) rfl ?_
      show own_S p e below T128 (mkF m 68 #[.val (.int p0), .val (.long q1), .second, .val (.int (3 : Int32)), .val (.ref b114), .val (.ref bt), .val (.int (0 : Int32)), .unset] [(.int (3 : Int32))]) _
      refine XS.iconst X128.here hx rfl (hb hby at_68) ?_
      show own_S p e below T128 (mkF m 69 #[.val (.int p0), .val (.long q1), .second, .val (.int (3 : Int32)), .val (.ref b114), .val (.ref bt), .val (.int (0 : Int32)), .unset] [(.int (3 : Int32)), (.int (3 : Int32))]) _
      refine XS.idiv X128.here hx rfl (hb hby at_69) rfl (by decide) ?_
      exact k
    rw [(by decide : ((3 : Int32) / (3 : Int32)) = (1 : Int32))] at K130
    have K131 : own_K p e below SE T128 (mkF m 90 #[.val (.int p0), .val (.long q1), .second, .val (.int (3 : Int32)), .val (.ref b114), .val (.ref bt), .val (.int (0 : Int32)), .val (.int (4 : Int32))] [(.ref bt)]) := by
      intro t k
      refine K130 _ ?_
      refine XS.iconst X128.here hx rfl (hb hby at_70) ?_
      show own_S p e below T128 (mkF m 71 #[.val (.int p0), .val (.long q1), .second, .val (.int (3 : Int32)), .val (.ref b114), .val (.ref bt), .val (.int (0 : Int32)), .unset] [(.int (4 : Int32)), (.int (1 : Int32))]) _
      refine XS.imul X128.here hx rfl (hb hby at_71) rfl ?_
      show own_S p e below T128 (mkF m 72 #[.val (.int p0), .val (.long q1), .second, .val (.int (3 : Int32)), .val (.ref b114), .val (.ref bt), .val (.int (0 : Int32)), .unset] [(.int (4 : Int32))]) _
      refine XS.iload X128.here hx rfl (hb hby at_72) rfl ?_
      show own_S p e below T128 (mkF m 74 #[.val (.int p0), .val (.long q1), .second, .val (.int (3 : Int32)), .val (.ref b114), .val (.ref bt), .val (.int (0 : Int32)), .unset] [(.int (0 : Int32)), (.int (4 : Int32))]) _
      refine XS.ifNo X128.here hx rfl (hb hby at_74) rfl (XT.i0_ne_f (by decide : (0 : Int32) = 0)) ?_
      show own_S p e below T128 (mkF m 77 #[.val (.int p0), .val (.long q1), .second, .val (.int (3 : Int32)), .val (.ref b114), .val (.ref bt), .val (.int (0 : Int32)), .unset] [(.int (4 : Int32))]) _
      refine XS.iconst X128.here hx rfl (hb hby at_77) ?_
      show own_S p e below T128 (mkF m 78 #[.val (.int p0), .val (.long q1), .second, .val (.int (3 : Int32)), .val (.ref b114), .val (.ref bt), .val (.int (0 : Int32)), .unset] [(.int (0 : Int32)), (.int (4 : Int32))]) _
      refine XS.goto X128.here hx rfl (pc0 := 78) (pc' := 85) rfl (hb hby at_78) (by decide) (by decide) ?_
      show own_S p e below T128 (mkF m 85 #[.val (.int p0), .val (.long q1), .second, .val (.int (3 : Int32)), .val (.ref b114), .val (.ref bt), .val (.int (0 : Int32)), .unset] [(.int (0 : Int32)), (.int (4 : Int32))]) _
      refine XS.iadd X128.here hx rfl (hb hby at_85) rfl ?_
      show own_S p e below T128 (mkF m 86 #[.val (.int p0), .val (.long q1), .second, .val (.int (3 : Int32)), .val (.ref b114), .val (.ref bt), .val (.int (0 : Int32)), .unset] [(.int (4 : Int32))]) _
      refine XS.istore X128.here hx rfl (hb hby at_86) rfl (l' := #[.val (.int p0), .val (.long q1), .second, .val (.int (3 : Int32)), .val (.ref b114), .val (.ref bt), .val (.int (0 : Int32)), .val (.int (4 : Int32))]) rfl ?_
      show own_S p e below T128 (mkF m 88 #[.val (.int p0), .val (.long q1), .second, .val (.int (3 : Int32)), .val (.ref b114), .val (.ref bt), .val (.int (0 : Int32)), .val (.int (4 : Int32))] []) _
      refine XS.aload X128.here hx rfl (hb hby at_88) rfl rfl ?_
      exact k
    obtain ⟨cl132, Ar132, -, S132, Ng132, -, -⟩ := id VT
    have K133 : own_K p e below SE T128 (mkF m 103 #[.val (.int p0), .val (.long q1), .second, .val (.int (3 : Int32)), .val (.ref b114), .val (.ref bt), .val (.int (0 : Int32)), .val (.int (4 : Int32))] [(.long q1), (.int (3 : Int32)), (.int (0 : Int32)), (.ref bt)]) := by
      intro t k
      refine K131 _ ?_
      refine X128.arraylength hx Ar132.1 (State.isArrayOf_alike hZ.alike Ar132.2.1) (g := (mkF m 90 #[.val (.int p0), .val (.long q1), .second, .val (.int (3 : Int32)), .val (.ref b114), .val (.ref bt), .val (.int (0 : Int32)), .val (.int (4 : Int32))] [(.ref bt)])) rfl rfl (hb hby at_90) _ ?_
      rw [len_of S132 Ng132]
      show own_S p e below T128 (mkF m 91 #[.val (.int p0), .val (.long q1), .second, .val (.int (3 : Int32)), .val (.ref b114), .val (.ref bt), .val (.int (0 : Int32)), .val (.int (4 : Int32))] [(.int (4 : Int32))]) _
      refine XS.iload X128.here hx rfl (hb hby at_91) rfl ?_
      show own_S p e below T128 (mkF m 93 #[.val (.int p0), .val (.long q1), .second, .val (.int (3 : Int32)), .val (.ref b114), .val (.ref bt), .val (.int (0 : Int32)), .val (.int (4 : Int32))] [(.int (4 : Int32)), (.int (4 : Int32))]) _
      refine XS.icmpYes X128.here hx rfl (pc0 := 93) (pc' := 98) rfl (hb hby at_93) rfl (XT.ii_eq_t (by decide : (4 : Int32) = (4 : Int32))) (by decide) (by decide) ?_
      show own_S p e below T128 (mkF m 98 #[.val (.int p0), .val (.long q1), .second, .val (.int (3 : Int32)), .val (.ref b114), .val (.ref bt), .val (.int (0 : Int32)), .val (.int (4 : Int32))] []) _
      refine XS.aload X128.here hx rfl (hb hby at_98) rfl rfl ?_
      show own_S p e below T128 (mkF m 100 #[.val (.int p0), .val (.long q1), .second, .val (.int (3 : Int32)), .val (.ref b114), .val (.ref bt), .val (.int (0 : Int32)), .val (.int (4 : Int32))] [(.ref bt)]) _
      refine XS.iconst X128.here hx rfl (hb hby at_100) ?_
      show own_S p e below T128 (mkF m 101 #[.val (.int p0), .val (.long q1), .second, .val (.int (3 : Int32)), .val (.ref b114), .val (.ref bt), .val (.int (0 : Int32)), .val (.int (4 : Int32))] [(.int (0 : Int32)), (.ref bt)]) _
      refine XS.iloadN X128.here hx rfl (hb hby at_101) rfl ?_
      show own_S p e below T128 (mkF m 102 #[.val (.int p0), .val (.long q1), .second, .val (.int (3 : Int32)), .val (.ref b114), .val (.ref bt), .val (.int (0 : Int32)), .val (.int (4 : Int32))] [(.int (3 : Int32)), (.int (0 : Int32)), (.ref bt)]) _
      refine XS.lloadN X128.here hx rfl (hb hby at_102) rfl ?_
      exact k
    have sx0 : ((((((ub0 &&& (255 : Int32)) <<< ((16 : Int32) &&& 31)) ||| ((ub1 &&& (255 : Int32)) <<< ((8 : Int32) &&& 31))) ||| (ub2 &&& (255 : Int32))).toUInt32 >>> ((18 : Int32) &&& 31).toUInt32).toInt32) = own_sx q1 (3 : Int32) ((0 : Int32) / (4 : Int32)) ((0 : Int32) % (4 : Int32)) := by
      have h1 := own_i0 _ _ _ _ (own_m255 ub0) (own_m255 ub1) (own_m255 ub2) (own_x3i ub0 ub1 ub2)
      have o0 : (ub0 &&& (255 : Int32)) = own_oct q1 (0 : Int32) (3 : Int32) := by rw [hub0]; exact own_eo q1 (0 : Int32) (3 : Int32) (by decide)
      have o1 : (ub1 &&& (255 : Int32)) = own_oct q1 (1 : Int32) (3 : Int32) := by rw [hub1]; exact own_eo q1 (1 : Int32) (3 : Int32) (by decide)
      have o2 : (ub2 &&& (255 : Int32)) = own_oct q1 (2 : Int32) (3 : Int32) := by rw [hub2]; exact own_eo q1 (2 : Int32) (3 : Int32) (by decide)
      rw [h1]
      unfold own_sx
      rw [show ((0 : Int32) / (4 : Int32)) = (0 : Int32) by decide, show ((0 : Int32) % (4 : Int32)) = (0 : Int32) by decide, show ((3 : Int32) * (0 : Int32)) = (0 : Int32) by decide, show ((0 : Int32) + (1 : Int32)) = (1 : Int32) by decide, show ((0 : Int32) + (2 : Int32)) = (2 : Int32) by decide]
      rw [if_pos (by decide), ← o0]
    have ck0 : ¬ (if (atv cA ((((((ub0 &&& (255 : Int32)) <<< ((16 : Int32) &&& 31)) ||| ((ub1 &&& (255 : Int32)) <<< ((8 : Int32) &&& 31))) ||| (ub2 &&& (255 : Int32))).toUInt32 >>> ((18 : Int32) &&& 31).toUInt32).toInt32)).toInt8.toInt32 = ((own_ch (own_sx q1 (3 : Int32) ((0 : Int32) / (4 : Int32)) ((0 : Int32) % (4 : Int32))))).toInt8.toInt32 then (1 : Int32) else (0 : Int32)) = 0 := own_one (own_chk hAL (own_b18 _ (own_xb (own_m255 _) (own_m255 _) (own_m255 _) (own_x3i ub0 ub1 ub2))) sx0)
    obtain ⟨_, _, ⟨T134, L134, k134, n134⟩, -, X134, ⟨Lc134, hQ134, l134, y134, z134⟩, st134⟩ := Jvm.LawKit.callS X128 hx (y := (⟨"com/example/whorl/whorl/Base64urlTextPinLaw", "chk", "([BIIJ)Z"⟩ : MethodName)) hown (mvT hZ (hw _ (List.mem_of_getElem? (i := 13) rfl))) (mvT hZ (hw _ (List.mem_of_getElem? (i := 14) rfl))) (mvT hZ (hw _ (List.mem_of_getElem? (i := 4) rfl))) (mvT hZ (hw _ (List.mem_of_getElem? (i := 15) rfl))) (by decide) (backOf (W := 0) (rm3y l Z a0 hw [] bt (0 : Int32) (3 : Int32) q1 kT (4 : Int32) _ ((atv cA ((((((ub0 &&& (255 : Int32)) <<< ((16 : Int32) &&& 31)) ||| ((ub1 &&& (255 : Int32)) <<< ((8 : Int32) &&& 31))) ||| (ub2 &&& (255 : Int32))).toUInt32 >>> ((18 : Int32) &&& 31).toUInt32).toInt32)).toInt8.toInt32) T128.heap n0 (Nat.le_trans Z0 Kp128.1) VT (by decide) (by decide) rfl) hZ (hw _ (List.mem_of_getElem? (i := 15) rfl)) (hw _ (List.mem_of_getElem? (i := 4) rfl)) (by decide) (by decide)) (g := (mkF m 103 #[.val (.int p0), .val (.long q1), .second, .val (.int (3 : Int32)), .val (.ref b114), .val (.ref bt), .val (.int (0 : Int32)), .val (.int (4 : Int32))] [(.long q1), (.int (3 : Int32)), (.int (0 : Int32)), (.ref bt)])) rfl (by rw [hml]; rfl) (argsL := [(.ref bt), (.int (0 : Int32)), (.int (3 : Int32)), (.long q1)]) (rest := []) (lenOf pd_0_2 rfl) rfl (by show 2 * 0 + _ ≤ _; exact Nat.le_of_eq rfl) (hb hby at_103) (fun _ _ => ⟨rfl, rfl, (by decide : 2 + 0 ≤ _), (by decide : 7 + 0 ≤ _)⟩)
    dsimp only [Pt.U, Pt.locs, Pt.cells, Pt.slots] at X134 l134 y134 z134 st134 hQ134
    rw [y134, z134] at X134
    obtain ⟨rfl, Nq134, e134⟩ := hQ134
    have N134 : Fr n0 L134 := by rw [l134]; exact Fr.app N128 Nq134
    have K134 : own_K p e below SE T134 (mkF m 106 #[.val (.int p0), .val (.long q1), .second, .val (.int (3 : Int32)), .val (.ref b114), .val (.ref bt), .val (.int (0 : Int32)), .val (.int (4 : Int32))] [(.int (if (atv cA ((((((ub0 &&& (255 : Int32)) <<< ((16 : Int32) &&& 31)) ||| ((ub1 &&& (255 : Int32)) <<< ((8 : Int32) &&& 31))) ||| (ub2 &&& (255 : Int32))).toUInt32 >>> ((18 : Int32) &&& 31).toUInt32).toInt32)).toInt8.toInt32 = ((own_ch (own_sx q1 (3 : Int32) ((0 : Int32) / (4 : Int32)) ((0 : Int32) % (4 : Int32))))).toInt8.toInt32 then (1 : Int32) else (0 : Int32)))]) := fun t k => K133 _ (st134 _ k)
    have K135 : own_K p e below SE T134 (mkF m 114 #[.val (.int p0), .val (.long q1), .second, .val (.int (3 : Int32)), .val (.ref b114), .val (.ref bt), .val (.int (0 : Int32)), .val (.int (4 : Int32))] [(.long q1), (.int (3 : Int32)), (.int (1 : Int32)), (.ref bt)]) := by
      intro t k
      refine K134 _ ?_
      refine XS.ifNo X134.here hx rfl (hb hby at_106) rfl (XT.i0_eq_f ck0) ?_
      show own_S p e below T134 (mkF m 109 #[.val (.int p0), .val (.long q1), .second, .val (.int (3 : Int32)), .val (.ref b114), .val (.ref bt), .val (.int (0 : Int32)), .val (.int (4 : Int32))] []) _
      refine XS.aload X134.here hx rfl (hb hby at_109) rfl rfl ?_
      show own_S p e below T134 (mkF m 111 #[.val (.int p0), .val (.long q1), .second, .val (.int (3 : Int32)), .val (.ref b114), .val (.ref bt), .val (.int (0 : Int32)), .val (.int (4 : Int32))] [(.ref bt)]) _
      refine XS.iconst X134.here hx rfl (hb hby at_111) ?_
      show own_S p e below T134 (mkF m 112 #[.val (.int p0), .val (.long q1), .second, .val (.int (3 : Int32)), .val (.ref b114), .val (.ref bt), .val (.int (0 : Int32)), .val (.int (4 : Int32))] [(.int (1 : Int32)), (.ref bt)]) _
      refine XS.iloadN X134.here hx rfl (hb hby at_112) rfl ?_
      show own_S p e below T134 (mkF m 113 #[.val (.int p0), .val (.long q1), .second, .val (.int (3 : Int32)), .val (.ref b114), .val (.ref bt), .val (.int (0 : Int32)), .val (.int (4 : Int32))] [(.int (3 : Int32)), (.int (1 : Int32)), (.ref bt)]) _
      refine XS.lloadN X134.here hx rfl (hb hby at_113) rfl ?_
      exact k
    have sx1 : (((((((ub0 &&& (255 : Int32)) <<< ((16 : Int32) &&& 31)) ||| ((ub1 &&& (255 : Int32)) <<< ((8 : Int32) &&& 31))) ||| (ub2 &&& (255 : Int32))).toUInt32 >>> ((12 : Int32) &&& 31).toUInt32).toInt32) &&& (63 : Int32)) = own_sx q1 (3 : Int32) ((1 : Int32) / (4 : Int32)) ((1 : Int32) % (4 : Int32)) := by
      have h1 := own_i1 _ _ _ _ (own_m255 ub0) (own_m255 ub1) (own_m255 ub2) (own_x3i ub0 ub1 ub2)
      have o0 : (ub0 &&& (255 : Int32)) = own_oct q1 (0 : Int32) (3 : Int32) := by rw [hub0]; exact own_eo q1 (0 : Int32) (3 : Int32) (by decide)
      have o1 : (ub1 &&& (255 : Int32)) = own_oct q1 (1 : Int32) (3 : Int32) := by rw [hub1]; exact own_eo q1 (1 : Int32) (3 : Int32) (by decide)
      have o2 : (ub2 &&& (255 : Int32)) = own_oct q1 (2 : Int32) (3 : Int32) := by rw [hub2]; exact own_eo q1 (2 : Int32) (3 : Int32) (by decide)
      rw [h1]
      unfold own_sx
      rw [show ((1 : Int32) / (4 : Int32)) = (0 : Int32) by decide, show ((1 : Int32) % (4 : Int32)) = (1 : Int32) by decide, show ((3 : Int32) * (0 : Int32)) = (0 : Int32) by decide, show ((0 : Int32) + (1 : Int32)) = (1 : Int32) by decide, show ((0 : Int32) + (2 : Int32)) = (2 : Int32) by decide]
      rw [if_neg (by decide), if_pos (by decide), ← o0, ← o1]
    have ck1 : ¬ (if (atv cA (((((((ub0 &&& (255 : Int32)) <<< ((16 : Int32) &&& 31)) ||| ((ub1 &&& (255 : Int32)) <<< ((8 : Int32) &&& 31))) ||| (ub2 &&& (255 : Int32))).toUInt32 >>> ((12 : Int32) &&& 31).toUInt32).toInt32) &&& (63 : Int32))).toInt8.toInt32 = ((own_ch (own_sx q1 (3 : Int32) ((1 : Int32) / (4 : Int32)) ((1 : Int32) % (4 : Int32))))).toInt8.toInt32 then (1 : Int32) else (0 : Int32)) = 0 := own_one (own_chk hAL (own_b63 _) sx1)
    obtain ⟨_, _, ⟨T136, L136, k136, n136⟩, -, X136, ⟨Lc136, hQ136, l136, y136, z136⟩, st136⟩ := Jvm.LawKit.callS X134 hx (y := (⟨"com/example/whorl/whorl/Base64urlTextPinLaw", "chk", "([BIIJ)Z"⟩ : MethodName)) hown (mvT hZ (hw _ (List.mem_of_getElem? (i := 13) rfl))) (mvT hZ (hw _ (List.mem_of_getElem? (i := 14) rfl))) (mvT hZ (hw _ (List.mem_of_getElem? (i := 4) rfl))) (mvT hZ (hw _ (List.mem_of_getElem? (i := 15) rfl))) (by decide) (backOf (W := 0) (rm3y l Z a0 hw [] bt (1 : Int32) (3 : Int32) q1 kT (4 : Int32) _ ((atv cA (((((((ub0 &&& (255 : Int32)) <<< ((16 : Int32) &&& 31)) ||| ((ub1 &&& (255 : Int32)) <<< ((8 : Int32) &&& 31))) ||| (ub2 &&& (255 : Int32))).toUInt32 >>> ((12 : Int32) &&& 31).toUInt32).toInt32) &&& (63 : Int32))).toInt8.toInt32) T128.heap n0 (Nat.le_trans Z0 Kp128.1) VT (by decide) (by decide) rfl) hZ (hw _ (List.mem_of_getElem? (i := 15) rfl)) (hw _ (List.mem_of_getElem? (i := 4) rfl)) (by decide) (by decide)) (g := (mkF m 114 #[.val (.int p0), .val (.long q1), .second, .val (.int (3 : Int32)), .val (.ref b114), .val (.ref bt), .val (.int (0 : Int32)), .val (.int (4 : Int32))] [(.long q1), (.int (3 : Int32)), (.int (1 : Int32)), (.ref bt)])) rfl (by rw [hml]; rfl) (argsL := [(.ref bt), (.int (1 : Int32)), (.int (3 : Int32)), (.long q1)]) (rest := []) (lenOf pd_0_2 rfl) rfl (by show 2 * 0 + _ ≤ _; exact Nat.le_of_eq rfl) (hb hby at_114) (fun _ _ => ⟨rfl, e134, (by decide : 2 + 0 ≤ _), (by decide : 7 + 0 ≤ _)⟩)
    dsimp only [Pt.U, Pt.locs, Pt.cells, Pt.slots] at X136 l136 y136 z136 st136 hQ136
    rw [y136, z136] at X136
    obtain ⟨rfl, Nq136, e136⟩ := hQ136
    have N136 : Fr n0 L136 := by rw [l136]; exact Fr.app N134 Nq136
    have K136 : own_K p e below SE T136 (mkF m 117 #[.val (.int p0), .val (.long q1), .second, .val (.int (3 : Int32)), .val (.ref b114), .val (.ref bt), .val (.int (0 : Int32)), .val (.int (4 : Int32))] [(.int (if (atv cA (((((((ub0 &&& (255 : Int32)) <<< ((16 : Int32) &&& 31)) ||| ((ub1 &&& (255 : Int32)) <<< ((8 : Int32) &&& 31))) ||| (ub2 &&& (255 : Int32))).toUInt32 >>> ((12 : Int32) &&& 31).toUInt32).toInt32) &&& (63 : Int32))).toInt8.toInt32 = ((own_ch (own_sx q1 (3 : Int32) ((1 : Int32) / (4 : Int32)) ((1 : Int32) % (4 : Int32))))).toInt8.toInt32 then (1 : Int32) else (0 : Int32)))]) := fun t k => K135 _ (st136 _ k)
    have K137 : own_K p e below SE T136 (mkF m 125 #[.val (.int p0), .val (.long q1), .second, .val (.int (3 : Int32)), .val (.ref b114), .val (.ref bt), .val (.int (0 : Int32)), .val (.int (4 : Int32))] [(.long q1), (.int (3 : Int32)), (.int (2 : Int32)), (.ref bt)]) := by
      intro t k
      refine K136 _ ?_
      refine XS.ifNo X136.here hx rfl (hb hby at_117) rfl (XT.i0_eq_f ck1) ?_
      show own_S p e below T136 (mkF m 120 #[.val (.int p0), .val (.long q1), .second, .val (.int (3 : Int32)), .val (.ref b114), .val (.ref bt), .val (.int (0 : Int32)), .val (.int (4 : Int32))] []) _
      refine XS.aload X136.here hx rfl (hb hby at_120) rfl rfl ?_
      show own_S p e below T136 (mkF m 122 #[.val (.int p0), .val (.long q1), .second, .val (.int (3 : Int32)), .val (.ref b114), .val (.ref bt), .val (.int (0 : Int32)), .val (.int (4 : Int32))] [(.ref bt)]) _
      refine XS.iconst X136.here hx rfl (hb hby at_122) ?_
      show own_S p e below T136 (mkF m 123 #[.val (.int p0), .val (.long q1), .second, .val (.int (3 : Int32)), .val (.ref b114), .val (.ref bt), .val (.int (0 : Int32)), .val (.int (4 : Int32))] [(.int (2 : Int32)), (.ref bt)]) _
      refine XS.iloadN X136.here hx rfl (hb hby at_123) rfl ?_
      show own_S p e below T136 (mkF m 124 #[.val (.int p0), .val (.long q1), .second, .val (.int (3 : Int32)), .val (.ref b114), .val (.ref bt), .val (.int (0 : Int32)), .val (.int (4 : Int32))] [(.int (3 : Int32)), (.int (2 : Int32)), (.ref bt)]) _
      refine XS.lloadN X136.here hx rfl (hb hby at_124) rfl ?_
      exact k
    have sx2 : (((((((ub0 &&& (255 : Int32)) <<< ((16 : Int32) &&& 31)) ||| ((ub1 &&& (255 : Int32)) <<< ((8 : Int32) &&& 31))) ||| (ub2 &&& (255 : Int32))).toUInt32 >>> ((6 : Int32) &&& 31).toUInt32).toInt32) &&& (63 : Int32)) = own_sx q1 (3 : Int32) ((2 : Int32) / (4 : Int32)) ((2 : Int32) % (4 : Int32)) := by
      have h1 := own_i2 _ _ _ _ (own_m255 ub0) (own_m255 ub1) (own_m255 ub2) (own_x3i ub0 ub1 ub2)
      have o0 : (ub0 &&& (255 : Int32)) = own_oct q1 (0 : Int32) (3 : Int32) := by rw [hub0]; exact own_eo q1 (0 : Int32) (3 : Int32) (by decide)
      have o1 : (ub1 &&& (255 : Int32)) = own_oct q1 (1 : Int32) (3 : Int32) := by rw [hub1]; exact own_eo q1 (1 : Int32) (3 : Int32) (by decide)
      have o2 : (ub2 &&& (255 : Int32)) = own_oct q1 (2 : Int32) (3 : Int32) := by rw [hub2]; exact own_eo q1 (2 : Int32) (3 : Int32) (by decide)
      rw [h1]
      unfold own_sx
      rw [show ((2 : Int32) / (4 : Int32)) = (0 : Int32) by decide, show ((2 : Int32) % (4 : Int32)) = (2 : Int32) by decide, show ((3 : Int32) * (0 : Int32)) = (0 : Int32) by decide, show ((0 : Int32) + (1 : Int32)) = (1 : Int32) by decide, show ((0 : Int32) + (2 : Int32)) = (2 : Int32) by decide]
      rw [if_neg (by decide), if_neg (by decide), if_pos (by decide), ← o1, ← o2]
    have ck2 : ¬ (if (atv cA (((((((ub0 &&& (255 : Int32)) <<< ((16 : Int32) &&& 31)) ||| ((ub1 &&& (255 : Int32)) <<< ((8 : Int32) &&& 31))) ||| (ub2 &&& (255 : Int32))).toUInt32 >>> ((6 : Int32) &&& 31).toUInt32).toInt32) &&& (63 : Int32))).toInt8.toInt32 = ((own_ch (own_sx q1 (3 : Int32) ((2 : Int32) / (4 : Int32)) ((2 : Int32) % (4 : Int32))))).toInt8.toInt32 then (1 : Int32) else (0 : Int32)) = 0 := own_one (own_chk hAL (own_b63 _) sx2)
    obtain ⟨_, _, ⟨T138, L138, k138, n138⟩, -, X138, ⟨Lc138, hQ138, l138, y138, z138⟩, st138⟩ := Jvm.LawKit.callS X136 hx (y := (⟨"com/example/whorl/whorl/Base64urlTextPinLaw", "chk", "([BIIJ)Z"⟩ : MethodName)) hown (mvT hZ (hw _ (List.mem_of_getElem? (i := 13) rfl))) (mvT hZ (hw _ (List.mem_of_getElem? (i := 14) rfl))) (mvT hZ (hw _ (List.mem_of_getElem? (i := 4) rfl))) (mvT hZ (hw _ (List.mem_of_getElem? (i := 15) rfl))) (by decide) (backOf (W := 0) (rm3y l Z a0 hw [] bt (2 : Int32) (3 : Int32) q1 kT (4 : Int32) _ ((atv cA (((((((ub0 &&& (255 : Int32)) <<< ((16 : Int32) &&& 31)) ||| ((ub1 &&& (255 : Int32)) <<< ((8 : Int32) &&& 31))) ||| (ub2 &&& (255 : Int32))).toUInt32 >>> ((6 : Int32) &&& 31).toUInt32).toInt32) &&& (63 : Int32))).toInt8.toInt32) T128.heap n0 (Nat.le_trans Z0 Kp128.1) VT (by decide) (by decide) rfl) hZ (hw _ (List.mem_of_getElem? (i := 15) rfl)) (hw _ (List.mem_of_getElem? (i := 4) rfl)) (by decide) (by decide)) (g := (mkF m 125 #[.val (.int p0), .val (.long q1), .second, .val (.int (3 : Int32)), .val (.ref b114), .val (.ref bt), .val (.int (0 : Int32)), .val (.int (4 : Int32))] [(.long q1), (.int (3 : Int32)), (.int (2 : Int32)), (.ref bt)])) rfl (by rw [hml]; rfl) (argsL := [(.ref bt), (.int (2 : Int32)), (.int (3 : Int32)), (.long q1)]) (rest := []) (lenOf pd_0_2 rfl) rfl (by show 2 * 0 + _ ≤ _; exact Nat.le_of_eq rfl) (hb hby at_125) (fun _ _ => ⟨rfl, e136, (by decide : 2 + 0 ≤ _), (by decide : 7 + 0 ≤ _)⟩)
    dsimp only [Pt.U, Pt.locs, Pt.cells, Pt.slots] at X138 l138 y138 z138 st138 hQ138
    rw [y138, z138] at X138
    obtain ⟨rfl, Nq138, e138⟩ := hQ138
    have N138 : Fr n0 L138 := by rw [l138]; exact Fr.app N136 Nq138
    have K138 : own_K p e below SE T138 (mkF m 128 #[.val (.int p0), .val (.long q1), .second, .val (.int (3 : Int32)), .val (.ref b114), .val (.ref bt), .val (.int (0 : Int32)), .val (.int (4 : Int32))] [(.int (if (atv cA (((((((ub0 &&& (255 : Int32)) <<< ((16 : Int32) &&& 31)) ||| ((ub1 &&& (255 : Int32)) <<< ((8 : Int32) &&& 31))) ||| (ub2 &&& (255 : Int32))).toUInt32 >>> ((6 : Int32) &&& 31).toUInt32).toInt32) &&& (63 : Int32))).toInt8.toInt32 = ((own_ch (own_sx q1 (3 : Int32) ((2 : Int32) / (4 : Int32)) ((2 : Int32) % (4 : Int32))))).toInt8.toInt32 then (1 : Int32) else (0 : Int32)))]) := fun t k => K137 _ (st138 _ k)
    have K139 : own_K p e below SE T138 (mkF m 136 #[.val (.int p0), .val (.long q1), .second, .val (.int (3 : Int32)), .val (.ref b114), .val (.ref bt), .val (.int (0 : Int32)), .val (.int (4 : Int32))] [(.long q1), (.int (3 : Int32)), (.int (3 : Int32)), (.ref bt)]) := by
      intro t k
      refine K138 _ ?_
      refine XS.ifNo X138.here hx rfl (hb hby at_128) rfl (XT.i0_eq_f ck2) ?_
      show own_S p e below T138 (mkF m 131 #[.val (.int p0), .val (.long q1), .second, .val (.int (3 : Int32)), .val (.ref b114), .val (.ref bt), .val (.int (0 : Int32)), .val (.int (4 : Int32))] []) _
      refine XS.aload X138.here hx rfl (hb hby at_131) rfl rfl ?_
      show own_S p e below T138 (mkF m 133 #[.val (.int p0), .val (.long q1), .second, .val (.int (3 : Int32)), .val (.ref b114), .val (.ref bt), .val (.int (0 : Int32)), .val (.int (4 : Int32))] [(.ref bt)]) _
      refine XS.iconst X138.here hx rfl (hb hby at_133) ?_
      show own_S p e below T138 (mkF m 134 #[.val (.int p0), .val (.long q1), .second, .val (.int (3 : Int32)), .val (.ref b114), .val (.ref bt), .val (.int (0 : Int32)), .val (.int (4 : Int32))] [(.int (3 : Int32)), (.ref bt)]) _
      refine XS.iloadN X138.here hx rfl (hb hby at_134) rfl ?_
      show own_S p e below T138 (mkF m 135 #[.val (.int p0), .val (.long q1), .second, .val (.int (3 : Int32)), .val (.ref b114), .val (.ref bt), .val (.int (0 : Int32)), .val (.int (4 : Int32))] [(.int (3 : Int32)), (.int (3 : Int32)), (.ref bt)]) _
      refine XS.lloadN X138.here hx rfl (hb hby at_135) rfl ?_
      exact k
    have sx3 : (((((ub0 &&& (255 : Int32)) <<< ((16 : Int32) &&& 31)) ||| ((ub1 &&& (255 : Int32)) <<< ((8 : Int32) &&& 31))) ||| (ub2 &&& (255 : Int32))) &&& (63 : Int32)) = own_sx q1 (3 : Int32) ((3 : Int32) / (4 : Int32)) ((3 : Int32) % (4 : Int32)) := by
      have h1 := own_i3 _ _ _ _ (own_m255 ub0) (own_m255 ub1) (own_m255 ub2) (own_x3i ub0 ub1 ub2)
      have o0 : (ub0 &&& (255 : Int32)) = own_oct q1 (0 : Int32) (3 : Int32) := by rw [hub0]; exact own_eo q1 (0 : Int32) (3 : Int32) (by decide)
      have o1 : (ub1 &&& (255 : Int32)) = own_oct q1 (1 : Int32) (3 : Int32) := by rw [hub1]; exact own_eo q1 (1 : Int32) (3 : Int32) (by decide)
      have o2 : (ub2 &&& (255 : Int32)) = own_oct q1 (2 : Int32) (3 : Int32) := by rw [hub2]; exact own_eo q1 (2 : Int32) (3 : Int32) (by decide)
      rw [h1]
      unfold own_sx
      rw [show ((3 : Int32) / (4 : Int32)) = (0 : Int32) by decide, show ((3 : Int32) % (4 : Int32)) = (3 : Int32) by decide, show ((3 : Int32) * (0 : Int32)) = (0 : Int32) by decide, show ((0 : Int32) + (1 : Int32)) = (1 : Int32) by decide, show ((0 : Int32) + (2 : Int32)) = (2 : Int32) by decide]
      rw [if_neg (by decide), if_neg (by decide), if_neg (by decide), ← o2]
    have ck3 : ¬ (if (atv cA (((((ub0 &&& (255 : Int32)) <<< ((16 : Int32) &&& 31)) ||| ((ub1 &&& (255 : Int32)) <<< ((8 : Int32) &&& 31))) ||| (ub2 &&& (255 : Int32))) &&& (63 : Int32))).toInt8.toInt32 = ((own_ch (own_sx q1 (3 : Int32) ((3 : Int32) / (4 : Int32)) ((3 : Int32) % (4 : Int32))))).toInt8.toInt32 then (1 : Int32) else (0 : Int32)) = 0 := own_one (own_chk hAL (own_b63 _) sx3)
    obtain ⟨_, _, ⟨T140, L140, k140, n140⟩, -, X140, ⟨Lc140, hQ140, l140, y140, z140⟩, st140⟩ := Jvm.LawKit.callS X138 hx (y := (⟨"com/example/whorl/whorl/Base64urlTextPinLaw", "chk", "([BIIJ)Z"⟩ : MethodName)) hown (mvT hZ (hw _ (List.mem_of_getElem? (i := 13) rfl))) (mvT hZ (hw _ (List.mem_of_getElem? (i := 14) rfl))) (mvT hZ (hw _ (List.mem_of_getElem? (i := 4) rfl))) (mvT hZ (hw _ (List.mem_of_getElem? (i := 15) rfl))) (by decide) (backOf (W := 0) (rm3y l Z a0 hw [] bt (3 : Int32) (3 : Int32) q1 kT (4 : Int32) _ ((atv cA (((((ub0 &&& (255 : Int32)) <<< ((16 : Int32) &&& 31)) ||| ((ub1 &&& (255 : Int32)) <<< ((8 : Int32) &&& 31))) ||| (ub2 &&& (255 : Int32))) &&& (63 : Int32))).toInt8.toInt32) T128.heap n0 (Nat.le_trans Z0 Kp128.1) VT (by decide) (by decide) rfl) hZ (hw _ (List.mem_of_getElem? (i := 15) rfl)) (hw _ (List.mem_of_getElem? (i := 4) rfl)) (by decide) (by decide)) (g := (mkF m 136 #[.val (.int p0), .val (.long q1), .second, .val (.int (3 : Int32)), .val (.ref b114), .val (.ref bt), .val (.int (0 : Int32)), .val (.int (4 : Int32))] [(.long q1), (.int (3 : Int32)), (.int (3 : Int32)), (.ref bt)])) rfl (by rw [hml]; rfl) (argsL := [(.ref bt), (.int (3 : Int32)), (.int (3 : Int32)), (.long q1)]) (rest := []) (lenOf pd_0_2 rfl) rfl (by show 2 * 0 + _ ≤ _; exact Nat.le_of_eq rfl) (hb hby at_136) (fun _ _ => ⟨rfl, e138, (by decide : 2 + 0 ≤ _), (by decide : 7 + 0 ≤ _)⟩)
    dsimp only [Pt.U, Pt.locs, Pt.cells, Pt.slots] at X140 l140 y140 z140 st140 hQ140
    rw [y140, z140] at X140
    obtain ⟨rfl, Nq140, e140⟩ := hQ140
    have N140 : Fr n0 L140 := by rw [l140]; exact Fr.app N138 Nq140
    have K140 : own_K p e below SE T140 (mkF m 139 #[.val (.int p0), .val (.long q1), .second, .val (.int (3 : Int32)), .val (.ref b114), .val (.ref bt), .val (.int (0 : Int32)), .val (.int (4 : Int32))] [(.int (if (atv cA (((((ub0 &&& (255 : Int32)) <<< ((16 : Int32) &&& 31)) ||| ((ub1 &&& (255 : Int32)) <<< ((8 : Int32) &&& 31))) ||| (ub2 &&& (255 : Int32))) &&& (63 : Int32))).toInt8.toInt32 = ((own_ch (own_sx q1 (3 : Int32) ((3 : Int32) / (4 : Int32)) ((3 : Int32) % (4 : Int32))))).toInt8.toInt32 then (1 : Int32) else (0 : Int32)))]) := fun t k => K139 _ (st140 _ k)
    have K141 : own_K p e below SE T140 (mkF m 147 #[.val (.int p0), .val (.long q1), .second, .val (.int (3 : Int32)), .val (.ref b114), .val (.ref bt), .val (.int (0 : Int32)), .val (.int (4 : Int32))] [(.long q1), (.int (3 : Int32)), (.int (4 : Int32)), (.ref bt)]) := by
      intro t k
      refine K140 _ ?_
      refine XS.ifNo X140.here hx rfl (hb hby at_139) rfl (XT.i0_eq_f ck3) ?_
      show own_S p e below T140 (mkF m 142 #[.val (.int p0), .val (.long q1), .second, .val (.int (3 : Int32)), .val (.ref b114), .val (.ref bt), .val (.int (0 : Int32)), .val (.int (4 : Int32))] []) _
      refine XS.aload X140.here hx rfl (hb hby at_142) rfl rfl ?_
      show own_S p e below T140 (mkF m 144 #[.val (.int p0), .val (.long q1), .second, .val (.int (3 : Int32)), .val (.ref b114), .val (.ref bt), .val (.int (0 : Int32)), .val (.int (4 : Int32))] [(.ref bt)]) _
      refine XS.iconst X140.here hx rfl (hb hby at_144) ?_
      show own_S p e below T140 (mkF m 145 #[.val (.int p0), .val (.long q1), .second, .val (.int (3 : Int32)), .val (.ref b114), .val (.ref bt), .val (.int (0 : Int32)), .val (.int (4 : Int32))] [(.int (4 : Int32)), (.ref bt)]) _
      refine XS.iloadN X140.here hx rfl (hb hby at_145) rfl ?_
      show own_S p e below T140 (mkF m 146 #[.val (.int p0), .val (.long q1), .second, .val (.int (3 : Int32)), .val (.ref b114), .val (.ref bt), .val (.int (0 : Int32)), .val (.int (4 : Int32))] [(.int (3 : Int32)), (.int (4 : Int32)), (.ref bt)]) _
      refine XS.lloadN X140.here hx rfl (hb hby at_146) rfl ?_
      exact k
    obtain ⟨_, _, ⟨T142, L142, k142, n142⟩, -, X142, ⟨Lc142, hQ142, l142, y142, z142⟩, st142⟩ := Jvm.LawKit.callS X140 hx (y := (⟨"com/example/whorl/whorl/Base64urlTextPinLaw", "chk", "([BIIJ)Z"⟩ : MethodName)) hown (mvT hZ (hw _ (List.mem_of_getElem? (i := 13) rfl))) (mvT hZ (hw _ (List.mem_of_getElem? (i := 14) rfl))) (mvT hZ (hw _ (List.mem_of_getElem? (i := 4) rfl))) (mvT hZ (hw _ (List.mem_of_getElem? (i := 15) rfl))) (by decide) (backOf (W := 0) (rm3n l Z a0 hw [] bt (4 : Int32) (3 : Int32) q1 kT (4 : Int32) _ T128.heap n0 (Nat.le_trans Z0 Kp128.1) VT (by decide)) hZ (hw _ (List.mem_of_getElem? (i := 15) rfl)) (hw _ (List.mem_of_getElem? (i := 4) rfl)) (by decide) (by decide)) (g := (mkF m 147 #[.val (.int p0), .val (.long q1), .second, .val (.int (3 : Int32)), .val (.ref b114), .val (.ref bt), .val (.int (0 : Int32)), .val (.int (4 : Int32))] [(.long q1), (.int (3 : Int32)), (.int (4 : Int32)), (.ref bt)])) rfl (by rw [hml]; rfl) (argsL := [(.ref bt), (.int (4 : Int32)), (.int (3 : Int32)), (.long q1)]) (rest := []) (lenOf pd_0_2 rfl) rfl (by show 2 * 0 + _ ≤ _; exact Nat.le_of_eq rfl) (hb hby at_147) (fun _ _ => ⟨rfl, e140, (by decide : 2 + 0 ≤ _), (by decide : 7 + 0 ≤ _)⟩)
    dsimp only [Pt.U, Pt.locs, Pt.cells, Pt.slots] at X142 l142 y142 z142 st142 hQ142
    rw [y142, z142] at X142
    obtain ⟨rfl, Nq142, e142⟩ := hQ142
    have N142 : Fr n0 L142 := by rw [l142]; exact Fr.app N140 Nq142
    have K142 : own_K p e below SE T142 (mkF m 150 #[.val (.int p0), .val (.long q1), .second, .val (.int (3 : Int32)), .val (.ref b114), .val (.ref bt), .val (.int (0 : Int32)), .val (.int (4 : Int32))] [(.int (1 : Int32))]) := fun t k => K141 _ (st142 _ k)
    have K143 : own_K p e below SE T142 (mkF m 158 #[.val (.int p0), .val (.long q1), .second, .val (.int (3 : Int32)), .val (.ref b114), .val (.ref bt), .val (.int (0 : Int32)), .val (.int (4 : Int32))] [(.long q1), (.int (3 : Int32)), (.int (5 : Int32)), (.ref bt)]) := by
      intro t k
      refine K142 _ ?_
      refine XS.ifNo X142.here hx rfl (hb hby at_150) rfl (XT.i0_eq_f (by decide : ¬ ((1 : Int32) = 0))) ?_
      show own_S p e below T142 (mkF m 153 #[.val (.int p0), .val (.long q1), .second, .val (.int (3 : Int32)), .val (.ref b114), .val (.ref bt), .val (.int (0 : Int32)), .val (.int (4 : Int32))] []) _
      refine XS.aload X142.here hx rfl (hb hby at_153) rfl rfl ?_
      show own_S p e below T142 (mkF m 155 #[.val (.int p0), .val (.long q1), .second, .val (.int (3 : Int32)), .val (.ref b114), .val (.ref bt), .val (.int (0 : Int32)), .val (.int (4 : Int32))] [(.ref bt)]) _
      refine XS.iconst X142.here hx rfl (hb hby at_155) ?_
      show own_S p e below T142 (mkF m 156 #[.val (.int p0), .val (.long q1), .second, .val (.int (3 : Int32)), .val (.ref b114), .val (.ref bt), .val (.int (0 : Int32)), .val (.int (4 : Int32))] [(.int (5 : Int32)), (.ref bt)]) _
      refine XS.iloadN X142.here hx rfl (hb hby at_156) rfl ?_
      show own_S p e below T142 (mkF m 157 #[.val (.int p0), .val (.long q1), .second, .val (.int (3 : Int32)), .val (.ref b114), .val (.ref bt), .val (.int (0 : Int32)), .val (.int (4 : Int32))] [(.int (3 : Int32)), (.int (5 : Int32)), (.ref bt)]) _
      refine XS.lloadN X142.here hx rfl (hb hby at_157) rfl ?_
      exact k
    obtain ⟨_, _, ⟨T144, L144, k144, n144⟩, -, X144, ⟨Lc144, hQ144, l144, y144, z144⟩, st144⟩ := Jvm.LawKit.callS X142 hx (y := (⟨"com/example/whorl/whorl/Base64urlTextPinLaw", "chk", "([BIIJ)Z"⟩ : MethodName)) hown (mvT hZ (hw _ (List.mem_of_getElem? (i := 13) rfl))) (mvT hZ (hw _ (List.mem_of_getElem? (i := 14) rfl))) (mvT hZ (hw _ (List.mem_of_getElem? (i := 4) rfl))) (mvT hZ (hw _ (List.mem_of_getElem? (i := 15) rfl))) (by decide) (backOf (W := 0) (rm3n l Z a0 hw [] bt (5 : Int32) (3 : Int32) q1 kT (4 : Int32) _ T128.heap n0 (Nat.le_trans Z0 Kp128.1) VT (by decide)) hZ (hw _ (List.mem_of_getElem? (i := 15) rfl)) (hw _ (List.mem_of_getElem? (i := 4) rfl)) (by decide) (by decide)) (g := (mkF m 158 #[.val (.int p0), .val (.long q1), .second, .val (.int (3 : Int32)), .val (.ref b114), .val (.ref bt), .val (.int (0 : Int32)), .val (.int (4 : Int32))] [(.long q1), (.int (3 : Int32)), (.int (5 : Int32)), (.ref bt)])) rfl (by rw [hml]; rfl) (argsL := [(.ref bt), (.int (5 : Int32)), (.int (3 : Int32)), (.long q1)]) (rest := []) (lenOf pd_0_2 rfl) rfl (by show 2 * 0 + _ ≤ _; exact Nat.le_of_eq rfl) (hb hby at_158) (fun _ _ => ⟨rfl, e142, (by decide : 2 + 0 ≤ _), (by decide : 7 + 0 ≤ _)⟩)
    dsimp only [Pt.U, Pt.locs, Pt.cells, Pt.slots] at X144 l144 y144 z144 st144 hQ144
    rw [y144, z144] at X144
    obtain ⟨rfl, Nq144, e144⟩ := hQ144
    have N144 : Fr n0 L144 := by rw [l144]; exact Fr.app N142 Nq144
    have K144 : own_K p e below SE T144 (mkF m 161 #[.val (.int p0), .val (.long q1), .second, .val (.int (3 : Int32)), .val (.ref b114), .val (.ref bt), .val (.int (0 : Int32)), .val (.int (4 : Int32))] [(.int (1 : Int32))]) := fun t k => K143 _ (st144 _ k)
    have K145 : own_K p e below SE T144 (mkF m 170 #[.val (.int p0), .val (.long q1), .second, .val (.int (3 : Int32)), .val (.ref b114), .val (.ref bt), .val (.int (0 : Int32)), .val (.int (4 : Int32))] [(.long q1), (.int (3 : Int32)), (.int (6 : Int32)), (.ref bt)]) := by
      intro t k
      refine K144 _ ?_
      refine XS.ifNo X144.here hx rfl (hb hby at_161) rfl (XT.i0_eq_f (by decide : ¬ ((1 : Int32) = 0))) ?_
      show own_S p e below T144 (mkF m 164 #[.val (.int p0), .val (.long q1), .second, .val (.int (3 : Int32)), .val (.ref b114), .val (.ref bt), .val (.int (0 : Int32)), .val (.int (4 : Int32))] []) _
      refine XS.aload X144.here hx rfl (hb hby at_164) rfl rfl ?_
      show own_S p e below T144 (mkF m 166 #[.val (.int p0), .val (.long q1), .second, .val (.int (3 : Int32)), .val (.ref b114), .val (.ref bt), .val (.int (0 : Int32)), .val (.int (4 : Int32))] [(.ref bt)]) _
      refine XS.bipush X144.here hx rfl (hb hby at_166) ?_
      show own_S p e below T144 (mkF m 168 #[.val (.int p0), .val (.long q1), .second, .val (.int (3 : Int32)), .val (.ref b114), .val (.ref bt), .val (.int (0 : Int32)), .val (.int (4 : Int32))] [(.int (6 : Int32)), (.ref bt)]) _
      refine XS.iloadN X144.here hx rfl (hb hby at_168) rfl ?_
      show own_S p e below T144 (mkF m 169 #[.val (.int p0), .val (.long q1), .second, .val (.int (3 : Int32)), .val (.ref b114), .val (.ref bt), .val (.int (0 : Int32)), .val (.int (4 : Int32))] [(.int (3 : Int32)), (.int (6 : Int32)), (.ref bt)]) _
      refine XS.lloadN X144.here hx rfl (hb hby at_169) rfl ?_
      exact k
    obtain ⟨_, _, ⟨T146, L146, k146, n146⟩, -, X146, ⟨Lc146, hQ146, l146, y146, z146⟩, st146⟩ := Jvm.LawKit.callS X144 hx (y := (⟨"com/example/whorl/whorl/Base64urlTextPinLaw", "chk", "([BIIJ)Z"⟩ : MethodName)) hown (mvT hZ (hw _ (List.mem_of_getElem? (i := 13) rfl))) (mvT hZ (hw _ (List.mem_of_getElem? (i := 14) rfl))) (mvT hZ (hw _ (List.mem_of_getElem? (i := 4) rfl))) (mvT hZ (hw _ (List.mem_of_getElem? (i := 15) rfl))) (by decide) (backOf (W := 0) (rm3n l Z a0 hw [] bt (6 : Int32) (3 : Int32) q1 kT (4 : Int32) _ T128.heap n0 (Nat.le_trans Z0 Kp128.1) VT (by decide)) hZ (hw _ (List.mem_of_getElem? (i := 15) rfl)) (hw _ (List.mem_of_getElem? (i := 4) rfl)) (by decide) (by decide)) (g := (mkF m 170 #[.val (.int p0), .val (.long q1), .second, .val (.int (3 : Int32)), .val (.ref b114), .val (.ref bt), .val (.int (0 : Int32)), .val (.int (4 : Int32))] [(.long q1), (.int (3 : Int32)), (.int (6 : Int32)), (.ref bt)])) rfl (by rw [hml]; rfl) (argsL := [(.ref bt), (.int (6 : Int32)), (.int (3 : Int32)), (.long q1)]) (rest := []) (lenOf pd_0_2 rfl) rfl (by show 2 * 0 + _ ≤ _; exact Nat.le_of_eq rfl) (hb hby at_170) (fun _ _ => ⟨rfl, e144, (by decide : 2 + 0 ≤ _), (by decide : 7 + 0 ≤ _)⟩)
    dsimp only [Pt.U, Pt.locs, Pt.cells, Pt.slots] at X146 l146 y146 z146 st146 hQ146
    rw [y146, z146] at X146
    obtain ⟨rfl, Nq146, e146⟩ := hQ146
    have N146 : Fr n0 L146 := by rw [l146]; exact Fr.app N144 Nq146
    have K146 : own_K p e below SE T146 (mkF m 173 #[.val (.int p0), .val (.long q1), .second, .val (.int (3 : Int32)), .val (.ref b114), .val (.ref bt), .val (.int (0 : Int32)), .val (.int (4 : Int32))] [(.int (1 : Int32))]) := fun t k => K145 _ (st146 _ k)
    have K147 : own_K p e below SE T146 (mkF m 182 #[.val (.int p0), .val (.long q1), .second, .val (.int (3 : Int32)), .val (.ref b114), .val (.ref bt), .val (.int (0 : Int32)), .val (.int (4 : Int32))] [(.long q1), (.int (3 : Int32)), (.int (7 : Int32)), (.ref bt)]) := by
      intro t k
      refine K146 _ ?_
      refine XS.ifNo X146.here hx rfl (hb hby at_173) rfl (XT.i0_eq_f (by decide : ¬ ((1 : Int32) = 0))) ?_
      show own_S p e below T146 (mkF m 176 #[.val (.int p0), .val (.long q1), .second, .val (.int (3 : Int32)), .val (.ref b114), .val (.ref bt), .val (.int (0 : Int32)), .val (.int (4 : Int32))] []) _
      refine XS.aload X146.here hx rfl (hb hby at_176) rfl rfl ?_
      show own_S p e below T146 (mkF m 178 #[.val (.int p0), .val (.long q1), .second, .val (.int (3 : Int32)), .val (.ref b114), .val (.ref bt), .val (.int (0 : Int32)), .val (.int (4 : Int32))] [(.ref bt)]) _
      refine XS.bipush X146.here hx rfl (hb hby at_178) ?_
      show own_S p e below T146 (mkF m 180 #[.val (.int p0), .val (.long q1), .second, .val (.int (3 : Int32)), .val (.ref b114), .val (.ref bt), .val (.int (0 : Int32)), .val (.int (4 : Int32))] [(.int (7 : Int32)), (.ref bt)]) _
      refine XS.iloadN X146.here hx rfl (hb hby at_180) rfl ?_
      show own_S p e below T146 (mkF m 181 #[.val (.int p0), .val (.long q1), .second, .val (.int (3 : Int32)), .val (.ref b114), .val (.ref bt), .val (.int (0 : Int32)), .val (.int (4 : Int32))] [(.int (3 : Int32)), (.int (7 : Int32)), (.ref bt)]) _
      refine XS.lloadN X146.here hx rfl (hb hby at_181) rfl ?_
      exact k
    obtain ⟨_, _, ⟨T148, L148, k148, n148⟩, -, X148, ⟨Lc148, hQ148, l148, y148, z148⟩, st148⟩ := Jvm.LawKit.callS X146 hx (y := (⟨"com/example/whorl/whorl/Base64urlTextPinLaw", "chk", "([BIIJ)Z"⟩ : MethodName)) hown (mvT hZ (hw _ (List.mem_of_getElem? (i := 13) rfl))) (mvT hZ (hw _ (List.mem_of_getElem? (i := 14) rfl))) (mvT hZ (hw _ (List.mem_of_getElem? (i := 4) rfl))) (mvT hZ (hw _ (List.mem_of_getElem? (i := 15) rfl))) (by decide) (backOf (W := 0) (rm3n l Z a0 hw [] bt (7 : Int32) (3 : Int32) q1 kT (4 : Int32) _ T128.heap n0 (Nat.le_trans Z0 Kp128.1) VT (by decide)) hZ (hw _ (List.mem_of_getElem? (i := 15) rfl)) (hw _ (List.mem_of_getElem? (i := 4) rfl)) (by decide) (by decide)) (g := (mkF m 182 #[.val (.int p0), .val (.long q1), .second, .val (.int (3 : Int32)), .val (.ref b114), .val (.ref bt), .val (.int (0 : Int32)), .val (.int (4 : Int32))] [(.long q1), (.int (3 : Int32)), (.int (7 : Int32)), (.ref bt)])) rfl (by rw [hml]; rfl) (argsL := [(.ref bt), (.int (7 : Int32)), (.int (3 : Int32)), (.long q1)]) (rest := []) (lenOf pd_0_2 rfl) rfl (by show 2 * 0 + _ ≤ _; exact Nat.le_of_eq rfl) (hb hby at_182) (fun _ _ => ⟨rfl, e146, (by decide : 2 + 0 ≤ _), (by decide : 7 + 0 ≤ _)⟩)
    dsimp only [Pt.U, Pt.locs, Pt.cells, Pt.slots] at X148 l148 y148 z148 st148 hQ148
    rw [y148, z148] at X148
    obtain ⟨rfl, Nq148, e148⟩ := hQ148
    have N148 : Fr n0 L148 := by rw [l148]; exact Fr.app N146 Nq148
    have K148 : own_K p e below SE T148 (mkF m 185 #[.val (.int p0), .val (.long q1), .second, .val (.int (3 : Int32)), .val (.ref b114), .val (.ref bt), .val (.int (0 : Int32)), .val (.int (4 : Int32))] [(.int (1 : Int32))]) := fun t k => K147 _ (st148 _ k)
    have K149 : own_K p e below SE T148 (mkF m 193 #[.val (.int p0), .val (.long q1), .second, .val (.int (3 : Int32)), .val (.ref b114), .val (.ref bt), .val (.int (0 : Int32)), .val (.int (4 : Int32))] [(.int (1 : Int32))]) := by
      intro t k
      refine K148 _ ?_
      refine XS.ifNo X148.here hx rfl (hb hby at_185) rfl (XT.i0_eq_f (by decide : ¬ ((1 : Int32) = 0))) ?_
      show own_S p e below T148 (mkF m 188 #[.val (.int p0), .val (.long q1), .second, .val (.int (3 : Int32)), .val (.ref b114), .val (.ref bt), .val (.int (0 : Int32)), .val (.int (4 : Int32))] []) _
      refine XS.iconst X148.here hx rfl (hb hby at_188) ?_
      show own_S p e below T148 (mkF m 189 #[.val (.int p0), .val (.long q1), .second, .val (.int (3 : Int32)), .val (.ref b114), .val (.ref bt), .val (.int (0 : Int32)), .val (.int (4 : Int32))] [(.int (1 : Int32))]) _
      refine XS.goto X148.here hx rfl (pc0 := 189) (pc' := 193) rfl (hb hby at_189) (by decide) (by decide) ?_
      exact k
    obtain ⟨fs, hr, hrun, hended, hW, hsame⟩ := X148.leave (v := some (.int (1 : Int32))) (fun h => by rw [Bd.returns] at h; cases h)
    refine ⟨_, _, K149 _ ?_, hrun, hended, _, _, rfl, ?_, ⟨_, rfl⟩, hW, hsame.mono (by decide) (by decide)⟩
    · exact retN X148 hx (t := .boolean) Bd.returns (by simp) (hb hby at_193) hr
    · show Q0 Z p0 q1 oAL cA h0 n0 _ T148.heap _
      rw [e148]
      exact ⟨rfl, N148⟩
  · skip
    rw [q] at K1
    have K150 : own_K p e below SE s₁ (mkF m 9 #[.val (.int p0), .val (.long q1), .second, .val (.int (4 : Int32)), .unset, .unset, .unset, .unset] [(.int (4 : Int32))]) := by
      intro t k
      refine K1 _ ?_
      refine XS.iloadN X0.here hx rfl (hb hby at_8) rfl ?_
      exact k
    obtain ⟨T151, h151, k151, X151, e151, E151, A151, st151⟩ := newP X0 hx hZ (hw _ (List.mem_of_getElem? (i := 1) rfl)) e0 (g := (mkF m 9 #[.val (.int p0), .val (.long q1), .second, .val (.int (4 : Int32)), .unset, .unset, .unset, .unset] [(.int (4 : Int32))])) rfl (hb hby at_9) rfl (by decide) (cap := 4) (by decide) (by decide) (by decide) (by decide)
    obtain ⟨b151, g151⟩ : ∃ z, z = h0.size := ⟨_, rfl⟩
    rw [← g151] at A151 st151
    have g_b151 : n0 ≤ b151 := Nat.le_trans Z0 (Nat.le_of_eq g151.symm)
    have sz_b151 : h0.size ≤ b151 := Nat.le_trans (Nat.le_refl _) (Nat.le_of_eq g151.symm)
    have Kp151 : Keep h0 h151 [] := Keep.ext (Keep.refl h0 []) E151
    have V151 : Arv Z h151 b151 k151 .byte (4 : Int32) [(.int (0 : Int32)), (.int (0 : Int32)), (.int (0 : Int32)), (.int (0 : Int32))] (.int (0 : Int32)) := (Arv.new A151 (by decide)).pad (pad_rep [] (.int (0 : Int32)) 4)
    have K151 : own_K p e below SE T151 (mkF m 11 #[.val (.int p0), .val (.long q1), .second, .val (.int (4 : Int32)), .unset, .unset, .unset, .unset] [(.ref b151)]) := fun t k => K150 _ (st151 _ k)
    have K152 : own_K p e below SE T151 (mkF m 17 #[.val (.int p0), .val (.long q1), .second, .val (.int (4 : Int32)), .val (.ref b151), .unset, .unset, .unset] [(.long q1), (.int (0 : Int32)), (.ref b151)]) := by
      intro t k
      refine K151 _ ?_
      refine XS.astore X151.here hx rfl (hb hby at_11) rfl rfl (l' := #[.val (.int p0), .val (.long q1), .second, .val (.int (4 : Int32)), .val (.ref b151), .unset, .unset, .unset]) rfl ?_
      show own_S p e below T151 (mkF m 13 #[.val (.int p0), .val (.long q1), .second, .val (.int (4 : Int32)), .val (.ref b151), .unset, .unset, .unset] []) _
      refine XS.aload X151.here hx rfl (hb hby at_13) rfl rfl ?_
      show own_S p e below T151 (mkF m 15 #[.val (.int p0), .val (.long q1), .second, .val (.int (4 : Int32)), .val (.ref b151), .unset, .unset, .unset] [(.ref b151)]) _
      refine XS.iconst X151.here hx rfl (hb hby at_15) ?_
      show own_S p e below T151 (mkF m 16 #[.val (.int p0), .val (.long q1), .second, .val (.int (4 : Int32)), .val (.ref b151), .unset, .unset, .unset] [(.int (0 : Int32)), (.ref b151)]) _
      refine XS.lloadN X151.here hx rfl (hb hby at_16) rfl ?_
      exact k
    obtain ⟨_, _, ⟨T153, L153, k153, n153⟩, -, X153, ⟨Lc153, hQ153, l153, y153, z153⟩, st153⟩ := Jvm.LawKit.callS X151 hx (y := (⟨"com/example/whorl/whorl/Base64urlTextPinLaw", "put", "([BIJ)V"⟩ : MethodName)) hown (mvT hZ (hw _ (List.mem_of_getElem? (i := 2) rfl))) (mvT hZ (hw _ (List.mem_of_getElem? (i := 3) rfl))) (mvT hZ (hw _ (List.mem_of_getElem? (i := 4) rfl))) (mvT hZ (hw _ (List.mem_of_getElem? (i := 5) rfl))) (by decide) (backOf (W := 0) (rm1y l Z a0 hw [] b151 (0 : Int32) q1 k151 (4 : Int32) _ 0 h151 n0 (Nat.le_trans Z0 Kp151.1) V151 (by decide) (by decide) rfl (Nat.le_of_ble_eq_true rfl) g_b151) hZ (hw _ (List.mem_of_getElem? (i := 5) rfl)) (hw _ (List.mem_of_getElem? (i := 4) rfl)) (by decide) (by decide)) (g := (mkF m 17 #[.val (.int p0), .val (.long q1), .second, .val (.int (4 : Int32)), .val (.ref b151), .unset, .unset, .unset] [(.long q1), (.int (0 : Int32)), (.ref b151)])) rfl (by rw [hml]; rfl) (argsL := [(.ref b151), (.int (0 : Int32)), (.long q1)]) (rest := []) (lenOf pd_0_0 rfl) rfl (by show 2 * 0 + _ ≤ _; exact Nat.le_of_eq rfl) (hb hby at_17) (fun _ _ => ⟨rfl, e151, (by decide : 1 + 0 ≤ _), (by decide : 4 + 0 ≤ _)⟩)
    dsimp only [Pt.U, Pt.locs, Pt.cells, Pt.slots] at X153 l153 y153 z153 st153 hQ153
    rw [y153, z153] at X153
    obtain ⟨rfl, Nq153, Kq153, Vq153⟩ := hQ153
    have N153 : Fr n0 L153 := by rw [l153]; exact Fr.app N0 Nq153
    have Kp153 : Keep h0 T153.heap [] := Keep.trans Kp151 Kq153 (allS (Or.inr sz_b151) all0)
    have K153 : own_K p e below SE T153 (mkF m 20 #[.val (.int p0), .val (.long q1), .second, .val (.int (4 : Int32)), .val (.ref b151), .unset, .unset, .unset] []) := fun t k => K152 _ (st153 _ k)
    obtain ⟨ub0, hub0⟩ : ∃ z : Int32, z = ((((((q1.toUInt64 >>> (((8 : Int32) * (0 : Int32)) &&& 0x3f).toInt64.toUInt64).toInt64)).toInt32).toInt8.toInt32).toInt8.toInt32) := ⟨_, rfl⟩
    rw [← hub0] at Vq153
    have Vr153 : Arv Z T153.heap b151 k151 .byte (4 : Int32) [(.int ub0), (.int (0 : Int32)), (.int (0 : Int32)), (.int (0 : Int32))] (.int (0 : Int32)) := Vq153
    have K154 : own_K p e below SE T153 (mkF m 24 #[.val (.int p0), .val (.long q1), .second, .val (.int (4 : Int32)), .val (.ref b151), .unset, .unset, .unset] [(.long q1), (.int (1 : Int32)), (.ref b151)]) := by
      intro t k
      refine K153 _ ?_
      refine XS.aload X153.here hx rfl (hb hby at_20) rfl rfl ?_
      show own_S p e below T153 (mkF m 22 #[.val (.int p0), .val (.long q1), .second, .val (.int (4 : Int32)), .val (.ref b151), .unset, .unset, .unset] [(.ref b151)]) _
      refine XS.iconst X153.here hx rfl (hb hby at_22) ?_
      show own_S p e below T153 (mkF m 23 #[.val (.int p0), .val (.long q1), .second, .val (.int (4 : Int32)), .val (.ref b151), .unset, .unset, .unset] [(.int (1 : Int32)), (.ref b151)]) _
      refine XS.lloadN X153.here hx rfl (hb hby at_23) rfl ?_
      exact k
    obtain ⟨_, _, ⟨T155, L155, k155, n155⟩, -, X155, ⟨Lc155, hQ155, l155, y155, z155⟩, st155⟩ := Jvm.LawKit.callS X153 hx (y := (⟨"com/example/whorl/whorl/Base64urlTextPinLaw", "put", "([BIJ)V"⟩ : MethodName)) hown (mvT hZ (hw _ (List.mem_of_getElem? (i := 2) rfl))) (mvT hZ (hw _ (List.mem_of_getElem? (i := 3) rfl))) (mvT hZ (hw _ (List.mem_of_getElem? (i := 4) rfl))) (mvT hZ (hw _ (List.mem_of_getElem? (i := 5) rfl))) (by decide) (backOf (W := 0) (rm1y l Z a0 hw [] b151 (1 : Int32) q1 k151 (4 : Int32) _ 1 T153.heap n0 (Nat.le_trans Z0 Kp153.1) Vr153 (by decide) (by decide) rfl (Nat.le_of_ble_eq_true rfl) g_b151) hZ (hw _ (List.mem_of_getElem? (i := 5) rfl)) (hw _ (List.mem_of_getElem? (i := 4) rfl)) (by decide) (by decide)) (g := (mkF m 24 #[.val (.int p0), .val (.long q1), .second, .val (.int (4 : Int32)), .val (.ref b151), .unset, .unset, .unset] [(.long q1), (.int (1 : Int32)), (.ref b151)])) rfl (by rw [hml]; rfl) (argsL := [(.ref b151), (.int (1 : Int32)), (.long q1)]) (rest := []) (lenOf pd_0_0 rfl) rfl (by show 2 * 0 + _ ≤ _; exact Nat.le_of_eq rfl) (hb hby at_24) (fun _ _ => ⟨rfl, rfl, (by decide : 1 + 0 ≤ _), (by decide : 4 + 0 ≤ _)⟩)
    dsimp only [Pt.U, Pt.locs, Pt.cells, Pt.slots] at X155 l155 y155 z155 st155 hQ155
    rw [y155, z155] at X155
    obtain ⟨rfl, Nq155, Kq155, Vq155⟩ := hQ155
    have N155 : Fr n0 L155 := by rw [l155]; exact Fr.app N153 Nq155
    have Kp155 : Keep h0 T155.heap [] := Keep.trans Kp153 Kq155 (allS (Or.inr sz_b151) all0)
    have K155 : own_K p e below SE T155 (mkF m 27 #[.val (.int p0), .val (.long q1), .second, .val (.int (4 : Int32)), .val (.ref b151), .unset, .unset, .unset] []) := fun t k => K154 _ (st155 _ k)
    obtain ⟨ub1, hub1⟩ : ∃ z : Int32, z = ((((((q1.toUInt64 >>> (((8 : Int32) * (1 : Int32)) &&& 0x3f).toInt64.toUInt64).toInt64)).toInt32).toInt8.toInt32).toInt8.toInt32) := ⟨_, rfl⟩
    rw [← hub1] at Vq155
    have Vr155 : Arv Z T155.heap b151 k151 .byte (4 : Int32) [(.int ub0), (.int ub1), (.int (0 : Int32)), (.int (0 : Int32))] (.int (0 : Int32)) := Vq155
    have K156 : own_K p e below SE T155 (mkF m 31 #[.val (.int p0), .val (.long q1), .second, .val (.int (4 : Int32)), .val (.ref b151), .unset, .unset, .unset] [(.long q1), (.int (2 : Int32)), (.ref b151)]) := by
      intro t k
      refine K155 _ ?_
      refine XS.aload X155.here hx rfl (hb hby at_27) rfl rfl ?_
      show own_S p e below T155 (mkF m 29 #[.val (.int p0), .val (.long q1), .second, .val (.int (4 : Int32)), .val (.ref b151), .unset, .unset, .unset] [(.ref b151)]) _
      refine XS.iconst X155.here hx rfl (hb hby at_29) ?_
      show own_S p e below T155 (mkF m 30 #[.val (.int p0), .val (.long q1), .second, .val (.int (4 : Int32)), .val (.ref b151), .unset, .unset, .unset] [(.int (2 : Int32)), (.ref b151)]) _
      refine XS.lloadN X155.here hx rfl (hb hby at_30) rfl ?_
      exact k
    obtain ⟨_, _, ⟨T157, L157, k157, n157⟩, -, X157, ⟨Lc157, hQ157, l157, y157, z157⟩, st157⟩ := Jvm.LawKit.callS X155 hx (y := (⟨"com/example/whorl/whorl/Base64urlTextPinLaw", "put", "([BIJ)V"⟩ : MethodName)) hown (mvT hZ (hw _ (List.mem_of_getElem? (i := 2) rfl))) (mvT hZ (hw _ (List.mem_of_getElem? (i := 3) rfl))) (mvT hZ (hw _ (List.mem_of_getElem? (i := 4) rfl))) (mvT hZ (hw _ (List.mem_of_getElem? (i := 5) rfl))) (by decide) (backOf (W := 0) (rm1y l Z a0 hw [] b151 (2 : Int32) q1 k151 (4 : Int32) _ 2 T155.heap n0 (Nat.le_trans Z0 Kp155.1) Vr155 (by decide) (by decide) rfl (Nat.le_of_ble_eq_true rfl) g_b151) hZ (hw _ (List.mem_of_getElem? (i := 5) rfl)) (hw _ (List.mem_of_getElem? (i := 4) rfl)) (by decide) (by decide)) (g := (mkF m 31 #[.val (.int p0), .val (.long q1), .second, .val (.int (4 : Int32)), .val (.ref b151), .unset, .unset, .unset] [(.long q1), (.int (2 : Int32)), (.ref b151)])) rfl (by rw [hml]; rfl) (argsL := [(.ref b151), (.int (2 : Int32)), (.long q1)]) (rest := []) (lenOf pd_0_0 rfl) rfl (by show 2 * 0 + _ ≤ _; exact Nat.le_of_eq rfl) (hb hby at_31) (fun _ _ => ⟨rfl, rfl, (by decide : 1 + 0 ≤ _), (by decide : 4 + 0 ≤ _)⟩)
    dsimp only [Pt.U, Pt.locs, Pt.cells, Pt.slots] at X157 l157 y157 z157 st157 hQ157
    rw [y157, z157] at X157
    obtain ⟨rfl, Nq157, Kq157, Vq157⟩ := hQ157
    have N157 : Fr n0 L157 := by rw [l157]; exact Fr.app N155 Nq157
    have Kp157 : Keep h0 T157.heap [] := Keep.trans Kp155 Kq157 (allS (Or.inr sz_b151) all0)
    have K157 : own_K p e below SE T157 (mkF m 34 #[.val (.int p0), .val (.long q1), .second, .val (.int (4 : Int32)), .val (.ref b151), .unset, .unset, .unset] []) := fun t k => K156 _ (st157 _ k)
    obtain ⟨ub2, hub2⟩ : ∃ z : Int32, z = ((((((q1.toUInt64 >>> (((8 : Int32) * (2 : Int32)) &&& 0x3f).toInt64.toUInt64).toInt64)).toInt32).toInt8.toInt32).toInt8.toInt32) := ⟨_, rfl⟩
    rw [← hub2] at Vq157
    have Vr157 : Arv Z T157.heap b151 k151 .byte (4 : Int32) [(.int ub0), (.int ub1), (.int ub2), (.int (0 : Int32))] (.int (0 : Int32)) := Vq157
    have K158 : own_K p e below SE T157 (mkF m 38 #[.val (.int p0), .val (.long q1), .second, .val (.int (4 : Int32)), .val (.ref b151), .unset, .unset, .unset] [(.long q1), (.int (3 : Int32)), (.ref b151)]) := by
      intro t k
      refine K157 _ ?_
      refine XS.aload X157.here hx rfl (hb hby at_34) rfl rfl ?_
      show own_S p e below T157 (mkF m 36 #[.val (.int p0), .val (.long q1), .second, .val (.int (4 : Int32)), .val (.ref b151), .unset, .unset, .unset] [(.ref b151)]) _
      refine XS.iconst X157.here hx rfl (hb hby at_36) ?_
      show own_S p e below T157 (mkF m 37 #[.val (.int p0), .val (.long q1), .second, .val (.int (4 : Int32)), .val (.ref b151), .unset, .unset, .unset] [(.int (3 : Int32)), (.ref b151)]) _
      refine XS.lloadN X157.here hx rfl (hb hby at_37) rfl ?_
      exact k
    obtain ⟨_, _, ⟨T159, L159, k159, n159⟩, -, X159, ⟨Lc159, hQ159, l159, y159, z159⟩, st159⟩ := Jvm.LawKit.callS X157 hx (y := (⟨"com/example/whorl/whorl/Base64urlTextPinLaw", "put", "([BIJ)V"⟩ : MethodName)) hown (mvT hZ (hw _ (List.mem_of_getElem? (i := 2) rfl))) (mvT hZ (hw _ (List.mem_of_getElem? (i := 3) rfl))) (mvT hZ (hw _ (List.mem_of_getElem? (i := 4) rfl))) (mvT hZ (hw _ (List.mem_of_getElem? (i := 5) rfl))) (by decide) (backOf (W := 0) (rm1y l Z a0 hw [] b151 (3 : Int32) q1 k151 (4 : Int32) _ 3 T157.heap n0 (Nat.le_trans Z0 Kp157.1) Vr157 (by decide) (by decide) rfl (Nat.le_of_ble_eq_true rfl) g_b151) hZ (hw _ (List.mem_of_getElem? (i := 5) rfl)) (hw _ (List.mem_of_getElem? (i := 4) rfl)) (by decide) (by decide)) (g := (mkF m 38 #[.val (.int p0), .val (.long q1), .second, .val (.int (4 : Int32)), .val (.ref b151), .unset, .unset, .unset] [(.long q1), (.int (3 : Int32)), (.ref b151)])) rfl (by rw [hml]; rfl) (argsL := [(.ref b151), (.int (3 : Int32)), (.long q1)]) (rest := []) (lenOf pd_0_0 rfl) rfl (by show 2 * 0 + _ ≤ _; exact Nat.le_of_eq rfl) (hb hby at_38) (fun _ _ => ⟨rfl, rfl, (by decide : 1 + 0 ≤ _), (by decide : 4 + 0 ≤ _)⟩)
    dsimp only [Pt.U, Pt.locs, Pt.cells, Pt.slots] at X159 l159 y159 z159 st159 hQ159
    rw [y159, z159] at X159
    obtain ⟨rfl, Nq159, Kq159, Vq159⟩ := hQ159
    have N159 : Fr n0 L159 := by rw [l159]; exact Fr.app N157 Nq159
    have Kp159 : Keep h0 T159.heap [] := Keep.trans Kp157 Kq159 (allS (Or.inr sz_b151) all0)
    have K159 : own_K p e below SE T159 (mkF m 41 #[.val (.int p0), .val (.long q1), .second, .val (.int (4 : Int32)), .val (.ref b151), .unset, .unset, .unset] []) := fun t k => K158 _ (st159 _ k)
    obtain ⟨ub3, hub3⟩ : ∃ z : Int32, z = ((((((q1.toUInt64 >>> (((8 : Int32) * (3 : Int32)) &&& 0x3f).toInt64.toUInt64).toInt64)).toInt32).toInt8.toInt32).toInt8.toInt32) := ⟨_, rfl⟩
    rw [← hub3] at Vq159
    have Vr159 : Arv Z T159.heap b151 k151 .byte (4 : Int32) [(.int ub0), (.int ub1), (.int ub2), (.int ub3)] (.int (0 : Int32)) := Vq159
    have K160 : own_K p e below SE T159 (mkF m 45 #[.val (.int p0), .val (.long q1), .second, .val (.int (4 : Int32)), .val (.ref b151), .unset, .unset, .unset] [(.long q1), (.int (4 : Int32)), (.ref b151)]) := by
      intro t k
      refine K159 _ ?_
      refine XS.aload X159.here hx rfl (hb hby at_41) rfl rfl ?_
      show own_S p e below T159 (mkF m 43 #[.val (.int p0), .val (.long q1), .second, .val (.int (4 : Int32)), .val (.ref b151), .unset, .unset, .unset] [(.ref b151)]) _
      refine XS.iconst X159.here hx rfl (hb hby at_43) ?_
      show own_S p e below T159 (mkF m 44 #[.val (.int p0), .val (.long q1), .second, .val (.int (4 : Int32)), .val (.ref b151), .unset, .unset, .unset] [(.int (4 : Int32)), (.ref b151)]) _
      refine XS.lloadN X159.here hx rfl (hb hby at_44) rfl ?_
      exact k
    obtain ⟨_, _, ⟨T161, L161, k161, n161⟩, -, X161, ⟨Lc161, hQ161, l161, y161, z161⟩, st161⟩ := Jvm.LawKit.callS X159 hx (y := (⟨"com/example/whorl/whorl/Base64urlTextPinLaw", "put", "([BIJ)V"⟩ : MethodName)) hown (mvT hZ (hw _ (List.mem_of_getElem? (i := 2) rfl))) (mvT hZ (hw _ (List.mem_of_getElem? (i := 3) rfl))) (mvT hZ (hw _ (List.mem_of_getElem? (i := 4) rfl))) (mvT hZ (hw _ (List.mem_of_getElem? (i := 5) rfl))) (by decide) (backOf (W := 0) (rm1n l Z a0 hw [] b151 (4 : Int32) q1 k151 (4 : Int32) _ T159.heap n0 (Nat.le_trans Z0 Kp159.1) Vr159 (by decide)) hZ (hw _ (List.mem_of_getElem? (i := 5) rfl)) (hw _ (List.mem_of_getElem? (i := 4) rfl)) (by decide) (by decide)) (g := (mkF m 45 #[.val (.int p0), .val (.long q1), .second, .val (.int (4 : Int32)), .val (.ref b151), .unset, .unset, .unset] [(.long q1), (.int (4 : Int32)), (.ref b151)])) rfl (by rw [hml]; rfl) (argsL := [(.ref b151), (.int (4 : Int32)), (.long q1)]) (rest := []) (lenOf pd_0_0 rfl) rfl (by show 2 * 0 + _ ≤ _; exact Nat.le_of_eq rfl) (hb hby at_45) (fun _ _ => ⟨rfl, rfl, (by decide : 1 + 0 ≤ _), (by decide : 4 + 0 ≤ _)⟩)
    dsimp only [Pt.U, Pt.locs, Pt.cells, Pt.slots] at X161 l161 y161 z161 st161 hQ161
    rw [y161, z161] at X161
    obtain ⟨rfl, Nq161, e161⟩ := hQ161
    have N161 : Fr n0 L161 := by rw [l161]; exact Fr.app N159 Nq161
    have K161 : own_K p e below SE T161 (mkF m 48 #[.val (.int p0), .val (.long q1), .second, .val (.int (4 : Int32)), .val (.ref b151), .unset, .unset, .unset] []) := fun t k => K160 _ (st161 _ k)
    have K162 : own_K p e below SE T161 (mkF m 52 #[.val (.int p0), .val (.long q1), .second, .val (.int (4 : Int32)), .val (.ref b151), .unset, .unset, .unset] [(.long q1), (.int (5 : Int32)), (.ref b151)]) := by
      intro t k
      refine K161 _ ?_
      refine XS.aload X161.here hx rfl (hb hby at_48) rfl rfl ?_
      show own_S p e below T161 (mkF m 50 #[.val (.int p0), .val (.long q1), .second, .val (.int (4 : Int32)), .val (.ref b151), .unset, .unset, .unset] [(.ref b151)]) _
      refine XS.iconst X161.here hx rfl (hb hby at_50) ?_
      show own_S p e below T161 (mkF m 51 #[.val (.int p0), .val (.long q1), .second, .val (.int (4 : Int32)), .val (.ref b151), .unset, .unset, .unset] [(.int (5 : Int32)), (.ref b151)]) _
      refine XS.lloadN X161.here hx rfl (hb hby at_51) rfl ?_
      exact k
    obtain ⟨_, _, ⟨T163, L163, k163, n163⟩, -, X163, ⟨Lc163, hQ163, l163, y163, z163⟩, st163⟩ := Jvm.LawKit.callS X161 hx (y := (⟨"com/example/whorl/whorl/Base64urlTextPinLaw", "put", "([BIJ)V"⟩ : MethodName)) hown (mvT hZ (hw _ (List.mem_of_getElem? (i := 2) rfl))) (mvT hZ (hw _ (List.mem_of_getElem? (i := 3) rfl))) (mvT hZ (hw _ (List.mem_of_getElem? (i := 4) rfl))) (mvT hZ (hw _ (List.mem_of_getElem? (i := 5) rfl))) (by decide) (backOf (W := 0) (rm1n l Z a0 hw [] b151 (5 : Int32) q1 k151 (4 : Int32) _ T159.heap n0 (Nat.le_trans Z0 Kp159.1) Vr159 (by decide)) hZ (hw _ (List.mem_of_getElem? (i := 5) rfl)) (hw _ (List.mem_of_getElem? (i := 4) rfl)) (by decide) (by decide)) (g := (mkF m 52 #[.val (.int p0), .val (.long q1), .second, .val (.int (4 : Int32)), .val (.ref b151), .unset, .unset, .unset] [(.long q1), (.int (5 : Int32)), (.ref b151)])) rfl (by rw [hml]; rfl) (argsL := [(.ref b151), (.int (5 : Int32)), (.long q1)]) (rest := []) (lenOf pd_0_0 rfl) rfl (by show 2 * 0 + _ ≤ _; exact Nat.le_of_eq rfl) (hb hby at_52) (fun _ _ => ⟨rfl, e161, (by decide : 1 + 0 ≤ _), (by decide : 4 + 0 ≤ _)⟩)
    dsimp only [Pt.U, Pt.locs, Pt.cells, Pt.slots] at X163 l163 y163 z163 st163 hQ163
    rw [y163, z163] at X163
    obtain ⟨rfl, Nq163, e163⟩ := hQ163
    have N163 : Fr n0 L163 := by rw [l163]; exact Fr.app N161 Nq163
    have K163 : own_K p e below SE T163 (mkF m 55 #[.val (.int p0), .val (.long q1), .second, .val (.int (4 : Int32)), .val (.ref b151), .unset, .unset, .unset] []) := fun t k => K162 _ (st163 _ k)
    have K164 : own_K p e below SE T163 (mkF m 57 #[.val (.int p0), .val (.long q1), .second, .val (.int (4 : Int32)), .val (.ref b151), .unset, .unset, .unset] [(.ref b151)]) := by
      intro t k
      refine K163 _ ?_
      refine XS.aload X163.here hx rfl (hb hby at_55) rfl rfl ?_
      exact k
    obtain ⟨_, _, ⟨T165, L165, k165, n165⟩, -, X165, ⟨Lc165, hQ165, l165, y165, z165⟩, st165⟩ := Jvm.LawKit.callS X163 hx (y := (⟨"com/example/whorl/whorl/Base64url", "text", "([B)[B"⟩ : MethodName)) hown (mvT hZ (hw _ (List.mem_of_getElem? (i := 6) rfl))) (mvT hZ (hw _ (List.mem_of_getElem? (i := 7) rfl))) (mvT hZ (hw _ (List.mem_of_getElem? (i := 8) rfl))) (mvT hZ (hw _ (List.mem_of_getElem? (i := 9) rfl))) (by decide) (backOf (W := 0) (rm2_4 l Z a0 hw [] b151 k151 oAL cA ub0 ub1 ub2 ub3 T159.heap n0 (Nat.le_trans Z0 Kp159.1) Vr159 (SA.ext (own_ext Kp159)) (TA.ext (own_ext Kp159))) hZ (hw _ (List.mem_of_getElem? (i := 9) rfl)) (hw _ (List.mem_of_getElem? (i := 8) rfl)) (by decide) (by decide)) (g := (mkF m 57 #[.val (.int p0), .val (.long q1), .second, .val (.int (4 : Int32)), .val (.ref b151), .unset, .unset, .unset] [(.ref b151)])) rfl (by rw [hml]; rfl) (argsL := [(.ref b151)]) (rest := []) (lenOf pd_0_1 rfl) rfl (by show 2 * 0 + _ ≤ _; exact Nat.le_of_eq rfl) (hb hby at_57) (fun _ _ => ⟨rfl, e163, (by decide : 1 + 1 ≤ _), (by decide : 4 + 6 ≤ _)⟩)
    dsimp only [Pt.U, Pt.locs, Pt.cells, Pt.slots] at X165 l165 y165 z165 st165 hQ165
    rw [y165, z165] at X165
    obtain ⟨rfl, Nq165, Kq165, VT165⟩ := hQ165
    have N165 : Fr n0 L165 := by rw [l165]; exact Fr.app N163 Nq165
    have Kp165 : Keep h0 T165.heap [] := Keep.trans Kp159 Kq165 all0
    have K165 : own_K p e below SE T165 (mkF m 60 #[.val (.int p0), .val (.long q1), .second, .val (.int (4 : Int32)), .val (.ref b151), .unset, .unset, .unset] [(.ref T159.heap.size)]) := fun t k => K164 _ (st165 _ k)
    obtain ⟨kT, VT⟩ := VT165
    obtain ⟨bt, gbt⟩ : ∃ z, z = T159.heap.size := ⟨_, rfl⟩
    rw [← gbt] at K165 VT
    have K166 : own_K p e below SE T165 (mkF m 65 #[.val (.int p0), .val (.long q1), .second, .val (.int (4 : Int32)), .val (.ref b151), .val (.ref bt), .unset, .unset] [(.int ((4 : Int32) % (3 : Int32)))]) := by
      intro t k
      refine K165 _ ?_
      refine XS.astore X165.here hx rfl (hb hby at_60) rfl rfl (l' := #[.val (.int p0), .val (.long q1), .second, .val (.int (4 : Int32)), .val (.ref b151), .val (.ref bt), .unset, .unset]) rfl ?_
      show own_S p e below T165 (mkF m 62 #[.val (.int p0), .val (.long q1), .second, .val (.int (4 : Int32)), .val (.ref b151), .val (.ref bt), .unset, .unset] []) _
      refine XS.iloadN X165.here hx rfl (hb hby at_62) rfl ?_
      show own_S p e below T165 (mkF m 63 #[.val (.int p0), .val (.long q1), .second, .val (.int (4 : Int32)), .val (.ref b151), .val (.ref bt), .unset, .unset] [(.int (4 : Int32))]) _
      refine XS.iconst X165.here hx rfl (hb hby at_63) ?_
      show own_S p e below T165 (mkF m 64 #[.val (.int p0), .val (.long q1), .second, .val (.int (4 : Int32)), .val (.ref b151), .val (.ref bt), .unset, .unset] [(.int (3 : Int32)), (.int (4 : Int32))]) _
      refine iremM X165 hx rfl (hb hby at_64) rfl (by decide) ?_
      exact k
    rw [(by decide : ((4 : Int32) % (3 : Int32)) = (1 : Int32))] at K166
    have K167 : own_K p e below SE T165 (mkF m 70 #[.val (.int p0), .val (.long q1), .second, .val (.int (4 : Int32)), .val (.ref b151), .val (.ref bt), .val (.int (1 : Int32)), .unset] [(.int ((4 : Int32) / (3 : Int32)))]) := by
      intro t k
      refine K166 _ ?_
      refine XS.istore X165.here hx rfl (hb hby at_65) rfl (l' := #[.val (.int p0), .val (.long q1), .second, .val (.int (4 : Int32)), .val (.ref b151), .val (.ref bt), .val (.int (1 : Int32)), .unset]) rfl ?_
      show own_S p e below T165 (mkF m 67 #[.val (.int p0), .val (.long q1), .second, .val (.int (4 : Int32)), .val (.ref b151), .val (.ref bt), .val (.int (1 : Int32)), .unset] []) _
      refine XS.iloadN X165.here hx rfl (hb hby at_67) rfl ?_
      show own_S p e below T165 (mkF m 68 #[.val (.int p0), .val (.long q1), .second, .val (.int (4 : Int32)), .val (.ref b151), .val (.ref bt), .val (.int (1 : Int32)), .unset] [(.int (4 : Int32))]) _
      refine XS.iconst X165.here hx rfl (hb hby at_68) ?_
      show own_S p e below T165 (mkF m 69 #[.val (.int p0), .val (.long q1), .second, .val (.int (4 : Int32)), .val (.ref b151), .val (.ref bt), .val (.int (1 : Int32)), .unset] [(.int (3 : Int32)), (.int (4 : Int32))]) _
      refine XS.idiv X165.here hx rfl (hb hby at_69) rfl (by decide) ?_
      exact k
    rw [(by decide : ((4 : Int32) / (3 : Int32)) = (1 : Int32))] at K167
    have K168 : own_K p e below SE T165 (mkF m 90 #[.val (.int p0), .val (.long q1), .second, .val (.int (4 : Int32)), .val (.ref b151), .val (.ref bt), .val (.int (1 : Int32)), .val (.int (6 : Int32))] [(.ref bt)]) := by
      intro t k
      refine K167 _ ?_
      refine XS.iconst X165.here hx rfl (hb hby at_70) ?_
      show own_S p e below T165 (mkF m 71 #[.val (.int p0), .val (.long q1), .second, .val (.int (4 : Int32)), .val (.ref b151), .val (.ref bt), .val (.int (1 : Int32)), .unset] [(.int (4 : Int32)), (.int (1 : Int32))]) _
      refine XS.imul X165.here hx rfl (hb hby at_71) rfl ?_
      show own_S p e below T165 (mkF m 72 #[.val (.int p0), .val (.long q1), .second, .val (.int (4 : Int32)), .val (.ref b151), .val (.ref bt), .val (.int (1 : Int32)), .unset] [(.int (4 : Int32))]) _
      refine XS.iload X165.here hx rfl (hb hby at_72) rfl ?_
      show own_S p e below T165 (mkF m 74 #[.val (.int p0), .val (.long q1), .second, .val (.int (4 : Int32)), .val (.ref b151), .val (.ref bt), .val (.int (1 : Int32)), .unset] [(.int (1 : Int32)), (.int (4 : Int32))]) _
      refine XS.ifYes X165.here hx rfl (pc0 := 74) (pc' := 81) rfl (hb hby at_74) rfl (XT.i0_ne_t (by decide : ¬ ((1 : Int32) = 0))) (by decide) (by decide) ?_
      show own_S p e below T165 (mkF m 81 #[.val (.int p0), .val (.long q1), .second, .val (.int (4 : Int32)), .val (.ref b151), .val (.ref bt), .val (.int (1 : Int32)), .unset] [(.int (4 : Int32))]) _
      refine XS.iload X165.here hx rfl (hb hby at_81) rfl ?_
      show own_S p e below T165 (mkF m 83 #[.val (.int p0), .val (.long q1), .second, .val (.int (4 : Int32)), .val (.ref b151), .val (.ref bt), .val (.int (1 : Int32)), .unset] [(.int (1 : Int32)), (.int (4 : Int32))]) _
      refine XS.iconst X165.here hx rfl (hb hby at_83) ?_
      show own_S p e below T165 (mkF m 84 #[.val (.int p0), .val (.long q1), .second, .val (.int (4 : Int32)), .val (.ref b151), .val (.ref bt), .val (.int (1 : Int32)), .unset] [(.int (1 : Int32)), (.int (1 : Int32)), (.int (4 : Int32))]) _
      refine XS.iadd X165.here hx rfl (hb hby at_84) rfl ?_
      show own_S p e below T165 (mkF m 85 #[.val (.int p0), .val (.long q1), .second, .val (.int (4 : Int32)), .val (.ref b151), .val (.ref bt), .val (.int (1 : Int32)), .unset] [(.int (2 : Int32)), (.int (4 : Int32))]) _
      refine XS.iadd X165.here hx rfl (hb hby at_85) rfl ?_
      show own_S p e below T165 (mkF m 86 #[.val (.int p0), .val (.long q1), .second, .val (.int (4 : Int32)), .val (.ref b151), .val (.ref bt), .val (.int (1 : Int32)), .unset] [(.int (6 : Int32))]) _
      refine XS.istore X165.here hx rfl (hb hby at_86) rfl (l' := #[.val (.int p0), .val (.long q1), .second, .val (.int (4 : Int32)), .val (.ref b151), .val (.ref bt), .val (.int (1 : Int32)), .val (.int (6 : Int32))]) rfl ?_
      show own_S p e below T165 (mkF m 88 #[.val (.int p0), .val (.long q1), .second, .val (.int (4 : Int32)), .val (.ref b151), .val (.ref bt), .val (.int (1 : Int32)), .val (.int (6 : Int32))] []) _
      refine XS.aload X165.here hx rfl (hb hby at_88) rfl rfl ?_
      exact k
    obtain ⟨cl169, Ar169, -, S169, Ng169, -, -⟩ := id VT
    have K170 : own_K p e below SE T165 (mkF m 103 #[.val (.int p0), .val (.long q1), .second, .val (.int (4 : Int32)), .val (.ref b151), .val (.ref bt), .val (.int (1 : Int32)), .val (.int (6 : Int32))] [(.long q1), (.int (4 : Int32)), (.int (0 : Int32)), (.ref bt)]) := by
      intro t k
      refine K168 _ ?_
      refine X165.arraylength hx Ar169.1 (State.isArrayOf_alike hZ.alike Ar169.2.1) (g := (mkF m 90 #[.val (.int p0), .val (.long q1), .second, .val (.int (4 : Int32)), .val (.ref b151), .val (.ref bt), .val (.int (1 : Int32)), .val (.int (6 : Int32))] [(.ref bt)])) rfl rfl (hb hby at_90) _ ?_
      rw [len_of S169 Ng169]
      show own_S p e below T165 (mkF m 91 #[.val (.int p0), .val (.long q1), .second, .val (.int (4 : Int32)), .val (.ref b151), .val (.ref bt), .val (.int (1 : Int32)), .val (.int (6 : Int32))] [(.int (6 : Int32))]) _
      refine XS.iload X165.here hx rfl (hb hby at_91) rfl ?_
      show own_S p e below T165 (mkF m 93 #[.val (.int p0), .val (.long q1), .second, .val (.int (4 : Int32)), .val (.ref b151), .val (.ref bt), .val (.int (1 : Int32)), .val (.int (6 : Int32))] [(.int (6 : Int32)), (.int (6 : Int32))]) _
      refine XS.icmpYes X165.here hx rfl (pc0 := 93) (pc' := 98) rfl (hb hby at_93) rfl (XT.ii_eq_t (by decide : (6 : Int32) = (6 : Int32))) (by decide) (by decide) ?_
      show own_S p e below T165 (mkF m 98 #[.val (.int p0), .val (.long q1), .second, .val (.int (4 : Int32)), .val (.ref b151), .val (.ref bt), .val (.int (1 : Int32)), .val (.int (6 : Int32))] []) _
      refine XS.aload X165.here hx rfl (hb hby at_98) rfl rfl ?_
      show own_S p e below T165 (mkF m 100 #[.val (.int p0), .val (.long q1), .second, .val (.int (4 : Int32)), .val (.ref b151), .val (.ref bt), .val (.int (1 : Int32)), .val (.int (6 : Int32))] [(.ref bt)]) _
      refine XS.iconst X165.here hx rfl (hb hby at_100) ?_
      show own_S p e below T165 (mkF m 101 #[.val (.int p0), .val (.long q1), .second, .val (.int (4 : Int32)), .val (.ref b151), .val (.ref bt), .val (.int (1 : Int32)), .val (.int (6 : Int32))] [(.int (0 : Int32)), (.ref bt)]) _
      refine XS.iloadN X165.here hx rfl (hb hby at_101) rfl ?_
      show own_S p e below T165 (mkF m 102 #[.val (.int p0), .val (.long q1), .second, .val (.int (4 : Int32)), .val (.ref b151), .val (.ref bt), .val (.int (1 : Int32)), .val (.int (6 : Int32))] [(.int (4 : Int32)), (.int (0 : Int32)), (.ref bt)]) _
      refine XS.lloadN X165.here hx rfl (hb hby at_102) rfl ?_
      exact k
    have sx0 : ((((((ub0 &&& (255 : Int32)) <<< ((16 : Int32) &&& 31)) ||| ((ub1 &&& (255 : Int32)) <<< ((8 : Int32) &&& 31))) ||| (ub2 &&& (255 : Int32))).toUInt32 >>> ((18 : Int32) &&& 31).toUInt32).toInt32) = own_sx q1 (4 : Int32) ((0 : Int32) / (4 : Int32)) ((0 : Int32) % (4 : Int32)) := by
      have h1 := own_i0 _ _ _ _ (own_m255 ub0) (own_m255 ub1) (own_m255 ub2) (own_x3i ub0 ub1 ub2)
      have o0 : (ub0 &&& (255 : Int32)) = own_oct q1 (0 : Int32) (4 : Int32) := by rw [hub0]; exact own_eo q1 (0 : Int32) (4 : Int32) (by decide)
      have o1 : (ub1 &&& (255 : Int32)) = own_oct q1 (1 : Int32) (4 : Int32) := by rw [hub1]; exact own_eo q1 (1 : Int32) (4 : Int32) (by decide)
      have o2 : (ub2 &&& (255 : Int32)) = own_oct q1 (2 : Int32) (4 : Int32) := by rw [hub2]; exact own_eo q1 (2 : Int32) (4 : Int32) (by decide)
      rw [h1]
      unfold own_sx
      rw [show ((0 : Int32) / (4 : Int32)) = (0 : Int32) by decide, show ((0 : Int32) % (4 : Int32)) = (0 : Int32) by decide, show ((3 : Int32) * (0 : Int32)) = (0 : Int32) by decide, show ((0 : Int32) + (1 : Int32)) = (1 : Int32) by decide, show ((0 : Int32) + (2 : Int32)) = (2 : Int32) by decide]
      rw [if_pos (by decide), ← o0]
    have ck0 : ¬ (if (atv cA ((((((ub0 &&& (255 : Int32)) <<< ((16 : Int32) &&& 31)) ||| ((ub1 &&& (255 : Int32)) <<< ((8 : Int32) &&& 31))) ||| (ub2 &&& (255 : Int32))).toUInt32 >>> ((18 : Int32) &&& 31).toUInt32).toInt32)).toInt8.toInt32 = ((own_ch (own_sx q1 (4 : Int32) ((0 : Int32) / (4 : Int32)) ((0 : Int32) % (4 : Int32))))).toInt8.toInt32 then (1 : Int32) else (0 : Int32)) = 0 := own_one (own_chk hAL (own_b18 _ (own_xb (own_m255 _) (own_m255 _) (own_m255 _) (own_x3i ub0 ub1 ub2))) sx0)
    obtain ⟨_, _, ⟨T171, L171, k171, n171⟩, -, X171, ⟨Lc171, hQ171, l171, y171, z171⟩, st171⟩ := Jvm.LawKit.callS X165 hx (y := (⟨"com/example/whorl/whorl/Base64urlTextPinLaw", "chk", "([BIIJ)Z"⟩ : MethodName)) hown (mvT hZ (hw _ (List.mem_of_getElem? (i := 13) rfl))) (mvT hZ (hw _ (List.mem_of_getElem? (i := 14) rfl))) (mvT hZ (hw _ (List.mem_of_getElem? (i := 4) rfl))) (mvT hZ (hw _ (List.mem_of_getElem? (i := 15) rfl))) (by decide) (backOf (W := 0) (rm3y l Z a0 hw [] bt (0 : Int32) (4 : Int32) q1 kT (6 : Int32) _ ((atv cA ((((((ub0 &&& (255 : Int32)) <<< ((16 : Int32) &&& 31)) ||| ((ub1 &&& (255 : Int32)) <<< ((8 : Int32) &&& 31))) ||| (ub2 &&& (255 : Int32))).toUInt32 >>> ((18 : Int32) &&& 31).toUInt32).toInt32)).toInt8.toInt32) T165.heap n0 (Nat.le_trans Z0 Kp165.1) VT (by decide) (by decide) rfl) hZ (hw _ (List.mem_of_getElem? (i := 15) rfl)) (hw _ (List.mem_of_getElem? (i := 4) rfl)) (by decide) (by decide)) (g := (mkF m 103 #[.val (.int p0), .val (.long q1), .second, .val (.int (4 : Int32)), .val (.ref b151), .val (.ref bt), .val (.int (1 : Int32)), .val (.int (6 : Int32))] [(.long q1), (.int (4 : Int32)), (.int (0 : Int32)), (.ref bt)])) rfl (by rw [hml]; rfl) (argsL := [(.ref bt), (.int (0 : Int32)), (.int (4 : Int32)), (.long q1)]) (rest := []) (lenOf pd_0_2 rfl) rfl (by show 2 * 0 + _ ≤ _; exact Nat.le_of_eq rfl) (hb hby at_103) (fun _ _ => ⟨rfl, rfl, (by decide : 2 + 0 ≤ _), (by decide : 10 + 0 ≤ _)⟩)
    dsimp only [Pt.U, Pt.locs, Pt.cells, Pt.slots] at X171 l171 y171 z171 st171 hQ171
    rw [y171, z171] at X171
    obtain ⟨rfl, Nq171, e171⟩ := hQ171
    have N171 : Fr n0 L171 := by rw [l171]; exact Fr.app N165 Nq171
    have K171 : own_K p e below SE T171 (mkF m 106 #[.val (.int p0), .val (.long q1), .second, .val (.int (4 : Int32)), .val (.ref b151), .val (.ref bt), .val (.int (1 : Int32)), .val (.int (6 : Int32))] [(.int (if (atv cA ((((((ub0 &&& (255 : Int32)) <<< ((16 : Int32) &&& 31)) ||| ((ub1 &&& (255 : Int32)) <<< ((8 : Int32) &&& 31))) ||| (ub2 &&& (255 : Int32))).toUInt32 >>> ((18 : Int32) &&& 31).toUInt32).toInt32)).toInt8.toInt32 = ((own_ch (own_sx q1 (4 : Int32) ((0 : Int32) / (4 : Int32)) ((0 : Int32) % (4 : Int32))))).toInt8.toInt32 then (1 : Int32) else (0 : Int32)))]) := fun t k => K170 _ (st171 _ k)
    have K172 : own_K p e below SE T171 (mkF m 114 #[.val (.int p0), .val (.long q1), .second, .val (.int (4 : Int32)), .val (.ref b151), .val (.ref bt), .val (.int (1 : Int32)), .val (.int (6 : Int32))] [(.long q1), (.int (4 : Int32)), (.int (1 : Int32)), (.ref bt)]) := by
      intro t k
      refine K171 _ ?_
      refine XS.ifNo X171.here hx rfl (hb hby at_106) rfl (XT.i0_eq_f ck0) ?_
      show own_S p e below T171 (mkF m 109 #[.val (.int p0), .val (.long q1), .second, .val (.int (4 : Int32)), .val (.ref b151), .val (.ref bt), .val (.int (1 : Int32)), .val (.int (6 : Int32))] []) _
      refine XS.aload X171.here hx rfl (hb hby at_109) rfl rfl ?_
      show own_S p e below T171 (mkF m 111 #[.val (.int p0), .val (.long q1), .second, .val (.int (4 : Int32)), .val (.ref b151), .val (.ref bt), .val (.int (1 : Int32)), .val (.int (6 : Int32))] [(.ref bt)]) _
      refine XS.iconst X171.here hx rfl (hb hby at_111) ?_
      show own_S p e below T171 (mkF m 112 #[.val (.int p0), .val (.long q1), .second, .val (.int (4 : Int32)), .val (.ref b151), .val (.ref bt), .val (.int (1 : Int32)), .val (.int (6 : Int32))] [(.int (1 : Int32)), (.ref bt)]) _
      refine XS.iloadN X171.here hx rfl (hb hby at_112) rfl ?_
      show own_S p e below T171 (mkF m 113 #[.val (.int p0), .val (.long q1), .second, .val (.int (4 : Int32)), .val (.ref b151), .val (.ref bt), .val (.int (1 : Int32)), .val (.int (6 : Int32))] [(.int (4 : Int32)), (.int (1 : Int32)), (.ref bt)]) _
      refine XS.lloadN X171.here hx rfl (hb hby at_113) rfl ?_
      exact k
    have sx1 : (((((((ub0 &&& (255 : Int32)) <<< ((16 : Int32) &&& 31)) ||| ((ub1 &&& (255 : Int32)) <<< ((8 : Int32) &&& 31))) ||| (ub2 &&& (255 : Int32))).toUInt32 >>> ((12 : Int32) &&& 31).toUInt32).toInt32) &&& (63 : Int32)) = own_sx q1 (4 : Int32) ((1 : Int32) / (4 : Int32)) ((1 : Int32) % (4 : Int32)) := by
      have h1 := own_i1 _ _ _ _ (own_m255 ub0) (own_m255 ub1) (own_m255 ub2) (own_x3i ub0 ub1 ub2)
      have o0 : (ub0 &&& (255 : Int32)) = own_oct q1 (0 : Int32) (4 : Int32) := by rw [hub0]; exact own_eo q1 (0 : Int32) (4 : Int32) (by decide)
      have o1 : (ub1 &&& (255 : Int32)) = own_oct q1 (1 : Int32) (4 : Int32) := by rw [hub1]; exact own_eo q1 (1 : Int32) (4 : Int32) (by decide)
      have o2 : (ub2 &&& (255 : Int32)) = own_oct q1 (2 : Int32) (4 : Int32) := by rw [hub2]; exact own_eo q1 (2 : Int32) (4 : Int32) (by decide)
      rw [h1]
      unfold own_sx
      rw [show ((1 : Int32) / (4 : Int32)) = (0 : Int32) by decide, show ((1 : Int32) % (4 : Int32)) = (1 : Int32) by decide, show ((3 : Int32) * (0 : Int32)) = (0 : Int32) by decide, show ((0 : Int32) + (1 : Int32)) = (1 : Int32) by decide, show ((0 : Int32) + (2 : Int32)) = (2 : Int32) by decide]
      rw [if_neg (by decide), if_pos (by decide), ← o0, ← o1]
    have ck1 : ¬ (if (atv cA (((((((ub0 &&& (255 : Int32)) <<< ((16 : Int32) &&& 31)) ||| ((ub1 &&& (255 : Int32)) <<< ((8 : Int32) &&& 31))) ||| (ub2 &&& (255 : Int32))).toUInt32 >>> ((12 : Int32) &&& 31).toUInt32).toInt32) &&& (63 : Int32))).toInt8.toInt32 = ((own_ch (own_sx q1 (4 : Int32) ((1 : Int32) / (4 : Int32)) ((1 : Int32) % (4 : Int32))))).toInt8.toInt32 then (1 : Int32) else (0 : Int32)) = 0 := own_one (own_chk hAL (own_b63 _) sx1)
    obtain ⟨_, _, ⟨T173, L173, k173, n173⟩, -, X173, ⟨Lc173, hQ173, l173, y173, z173⟩, st173⟩ := Jvm.LawKit.callS X171 hx (y := (⟨"com/example/whorl/whorl/Base64urlTextPinLaw", "chk", "([BIIJ)Z"⟩ : MethodName)) hown (mvT hZ (hw _ (List.mem_of_getElem? (i := 13) rfl))) (mvT hZ (hw _ (List.mem_of_getElem? (i := 14) rfl))) (mvT hZ (hw _ (List.mem_of_getElem? (i := 4) rfl))) (mvT hZ (hw _ (List.mem_of_getElem? (i := 15) rfl))) (by decide) (backOf (W := 0) (rm3y l Z a0 hw [] bt (1 : Int32) (4 : Int32) q1 kT (6 : Int32) _ ((atv cA (((((((ub0 &&& (255 : Int32)) <<< ((16 : Int32) &&& 31)) ||| ((ub1 &&& (255 : Int32)) <<< ((8 : Int32) &&& 31))) ||| (ub2 &&& (255 : Int32))).toUInt32 >>> ((12 : Int32) &&& 31).toUInt32).toInt32) &&& (63 : Int32))).toInt8.toInt32) T165.heap n0 (Nat.le_trans Z0 Kp165.1) VT (by decide) (by decide) rfl) hZ (hw _ (List.mem_of_getElem? (i := 15) rfl)) (hw _ (List.mem_of_getElem? (i := 4) rfl)) (by decide) (by decide)) (g := (mkF m 114 #[.val (.int p0), .val (.long q1), .second, .val (.int (4 : Int32)), .val (.ref b151), .val (.ref bt), .val (.int (1 : Int32)), .val (.int (6 : Int32))] [(.long q1), (.int (4 : Int32)), (.int (1 : Int32)), (.ref bt)])) rfl (by rw [hml]; rfl) (argsL := [(.ref bt), (.int (1 : Int32)), (.int (4 : Int32)), (.long q1)]) (rest := []) (lenOf pd_0_2 rfl) rfl (by show 2 * 0 + _ ≤ _; exact Nat.le_of_eq rfl) (hb hby at_114) (fun _ _ => ⟨rfl, e171, (by decide : 2 + 0 ≤ _), (by decide : 10 + 0 ≤ _)⟩)
    dsimp only [Pt.U, Pt.locs, Pt.cells, Pt.slots] at X173 l173 y173 z173 st173 hQ173
    rw [y173, z173] at X173
    obtain ⟨rfl, Nq173, e173⟩ := hQ173
    have N173 : Fr n0 L173 := by rw [l173]; exact Fr.app N171 Nq173
    have K173 : own_K p e below SE T173 (mkF m 117 #[.val (.int p0), .val (.long q1), .second, .val (.int (4 : Int32)), .val (.ref b151), .val (.ref bt), .val (.int (1 : Int32)), .val (.int (6 : Int32))] [(.int (if (atv cA (((((((ub0 &&& (255 : Int32)) <<< ((16 : Int32) &&& 31)) ||| ((ub1 &&& (255 : Int32)) <<< ((8 : Int32) &&& 31))) ||| (ub2 &&& (255 : Int32))).toUInt32 >>> ((12 : Int32) &&& 31).toUInt32).toInt32) &&& (63 : Int32))).toInt8.toInt32 = ((own_ch (own_sx q1 (4 : Int32) ((1 : Int32) / (4 : Int32)) ((1 : Int32) % (4 : Int32))))).toInt8.toInt32 then (1 : Int32) else (0 : Int32)))]) := fun t k => K172 _ (st173 _ k)
    have K174 : own_K p e below SE T173 (mkF m 125 #[.val (.int p0), .val (.long q1), .second, .val (.int (4 : Int32)), .val (.ref b151), .val (.ref bt), .val (.int (1 : Int32)), .val (.int (6 : Int32))] [(.long q1), (.int (4 : Int32)), (.int (2 : Int32)), (.ref bt)]) := by
      intro t k
      refine K173 _ ?_
      refine XS.ifNo X173.here hx rfl (hb hby at_117) rfl (XT.i0_eq_f ck1) ?_
      show own_S p e below T173 (mkF m 120 #[.val (.int p0), .val (.long q1), .second, .val (.int (4 : Int32)), .val (.ref b151), .val (.ref bt), .val (.int (1 : Int32)), .val (.int (6 : Int32))] []) _
      refine XS.aload X173.here hx rfl (hb hby at_120) rfl rfl ?_
      show own_S p e below T173 (mkF m 122 #[.val (.int p0), .val (.long q1), .second, .val (.int (4 : Int32)), .val (.ref b151), .val (.ref bt), .val (.int (1 : Int32)), .val (.int (6 : Int32))] [(.ref bt)]) _
      refine XS.iconst X173.here hx rfl (hb hby at_122) ?_
      show own_S p e below T173 (mkF m 123 #[.val (.int p0), .val (.long q1), .second, .val (.int (4 : Int32)), .val (.ref b151), .val (.ref bt), .val (.int (1 : Int32)), .val (.int (6 : Int32))] [(.int (2 : Int32)), (.ref bt)]) _
      refine XS.iloadN X173.here hx rfl (hb hby at_123) rfl ?_
      show own_S p e below T173 (mkF m 124 #[.val (.int p0), .val (.long q1), .second, .val (.int (4 : Int32)), .val (.ref b151), .val (.ref bt), .val (.int (1 : Int32)), .val (.int (6 : Int32))] [(.int (4 : Int32)), (.int (2 : Int32)), (.ref bt)]) _
      refine XS.lloadN X173.here hx rfl (hb hby at_124) rfl ?_
      exact k
    have sx2 : (((((((ub0 &&& (255 : Int32)) <<< ((16 : Int32) &&& 31)) ||| ((ub1 &&& (255 : Int32)) <<< ((8 : Int32) &&& 31))) ||| (ub2 &&& (255 : Int32))).toUInt32 >>> ((6 : Int32) &&& 31).toUInt32).toInt32) &&& (63 : Int32)) = own_sx q1 (4 : Int32) ((2 : Int32) / (4 : Int32)) ((2 : Int32) % (4 : Int32)) := by
      have h1 := own_i2 _ _ _ _ (own_m255 ub0) (own_m255 ub1) (own_m255 ub2) (own_x3i ub0 ub1 ub2)
      have o0 : (ub0 &&& (255 : Int32)) = own_oct q1 (0 : Int32) (4 : Int32) := by rw [hub0]; exact own_eo q1 (0 : Int32) (4 : Int32) (by decide)
      have o1 : (ub1 &&& (255 : Int32)) = own_oct q1 (1 : Int32) (4 : Int32) := by rw [hub1]; exact own_eo q1 (1 : Int32) (4 : Int32) (by decide)
      have o2 : (ub2 &&& (255 : Int32)) = own_oct q1 (2 : Int32) (4 : Int32) := by rw [hub2]; exact own_eo q1 (2 : Int32) (4 : Int32) (by decide)
      rw [h1]
      unfold own_sx
      rw [show ((2 : Int32) / (4 : Int32)) = (0 : Int32) by decide, show ((2 : Int32) % (4 : Int32)) = (2 : Int32) by decide, show ((3 : Int32) * (0 : Int32)) = (0 : Int32) by decide, show ((0 : Int32) + (1 : Int32)) = (1 : Int32) by decide, show ((0 : Int32) + (2 : Int32)) = (2 : Int32) by decide]
      rw [if_neg (by decide), if_neg (by decide), if_pos (by decide), ← o1, ← o2]
    have ck2 : ¬ (if (atv cA (((((((ub0 &&& (255 : Int32)) <<< ((16 : Int32) &&& 31)) ||| ((ub1 &&& (255 : Int32)) <<< ((8 : Int32) &&& 31))) ||| (ub2 &&& (255 : Int32))).toUInt32 >>> ((6 : Int32) &&& 31).toUInt32).toInt32) &&& (63 : Int32))).toInt8.toInt32 = ((own_ch (own_sx q1 (4 : Int32) ((2 : Int32) / (4 : Int32)) ((2 : Int32) % (4 : Int32))))).toInt8.toInt32 then (1 : Int32) else (0 : Int32)) = 0 := own_one (own_chk hAL (own_b63 _) sx2)
    obtain ⟨_, _, ⟨T175, L175, k175, n175⟩, -, X175, ⟨Lc175, hQ175, l175, y175, z175⟩, st175⟩ := Jvm.LawKit.callS X173 hx (y := (⟨"com/example/whorl/whorl/Base64urlTextPinLaw", "chk", "([BIIJ)Z"⟩ : MethodName)) hown (mvT hZ (hw _ (List.mem_of_getElem? (i := 13) rfl))) (mvT hZ (hw _ (List.mem_of_getElem? (i := 14) rfl))) (mvT hZ (hw _ (List.mem_of_getElem? (i := 4) rfl))) (mvT hZ (hw _ (List.mem_of_getElem? (i := 15) rfl))) (by decide) (backOf (W := 0) (rm3y l Z a0 hw [] bt (2 : Int32) (4 : Int32) q1 kT (6 : Int32) _ ((atv cA (((((((ub0 &&& (255 : Int32)) <<< ((16 : Int32) &&& 31)) ||| ((ub1 &&& (255 : Int32)) <<< ((8 : Int32) &&& 31))) ||| (ub2 &&& (255 : Int32))).toUInt32 >>> ((6 : Int32) &&& 31).toUInt32).toInt32) &&& (63 : Int32))).toInt8.toInt32) T165.heap n0 (Nat.le_trans Z0 Kp165.1) VT (by decide) (by decide) rfl) hZ (hw _ (List.mem_of_getElem? (i := 15) rfl)) (hw _ (List.mem_of_getElem? (i := 4) rfl)) (by decide) (by decide)) (g := (mkF m 125 #[.val (.int p0), .val (.long q1), .second, .val (.int (4 : Int32)), .val (.ref b151), .val (.ref bt), .val (.int (1 : Int32)), .val (.int (6 : Int32))] [(.long q1), (.int (4 : Int32)), (.int (2 : Int32)), (.ref bt)])) rfl (by rw [hml]; rfl) (argsL := [(.ref bt), (.int (2 : Int32)), (.int (4 : Int32)), (.long q1)]) (rest := []) (lenOf pd_0_2 rfl) rfl (by show 2 * 0 + _ ≤ _; exact Nat.le_of_eq rfl) (hb hby at_125) (fun _ _ => ⟨rfl, e173, (by decide : 2 + 0 ≤ _), (by decide : 10 + 0 ≤ _)⟩)
    dsimp only [Pt.U, Pt.locs, Pt.cells, Pt.slots] at X175 l175 y175 z175 st175 hQ175
    rw [y175, z175] at X175
    obtain ⟨rfl, Nq175, e175⟩ := hQ175
    have N175 : Fr n0 L175 := by rw [l175]; exact Fr.app N173 Nq175
    have K175 : own_K p e below SE T175 (mkF m 128 #[.val (.int p0), .val (.long q1), .second, .val (.int (4 : Int32)), .val (.ref b151), .val (.ref bt), .val (.int (1 : Int32)), .val (.int (6 : Int32))] [(.int (if (atv cA (((((((ub0 &&& (255 : Int32)) <<< ((16 : Int32) &&& 31)) ||| ((ub1 &&& (255 : Int32)) <<< ((8 : Int32) &&& 31))) ||| (ub2 &&& (255 : Int32))).toUInt32 >>> ((6 : Int32) &&& 31).toUInt32).toInt32) &&& (63 : Int32))).toInt8.toInt32 = ((own_ch (own_sx q1 (4 : Int32) ((2 : Int32) / (4 : Int32)) ((2 : Int32) % (4 : Int32))))).toInt8.toInt32 then (1 : Int32) else (0 : Int32)))]) := fun t k => K174 _ (st175 _ k)
    have K176 : own_K p e below SE T175 (mkF m 136 #[.val (.int p0), .val (.long q1), .second, .val (.int (4 : Int32)), .val (.ref b151), .val (.ref bt), .val (.int (1 : Int32)), .val (.int (6 : Int32))] [(.long q1), (.int (4 : Int32)), (.int (3 : Int32)), (.ref bt)]) := by
      intro t k
      refine K175 _ ?_
      refine XS.ifNo X175.here hx rfl (hb hby at_128) rfl (XT.i0_eq_f ck2) ?_
      show own_S p e below T175 (mkF m 131 #[.val (.int p0), .val (.long q1), .second, .val (.int (4 : Int32)), .val (.ref b151), .val (.ref bt), .val (.int (1 : Int32)), .val (.int (6 : Int32))] []) _
      refine XS.aload X175.here hx rfl (hb hby at_131) rfl rfl ?_
      show own_S p e below T175 (mkF m 133 #[.val (.int p0), .val (.long q1), .second, .val (.int (4 : Int32)), .val (.ref b151), .val (.ref bt), .val (.int (1 : Int32)), .val (.int (6 : Int32))] [(.ref bt)]) _
      refine XS.iconst X175.here hx rfl (hb hby at_133) ?_
      show own_S p e below T175 (mkF m 134 #[.val (.int p0), .val (.long q1), .second, .val (.int (4 : Int32)), .val (.ref b151), .val (.ref bt), .val (.int (1 : Int32)), .val (.int (6 : Int32))] [(.int (3 : Int32)), (.ref bt)]) _
      refine XS.iloadN X175.here hx rfl (hb hby at_134) rfl ?_
      show own_S p e below T175 (mkF m 135 #[.val (.int p0), .val (.long q1), .second, .val (.int (4 : Int32)), .val (.ref b151), .val (.ref bt), .val (.int (1 : Int32)), .val (.int (6 : Int32))] [(.int (4 : Int32)), (.int (3 : Int32)), (.ref bt)]) _
      refine XS.lloadN X175.here hx rfl (hb hby at_135) rfl ?_
      exact k
    have sx3 : (((((ub0 &&& (255 : Int32)) <<< ((16 : Int32) &&& 31)) ||| ((ub1 &&& (255 : Int32)) <<< ((8 : Int32) &&& 31))) ||| (ub2 &&& (255 : Int32))) &&& (63 : Int32)) = own_sx q1 (4 : Int32) ((3 : Int32) / (4 : Int32)) ((3 : Int32) % (4 : Int32)) := by
      have h1 := own_i3 _ _ _ _ (own_m255 ub0) (own_m255 ub1) (own_m255 ub2) (own_x3i ub0 ub1 ub2)
      have o0 : (ub0 &&& (255 : Int32)) = own_oct q1 (0 : Int32) (4 : Int32) := by rw [hub0]; exact own_eo q1 (0 : Int32) (4 : Int32) (by decide)
      have o1 : (ub1 &&& (255 : Int32)) = own_oct q1 (1 : Int32) (4 : Int32) := by rw [hub1]; exact own_eo q1 (1 : Int32) (4 : Int32) (by decide)
      have o2 : (ub2 &&& (255 : Int32)) = own_oct q1 (2 : Int32) (4 : Int32) := by rw [hub2]; exact own_eo q1 (2 : Int32) (4 : Int32) (by decide)
      rw [h1]
      unfold own_sx
      rw [show ((3 : Int32) / (4 : Int32)) = (0 : Int32) by decide, show ((3 : Int32) % (4 : Int32)) = (3 : Int32) by decide, show ((3 : Int32) * (0 : Int32)) = (0 : Int32) by decide, show ((0 : Int32) + (1 : Int32)) = (1 : Int32) by decide, show ((0 : Int32) + (2 : Int32)) = (2 : Int32) by decide]
      rw [if_neg (by decide), if_neg (by decide), if_neg (by decide), ← o2]
    have ck3 : ¬ (if (atv cA (((((ub0 &&& (255 : Int32)) <<< ((16 : Int32) &&& 31)) ||| ((ub1 &&& (255 : Int32)) <<< ((8 : Int32) &&& 31))) ||| (ub2 &&& (255 : Int32))) &&& (63 : Int32))).toInt8.toInt32 = ((own_ch (own_sx q1 (4 : Int32) ((3 : Int32) / (4 : Int32)) ((3 : Int32) % (4 : Int32))))).toInt8.toInt32 then (1 : Int32) else (0 : Int32)) = 0 := own_one (own_chk hAL (own_b63 _) sx3)
    obtain ⟨_, _, ⟨T177, L177, k177, n177⟩, -, X177, ⟨Lc177, hQ177, l177, y177, z177⟩, st177⟩ := Jvm.LawKit.callS X175 hx (y := (⟨"com/example/whorl/whorl/Base64urlTextPinLaw", "chk", "([BIIJ)Z"⟩ : MethodName)) hown (mvT hZ (hw _ (List.mem_of_getElem? (i := 13) rfl))) (mvT hZ (hw _ (List.mem_of_getElem? (i := 14) rfl))) (mvT hZ (hw _ (List.mem_of_getElem? (i := 4) rfl))) (mvT hZ (hw _ (List.mem_of_getElem? (i := 15) rfl))) (by decide) (backOf (W := 0) (rm3y l Z a0 hw [] bt (3 : Int32) (4 : Int32) q1 kT (6 : Int32) _ ((atv cA (((((ub0 &&& (255 : Int32)) <<< ((16 : Int32) &&& 31)) ||| ((ub1 &&& (255 : Int32)) <<< ((8 : Int32) &&& 31))) ||| (ub2 &&& (255 : Int32))) &&& (63 : Int32))).toInt8.toInt32) T165.heap n0 (Nat.le_trans Z0 Kp165.1) VT (by decide) (by decide) rfl) hZ (hw _ (List.mem_of_getElem? (i := 15) rfl)) (hw _ (List.mem_of_getElem? (i := 4) rfl)) (by decide) (by decide)) (g := (mkF m 136 #[.val (.int p0), .val (.long q1), .second, .val (.int (4 : Int32)), .val (.ref b151), .val (.ref bt), .val (.int (1 : Int32)), .val (.int (6 : Int32))] [(.long q1), (.int (4 : Int32)), (.int (3 : Int32)), (.ref bt)])) rfl (by rw [hml]; rfl) (argsL := [(.ref bt), (.int (3 : Int32)), (.int (4 : Int32)), (.long q1)]) (rest := []) (lenOf pd_0_2 rfl) rfl (by show 2 * 0 + _ ≤ _; exact Nat.le_of_eq rfl) (hb hby at_136) (fun _ _ => ⟨rfl, e175, (by decide : 2 + 0 ≤ _), (by decide : 10 + 0 ≤ _)⟩)
    dsimp only [Pt.U, Pt.locs, Pt.cells, Pt.slots] at X177 l177 y177 z177 st177 hQ177
    rw [y177, z177] at X177
    obtain ⟨rfl, Nq177, e177⟩ := hQ177
    have N177 : Fr n0 L177 := by rw [l177]; exact Fr.app N175 Nq177
    have K177 : own_K p e below SE T177 (mkF m 139 #[.val (.int p0), .val (.long q1), .second, .val (.int (4 : Int32)), .val (.ref b151), .val (.ref bt), .val (.int (1 : Int32)), .val (.int (6 : Int32))] [(.int (if (atv cA (((((ub0 &&& (255 : Int32)) <<< ((16 : Int32) &&& 31)) ||| ((ub1 &&& (255 : Int32)) <<< ((8 : Int32) &&& 31))) ||| (ub2 &&& (255 : Int32))) &&& (63 : Int32))).toInt8.toInt32 = ((own_ch (own_sx q1 (4 : Int32) ((3 : Int32) / (4 : Int32)) ((3 : Int32) % (4 : Int32))))).toInt8.toInt32 then (1 : Int32) else (0 : Int32)))]) := fun t k => K176 _ (st177 _ k)
    have K178 : own_K p e below SE T177 (mkF m 147 #[.val (.int p0), .val (.long q1), .second, .val (.int (4 : Int32)), .val (.ref b151), .val (.ref bt), .val (.int (1 : Int32)), .val (.int (6 : Int32))] [(.long q1), (.int (4 : Int32)), (.int (4 : Int32)), (.ref bt)]) := by
      intro t k
      refine K177 _ ?_
      refine XS.ifNo X177.here hx rfl (hb hby at_139) rfl (XT.i0_eq_f ck3) ?_
      show own_S p e below T177 (mkF m 142 #[.val (.int p0), .val (.long q1), .second, .val (.int (4 : Int32)), .val (.ref b151), .val (.ref bt), .val (.int (1 : Int32)), .val (.int (6 : Int32))] []) _
      refine XS.aload X177.here hx rfl (hb hby at_142) rfl rfl ?_
      show own_S p e below T177 (mkF m 144 #[.val (.int p0), .val (.long q1), .second, .val (.int (4 : Int32)), .val (.ref b151), .val (.ref bt), .val (.int (1 : Int32)), .val (.int (6 : Int32))] [(.ref bt)]) _
      refine XS.iconst X177.here hx rfl (hb hby at_144) ?_
      show own_S p e below T177 (mkF m 145 #[.val (.int p0), .val (.long q1), .second, .val (.int (4 : Int32)), .val (.ref b151), .val (.ref bt), .val (.int (1 : Int32)), .val (.int (6 : Int32))] [(.int (4 : Int32)), (.ref bt)]) _
      refine XS.iloadN X177.here hx rfl (hb hby at_145) rfl ?_
      show own_S p e below T177 (mkF m 146 #[.val (.int p0), .val (.long q1), .second, .val (.int (4 : Int32)), .val (.ref b151), .val (.ref bt), .val (.int (1 : Int32)), .val (.int (6 : Int32))] [(.int (4 : Int32)), (.int (4 : Int32)), (.ref bt)]) _
      refine XS.lloadN X177.here hx rfl (hb hby at_146) rfl ?_
      exact k
    have sx4 : (((((ub3 &&& (255 : Int32)) <<< ((16 : Int32) &&& 31)) ||| (0 : Int32)).toUInt32 >>> ((18 : Int32) &&& 31).toUInt32).toInt32) = own_sx q1 (4 : Int32) ((4 : Int32) / (4 : Int32)) ((4 : Int32) % (4 : Int32)) := by
      have h1 := own_i0 _ _ _ _ (own_m255 ub3) (own_r0) (own_r0) (own_x1i ub3)
      have o0 : (ub3 &&& (255 : Int32)) = own_oct q1 (3 : Int32) (4 : Int32) := by rw [hub3]; exact own_eo q1 (3 : Int32) (4 : Int32) (by decide)
      have o1 : (0 : Int32) = own_oct q1 (4 : Int32) (4 : Int32) := by unfold own_oct; rw [if_neg (by decide)]
      have o2 : (0 : Int32) = own_oct q1 (5 : Int32) (4 : Int32) := by unfold own_oct; rw [if_neg (by decide)]
      rw [h1]
      unfold own_sx
      rw [show ((4 : Int32) / (4 : Int32)) = (1 : Int32) by decide, show ((4 : Int32) % (4 : Int32)) = (0 : Int32) by decide, show ((3 : Int32) * (1 : Int32)) = (3 : Int32) by decide, show ((3 : Int32) + (1 : Int32)) = (4 : Int32) by decide, show ((3 : Int32) + (2 : Int32)) = (5 : Int32) by decide]
      rw [if_pos (by decide), ← o0]
    have ck4 : ¬ (if (atv cA (((((ub3 &&& (255 : Int32)) <<< ((16 : Int32) &&& 31)) ||| (0 : Int32)).toUInt32 >>> ((18 : Int32) &&& 31).toUInt32).toInt32)).toInt8.toInt32 = ((own_ch (own_sx q1 (4 : Int32) ((4 : Int32) / (4 : Int32)) ((4 : Int32) % (4 : Int32))))).toInt8.toInt32 then (1 : Int32) else (0 : Int32)) = 0 := own_one (own_chk hAL (own_b18 _ (own_xb (own_m255 _) own_r0 own_r0 (own_x1i ub3))) sx4)
    obtain ⟨_, _, ⟨T179, L179, k179, n179⟩, -, X179, ⟨Lc179, hQ179, l179, y179, z179⟩, st179⟩ := Jvm.LawKit.callS X177 hx (y := (⟨"com/example/whorl/whorl/Base64urlTextPinLaw", "chk", "([BIIJ)Z"⟩ : MethodName)) hown (mvT hZ (hw _ (List.mem_of_getElem? (i := 13) rfl))) (mvT hZ (hw _ (List.mem_of_getElem? (i := 14) rfl))) (mvT hZ (hw _ (List.mem_of_getElem? (i := 4) rfl))) (mvT hZ (hw _ (List.mem_of_getElem? (i := 15) rfl))) (by decide) (backOf (W := 0) (rm3y l Z a0 hw [] bt (4 : Int32) (4 : Int32) q1 kT (6 : Int32) _ ((atv cA (((((ub3 &&& (255 : Int32)) <<< ((16 : Int32) &&& 31)) ||| (0 : Int32)).toUInt32 >>> ((18 : Int32) &&& 31).toUInt32).toInt32)).toInt8.toInt32) T165.heap n0 (Nat.le_trans Z0 Kp165.1) VT (by decide) (by decide) rfl) hZ (hw _ (List.mem_of_getElem? (i := 15) rfl)) (hw _ (List.mem_of_getElem? (i := 4) rfl)) (by decide) (by decide)) (g := (mkF m 147 #[.val (.int p0), .val (.long q1), .second, .val (.int (4 : Int32)), .val (.ref b151), .val (.ref bt), .val (.int (1 : Int32)), .val (.int (6 : Int32))] [(.long q1), (.int (4 : Int32)), (.int (4 : Int32)), (.ref bt)])) rfl (by rw [hml]; rfl) (argsL := [(.ref bt), (.int (4 : Int32)), (.int (4 : Int32)), (.long q1)]) (rest := []) (lenOf pd_0_2 rfl) rfl (by show 2 * 0 + _ ≤ _; exact Nat.le_of_eq rfl) (hb hby at_147) (fun _ _ => ⟨rfl, e177, (by decide : 2 + 0 ≤ _), (by decide : 10 + 0 ≤ _)⟩)
    dsimp only [Pt.U, Pt.locs, Pt.cells, Pt.slots] at X179 l179 y179 z179 st179 hQ179
    rw [y179, z179] at X179
    obtain ⟨rfl, Nq179, e179⟩ := hQ179
    have N179 : Fr n0 L179 := by rw [l179]; exact Fr.app N177 Nq179
    have K179 : own_K p e below SE T179 (mkF m 150 #[.val (.int p0), .val (.long q1), .second, .val (.int (4 : Int32)), .val (.ref b151), .val (.ref bt), .val (.int (1 : Int32)), .val (.int (6 : Int32))] [(.int (if (atv cA (((((ub3 &&& (255 : Int32)) <<< ((16 : Int32) &&& 31)) ||| (0 : Int32)).toUInt32 >>> ((18 : Int32) &&& 31).toUInt32).toInt32)).toInt8.toInt32 = ((own_ch (own_sx q1 (4 : Int32) ((4 : Int32) / (4 : Int32)) ((4 : Int32) % (4 : Int32))))).toInt8.toInt32 then (1 : Int32) else (0 : Int32)))]) := fun t k => K178 _ (st179 _ k)
    have K180 : own_K p e below SE T179 (mkF m 158 #[.val (.int p0), .val (.long q1), .second, .val (.int (4 : Int32)), .val (.ref b151), .val (.ref bt), .val (.int (1 : Int32)), .val (.int (6 : Int32))] [(.long q1), (.int (4 : Int32)), (.int (5 : Int32)), (.ref bt)]) := by
      intro t k
      refine K179 _ ?_
      refine XS.ifNo X179.here hx rfl (hb hby at_150) rfl (XT.i0_eq_f ck4) ?_
      show own_S p e below T179 (mkF m 153 #[.val (.int p0), .val (.long q1), .second, .val (.int (4 : Int32)), .val (.ref b151), .val (.ref bt), .val (.int (1 : Int32)), .val (.int (6 : Int32))] []) _
      refine XS.aload X179.here hx rfl (hb hby at_153) rfl rfl ?_
      show own_S p e below T179 (mkF m 155 #[.val (.int p0), .val (.long q1), .second, .val (.int (4 : Int32)), .val (.ref b151), .val (.ref bt), .val (.int (1 : Int32)), .val (.int (6 : Int32))] [(.ref bt)]) _
      refine XS.iconst X179.here hx rfl (hb hby at_155) ?_
      show own_S p e below T179 (mkF m 156 #[.val (.int p0), .val (.long q1), .second, .val (.int (4 : Int32)), .val (.ref b151), .val (.ref bt), .val (.int (1 : Int32)), .val (.int (6 : Int32))] [(.int (5 : Int32)), (.ref bt)]) _
      refine XS.iloadN X179.here hx rfl (hb hby at_156) rfl ?_
      show own_S p e below T179 (mkF m 157 #[.val (.int p0), .val (.long q1), .second, .val (.int (4 : Int32)), .val (.ref b151), .val (.ref bt), .val (.int (1 : Int32)), .val (.int (6 : Int32))] [(.int (4 : Int32)), (.int (5 : Int32)), (.ref bt)]) _
      refine XS.lloadN X179.here hx rfl (hb hby at_157) rfl ?_
      exact k
    have sx5 : ((((((ub3 &&& (255 : Int32)) <<< ((16 : Int32) &&& 31)) ||| (0 : Int32)).toUInt32 >>> ((12 : Int32) &&& 31).toUInt32).toInt32) &&& (63 : Int32)) = own_sx q1 (4 : Int32) ((5 : Int32) / (4 : Int32)) ((5 : Int32) % (4 : Int32)) := by
      have h1 := own_i1 _ _ _ _ (own_m255 ub3) (own_r0) (own_r0) (own_x1i ub3)
      have o0 : (ub3 &&& (255 : Int32)) = own_oct q1 (3 : Int32) (4 : Int32) := by rw [hub3]; exact own_eo q1 (3 : Int32) (4 : Int32) (by decide)
      have o1 : (0 : Int32) = own_oct q1 (4 : Int32) (4 : Int32) := by unfold own_oct; rw [if_neg (by decide)]
      have o2 : (0 : Int32) = own_oct q1 (5 : Int32) (4 : Int32) := by unfold own_oct; rw [if_neg (by decide)]
      rw [h1]
      unfold own_sx
      rw [show ((5 : Int32) / (4 : Int32)) = (1 : Int32) by decide, show ((5 : Int32) % (4 : Int32)) = (1 : Int32) by decide, show ((3 : Int32) * (1 : Int32)) = (3 : Int32) by decide, show ((3 : Int32) + (1 : Int32)) = (4 : Int32) by decide, show ((3 : Int32) + (2 : Int32)) = (5 : Int32) by decide]
      rw [if_neg (by decide), if_pos (by decide), ← o0, ← o1]
    have ck5 : ¬ (if (atv cA ((((((ub3 &&& (255 : Int32)) <<< ((16 : Int32) &&& 31)) ||| (0 : Int32)).toUInt32 >>> ((12 : Int32) &&& 31).toUInt32).toInt32) &&& (63 : Int32))).toInt8.toInt32 = ((own_ch (own_sx q1 (4 : Int32) ((5 : Int32) / (4 : Int32)) ((5 : Int32) % (4 : Int32))))).toInt8.toInt32 then (1 : Int32) else (0 : Int32)) = 0 := own_one (own_chk hAL (own_b63 _) sx5)
    obtain ⟨_, _, ⟨T181, L181, k181, n181⟩, -, X181, ⟨Lc181, hQ181, l181, y181, z181⟩, st181⟩ := Jvm.LawKit.callS X179 hx (y := (⟨"com/example/whorl/whorl/Base64urlTextPinLaw", "chk", "([BIIJ)Z"⟩ : MethodName)) hown (mvT hZ (hw _ (List.mem_of_getElem? (i := 13) rfl))) (mvT hZ (hw _ (List.mem_of_getElem? (i := 14) rfl))) (mvT hZ (hw _ (List.mem_of_getElem? (i := 4) rfl))) (mvT hZ (hw _ (List.mem_of_getElem? (i := 15) rfl))) (by decide) (backOf (W := 0) (rm3y l Z a0 hw [] bt (5 : Int32) (4 : Int32) q1 kT (6 : Int32) _ ((atv cA ((((((ub3 &&& (255 : Int32)) <<< ((16 : Int32) &&& 31)) ||| (0 : Int32)).toUInt32 >>> ((12 : Int32) &&& 31).toUInt32).toInt32) &&& (63 : Int32))).toInt8.toInt32) T165.heap n0 (Nat.le_trans Z0 Kp165.1) VT (by decide) (by decide) rfl) hZ (hw _ (List.mem_of_getElem? (i := 15) rfl)) (hw _ (List.mem_of_getElem? (i := 4) rfl)) (by decide) (by decide)) (g := (mkF m 158 #[.val (.int p0), .val (.long q1), .second, .val (.int (4 : Int32)), .val (.ref b151), .val (.ref bt), .val (.int (1 : Int32)), .val (.int (6 : Int32))] [(.long q1), (.int (4 : Int32)), (.int (5 : Int32)), (.ref bt)])) rfl (by rw [hml]; rfl) (argsL := [(.ref bt), (.int (5 : Int32)), (.int (4 : Int32)), (.long q1)]) (rest := []) (lenOf pd_0_2 rfl) rfl (by show 2 * 0 + _ ≤ _; exact Nat.le_of_eq rfl) (hb hby at_158) (fun _ _ => ⟨rfl, e179, (by decide : 2 + 0 ≤ _), (by decide : 10 + 0 ≤ _)⟩)
    dsimp only [Pt.U, Pt.locs, Pt.cells, Pt.slots] at X181 l181 y181 z181 st181 hQ181
    rw [y181, z181] at X181
    obtain ⟨rfl, Nq181, e181⟩ := hQ181
    have N181 : Fr n0 L181 := by rw [l181]; exact Fr.app N179 Nq181
    have K181 : own_K p e below SE T181 (mkF m 161 #[.val (.int p0), .val (.long q1), .second, .val (.int (4 : Int32)), .val (.ref b151), .val (.ref bt), .val (.int (1 : Int32)), .val (.int (6 : Int32))] [(.int (if (atv cA ((((((ub3 &&& (255 : Int32)) <<< ((16 : Int32) &&& 31)) ||| (0 : Int32)).toUInt32 >>> ((12 : Int32) &&& 31).toUInt32).toInt32) &&& (63 : Int32))).toInt8.toInt32 = ((own_ch (own_sx q1 (4 : Int32) ((5 : Int32) / (4 : Int32)) ((5 : Int32) % (4 : Int32))))).toInt8.toInt32 then (1 : Int32) else (0 : Int32)))]) := fun t k => K180 _ (st181 _ k)
    have K182 : own_K p e below SE T181 (mkF m 170 #[.val (.int p0), .val (.long q1), .second, .val (.int (4 : Int32)), .val (.ref b151), .val (.ref bt), .val (.int (1 : Int32)), .val (.int (6 : Int32))] [(.long q1), (.int (4 : Int32)), (.int (6 : Int32)), (.ref bt)]) := by
      intro t k
      refine K181 _ ?_
      refine XS.ifNo X181.here hx rfl (hb hby at_161) rfl (XT.i0_eq_f ck5) ?_
      show own_S p e below T181 (mkF m 164 #[.val (.int p0), .val (.long q1), .second, .val (.int (4 : Int32)), .val (.ref b151), .val (.ref bt), .val (.int (1 : Int32)), .val (.int (6 : Int32))] []) _
      refine XS.aload X181.here hx rfl (hb hby at_164) rfl rfl ?_
      show own_S p e below T181 (mkF m 166 #[.val (.int p0), .val (.long q1), .second, .val (.int (4 : Int32)), .val (.ref b151), .val (.ref bt), .val (.int (1 : Int32)), .val (.int (6 : Int32))] [(.ref bt)]) _
      refine XS.bipush X181.here hx rfl (hb hby at_166) ?_
      show own_S p e below T181 (mkF m 168 #[.val (.int p0), .val (.long q1), .second, .val (.int (4 : Int32)), .val (.ref b151), .val (.ref bt), .val (.int (1 : Int32)), .val (.int (6 : Int32))] [(.int (6 : Int32)), (.ref bt)]) _
      refine XS.iloadN X181.here hx rfl (hb hby at_168) rfl ?_
      show own_S p e below T181 (mkF m 169 #[.val (.int p0), .val (.long q1), .second, .val (.int (4 : Int32)), .val (.ref b151), .val (.ref bt), .val (.int (1 : Int32)), .val (.int (6 : Int32))] [(.int (4 : Int32)), (.int (6 : Int32)), (.ref bt)]) _
      refine XS.lloadN X181.here hx rfl (hb hby at_169) rfl ?_
      exact k
    obtain ⟨_, _, ⟨T183, L183, k183, n183⟩, -, X183, ⟨Lc183, hQ183, l183, y183, z183⟩, st183⟩ := Jvm.LawKit.callS X181 hx (y := (⟨"com/example/whorl/whorl/Base64urlTextPinLaw", "chk", "([BIIJ)Z"⟩ : MethodName)) hown (mvT hZ (hw _ (List.mem_of_getElem? (i := 13) rfl))) (mvT hZ (hw _ (List.mem_of_getElem? (i := 14) rfl))) (mvT hZ (hw _ (List.mem_of_getElem? (i := 4) rfl))) (mvT hZ (hw _ (List.mem_of_getElem? (i := 15) rfl))) (by decide) (backOf (W := 0) (rm3n l Z a0 hw [] bt (6 : Int32) (4 : Int32) q1 kT (6 : Int32) _ T165.heap n0 (Nat.le_trans Z0 Kp165.1) VT (by decide)) hZ (hw _ (List.mem_of_getElem? (i := 15) rfl)) (hw _ (List.mem_of_getElem? (i := 4) rfl)) (by decide) (by decide)) (g := (mkF m 170 #[.val (.int p0), .val (.long q1), .second, .val (.int (4 : Int32)), .val (.ref b151), .val (.ref bt), .val (.int (1 : Int32)), .val (.int (6 : Int32))] [(.long q1), (.int (4 : Int32)), (.int (6 : Int32)), (.ref bt)])) rfl (by rw [hml]; rfl) (argsL := [(.ref bt), (.int (6 : Int32)), (.int (4 : Int32)), (.long q1)]) (rest := []) (lenOf pd_0_2 rfl) rfl (by show 2 * 0 + _ ≤ _; exact Nat.le_of_eq rfl) (hb hby at_170) (fun _ _ => ⟨rfl, e181, (by decide : 2 + 0 ≤ _), (by decide : 10 + 0 ≤ _)⟩)
    dsimp only [Pt.U, Pt.locs, Pt.cells, Pt.slots] at X183 l183 y183 z183 st183 hQ183
    rw [y183, z183] at X183
    obtain ⟨rfl, Nq183, e183⟩ := hQ183
    have N183 : Fr n0 L183 := by rw [l183]; exact Fr.app N181 Nq183
    have K183 : own_K p e below SE T183 (mkF m 173 #[.val (.int p0), .val (.long q1), .second, .val (.int (4 : Int32)), .val (.ref b151), .val (.ref bt), .val (.int (1 : Int32)), .val (.int (6 : Int32))] [(.int (1 : Int32))]) := fun t k => K182 _ (st183 _ k)
    have K184 : own_K p e below SE T183 (mkF m 182 #[.val (.int p0), .val (.long q1), .second, .val (.int (4 : Int32)), .val (.ref b151), .val (.ref bt), .val (.int (1 : Int32)), .val (.int (6 : Int32))] [(.long q1), (.int (4 : Int32)), (.int (7 : Int32)), (.ref bt)]) := by
      intro t k
      refine K183 _ ?_
      refine XS.ifNo X183.here hx rfl (hb hby at_173) rfl (XT.i0_eq_f (by decide : ¬ ((1 : Int32) = 0))) ?_
      show own_S p e below T183 (mkF m 176 #[.val (.int p0), .val (.long q1), .second, .val (.int (4 : Int32)), .val (.ref b151), .val (.ref bt), .val (.int (1 : Int32)), .val (.int (6 : Int32))] []) _
      refine XS.aload X183.here hx rfl (hb hby at_176) rfl rfl ?_
      show own_S p e below T183 (mkF m 178 #[.val (.int p0), .val (.long q1), .second, .val (.int (4 : Int32)), .val (.ref b151), .val (.ref bt), .val (.int (1 : Int32)), .val (.int (6 : Int32))] [(.ref bt)]) _
      refine XS.bipush X183.here hx rfl (hb hby at_178) ?_
      show own_S p e below T183 (mkF m 180 #[.val (.int p0), .val (.long q1), .second, .val (.int (4 : Int32)), .val (.ref b151), .val (.ref bt), .val (.int (1 : Int32)), .val (.int (6 : Int32))] [(.int (7 : Int32)), (.ref bt)]) _
      refine XS.iloadN X183.here hx rfl (hb hby at_180) rfl ?_
      show own_S p e below T183 (mkF m 181 #[.val (.int p0), .val (.long q1), .second, .val (.int (4 : Int32)), .val (.ref b151), .val (.ref bt), .val (.int (1 : Int32)), .val (.int (6 : Int32))] [(.int (4 : Int32)), (.int (7 : Int32)), (.ref bt)]) _
      refine XS.lloadN X183.here hx rfl (hb hby at_181) rfl ?_
      exact k
    obtain ⟨_, _, ⟨T185, L185, k185, n185⟩, -, X185, ⟨Lc185, hQ185, l185, y185, z185⟩, st185⟩ := Jvm.LawKit.callS X183 hx (y := (⟨"com/example/whorl/whorl/Base64urlTextPinLaw", "chk", "([BIIJ)Z"⟩ : MethodName)) hown (mvT hZ (hw _ (List.mem_of_getElem? (i := 13) rfl))) (mvT hZ (hw _ (List.mem_of_getElem? (i := 14) rfl))) (mvT hZ (hw _ (List.mem_of_getElem? (i := 4) rfl))) (mvT hZ (hw _ (List.mem_of_getElem? (i := 15) rfl))) (by decide) (backOf (W := 0) (rm3n l Z a0 hw [] bt (7 : Int32) (4 : Int32) q1 kT (6 : Int32) _ T165.heap n0 (Nat.le_trans Z0 Kp165.1) VT (by decide)) hZ (hw _ (List.mem_of_getElem? (i := 15) rfl)) (hw _ (List.mem_of_getElem? (i := 4) rfl)) (by decide) (by decide)) (g := (mkF m 182 #[.val (.int p0), .val (.long q1), .second, .val (.int (4 : Int32)), .val (.ref b151), .val (.ref bt), .val (.int (1 : Int32)), .val (.int (6 : Int32))] [(.long q1), (.int (4 : Int32)), (.int (7 : Int32)), (.ref bt)])) rfl (by rw [hml]; rfl) (argsL := [(.ref bt), (.int (7 : Int32)), (.int (4 : Int32)), (.long q1)]) (rest := []) (lenOf pd_0_2 rfl) rfl (by show 2 * 0 + _ ≤ _; exact Nat.le_of_eq rfl) (hb hby at_182) (fun _ _ => ⟨rfl, e183, (by decide : 2 + 0 ≤ _), (by decide : 10 + 0 ≤ _)⟩)
    dsimp only [Pt.U, Pt.locs, Pt.cells, Pt.slots] at X185 l185 y185 z185 st185 hQ185
    rw [y185, z185] at X185
    obtain ⟨rfl, Nq185, e185⟩ := hQ185
    have N185 : Fr n0 L185 := by rw [l185]; exact Fr.app N183 Nq185
    have K185 : own_K p e below SE T185 (mkF m 185 #[.val (.int p0), .val (.long q1), .second, .val (.int (4 : Int32)), .val (.ref b151), .val (.ref bt), .val (.int (1 : Int32)), .val (.int (6 : Int32))] [(.int (1 : Int32))]) := fun t k => K184 _ (st185 _ k)
    have K186 : own_K p e below SE T185 (mkF m 193 #[.val (.int p0), .val (.long q1), .second, .val (.int (4 : Int32)), .val (.ref b151), .val (.ref bt), .val (.int (1 : Int32)), .val (.int (6 : Int32))] [(.int (1 : Int32))]) := by
      intro t k
      refine K185 _ ?_
      refine XS.ifNo X185.here hx rfl (hb hby at_185) rfl (XT.i0_eq_f (by decide : ¬ ((1 : Int32) = 0))) ?_
      show own_S p e below T185 (mkF m 188 #[.val (.int p0), .val (.long q1), .second, .val (.int (4 : Int32)), .val (.ref b151), .val (.ref bt), .val (.int (1 : Int32)), .val (.int (6 : Int32))] []) _
      refine XS.iconst X185.here hx rfl (hb hby at_188) ?_
      show own_S p e below T185 (mkF m 189 #[.val (.int p0), .val (.long q1), .second, .val (.int (4 : Int32)), .val (.ref b151), .val (.ref bt), .val (.int (1 : Int32)), .val (.int (6 : Int32))] [(.int (1 : Int32))]) _
      refine XS.goto X185.here hx rfl (pc0 := 189) (pc' := 193) rfl (hb hby at_189) (by decide) (by decide) ?_
      exact k
    obtain ⟨fs, hr, hrun, hended, hW, hsame⟩ := X185.leave (v := some (.int (1 : Int32))) (fun h => by rw [Bd.returns] at h; cases h)
    refine ⟨_, _, K186 _ ?_, hrun, hended, _, _, rfl, ?_, ⟨_, rfl⟩, hW, hsame.mono (by decide) (by decide)⟩
    · exact retN X185 hx (t := .boolean) Bd.returns (by simp) (hb hby at_193) hr
    · show Q0 Z p0 q1 oAL cA h0 n0 _ T185.heap _
      rw [e185]
      exact ⟨rfl, N185⟩
  · skip
    rw [q] at K1
    have K187 : own_K p e below SE s₁ (mkF m 9 #[.val (.int p0), .val (.long q1), .second, .val (.int (5 : Int32)), .unset, .unset, .unset, .unset] [(.int (5 : Int32))]) := by
      intro t k
      refine K1 _ ?_
      refine XS.iloadN X0.here hx rfl (hb hby at_8) rfl ?_
      exact k
    obtain ⟨T188, h188, k188, X188, e188, E188, A188, st188⟩ := newP X0 hx hZ (hw _ (List.mem_of_getElem? (i := 1) rfl)) e0 (g := (mkF m 9 #[.val (.int p0), .val (.long q1), .second, .val (.int (5 : Int32)), .unset, .unset, .unset, .unset] [(.int (5 : Int32))])) rfl (hb hby at_9) rfl (by decide) (cap := 5) (by decide) (by decide) (by decide) (by decide)
    obtain ⟨b188, g188⟩ : ∃ z, z = h0.size := ⟨_, rfl⟩
    rw [← g188] at A188 st188
    have g_b188 : n0 ≤ b188 := Nat.le_trans Z0 (Nat.le_of_eq g188.symm)
    have sz_b188 : h0.size ≤ b188 := Nat.le_trans (Nat.le_refl _) (Nat.le_of_eq g188.symm)
    have Kp188 : Keep h0 h188 [] := Keep.ext (Keep.refl h0 []) E188
    have V188 : Arv Z h188 b188 k188 .byte (5 : Int32) [(.int (0 : Int32)), (.int (0 : Int32)), (.int (0 : Int32)), (.int (0 : Int32)), (.int (0 : Int32))] (.int (0 : Int32)) := (Arv.new A188 (by decide)).pad (pad_rep [] (.int (0 : Int32)) 5)
    have K188 : own_K p e below SE T188 (mkF m 11 #[.val (.int p0), .val (.long q1), .second, .val (.int (5 : Int32)), .unset, .unset, .unset, .unset] [(.ref b188)]) := fun t k => K187 _ (st188 _ k)
    have K189 : own_K p e below SE T188 (mkF m 17 #[.val (.int p0), .val (.long q1), .second, .val (.int (5 : Int32)), .val (.ref b188), .unset, .unset, .unset] [(.long q1), (.int (0 : Int32)), (.ref b188)]) := by
      intro t k
      refine K188 _ ?_
      refine XS.astore X188.here hx rfl (hb hby at_11) rfl rfl (l' := #[.val (.int p0), .val (.long q1), .second, .val (.int (5 : Int32)), .val (.ref b188), .unset, .unset, .unset]) rfl ?_
      show own_S p e below T188 (mkF m 13 #[.val (.int p0), .val (.long q1), .second, .val (.int (5 : Int32)), .val (.ref b188), .unset, .unset, .unset] []) _
      refine XS.aload X188.here hx rfl (hb hby at_13) rfl rfl ?_
      show own_S p e below T188 (mkF m 15 #[.val (.int p0), .val (.long q1), .second, .val (.int (5 : Int32)), .val (.ref b188), .unset, .unset, .unset] [(.ref b188)]) _
      refine XS.iconst X188.here hx rfl (hb hby at_15) ?_
      show own_S p e below T188 (mkF m 16 #[.val (.int p0), .val (.long q1), .second, .val (.int (5 : Int32)), .val (.ref b188), .unset, .unset, .unset] [(.int (0 : Int32)), (.ref b188)]) _
      refine XS.lloadN X188.here hx rfl (hb hby at_16) rfl ?_
      exact k
    obtain ⟨_, _, ⟨T190, L190, k190, n190⟩, -, X190, ⟨Lc190, hQ190, l190, y190, z190⟩, st190⟩ := Jvm.LawKit.callS X188 hx (y := (⟨"com/example/whorl/whorl/Base64urlTextPinLaw", "put", "([BIJ)V"⟩ : MethodName)) hown (mvT hZ (hw _ (List.mem_of_getElem? (i := 2) rfl))) (mvT hZ (hw _ (List.mem_of_getElem? (i := 3) rfl))) (mvT hZ (hw _ (List.mem_of_getElem? (i := 4) rfl))) (mvT hZ (hw _ (List.mem_of_getElem? (i := 5) rfl))) (by decide) (backOf (W := 0) (rm1y l Z a0 hw [] b188 (0 : Int32) q1 k188 (5 : Int32) _ 0 h188 n0 (Nat.le_trans Z0 Kp188.1) V188 (by decide) (by decide) rfl (Nat.le_of_ble_eq_true rfl) g_b188) hZ (hw _ (List.mem_of_getElem? (i := 5) rfl)) (hw _ (List.mem_of_getElem? (i := 4) rfl)) (by decide) (by decide)) (g := (mkF m 17 #[.val (.int p0), .val (.long q1), .second, .val (.int (5 : Int32)), .val (.ref b188), .unset, .unset, .unset] [(.long q1), (.int (0 : Int32)), (.ref b188)])) rfl (by rw [hml]; rfl) (argsL := [(.ref b188), (.int (0 : Int32)), (.long q1)]) (rest := []) (lenOf pd_0_0 rfl) rfl (by show 2 * 0 + _ ≤ _; exact Nat.le_of_eq rfl) (hb hby at_17) (fun _ _ => ⟨rfl, e188, (by decide : 1 + 0 ≤ _), (by decide : 5 + 0 ≤ _)⟩)
    dsimp only [Pt.U, Pt.locs, Pt.cells, Pt.slots] at X190 l190 y190 z190 st190 hQ190
    rw [y190, z190] at X190
    obtain ⟨rfl, Nq190, Kq190, Vq190⟩ := hQ190
    have N190 : Fr n0 L190 := by rw [l190]; exact Fr.app N0 Nq190
    have Kp190 : Keep h0 T190.heap [] := Keep.trans Kp188 Kq190 (allS (Or.inr sz_b188) all0)
    have K190 : own_K p e below SE T190 (mkF m 20 #[.val (.int p0), .val (.long q1), .second, .val (.int (5 : Int32)), .val (.ref b188), .unset, .unset, .unset] []) := fun t k => K189 _ (st190 _ k)
    obtain ⟨ub0, hub0⟩ : ∃ z : Int32, z = ((((((q1.toUInt64 >>> (((8 : Int32) * (0 : Int32)) &&& 0x3f).toInt64.toUInt64).toInt64)).toInt32).toInt8.toInt32).toInt8.toInt32) := ⟨_, rfl⟩
    rw [← hub0] at Vq190
    have Vr190 : Arv Z T190.heap b188 k188 .byte (5 : Int32) [(.int ub0), (.int (0 : Int32)), (.int (0 : Int32)), (.int (0 : Int32)), (.int (0 : Int32))] (.int (0 : Int32)) := Vq190
    have K191 : own_K p e below SE T190 (mkF m 24 #[.val (.int p0), .val (.long q1), .second, .val (.int (5 : Int32)), .val (.ref b188), .unset, .unset, .unset] [(.long q1), (.int (1 : Int32)), (.ref b188)]) := by
      intro t k
      refine K190 _ ?_
      refine XS.aload X190.here hx rfl (hb hby at_20) rfl rfl ?_
      show own_S p e below T190 (mkF m 22 #[.val (.int p0), .val (.long q1), .second, .val (.int (5 : Int32)), .val (.ref b188), .unset, .unset, .unset] [(.ref b188)]) _
      refine XS.iconst X190.here hx rfl (hb hby at_22) ?_
      show own_S p e below T190 (mkF m 23 #[.val (.int p0), .val (.long q1), .second, .val (.int (5 : Int32)), .val (.ref b188), .unset, .unset, .unset] [(.int (1 : Int32)), (.ref b188)]) _
      refine XS.lloadN X190.here hx rfl (hb hby at_23) rfl ?_
      exact k
    obtain ⟨_, _, ⟨T192, L192, k192, n192⟩, -, X192, ⟨Lc192, hQ192, l192, y192, z192⟩, st192⟩ := Jvm.LawKit.callS X190 hx (y := (⟨"com/example/whorl/whorl/Base64urlTextPinLaw", "put", "([BIJ)V"⟩ : MethodName)) hown (mvT hZ (hw _ (List.mem_of_getElem? (i := 2) rfl))) (mvT hZ (hw _ (List.mem_of_getElem? (i := 3) rfl))) (mvT hZ (hw _ (List.mem_of_getElem? (i := 4) rfl))) (mvT hZ (hw _ (List.mem_of_getElem? (i := 5) rfl))) (by decide) (backOf (W := 0) (rm1y l Z a0 hw [] b188 (1 : Int32) q1 k188 (5 : Int32) _ 1 T190.heap n0 (Nat.le_trans Z0 Kp190.1) Vr190 (by decide) (by decide) rfl (Nat.le_of_ble_eq_true rfl) g_b188) hZ (hw _ (List.mem_of_getElem? (i := 5) rfl)) (hw _ (List.mem_of_getElem? (i := 4) rfl)) (by decide) (by decide)) (g := (mkF m 24 #[.val (.int p0), .val (.long q1), .second, .val (.int (5 : Int32)), .val (.ref b188), .unset, .unset, .unset] [(.long q1), (.int (1 : Int32)), (.ref b188)])) rfl (by rw [hml]; rfl) (argsL := [(.ref b188), (.int (1 : Int32)), (.long q1)]) (rest := []) (lenOf pd_0_0 rfl) rfl (by show 2 * 0 + _ ≤ _; exact Nat.le_of_eq rfl) (hb hby at_24) (fun _ _ => ⟨rfl, rfl, (by decide : 1 + 0 ≤ _), (by decide : 5 + 0 ≤ _)⟩)
    dsimp only [Pt.U, Pt.locs, Pt.cells, Pt.slots] at X192 l192 y192 z192 st192 hQ192
    rw [y192, z192] at X192
    obtain ⟨rfl, Nq192, Kq192, Vq192⟩ := hQ192
    have N192 : Fr n0 L192 := by rw [l192]; exact Fr.app N190 Nq192
    have Kp192 : Keep h0 T192.heap [] := Keep.trans Kp190 Kq192 (allS (Or.inr sz_b188) all0)
    have K192 : own_K p e below SE T192 (mkF m 27 #[.val (.int p0), .val (.long q1), .second, .val (.int (5 : Int32)), .val (.ref b188), .unset, .unset, .unset] []) := fun t k => K191 _ (st192 _ k)
    obtain ⟨ub1, hub1⟩ : ∃ z : Int32, z = ((((((q1.toUInt64 >>> (((8 : Int32) * (1 : Int32)) &&& 0x3f).toInt64.toUInt64).toInt64)).toInt32).toInt8.toInt32).toInt8.toInt32) := ⟨_, rfl⟩
    rw [← hub1] at Vq192
    have Vr192 : Arv Z T192.heap b188 k188 .byte (5 : Int32) [(.int ub0), (.int ub1), (.int (0 : Int32)), (.int (0 : Int32)), (.int (0 : Int32))] (.int (0 : Int32)) := Vq192
    have K193 : own_K p e below SE T192 (mkF m 31 #[.val (.int p0), .val (.long q1), .second, .val (.int (5 : Int32)), .val (.ref b188), .unset, .unset, .unset] [(.long q1), (.int (2 : Int32)), (.ref b188)]) := by
      intro t k
      refine K192 _ ?_
      refine XS.aload X192.here hx rfl (hb hby at_27) rfl rfl ?_
      show own_S p e below T192 (mkF m 29 #[.val (.int p0), .val (.long q1), .second, .val (.int (5 : Int32)), .val (.ref b188), .unset, .unset, .unset] [(.ref b188)]) _
      refine XS.iconst X192.here hx rfl (hb hby at_29) ?_
      show own_S p e below T192 (mkF m 30 #[.val (.int p0), .val (.long q1), .second, .val (.int (5 : Int32)), .val (.ref b188), .unset, .unset, .unset] [(.int (2 : Int32)), (.ref b188)]) _
      refine XS.lloadN X192.here hx rfl (hb hby at_30) rfl ?_
      exact k
    obtain ⟨_, _, ⟨T194, L194, k194, n194⟩, -, X194, ⟨Lc194, hQ194, l194, y194, z194⟩, st194⟩ := Jvm.LawKit.callS X192 hx (y := (⟨"com/example/whorl/whorl/Base64urlTextPinLaw", "put", "([BIJ)V"⟩ : MethodName)) hown (mvT hZ (hw _ (List.mem_of_getElem? (i := 2) rfl))) (mvT hZ (hw _ (List.mem_of_getElem? (i := 3) rfl))) (mvT hZ (hw _ (List.mem_of_getElem? (i := 4) rfl))) (mvT hZ (hw _ (List.mem_of_getElem? (i := 5) rfl))) (by decide) (backOf (W := 0) (rm1y l Z a0 hw [] b188 (2 : Int32) q1 k188 (5 : Int32) _ 2 T192.heap n0 (Nat.le_trans Z0 Kp192.1) Vr192 (by decide) (by decide) rfl (Nat.le_of_ble_eq_true rfl) g_b188) hZ (hw _ (List.mem_of_getElem? (i := 5) rfl)) (hw _ (List.mem_of_getElem? (i := 4) rfl)) (by decide) (by decide)) (g := (mkF m 31 #[.val (.int p0), .val (.long q1), .second, .val (.int (5 : Int32)), .val (.ref b188), .unset, .unset, .unset] [(.long q1), (.int (2 : Int32)), (.ref b188)])) rfl (by rw [hml]; rfl) (argsL := [(.ref b188), (.int (2 : Int32)), (.long q1)]) (rest := []) (lenOf pd_0_0 rfl) rfl (by show 2 * 0 + _ ≤ _; exact Nat.le_of_eq rfl) (hb hby at_31) (fun _ _ => ⟨rfl, rfl, (by decide : 1 + 0 ≤ _), (by decide : 5 + 0 ≤ _)⟩)
    dsimp only [Pt.U, Pt.locs, Pt.cells, Pt.slots] at X194 l194 y194 z194 st194 hQ194
    rw [y194, z194] at X194
    obtain ⟨rfl, Nq194, Kq194, Vq194⟩ := hQ194
    have N194 : Fr n0 L194 := by rw [l194]; exact Fr.app N192 Nq194
    have Kp194 : Keep h0 T194.heap [] := Keep.trans Kp192 Kq194 (allS (Or.inr sz_b188) all0)
    have K194 : own_K p e below SE T194 (mkF m 34 #[.val (.int p0), .val (.long q1), .second, .val (.int (5 : Int32)), .val (.ref b188), .unset, .unset, .unset] []) := fun t k => K193 _ (st194 _ k)
    obtain ⟨ub2, hub2⟩ : ∃ z : Int32, z = ((((((q1.toUInt64 >>> (((8 : Int32) * (2 : Int32)) &&& 0x3f).toInt64.toUInt64).toInt64)).toInt32).toInt8.toInt32).toInt8.toInt32) := ⟨_, rfl⟩
    rw [← hub2] at Vq194
    have Vr194 : Arv Z T194.heap b188 k188 .byte (5 : Int32) [(.int ub0), (.int ub1), (.int ub2), (.int (0 : Int32)), (.int (0 : Int32))] (.int (0 : Int32)) := Vq194
    have K195 : own_K p e below SE T194 (mkF m 38 #[.val (.int p0), .val (.long q1), .second, .val (.int (5 : Int32)), .val (.ref b188), .unset, .unset, .unset] [(.long q1), (.int (3 : Int32)), (.ref b188)]) := by
      intro t k
      refine K194 _ ?_
      refine XS.aload X194.here hx rfl (hb hby at_34) rfl rfl ?_
      show own_S p e below T194 (mkF m 36 #[.val (.int p0), .val (.long q1), .second, .val (.int (5 : Int32)), .val (.ref b188), .unset, .unset, .unset] [(.ref b188)]) _
      refine XS.iconst X194.here hx rfl (hb hby at_36) ?_
      show own_S p e below T194 (mkF m 37 #[.val (.int p0), .val (.long q1), .second, .val (.int (5 : Int32)), .val (.ref b188), .unset, .unset, .unset] [(.int (3 : Int32)), (.ref b188)]) _
      refine XS.lloadN X194.here hx rfl (hb hby at_37) rfl ?_
      exact k
    obtain ⟨_, _, ⟨T196, L196, k196, n196⟩, -, X196, ⟨Lc196, hQ196, l196, y196, z196⟩, st196⟩ := Jvm.LawKit.callS X194 hx (y := (⟨"com/example/whorl/whorl/Base64urlTextPinLaw", "put", "([BIJ)V"⟩ : MethodName)) hown (mvT hZ (hw _ (List.mem_of_getElem? (i := 2) rfl))) (mvT hZ (hw _ (List.mem_of_getElem? (i := 3) rfl))) (mvT hZ (hw _ (List.mem_of_getElem? (i := 4) rfl))) (mvT hZ (hw _ (List.mem_of_getElem? (i := 5) rfl))) (by decide) (backOf (W := 0) (rm1y l Z a0 hw [] b188 (3 : Int32) q1 k188 (5 : Int32) _ 3 T194.heap n0 (Nat.le_trans Z0 Kp194.1) Vr194 (by decide) (by decide) rfl (Nat.le_of_ble_eq_true rfl) g_b188) hZ (hw _ (List.mem_of_getElem? (i := 5) rfl)) (hw _ (List.mem_of_getElem? (i := 4) rfl)) (by decide) (by decide)) (g := (mkF m 38 #[.val (.int p0), .val (.long q1), .second, .val (.int (5 : Int32)), .val (.ref b188), .unset, .unset, .unset] [(.long q1), (.int (3 : Int32)), (.ref b188)])) rfl (by rw [hml]; rfl) (argsL := [(.ref b188), (.int (3 : Int32)), (.long q1)]) (rest := []) (lenOf pd_0_0 rfl) rfl (by show 2 * 0 + _ ≤ _; exact Nat.le_of_eq rfl) (hb hby at_38) (fun _ _ => ⟨rfl, rfl, (by decide : 1 + 0 ≤ _), (by decide : 5 + 0 ≤ _)⟩)
    dsimp only [Pt.U, Pt.locs, Pt.cells, Pt.slots] at X196 l196 y196 z196 st196 hQ196
    rw [y196, z196] at X196
    obtain ⟨rfl, Nq196, Kq196, Vq196⟩ := hQ196
    have N196 : Fr n0 L196 := by rw [l196]; exact Fr.app N194 Nq196
    have Kp196 : Keep h0 T196.heap [] := Keep.trans Kp194 Kq196 (allS (Or.inr sz_b188) all0)
    have K196 : own_K p e below SE T196 (mkF m 41 #[.val (.int p0), .val (.long q1), .second, .val (.int (5 : Int32)), .val (.ref b188), .unset, .unset, .unset] []) := fun t k => K195 _ (st196 _ k)
    obtain ⟨ub3, hub3⟩ : ∃ z : Int32, z = ((((((q1.toUInt64 >>> (((8 : Int32) * (3 : Int32)) &&& 0x3f).toInt64.toUInt64).toInt64)).toInt32).toInt8.toInt32).toInt8.toInt32) := ⟨_, rfl⟩
    rw [← hub3] at Vq196
    have Vr196 : Arv Z T196.heap b188 k188 .byte (5 : Int32) [(.int ub0), (.int ub1), (.int ub2), (.int ub3), (.int (0 : Int32))] (.int (0 : Int32)) := Vq196
    have K197 : own_K p e below SE T196 (mkF m 45 #[.val (.int p0), .val (.long q1), .second, .val (.int (5 : Int32)), .val (.ref b188), .unset, .unset, .unset] [(.long q1), (.int (4 : Int32)), (.ref b188)]) := by
      intro t k
      refine K196 _ ?_
      refine XS.aload X196.here hx rfl (hb hby at_41) rfl rfl ?_
      show own_S p e below T196 (mkF m 43 #[.val (.int p0), .val (.long q1), .second, .val (.int (5 : Int32)), .val (.ref b188), .unset, .unset, .unset] [(.ref b188)]) _
      refine XS.iconst X196.here hx rfl (hb hby at_43) ?_
      show own_S p e below T196 (mkF m 44 #[.val (.int p0), .val (.long q1), .second, .val (.int (5 : Int32)), .val (.ref b188), .unset, .unset, .unset] [(.int (4 : Int32)), (.ref b188)]) _
      refine XS.lloadN X196.here hx rfl (hb hby at_44) rfl ?_
      exact k
    obtain ⟨_, _, ⟨T198, L198, k198, n198⟩, -, X198, ⟨Lc198, hQ198, l198, y198, z198⟩, st198⟩ := Jvm.LawKit.callS X196 hx (y := (⟨"com/example/whorl/whorl/Base64urlTextPinLaw", "put", "([BIJ)V"⟩ : MethodName)) hown (mvT hZ (hw _ (List.mem_of_getElem? (i := 2) rfl))) (mvT hZ (hw _ (List.mem_of_getElem? (i := 3) rfl))) (mvT hZ (hw _ (List.mem_of_getElem? (i := 4) rfl))) (mvT hZ (hw _ (List.mem_of_getElem? (i := 5) rfl))) (by decide) (backOf (W := 0) (rm1y l Z a0 hw [] b188 (4 : Int32) q1 k188 (5 : Int32) _ 4 T196.heap n0 (Nat.le_trans Z0 Kp196.1) Vr196 (by decide) (by decide) rfl (Nat.le_of_ble_eq_true rfl) g_b188) hZ (hw _ (List.mem_of_getElem? (i := 5) rfl)) (hw _ (List.mem_of_getElem? (i := 4) rfl)) (by decide) (by decide)) (g := (mkF m 45 #[.val (.int p0), .val (.long q1), .second, .val (.int (5 : Int32)), .val (.ref b188), .unset, .unset, .unset] [(.long q1), (.int (4 : Int32)), (.ref b188)])) rfl (by rw [hml]; rfl) (argsL := [(.ref b188), (.int (4 : Int32)), (.long q1)]) (rest := []) (lenOf pd_0_0 rfl) rfl (by show 2 * 0 + _ ≤ _; exact Nat.le_of_eq rfl) (hb hby at_45) (fun _ _ => ⟨rfl, rfl, (by decide : 1 + 0 ≤ _), (by decide : 5 + 0 ≤ _)⟩)
    dsimp only [Pt.U, Pt.locs, Pt.cells, Pt.slots] at X198 l198 y198 z198 st198 hQ198
    rw [y198, z198] at X198
    obtain ⟨rfl, Nq198, Kq198, Vq198⟩ := hQ198
    have N198 : Fr n0 L198 := by rw [l198]; exact Fr.app N196 Nq198
    have Kp198 : Keep h0 T198.heap [] := Keep.trans Kp196 Kq198 (allS (Or.inr sz_b188) all0)
    have K198 : own_K p e below SE T198 (mkF m 48 #[.val (.int p0), .val (.long q1), .second, .val (.int (5 : Int32)), .val (.ref b188), .unset, .unset, .unset] []) := fun t k => K197 _ (st198 _ k)
    obtain ⟨ub4, hub4⟩ : ∃ z : Int32, z = ((((((q1.toUInt64 >>> (((8 : Int32) * (4 : Int32)) &&& 0x3f).toInt64.toUInt64).toInt64)).toInt32).toInt8.toInt32).toInt8.toInt32) := ⟨_, rfl⟩
    rw [← hub4] at Vq198
    have Vr198 : Arv Z T198.heap b188 k188 .byte (5 : Int32) [(.int ub0), (.int ub1), (.int ub2), (.int ub3), (.int ub4)] (.int (0 : Int32)) := Vq198
    have K199 : own_K p e below SE T198 (mkF m 52 #[.val (.int p0), .val (.long q1), .second, .val (.int (5 : Int32)), .val (.ref b188), .unset, .unset, .unset] [(.long q1), (.int (5 : Int32)), (.ref b188)]) := by
      intro t k
      refine K198 _ ?_
      refine XS.aload X198.here hx rfl (hb hby at_48) rfl rfl ?_
      show own_S p e below T198 (mkF m 50 #[.val (.int p0), .val (.long q1), .second, .val (.int (5 : Int32)), .val (.ref b188), .unset, .unset, .unset] [(.ref b188)]) _
      refine XS.iconst X198.here hx rfl (hb hby at_50) ?_
      show own_S p e below T198 (mkF m 51 #[.val (.int p0), .val (.long q1), .second, .val (.int (5 : Int32)), .val (.ref b188), .unset, .unset, .unset] [(.int (5 : Int32)), (.ref b188)]) _
      refine XS.lloadN X198.here hx rfl (hb hby at_51) rfl ?_
      exact k
    obtain ⟨_, _, ⟨T200, L200, k200, n200⟩, -, X200, ⟨Lc200, hQ200, l200, y200, z200⟩, st200⟩ := Jvm.LawKit.callS X198 hx (y := (⟨"com/example/whorl/whorl/Base64urlTextPinLaw", "put", "([BIJ)V"⟩ : MethodName)) hown (mvT hZ (hw _ (List.mem_of_getElem? (i := 2) rfl))) (mvT hZ (hw _ (List.mem_of_getElem? (i := 3) rfl))) (mvT hZ (hw _ (List.mem_of_getElem? (i := 4) rfl))) (mvT hZ (hw _ (List.mem_of_getElem? (i := 5) rfl))) (by decide) (backOf (W := 0) (rm1n l Z a0 hw [] b188 (5 : Int32) q1 k188 (5 : Int32) _ T198.heap n0 (Nat.le_trans Z0 Kp198.1) Vr198 (by decide)) hZ (hw _ (List.mem_of_getElem? (i := 5) rfl)) (hw _ (List.mem_of_getElem? (i := 4) rfl)) (by decide) (by decide)) (g := (mkF m 52 #[.val (.int p0), .val (.long q1), .second, .val (.int (5 : Int32)), .val (.ref b188), .unset, .unset, .unset] [(.long q1), (.int (5 : Int32)), (.ref b188)])) rfl (by rw [hml]; rfl) (argsL := [(.ref b188), (.int (5 : Int32)), (.long q1)]) (rest := []) (lenOf pd_0_0 rfl) rfl (by show 2 * 0 + _ ≤ _; exact Nat.le_of_eq rfl) (hb hby at_52) (fun _ _ => ⟨rfl, rfl, (by decide : 1 + 0 ≤ _), (by decide : 5 + 0 ≤ _)⟩)
    dsimp only [Pt.U, Pt.locs, Pt.cells, Pt.slots] at X200 l200 y200 z200 st200 hQ200
    rw [y200, z200] at X200
    obtain ⟨rfl, Nq200, e200⟩ := hQ200
    have N200 : Fr n0 L200 := by rw [l200]; exact Fr.app N198 Nq200
    have K200 : own_K p e below SE T200 (mkF m 55 #[.val (.int p0), .val (.long q1), .second, .val (.int (5 : Int32)), .val (.ref b188), .unset, .unset, .unset] []) := fun t k => K199 _ (st200 _ k)
    have K201 : own_K p e below SE T200 (mkF m 57 #[.val (.int p0), .val (.long q1), .second, .val (.int (5 : Int32)), .val (.ref b188), .unset, .unset, .unset] [(.ref b188)]) := by
      intro t k
      refine K200 _ ?_
      refine XS.aload X200.here hx rfl (hb hby at_55) rfl rfl ?_
      exact k
    obtain ⟨_, _, ⟨T202, L202, k202, n202⟩, -, X202, ⟨Lc202, hQ202, l202, y202, z202⟩, st202⟩ := Jvm.LawKit.callS X200 hx (y := (⟨"com/example/whorl/whorl/Base64url", "text", "([B)[B"⟩ : MethodName)) hown (mvT hZ (hw _ (List.mem_of_getElem? (i := 6) rfl))) (mvT hZ (hw _ (List.mem_of_getElem? (i := 7) rfl))) (mvT hZ (hw _ (List.mem_of_getElem? (i := 8) rfl))) (mvT hZ (hw _ (List.mem_of_getElem? (i := 9) rfl))) (by decide) (backOf (W := 0) (rm2_5 l Z a0 hw [] b188 k188 oAL cA ub0 ub1 ub2 ub3 ub4 T198.heap n0 (Nat.le_trans Z0 Kp198.1) Vr198 (SA.ext (own_ext Kp198)) (TA.ext (own_ext Kp198))) hZ (hw _ (List.mem_of_getElem? (i := 9) rfl)) (hw _ (List.mem_of_getElem? (i := 8) rfl)) (by decide) (by decide)) (g := (mkF m 57 #[.val (.int p0), .val (.long q1), .second, .val (.int (5 : Int32)), .val (.ref b188), .unset, .unset, .unset] [(.ref b188)])) rfl (by rw [hml]; rfl) (argsL := [(.ref b188)]) (rest := []) (lenOf pd_0_1 rfl) rfl (by show 2 * 0 + _ ≤ _; exact Nat.le_of_eq rfl) (hb hby at_57) (fun _ _ => ⟨rfl, e200, (by decide : 1 + 1 ≤ _), (by decide : 5 + 7 ≤ _)⟩)
    dsimp only [Pt.U, Pt.locs, Pt.cells, Pt.slots] at X202 l202 y202 z202 st202 hQ202
    rw [y202, z202] at X202
    obtain ⟨rfl, Nq202, Kq202, VT202⟩ := hQ202
    have N202 : Fr n0 L202 := by rw [l202]; exact Fr.app N200 Nq202
    have Kp202 : Keep h0 T202.heap [] := Keep.trans Kp198 Kq202 all0
    have K202 : own_K p e below SE T202 (mkF m 60 #[.val (.int p0), .val (.long q1), .second, .val (.int (5 : Int32)), .val (.ref b188), .unset, .unset, .unset] [(.ref T198.heap.size)]) := fun t k => K201 _ (st202 _ k)
    obtain ⟨kT, VT⟩ := VT202
    obtain ⟨bt, gbt⟩ : ∃ z, z = T198.heap.size := ⟨_, rfl⟩
    rw [← gbt] at K202 VT
    have K203 : own_K p e below SE T202 (mkF m 65 #[.val (.int p0), .val (.long q1), .second, .val (.int (5 : Int32)), .val (.ref b188), .val (.ref bt), .unset, .unset] [(.int ((5 : Int32) % (3 : Int32)))]) := by
      intro t k
      refine K202 _ ?_
      refine XS.astore X202.here hx rfl (hb hby at_60) rfl rfl (l' := #[.val (.int p0), .val (.long q1), .second, .val (.int (5 : Int32)), .val (.ref b188), .val (.ref bt), .unset, .unset]) rfl ?_
      show own_S p e below T202 (mkF m 62 #[.val (.int p0), .val (.long q1), .second, .val (.int (5 : Int32)), .val (.ref b188), .val (.ref bt), .unset, .unset] []) _
      refine XS.iloadN X202.here hx rfl (hb hby at_62) rfl ?_
      show own_S p e below T202 (mkF m 63 #[.val (.int p0), .val (.long q1), .second, .val (.int (5 : Int32)), .val (.ref b188), .val (.ref bt), .unset, .unset] [(.int (5 : Int32))]) _
      refine XS.iconst X202.here hx rfl (hb hby at_63) ?_
      show own_S p e below T202 (mkF m 64 #[.val (.int p0), .val (.long q1), .second, .val (.int (5 : Int32)), .val (.ref b188), .val (.ref bt), .unset, .unset] [(.int (3 : Int32)), (.int (5 : Int32))]) _
      refine iremM X202 hx rfl (hb hby at_64) rfl (by decide) ?_
      exact k
    rw [(by decide : ((5 : Int32) % (3 : Int32)) = (2 : Int32))] at K203
    have K204 : own_K p e below SE T202 (mkF m 70 #[.val (.int p0), .val (.long q1), .second, .val (.int (5 : Int32)), .val (.ref b188), .val (.ref bt), .val (.int (2 : Int32)), .unset] [(.int ((5 : Int32) / (3 : Int32)))]) := by
      intro t k
      refine K203 _ ?_
      refine XS.istore X202.here hx rfl (hb hby at_65) rfl (l' := #[.val (.int p0), .val (.long q1), .second, .val (.int (5 : Int32)), .val (.ref b188), .val (.ref bt), .val (.int (2 : Int32)), .unset]) rfl ?_
      show own_S p e below T202 (mkF m 67 #[.val (.int p0), .val (.long q1), .second, .val (.int (5 : Int32)), .val (.ref b188), .val (.ref bt), .val (.int (2 : Int32)), .unset] []) _
      refine XS.iloadN X202.here hx rfl (hb hby at_67) rfl ?_
      show own_S p e below T202 (mkF m 68 #[.val (.int p0), .val (.long q1), .second, .val (.int (5 : Int32)), .val (.ref b188), .val (.ref bt), .val (.int (2 : Int32)), .unset] [(.int (5 : Int32))]) _
      refine XS.iconst X202.here hx rfl (hb hby at_68) ?_
      show own_S p e below T202 (mkF m 69 #[.val (.int p0), .val (.long q1), .second, .val (.int (5 : Int32)), .val (.ref b188), .val (.ref bt), .val (.int (2 : Int32)), .unset] [(.int (3 : Int32)), (.int (5 : Int32))]) _
      refine XS.idiv X202.here hx rfl (hb hby at_69) rfl (by decide) ?_
      exact k
    rw [(by decide : ((5 : Int32) / (3 : Int32)) = (1 : Int32))] at K204
    have K205 : own_K p e below SE T202 (mkF m 90 #[.val (.int p0), .val (.long q1), .second, .val (.int (5 : Int32)), .val (.ref b188), .val (.ref bt), .val (.int (2 : Int32)), .val (.int (7 : Int32))] [(.ref bt)]) := by
      intro t k
      refine K204 _ ?_
      refine XS.iconst X202.here hx rfl (hb hby at_70) ?_
      show own_S p e below T202 (mkF m 71 #[.val (.int p0), .val (.long q1), .second, .val (.int (5 : Int32)), .val (.ref b188), .val (.ref bt), .val (.int (2 : Int32)), .unset] [(.int (4 : Int32)), (.int (1 : Int32))]) _
      refine XS.imul X202.here hx rfl (hb hby at_71) rfl ?_
      show own_S p e below T202 (mkF m 72 #[.val (.int p0), .val (.long q1), .second, .val (.int (5 : Int32)), .val (.ref b188), .val (.ref bt), .val (.int (2 : Int32)), .unset] [(.int (4 : Int32))]) _
      refine XS.iload X202.here hx rfl (hb hby at_72) rfl ?_
      show own_S p e below T202 (mkF m 74 #[.val (.int p0), .val (.long q1), .second, .val (.int (5 : Int32)), .val (.ref b188), .val (.ref bt), .val (.int (2 : Int32)), .unset] [(.int (2 : Int32)), (.int (4 : Int32))]) _
      refine XS.ifYes X202.here hx rfl (pc0 := 74) (pc' := 81) rfl (hb hby at_74) rfl (XT.i0_ne_t (by decide : ¬ ((2 : Int32) = 0))) (by decide) (by decide) ?_
      show own_S p e below T202 (mkF m 81 #[.val (.int p0), .val (.long q1), .second, .val (.int (5 : Int32)), .val (.ref b188), .val (.ref bt), .val (.int (2 : Int32)), .unset] [(.int (4 : Int32))]) _
      refine XS.iload X202.here hx rfl (hb hby at_81) rfl ?_
      show own_S p e below T202 (mkF m 83 #[.val (.int p0), .val (.long q1), .second, .val (.int (5 : Int32)), .val (.ref b188), .val (.ref bt), .val (.int (2 : Int32)), .unset] [(.int (2 : Int32)), (.int (4 : Int32))]) _
      refine XS.iconst X202.here hx rfl (hb hby at_83) ?_
      show own_S p e below T202 (mkF m 84 #[.val (.int p0), .val (.long q1), .second, .val (.int (5 : Int32)), .val (.ref b188), .val (.ref bt), .val (.int (2 : Int32)), .unset] [(.int (1 : Int32)), (.int (2 : Int32)), (.int (4 : Int32))]) _
      refine XS.iadd X202.here hx rfl (hb hby at_84) rfl ?_
      show own_S p e below T202 (mkF m 85 #[.val (.int p0), .val (.long q1), .second, .val (.int (5 : Int32)), .val (.ref b188), .val (.ref bt), .val (.int (2 : Int32)), .unset] [(.int (3 : Int32)), (.int (4 : Int32))]) _
      refine XS.iadd X202.here hx rfl (hb hby at_85) rfl ?_
      show own_S p e below T202 (mkF m 86 #[.val (.int p0), .val (.long q1), .second, .val (.int (5 : Int32)), .val (.ref b188), .val (.ref bt), .val (.int (2 : Int32)), .unset] [(.int (7 : Int32))]) _
      refine XS.istore X202.here hx rfl (hb hby at_86) rfl (l' := #[.val (.int p0), .val (.long q1), .second, .val (.int (5 : Int32)), .val (.ref b188), .val (.ref bt), .val (.int (2 : Int32)), .val (.int (7 : Int32))]) rfl ?_
      show own_S p e below T202 (mkF m 88 #[.val (.int p0), .val (.long q1), .second, .val (.int (5 : Int32)), .val (.ref b188), .val (.ref bt), .val (.int (2 : Int32)), .val (.int (7 : Int32))] []) _
      refine XS.aload X202.here hx rfl (hb hby at_88) rfl rfl ?_
      exact k
    obtain ⟨cl206, Ar206, -, S206, Ng206, -, -⟩ := id VT
    have K207 : own_K p e below SE T202 (mkF m 103 #[.val (.int p0), .val (.long q1), .second, .val (.int (5 : Int32)), .val (.ref b188), .val (.ref bt), .val (.int (2 : Int32)), .val (.int (7 : Int32))] [(.long q1), (.int (5 : Int32)), (.int (0 : Int32)), (.ref bt)]) := by
      intro t k
      refine K205 _ ?_
      refine X202.arraylength hx Ar206.1 (State.isArrayOf_alike hZ.alike Ar206.2.1) (g := (mkF m 90 #[.val (.int p0), .val (.long q1), .second, .val (.int (5 : Int32)), .val (.ref b188), .val (.ref bt), .val (.int (2 : Int32)), .val (.int (7 : Int32))] [(.ref bt)])) rfl rfl (hb hby at_90) _ ?_
      rw [len_of S206 Ng206]
      show own_S p e below T202 (mkF m 91 #[.val (.int p0), .val (.long q1), .second, .val (.int (5 : Int32)), .val (.ref b188), .val (.ref bt), .val (.int (2 : Int32)), .val (.int (7 : Int32))] [(.int (7 : Int32))]) _
      refine XS.iload X202.here hx rfl (hb hby at_91) rfl ?_
      show own_S p e below T202 (mkF m 93 #[.val (.int p0), .val (.long q1), .second, .val (.int (5 : Int32)), .val (.ref b188), .val (.ref bt), .val (.int (2 : Int32)), .val (.int (7 : Int32))] [(.int (7 : Int32)), (.int (7 : Int32))]) _
      refine XS.icmpYes X202.here hx rfl (pc0 := 93) (pc' := 98) rfl (hb hby at_93) rfl (XT.ii_eq_t (by decide : (7 : Int32) = (7 : Int32))) (by decide) (by decide) ?_
      show own_S p e below T202 (mkF m 98 #[.val (.int p0), .val (.long q1), .second, .val (.int (5 : Int32)), .val (.ref b188), .val (.ref bt), .val (.int (2 : Int32)), .val (.int (7 : Int32))] []) _
      refine XS.aload X202.here hx rfl (hb hby at_98) rfl rfl ?_
      show own_S p e below T202 (mkF m 100 #[.val (.int p0), .val (.long q1), .second, .val (.int (5 : Int32)), .val (.ref b188), .val (.ref bt), .val (.int (2 : Int32)), .val (.int (7 : Int32))] [(.ref bt)]) _
      refine XS.iconst X202.here hx rfl (hb hby at_100) ?_
      show own_S p e below T202 (mkF m 101 #[.val (.int p0), .val (.long q1), .second, .val (.int (5 : Int32)), .val (.ref b188), .val (.ref bt), .val (.int (2 : Int32)), .val (.int (7 : Int32))] [(.int (0 : Int32)), (.ref bt)]) _
      refine XS.iloadN X202.here hx rfl (hb hby at_101) rfl ?_
      show own_S p e below T202 (mkF m 102 #[.val (.int p0), .val (.long q1), .second, .val (.int (5 : Int32)), .val (.ref b188), .val (.ref bt), .val (.int (2 : Int32)), .val (.int (7 : Int32))] [(.int (5 : Int32)), (.int (0 : Int32)), (.ref bt)]) _
      refine XS.lloadN X202.here hx rfl (hb hby at_102) rfl ?_
      exact k
    have sx0 : ((((((ub0 &&& (255 : Int32)) <<< ((16 : Int32) &&& 31)) ||| ((ub1 &&& (255 : Int32)) <<< ((8 : Int32) &&& 31))) ||| (ub2 &&& (255 : Int32))).toUInt32 >>> ((18 : Int32) &&& 31).toUInt32).toInt32) = own_sx q1 (5 : Int32) ((0 : Int32) / (4 : Int32)) ((0 : Int32) % (4 : Int32)) := by
      have h1 := own_i0 _ _ _ _ (own_m255 ub0) (own_m255 ub1) (own_m255 ub2) (own_x3i ub0 ub1 ub2)
      have o0 : (ub0 &&& (255 : Int32)) = own_oct q1 (0 : Int32) (5 : Int32) := by rw [hub0]; exact own_eo q1 (0 : Int32) (5 : Int32) (by decide)
      have o1 : (ub1 &&& (255 : Int32)) = own_oct q1 (1 : Int32) (5 : Int32) := by rw [hub1]; exact own_eo q1 (1 : Int32) (5 : Int32) (by decide)
      have o2 : (ub2 &&& (255 : Int32)) = own_oct q1 (2 : Int32) (5 : Int32) := by rw [hub2]; exact own_eo q1 (2 : Int32) (5 : Int32) (by decide)
      rw [h1]
      unfold own_sx
      rw [show ((0 : Int32) / (4 : Int32)) = (0 : Int32) by decide, show ((0 : Int32) % (4 : Int32)) = (0 : Int32) by decide, show ((3 : Int32) * (0 : Int32)) = (0 : Int32) by decide, show ((0 : Int32) + (1 : Int32)) = (1 : Int32) by decide, show ((0 : Int32) + (2 : Int32)) = (2 : Int32) by decide]
      rw [if_pos (by decide), ← o0]
    have ck0 : ¬ (if (atv cA ((((((ub0 &&& (255 : Int32)) <<< ((16 : Int32) &&& 31)) ||| ((ub1 &&& (255 : Int32)) <<< ((8 : Int32) &&& 31))) ||| (ub2 &&& (255 : Int32))).toUInt32 >>> ((18 : Int32) &&& 31).toUInt32).toInt32)).toInt8.toInt32 = ((own_ch (own_sx q1 (5 : Int32) ((0 : Int32) / (4 : Int32)) ((0 : Int32) % (4 : Int32))))).toInt8.toInt32 then (1 : Int32) else (0 : Int32)) = 0 := own_one (own_chk hAL (own_b18 _ (own_xb (own_m255 _) (own_m255 _) (own_m255 _) (own_x3i ub0 ub1 ub2))) sx0)
    obtain ⟨_, _, ⟨T208, L208, k208, n208⟩, -, X208, ⟨Lc208, hQ208, l208, y208, z208⟩, st208⟩ := Jvm.LawKit.callS X202 hx (y := (⟨"com/example/whorl/whorl/Base64urlTextPinLaw", "chk", "([BIIJ)Z"⟩ : MethodName)) hown (mvT hZ (hw _ (List.mem_of_getElem? (i := 13) rfl))) (mvT hZ (hw _ (List.mem_of_getElem? (i := 14) rfl))) (mvT hZ (hw _ (List.mem_of_getElem? (i := 4) rfl))) (mvT hZ (hw _ (List.mem_of_getElem? (i := 15) rfl))) (by decide) (backOf (W := 0) (rm3y l Z a0 hw [] bt (0 : Int32) (5 : Int32) q1 kT (7 : Int32) _ ((atv cA ((((((ub0 &&& (255 : Int32)) <<< ((16 : Int32) &&& 31)) ||| ((ub1 &&& (255 : Int32)) <<< ((8 : Int32) &&& 31))) ||| (ub2 &&& (255 : Int32))).toUInt32 >>> ((18 : Int32) &&& 31).toUInt32).toInt32)).toInt8.toInt32) T202.heap n0 (Nat.le_trans Z0 Kp202.1) VT (by decide) (by decide) rfl) hZ (hw _ (List.mem_of_getElem? (i := 15) rfl)) (hw _ (List.mem_of_getElem? (i := 4) rfl)) (by decide) (by decide)) (g := (mkF m 103 #[.val (.int p0), .val (.long q1), .second, .val (.int (5 : Int32)), .val (.ref b188), .val (.ref bt), .val (.int (2 : Int32)), .val (.int (7 : Int32))] [(.long q1), (.int (5 : Int32)), (.int (0 : Int32)), (.ref bt)])) rfl (by rw [hml]; rfl) (argsL := [(.ref bt), (.int (0 : Int32)), (.int (5 : Int32)), (.long q1)]) (rest := []) (lenOf pd_0_2 rfl) rfl (by show 2 * 0 + _ ≤ _; exact Nat.le_of_eq rfl) (hb hby at_103) (fun _ _ => ⟨rfl, rfl, (by decide : 2 + 0 ≤ _), (by decide : 12 + 0 ≤ _)⟩)
    dsimp only [Pt.U, Pt.locs, Pt.cells, Pt.slots] at X208 l208 y208 z208 st208 hQ208
    rw [y208, z208] at X208
    obtain ⟨rfl, Nq208, e208⟩ := hQ208
    have N208 : Fr n0 L208 := by rw [l208]; exact Fr.app N202 Nq208
    have K208 : own_K p e below SE T208 (mkF m 106 #[.val (.int p0), .val (.long q1), .second, .val (.int (5 : Int32)), .val (.ref b188), .val (.ref bt), .val (.int (2 : Int32)), .val (.int (7 : Int32))] [(.int (if (atv cA ((((((ub0 &&& (255 : Int32)) <<< ((16 : Int32) &&& 31)) ||| ((ub1 &&& (255 : Int32)) <<< ((8 : Int32) &&& 31))) ||| (ub2 &&& (255 : Int32))).toUInt32 >>> ((18 : Int32) &&& 31).toUInt32).toInt32)).toInt8.toInt32 = ((own_ch (own_sx q1 (5 : Int32) ((0 : Int32) / (4 : Int32)) ((0 : Int32) % (4 : Int32))))).toInt8.toInt32 then (1 : Int32) else (0 : Int32)))]) := fun t k => K207 _ (st208 _ k)
    have K209 : own_K p e below SE T208 (mkF m 114 #[.val (.int p0), .val (.long q1), .second, .val (.int (5 : Int32)), .val (.ref b188), .val (.ref bt), .val (.int (2 : Int32)), .val (.int (7 : Int32))] [(.long q1), (.int (5 : Int32)), (.int (1 : Int32)), (.ref bt)]) := by
      intro t k
      refine K208 _ ?_
      refine XS.ifNo X208.here hx rfl (hb hby at_106) rfl (XT.i0_eq_f ck0) ?_
      show own_S p e below T208 (mkF m 109 #[.val (.int p0), .val (.long q1), .second, .val (.int (5 : Int32)), .val (.ref b188), .val (.ref bt), .val (.int (2 : Int32)), .val (.int (7 : Int32))] []) _
      refine XS.aload X208.here hx rfl (hb hby at_109) rfl rfl ?_
      show own_S p e below T208 (mkF m 111 #[.val (.int p0), .val (.long q1), .second, .val (.int (5 : Int32)), .val (.ref b188), .val (.ref bt), .val (.int (2 : Int32)), .val (.int (7 : Int32))] [(.ref bt)]) _
      refine XS.iconst X208.here hx rfl (hb hby at_111) ?_
      show own_S p e below T208 (mkF m 112 #[.val (.int p0), .val (.long q1), .second, .val (.int (5 : Int32)), .val (.ref b188), .val (.ref bt), .val (.int (2 : Int32)), .val (.int (7 : Int32))] [(.int (1 : Int32)), (.ref bt)]) _
      refine XS.iloadN X208.here hx rfl (hb hby at_112) rfl ?_
      show own_S p e below T208 (mkF m 113 #[.val (.int p0), .val (.long q1), .second, .val (.int (5 : Int32)), .val (.ref b188), .val (.ref bt), .val (.int (2 : Int32)), .val (.int (7 : Int32))] [(.int (5 : Int32)), (.int (1 : Int32)), (.ref bt)]) _
      refine XS.lloadN X208.here hx rfl (hb hby at_113) rfl ?_
      exact k
    have sx1 : (((((((ub0 &&& (255 : Int32)) <<< ((16 : Int32) &&& 31)) ||| ((ub1 &&& (255 : Int32)) <<< ((8 : Int32) &&& 31))) ||| (ub2 &&& (255 : Int32))).toUInt32 >>> ((12 : Int32) &&& 31).toUInt32).toInt32) &&& (63 : Int32)) = own_sx q1 (5 : Int32) ((1 : Int32) / (4 : Int32)) ((1 : Int32) % (4 : Int32)) := by
      have h1 := own_i1 _ _ _ _ (own_m255 ub0) (own_m255 ub1) (own_m255 ub2) (own_x3i ub0 ub1 ub2)
      have o0 : (ub0 &&& (255 : Int32)) = own_oct q1 (0 : Int32) (5 : Int32) := by rw [hub0]; exact own_eo q1 (0 : Int32) (5 : Int32) (by decide)
      have o1 : (ub1 &&& (255 : Int32)) = own_oct q1 (1 : Int32) (5 : Int32) := by rw [hub1]; exact own_eo q1 (1 : Int32) (5 : Int32) (by decide)
      have o2 : (ub2 &&& (255 : Int32)) = own_oct q1 (2 : Int32) (5 : Int32) := by rw [hub2]; exact own_eo q1 (2 : Int32) (5 : Int32) (by decide)
      rw [h1]
      unfold own_sx
      rw [show ((1 : Int32) / (4 : Int32)) = (0 : Int32) by decide, show ((1 : Int32) % (4 : Int32)) = (1 : Int32) by decide, show ((3 : Int32) * (0 : Int32)) = (0 : Int32) by decide, show ((0 : Int32) + (1 : Int32)) = (1 : Int32) by decide, show ((0 : Int32) + (2 : Int32)) = (2 : Int32) by decide]
      rw [if_neg (by decide), if_pos (by decide), ← o0, ← o1]
    have ck1 : ¬ (if (atv cA (((((((ub0 &&& (255 : Int32)) <<< ((16 : Int32) &&& 31)) ||| ((ub1 &&& (255 : Int32)) <<< ((8 : Int32) &&& 31))) ||| (ub2 &&& (255 : Int32))).toUInt32 >>> ((12 : Int32) &&& 31).toUInt32).toInt32) &&& (63 : Int32))).toInt8.toInt32 = ((own_ch (own_sx q1 (5 : Int32) ((1 : Int32) / (4 : Int32)) ((1 : Int32) % (4 : Int32))))).toInt8.toInt32 then (1 : Int32) else (0 : Int32)) = 0 := own_one (own_chk hAL (own_b63 _) sx1)
    obtain ⟨_, _, ⟨T210, L210, k210, n210⟩, -, X210, ⟨Lc210, hQ210, l210, y210, z210⟩, st210⟩ := Jvm.LawKit.callS X208 hx (y := (⟨"com/example/whorl/whorl/Base64urlTextPinLaw", "chk", "([BIIJ)Z"⟩ : MethodName)) hown (mvT hZ (hw _ (List.mem_of_getElem? (i := 13) rfl))) (mvT hZ (hw _ (List.mem_of_getElem? (i := 14) rfl))) (mvT hZ (hw _ (List.mem_of_getElem? (i := 4) rfl))) (mvT hZ (hw _ (List.mem_of_getElem? (i := 15) rfl))) (by decide) (backOf (W := 0) (rm3y l Z a0 hw [] bt (1 : Int32) (5 : Int32) q1 kT (7 : Int32) _ ((atv cA (((((((ub0 &&& (255 : Int32)) <<< ((16 : Int32) &&& 31)) ||| ((ub1 &&& (255 : Int32)) <<< ((8 : Int32) &&& 31))) ||| (ub2 &&& (255 : Int32))).toUInt32 >>> ((12 : Int32) &&& 31).toUInt32).toInt32) &&& (63 : Int32))).toInt8.toInt32) T202.heap n0 (Nat.le_trans Z0 Kp202.1) VT (by decide) (by decide) rfl) hZ (hw _ (List.mem_of_getElem? (i := 15) rfl)) (hw _ (List.mem_of_getElem? (i := 4) rfl)) (by decide) (by decide)) (g := (mkF m 114 #[.val (.int p0), .val (.long q1), .second, .val (.int (5 : Int32)), .val (.ref b188), .val (.ref bt), .val (.int (2 : Int32)), .val (.int (7 : Int32))] [(.long q1), (.int (5 : Int32)), (.int (1 : Int32)), (.ref bt)])) rfl (by rw [hml]; rfl) (argsL := [(.ref bt), (.int (1 : Int32)), (.int (5 : Int32)), (.long q1)]) (rest := []) (lenOf pd_0_2 rfl) rfl (by show 2 * 0 + _ ≤ _; exact Nat.le_of_eq rfl) (hb hby at_114) (fun _ _ => ⟨rfl, e208, (by decide : 2 + 0 ≤ _), (by decide : 12 + 0 ≤ _)⟩)
    dsimp only [Pt.U, Pt.locs, Pt.cells, Pt.slots] at X210 l210 y210 z210 st210 hQ210
    rw [y210, z210] at X210
    obtain ⟨rfl, Nq210, e210⟩ := hQ210
    have N210 : Fr n0 L210 := by rw [l210]; exact Fr.app N208 Nq210
    have K210 : own_K p e below SE T210 (mkF m 117 #[.val (.int p0), .val (.long q1), .second, .val (.int (5 : Int32)), .val (.ref b188), .val (.ref bt), .val (.int (2 : Int32)), .val (.int (7 : Int32))] [(.int (if (atv cA (((((((ub0 &&& (255 : Int32)) <<< ((16 : Int32) &&& 31)) ||| ((ub1 &&& (255 : Int32)) <<< ((8 : Int32) &&& 31))) ||| (ub2 &&& (255 : Int32))).toUInt32 >>> ((12 : Int32) &&& 31).toUInt32).toInt32) &&& (63 : Int32))).toInt8.toInt32 = ((own_ch (own_sx q1 (5 : Int32) ((1 : Int32) / (4 : Int32)) ((1 : Int32) % (4 : Int32))))).toInt8.toInt32 then (1 : Int32) else (0 : Int32)))]) := fun t k => K209 _ (st210 _ k)
    have K211 : own_K p e below SE T210 (mkF m 125 #[.val (.int p0), .val (.long q1), .second, .val (.int (5 : Int32)), .val (.ref b188), .val (.ref bt), .val (.int (2 : Int32)), .val (.int (7 : Int32))] [(.long q1), (.int (5 : Int32)), (.int (2 : Int32)), (.ref bt)]) := by
      intro t k
      refine K210 _ ?_
      refine XS.ifNo X210.here hx rfl (hb hby at_117) rfl (XT.i0_eq_f ck1) ?_
      show own_S p e below T210 (mkF m 120 #[.val (.int p0), .val (.long q1), .second, .val (.int (5 : Int32)), .val (.ref b188), .val (.ref bt), .val (.int (2 : Int32)), .val (.int (7 : Int32))] []) _
      refine XS.aload X210.here hx rfl (hb hby at_120) rfl rfl ?_
      show own_S p e below T210 (mkF m 122 #[.val (.int p0), .val (.long q1), .second, .val (.int (5 : Int32)), .val (.ref b188), .val (.ref bt), .val (.int (2 : Int32)), .val (.int (7 : Int32))] [(.ref bt)]) _
      refine XS.iconst X210.here hx rfl (hb hby at_122) ?_
      show own_S p e below T210 (mkF m 123 #[.val (.int p0), .val (.long q1), .second, .val (.int (5 : Int32)), .val (.ref b188), .val (.ref bt), .val (.int (2 : Int32)), .val (.int (7 : Int32))] [(.int (2 : Int32)), (.ref bt)]) _
      refine XS.iloadN X210.here hx rfl (hb hby at_123) rfl ?_
      show own_S p e below T210 (mkF m 124 #[.val (.int p0), .val (.long q1), .second, .val (.int (5 : Int32)), .val (.ref b188), .val (.ref bt), .val (.int (2 : Int32)), .val (.int (7 : Int32))] [(.int (5 : Int32)), (.int (2 : Int32)), (.ref bt)]) _
      refine XS.lloadN X210.here hx rfl (hb hby at_124) rfl ?_
      exact k
    have sx2 : (((((((ub0 &&& (255 : Int32)) <<< ((16 : Int32) &&& 31)) ||| ((ub1 &&& (255 : Int32)) <<< ((8 : Int32) &&& 31))) ||| (ub2 &&& (255 : Int32))).toUInt32 >>> ((6 : Int32) &&& 31).toUInt32).toInt32) &&& (63 : Int32)) = own_sx q1 (5 : Int32) ((2 : Int32) / (4 : Int32)) ((2 : Int32) % (4 : Int32)) := by
      have h1 := own_i2 _ _ _ _ (own_m255 ub0) (own_m255 ub1) (own_m255 ub2) (own_x3i ub0 ub1 ub2)
      have o0 : (ub0 &&& (255 : Int32)) = own_oct q1 (0 : Int32) (5 : Int32) := by rw [hub0]; exact own_eo q1 (0 : Int32) (5 : Int32) (by decide)
      have o1 : (ub1 &&& (255 : Int32)) = own_oct q1 (1 : Int32) (5 : Int32) := by rw [hub1]; exact own_eo q1 (1 : Int32) (5 : Int32) (by decide)
      have o2 : (ub2 &&& (255 : Int32)) = own_oct q1 (2 : Int32) (5 : Int32) := by rw [hub2]; exact own_eo q1 (2 : Int32) (5 : Int32) (by decide)
      rw [h1]
      unfold own_sx
      rw [show ((2 : Int32) / (4 : Int32)) = (0 : Int32) by decide, show ((2 : Int32) % (4 : Int32)) = (2 : Int32) by decide, show ((3 : Int32) * (0 : Int32)) = (0 : Int32) by decide, show ((0 : Int32) + (1 : Int32)) = (1 : Int32) by decide, show ((0 : Int32) + (2 : Int32)) = (2 : Int32) by decide]
      rw [if_neg (by decide), if_neg (by decide), if_pos (by decide), ← o1, ← o2]
    have ck2 : ¬ (if (atv cA (((((((ub0 &&& (255 : Int32)) <<< ((16 : Int32) &&& 31)) ||| ((ub1 &&& (255 : Int32)) <<< ((8 : Int32) &&& 31))) ||| (ub2 &&& (255 : Int32))).toUInt32 >>> ((6 : Int32) &&& 31).toUInt32).toInt32) &&& (63 : Int32))).toInt8.toInt32 = ((own_ch (own_sx q1 (5 : Int32) ((2 : Int32) / (4 : Int32)) ((2 : Int32) % (4 : Int32))))).toInt8.toInt32 then (1 : Int32) else (0 : Int32)) = 0 := own_one (own_chk hAL (own_b63 _) sx2)
    obtain ⟨_, _, ⟨T212, L212, k212, n212⟩, -, X212, ⟨Lc212, hQ212, l212, y212, z212⟩, st212⟩ := Jvm.LawKit.callS X210 hx (y := (⟨"com/example/whorl/whorl/Base64urlTextPinLaw", "chk", "([BIIJ)Z"⟩ : MethodName)) hown (mvT hZ (hw _ (List.mem_of_getElem? (i := 13) rfl))) (mvT hZ (hw _ (List.mem_of_getElem? (i := 14) rfl))) (mvT hZ (hw _ (List.mem_of_getElem? (i := 4) rfl))) (mvT hZ (hw _ (List.mem_of_getElem? (i := 15) rfl))) (by decide) (backOf (W := 0) (rm3y l Z a0 hw [] bt (2 : Int32) (5 : Int32) q1 kT (7 : Int32) _ ((atv cA (((((((ub0 &&& (255 : Int32)) <<< ((16 : Int32) &&& 31)) ||| ((ub1 &&& (255 : Int32)) <<< ((8 : Int32) &&& 31))) ||| (ub2 &&& (255 : Int32))).toUInt32 >>> ((6 : Int32) &&& 31).toUInt32).toInt32) &&& (63 : Int32))).toInt8.toInt32) T202.heap n0 (Nat.le_trans Z0 Kp202.1) VT (by decide) (by decide) rfl) hZ (hw _ (List.mem_of_getElem? (i := 15) rfl)) (hw _ (List.mem_of_getElem? (i := 4) rfl)) (by decide) (by decide)) (g := (mkF m 125 #[.val (.int p0), .val (.long q1), .second, .val (.int (5 : Int32)), .val (.ref b188), .val (.ref bt), .val (.int (2 : Int32)), .val (.int (7 : Int32))] [(.long q1), (.int (5 : Int32)), (.int (2 : Int32)), (.ref bt)])) rfl (by rw [hml]; rfl) (argsL := [(.ref bt), (.int (2 : Int32)), (.int (5 : Int32)), (.long q1)]) (rest := []) (lenOf pd_0_2 rfl) rfl (by show 2 * 0 + _ ≤ _; exact Nat.le_of_eq rfl) (hb hby at_125) (fun _ _ => ⟨rfl, e210, (by decide : 2 + 0 ≤ _), (by decide : 12 + 0 ≤ _)⟩)
    dsimp only [Pt.U, Pt.locs, Pt.cells, Pt.slots] at X212 l212 y212 z212 st212 hQ212
    rw [y212, z212] at X212
    obtain ⟨rfl, Nq212, e212⟩ := hQ212
    have N212 : Fr n0 L212 := by rw [l212]; exact Fr.app N210 Nq212
    have K212 : own_K p e below SE T212 (mkF m 128 #[.val (.int p0), .val (.long q1), .second, .val (.int (5 : Int32)), .val (.ref b188), .val (.ref bt), .val (.int (2 : Int32)), .val (.int (7 : Int32))] [(.int (if (atv cA (((((((ub0 &&& (255 : Int32)) <<< ((16 : Int32) &&& 31)) ||| ((ub1 &&& (255 : Int32)) <<< ((8 : Int32) &&& 31))) ||| (ub2 &&& (255 : Int32))).toUInt32 >>> ((6 : Int32) &&& 31).toUInt32).toInt32) &&& (63 : Int32))).toInt8.toInt32 = ((own_ch (own_sx q1 (5 : Int32) ((2 : Int32) / (4 : Int32)) ((2 : Int32) % (4 : Int32))))).toInt8.toInt32 then (1 : Int32) else (0 : Int32)))]) := fun t k => K211 _ (st212 _ k)
    have K213 : own_K p e below SE T212 (mkF m 136 #[.val (.int p0), .val (.long q1), .second, .val (.int (5 : Int32)), .val (.ref b188), .val (.ref bt), .val (.int (2 : Int32)), .val (.int (7 : Int32))] [(.long q1), (.int (5 : Int32)), (.int (3 : Int32)), (.ref bt)]) := by
      intro t k
      refine K212 _ ?_
      refine XS.ifNo X212.here hx rfl (hb hby at_128) rfl (XT.i0_eq_f ck2) ?_
      show own_S p e below T212 (mkF m 131 #[.val (.int p0), .val (.long q1), .second, .val (.int (5 : Int32)), .val (.ref b188), .val (.ref bt), .val (.int (2 : Int32)), .val (.int (7 : Int32))] []) _
      refine XS.aload X212.here hx rfl (hb hby at_131) rfl rfl ?_
      show own_S p e below T212 (mkF m 133 #[.val (.int p0), .val (.long q1), .second, .val (.int (5 : Int32)), .val (.ref b188), .val (.ref bt), .val (.int (2 : Int32)), .val (.int (7 : Int32))] [(.ref bt)]) _
      refine XS.iconst X212.here hx rfl (hb hby at_133) ?_
      show own_S p e below T212 (mkF m 134 #[.val (.int p0), .val (.long q1), .second, .val (.int (5 : Int32)), .val (.ref b188), .val (.ref bt), .val (.int (2 : Int32)), .val (.int (7 : Int32))] [(.int (3 : Int32)), (.ref bt)]) _
      refine XS.iloadN X212.here hx rfl (hb hby at_134) rfl ?_
      show own_S p e below T212 (mkF m 135 #[.val (.int p0), .val (.long q1), .second, .val (.int (5 : Int32)), .val (.ref b188), .val (.ref bt), .val (.int (2 : Int32)), .val (.int (7 : Int32))] [(.int (5 : Int32)), (.int (3 : Int32)), (.ref bt)]) _
      refine XS.lloadN X212.here hx rfl (hb hby at_135) rfl ?_
      exact k
    have sx3 : (((((ub0 &&& (255 : Int32)) <<< ((16 : Int32) &&& 31)) ||| ((ub1 &&& (255 : Int32)) <<< ((8 : Int32) &&& 31))) ||| (ub2 &&& (255 : Int32))) &&& (63 : Int32)) = own_sx q1 (5 : Int32) ((3 : Int32) / (4 : Int32)) ((3 : Int32) % (4 : Int32)) := by
      have h1 := own_i3 _ _ _ _ (own_m255 ub0) (own_m255 ub1) (own_m255 ub2) (own_x3i ub0 ub1 ub2)
      have o0 : (ub0 &&& (255 : Int32)) = own_oct q1 (0 : Int32) (5 : Int32) := by rw [hub0]; exact own_eo q1 (0 : Int32) (5 : Int32) (by decide)
      have o1 : (ub1 &&& (255 : Int32)) = own_oct q1 (1 : Int32) (5 : Int32) := by rw [hub1]; exact own_eo q1 (1 : Int32) (5 : Int32) (by decide)
      have o2 : (ub2 &&& (255 : Int32)) = own_oct q1 (2 : Int32) (5 : Int32) := by rw [hub2]; exact own_eo q1 (2 : Int32) (5 : Int32) (by decide)
      rw [h1]
      unfold own_sx
      rw [show ((3 : Int32) / (4 : Int32)) = (0 : Int32) by decide, show ((3 : Int32) % (4 : Int32)) = (3 : Int32) by decide, show ((3 : Int32) * (0 : Int32)) = (0 : Int32) by decide, show ((0 : Int32) + (1 : Int32)) = (1 : Int32) by decide, show ((0 : Int32) + (2 : Int32)) = (2 : Int32) by decide]
      rw [if_neg (by decide), if_neg (by decide), if_neg (by decide), ← o2]
    have ck3 : ¬ (if (atv cA (((((ub0 &&& (255 : Int32)) <<< ((16 : Int32) &&& 31)) ||| ((ub1 &&& (255 : Int32)) <<< ((8 : Int32) &&& 31))) ||| (ub2 &&& (255 : Int32))) &&& (63 : Int32))).toInt8.toInt32 = ((own_ch (own_sx q1 (5 : Int32) ((3 : Int32) / (4 : Int32)) ((3 : Int32) % (4 : Int32))))).toInt8.toInt32 then (1 : Int32) else (0 : Int32)) = 0 := own_one (own_chk hAL (own_b63 _) sx3)
    obtain ⟨_, _, ⟨T214, L214, k214, n214⟩, -, X214, ⟨Lc214, hQ214, l214, y214, z214⟩, st214⟩ := Jvm.LawKit.callS X212 hx (y := (⟨"com/example/whorl/whorl/Base64urlTextPinLaw", "chk", "([BIIJ)Z"⟩ : MethodName)) hown (mvT hZ (hw _ (List.mem_of_getElem? (i := 13) rfl))) (mvT hZ (hw _ (List.mem_of_getElem? (i := 14) rfl))) (mvT hZ (hw _ (List.mem_of_getElem? (i := 4) rfl))) (mvT hZ (hw _ (List.mem_of_getElem? (i := 15) rfl))) (by decide) (backOf (W := 0) (rm3y l Z a0 hw [] bt (3 : Int32) (5 : Int32) q1 kT (7 : Int32) _ ((atv cA (((((ub0 &&& (255 : Int32)) <<< ((16 : Int32) &&& 31)) ||| ((ub1 &&& (255 : Int32)) <<< ((8 : Int32) &&& 31))) ||| (ub2 &&& (255 : Int32))) &&& (63 : Int32))).toInt8.toInt32) T202.heap n0 (Nat.le_trans Z0 Kp202.1) VT (by decide) (by decide) rfl) hZ (hw _ (List.mem_of_getElem? (i := 15) rfl)) (hw _ (List.mem_of_getElem? (i := 4) rfl)) (by decide) (by decide)) (g := (mkF m 136 #[.val (.int p0), .val (.long q1), .second, .val (.int (5 : Int32)), .val (.ref b188), .val (.ref bt), .val (.int (2 : Int32)), .val (.int (7 : Int32))] [(.long q1), (.int (5 : Int32)), (.int (3 : Int32)), (.ref bt)])) rfl (by rw [hml]; rfl) (argsL := [(.ref bt), (.int (3 : Int32)), (.int (5 : Int32)), (.long q1)]) (rest := []) (lenOf pd_0_2 rfl) rfl (by show 2 * 0 + _ ≤ _; exact Nat.le_of_eq rfl) (hb hby at_136) (fun _ _ => ⟨rfl, e212, (by decide : 2 + 0 ≤ _), (by decide : 12 + 0 ≤ _)⟩)
    dsimp only [Pt.U, Pt.locs, Pt.cells, Pt.slots] at X214 l214 y214 z214 st214 hQ214
    rw [y214, z214] at X214
    obtain ⟨rfl, Nq214, e214⟩ := hQ214
    have N214 : Fr n0 L214 := by rw [l214]; exact Fr.app N212 Nq214
    have K214 : own_K p e below SE T214 (mkF m 139 #[.val (.int p0), .val (.long q1), .second, .val (.int (5 : Int32)), .val (.ref b188), .val (.ref bt), .val (.int (2 : Int32)), .val (.int (7 : Int32))] [(.int (if (atv cA (((((ub0 &&& (255 : Int32)) <<< ((16 : Int32) &&& 31)) ||| ((ub1 &&& (255 : Int32)) <<< ((8 : Int32) &&& 31))) ||| (ub2 &&& (255 : Int32))) &&& (63 : Int32))).toInt8.toInt32 = ((own_ch (own_sx q1 (5 : Int32) ((3 : Int32) / (4 : Int32)) ((3 : Int32) % (4 : Int32))))).toInt8.toInt32 then (1 : Int32) else (0 : Int32)))]) := fun t k => K213 _ (st214 _ k)
    have K215 : own_K p e below SE T214 (mkF m 147 #[.val (.int p0), .val (.long q1), .second, .val (.int (5 : Int32)), .val (.ref b188), .val (.ref bt), .val (.int (2 : Int32)), .val (.int (7 : Int32))] [(.long q1), (.int (5 : Int32)), (.int (4 : Int32)), (.ref bt)]) := by
      intro t k
      refine K214 _ ?_
      refine XS.ifNo X214.here hx rfl (hb hby at_139) rfl (XT.i0_eq_f ck3) ?_
      show own_S p e below T214 (mkF m 142 #[.val (.int p0), .val (.long q1), .second, .val (.int (5 : Int32)), .val (.ref b188), .val (.ref bt), .val (.int (2 : Int32)), .val (.int (7 : Int32))] []) _
      refine XS.aload X214.here hx rfl (hb hby at_142) rfl rfl ?_
      show own_S p e below T214 (mkF m 144 #[.val (.int p0), .val (.long q1), .second, .val (.int (5 : Int32)), .val (.ref b188), .val (.ref bt), .val (.int (2 : Int32)), .val (.int (7 : Int32))] [(.ref bt)]) _
      refine XS.iconst X214.here hx rfl (hb hby at_144) ?_
      show own_S p e below T214 (mkF m 145 #[.val (.int p0), .val (.long q1), .second, .val (.int (5 : Int32)), .val (.ref b188), .val (.ref bt), .val (.int (2 : Int32)), .val (.int (7 : Int32))] [(.int (4 : Int32)), (.ref bt)]) _
      refine XS.iloadN X214.here hx rfl (hb hby at_145) rfl ?_
      show own_S p e below T214 (mkF m 146 #[.val (.int p0), .val (.long q1), .second, .val (.int (5 : Int32)), .val (.ref b188), .val (.ref bt), .val (.int (2 : Int32)), .val (.int (7 : Int32))] [(.int (5 : Int32)), (.int (4 : Int32)), (.ref bt)]) _
      refine XS.lloadN X214.here hx rfl (hb hby at_146) rfl ?_
      exact k
    have sx4 : (((((ub3 &&& (255 : Int32)) <<< ((16 : Int32) &&& 31)) ||| ((ub4 &&& (255 : Int32)) <<< ((8 : Int32) &&& 31))).toUInt32 >>> ((18 : Int32) &&& 31).toUInt32).toInt32) = own_sx q1 (5 : Int32) ((4 : Int32) / (4 : Int32)) ((4 : Int32) % (4 : Int32)) := by
      have h1 := own_i0 _ _ _ _ (own_m255 ub3) (own_m255 ub4) (own_r0) (own_x2i ub3 ub4)
      have o0 : (ub3 &&& (255 : Int32)) = own_oct q1 (3 : Int32) (5 : Int32) := by rw [hub3]; exact own_eo q1 (3 : Int32) (5 : Int32) (by decide)
      have o1 : (ub4 &&& (255 : Int32)) = own_oct q1 (4 : Int32) (5 : Int32) := by rw [hub4]; exact own_eo q1 (4 : Int32) (5 : Int32) (by decide)
      have o2 : (0 : Int32) = own_oct q1 (5 : Int32) (5 : Int32) := by unfold own_oct; rw [if_neg (by decide)]
      rw [h1]
      unfold own_sx
      rw [show ((4 : Int32) / (4 : Int32)) = (1 : Int32) by decide, show ((4 : Int32) % (4 : Int32)) = (0 : Int32) by decide, show ((3 : Int32) * (1 : Int32)) = (3 : Int32) by decide, show ((3 : Int32) + (1 : Int32)) = (4 : Int32) by decide, show ((3 : Int32) + (2 : Int32)) = (5 : Int32) by decide]
      rw [if_pos (by decide), ← o0]
    have ck4 : ¬ (if (atv cA (((((ub3 &&& (255 : Int32)) <<< ((16 : Int32) &&& 31)) ||| ((ub4 &&& (255 : Int32)) <<< ((8 : Int32) &&& 31))).toUInt32 >>> ((18 : Int32) &&& 31).toUInt32).toInt32)).toInt8.toInt32 = ((own_ch (own_sx q1 (5 : Int32) ((4 : Int32) / (4 : Int32)) ((4 : Int32) % (4 : Int32))))).toInt8.toInt32 then (1 : Int32) else (0 : Int32)) = 0 := own_one (own_chk hAL (own_b18 _ (own_xb (own_m255 _) (own_m255 _) own_r0 (own_x2i ub3 ub4))) sx4)
    obtain ⟨_, _, ⟨T216, L216, k216, n216⟩, -, X216, ⟨Lc216, hQ216, l216, y216, z216⟩, st216⟩ := Jvm.LawKit.callS X214 hx (y := (⟨"com/example/whorl/whorl/Base64urlTextPinLaw", "chk", "([BIIJ)Z"⟩ : MethodName)) hown (mvT hZ (hw _ (List.mem_of_getElem? (i := 13) rfl))) (mvT hZ (hw _ (List.mem_of_getElem? (i := 14) rfl))) (mvT hZ (hw _ (List.mem_of_getElem? (i := 4) rfl))) (mvT hZ (hw _ (List.mem_of_getElem? (i := 15) rfl))) (by decide) (backOf (W := 0) (rm3y l Z a0 hw [] bt (4 : Int32) (5 : Int32) q1 kT (7 : Int32) _ ((atv cA (((((ub3 &&& (255 : Int32)) <<< ((16 : Int32) &&& 31)) ||| ((ub4 &&& (255 : Int32)) <<< ((8 : Int32) &&& 31))).toUInt32 >>> ((18 : Int32) &&& 31).toUInt32).toInt32)).toInt8.toInt32) T202.heap n0 (Nat.le_trans Z0 Kp202.1) VT (by decide) (by decide) rfl) hZ (hw _ (List.mem_of_getElem? (i := 15) rfl)) (hw _ (List.mem_of_getElem? (i := 4) rfl)) (by decide) (by decide)) (g := (mkF m 147 #[.val (.int p0), .val (.long q1), .second, .val (.int (5 : Int32)), .val (.ref b188), .val (.ref bt), .val (.int (2 : Int32)), .val (.int (7 : Int32))] [(.long q1), (.int (5 : Int32)), (.int (4 : Int32)), (.ref bt)])) rfl (by rw [hml]; rfl) (argsL := [(.ref bt), (.int (4 : Int32)), (.int (5 : Int32)), (.long q1)]) (rest := []) (lenOf pd_0_2 rfl) rfl (by show 2 * 0 + _ ≤ _; exact Nat.le_of_eq rfl) (hb hby at_147) (fun _ _ => ⟨rfl, e214, (by decide : 2 + 0 ≤ _), (by decide : 12 + 0 ≤ _)⟩)
    dsimp only [Pt.U, Pt.locs, Pt.cells, Pt.slots] at X216 l216 y216 z216 st216 hQ216
    rw [y216, z216] at X216
    obtain ⟨rfl, Nq216, e216⟩ := hQ216
    have N216 : Fr n0 L216 := by rw [l216]; exact Fr.app N214 Nq216
    have K216 : own_K p e below SE T216 (mkF m 150 #[.val (.int p0), .val (.long q1), .second, .val (.int (5 : Int32)), .val (.ref b188), .val (.ref bt), .val (.int (2 : Int32)), .val (.int (7 : Int32))] [(.int (if (atv cA (((((ub3 &&& (255 : Int32)) <<< ((16 : Int32) &&& 31)) ||| ((ub4 &&& (255 : Int32)) <<< ((8 : Int32) &&& 31))).toUInt32 >>> ((18 : Int32) &&& 31).toUInt32).toInt32)).toInt8.toInt32 = ((own_ch (own_sx q1 (5 : Int32) ((4 : Int32) / (4 : Int32)) ((4 : Int32) % (4 : Int32))))).toInt8.toInt32 then (1 : Int32) else (0 : Int32)))]) := fun t k => K215 _ (st216 _ k)
    have K217 : own_K p e below SE T216 (mkF m 158 #[.val (.int p0), .val (.long q1), .second, .val (.int (5 : Int32)), .val (.ref b188), .val (.ref bt), .val (.int (2 : Int32)), .val (.int (7 : Int32))] [(.long q1), (.int (5 : Int32)), (.int (5 : Int32)), (.ref bt)]) := by
      intro t k
      refine K216 _ ?_
      refine XS.ifNo X216.here hx rfl (hb hby at_150) rfl (XT.i0_eq_f ck4) ?_
      show own_S p e below T216 (mkF m 153 #[.val (.int p0), .val (.long q1), .second, .val (.int (5 : Int32)), .val (.ref b188), .val (.ref bt), .val (.int (2 : Int32)), .val (.int (7 : Int32))] []) _
      refine XS.aload X216.here hx rfl (hb hby at_153) rfl rfl ?_
      show own_S p e below T216 (mkF m 155 #[.val (.int p0), .val (.long q1), .second, .val (.int (5 : Int32)), .val (.ref b188), .val (.ref bt), .val (.int (2 : Int32)), .val (.int (7 : Int32))] [(.ref bt)]) _
      refine XS.iconst X216.here hx rfl (hb hby at_155) ?_
      show own_S p e below T216 (mkF m 156 #[.val (.int p0), .val (.long q1), .second, .val (.int (5 : Int32)), .val (.ref b188), .val (.ref bt), .val (.int (2 : Int32)), .val (.int (7 : Int32))] [(.int (5 : Int32)), (.ref bt)]) _
      refine XS.iloadN X216.here hx rfl (hb hby at_156) rfl ?_
      show own_S p e below T216 (mkF m 157 #[.val (.int p0), .val (.long q1), .second, .val (.int (5 : Int32)), .val (.ref b188), .val (.ref bt), .val (.int (2 : Int32)), .val (.int (7 : Int32))] [(.int (5 : Int32)), (.int (5 : Int32)), (.ref bt)]) _
      refine XS.lloadN X216.here hx rfl (hb hby at_157) rfl ?_
      exact k
    have sx5 : ((((((ub3 &&& (255 : Int32)) <<< ((16 : Int32) &&& 31)) ||| ((ub4 &&& (255 : Int32)) <<< ((8 : Int32) &&& 31))).toUInt32 >>> ((12 : Int32) &&& 31).toUInt32).toInt32) &&& (63 : Int32)) = own_sx q1 (5 : Int32) ((5 : Int32) / (4 : Int32)) ((5 : Int32) % (4 : Int32)) := by
      have h1 := own_i1 _ _ _ _ (own_m255 ub3) (own_m255 ub4) (own_r0) (own_x2i ub3 ub4)
      have o0 : (ub3 &&& (255 : Int32)) = own_oct q1 (3 : Int32) (5 : Int32) := by rw [hub3]; exact own_eo q1 (3 : Int32) (5 : Int32) (by decide)
      have o1 : (ub4 &&& (255 : Int32)) = own_oct q1 (4 : Int32) (5 : Int32) := by rw [hub4]; exact own_eo q1 (4 : Int32) (5 : Int32) (by decide)
      have o2 : (0 : Int32) = own_oct q1 (5 : Int32) (5 : Int32) := by unfold own_oct; rw [if_neg (by decide)]
      rw [h1]
      unfold own_sx
      rw [show ((5 : Int32) / (4 : Int32)) = (1 : Int32) by decide, show ((5 : Int32) % (4 : Int32)) = (1 : Int32) by decide, show ((3 : Int32) * (1 : Int32)) = (3 : Int32) by decide, show ((3 : Int32) + (1 : Int32)) = (4 : Int32) by decide, show ((3 : Int32) + (2 : Int32)) = (5 : Int32) by decide]
      rw [if_neg (by decide), if_pos (by decide), ← o0, ← o1]
    have ck5 : ¬ (if (atv cA ((((((ub3 &&& (255 : Int32)) <<< ((16 : Int32) &&& 31)) ||| ((ub4 &&& (255 : Int32)) <<< ((8 : Int32) &&& 31))).toUInt32 >>> ((12 : Int32) &&& 31).toUInt32).toInt32) &&& (63 : Int32))).toInt8.toInt32 = ((own_ch (own_sx q1 (5 : Int32) ((5 : Int32) / (4 : Int32)) ((5 : Int32) % (4 : Int32))))).toInt8.toInt32 then (1 : Int32) else (0 : Int32)) = 0 := own_one (own_chk hAL (own_b63 _) sx5)
    obtain ⟨_, _, ⟨T218, L218, k218, n218⟩, -, X218, ⟨Lc218, hQ218, l218, y218, z218⟩, st218⟩ := Jvm.LawKit.callS X216 hx (y := (⟨"com/example/whorl/whorl/Base64urlTextPinLaw", "chk", "([BIIJ)Z"⟩ : MethodName)) hown (mvT hZ (hw _ (List.mem_of_getElem? (i := 13) rfl))) (mvT hZ (hw _ (List.mem_of_getElem? (i := 14) rfl))) (mvT hZ (hw _ (List.mem_of_getElem? (i := 4) rfl))) (mvT hZ (hw _ (List.mem_of_getElem? (i := 15) rfl))) (by decide) (backOf (W := 0) (rm3y l Z a0 hw [] bt (5 : Int32) (5 : Int32) q1 kT (7 : Int32) _ ((atv cA ((((((ub3 &&& (255 : Int32)) <<< ((16 : Int32) &&& 31)) ||| ((ub4 &&& (255 : Int32)) <<< ((8 : Int32) &&& 31))).toUInt32 >>> ((12 : Int32) &&& 31).toUInt32).toInt32) &&& (63 : Int32))).toInt8.toInt32) T202.heap n0 (Nat.le_trans Z0 Kp202.1) VT (by decide) (by decide) rfl) hZ (hw _ (List.mem_of_getElem? (i := 15) rfl)) (hw _ (List.mem_of_getElem? (i := 4) rfl)) (by decide) (by decide)) (g := (mkF m 158 #[.val (.int p0), .val (.long q1), .second, .val (.int (5 : Int32)), .val (.ref b188), .val (.ref bt), .val (.int (2 : Int32)), .val (.int (7 : Int32))] [(.long q1), (.int (5 : Int32)), (.int (5 : Int32)), (.ref bt)])) rfl (by rw [hml]; rfl) (argsL := [(.ref bt), (.int (5 : Int32)), (.int (5 : Int32)), (.long q1)]) (rest := []) (lenOf pd_0_2 rfl) rfl (by show 2 * 0 + _ ≤ _; exact Nat.le_of_eq rfl) (hb hby at_158) (fun _ _ => ⟨rfl, e216, (by decide : 2 + 0 ≤ _), (by decide : 12 + 0 ≤ _)⟩)
    dsimp only [Pt.U, Pt.locs, Pt.cells, Pt.slots] at X218 l218 y218 z218 st218 hQ218
    rw [y218, z218] at X218
    obtain ⟨rfl, Nq218, e218⟩ := hQ218
    have N218 : Fr n0 L218 := by rw [l218]; exact Fr.app N216 Nq218
    have K218 : own_K p e below SE T218 (mkF m 161 #[.val (.int p0), .val (.long q1), .second, .val (.int (5 : Int32)), .val (.ref b188), .val (.ref bt), .val (.int (2 : Int32)), .val (.int (7 : Int32))] [(.int (if (atv cA ((((((ub3 &&& (255 : Int32)) <<< ((16 : Int32) &&& 31)) ||| ((ub4 &&& (255 : Int32)) <<< ((8 : Int32) &&& 31))).toUInt32 >>> ((12 : Int32) &&& 31).toUInt32).toInt32) &&& (63 : Int32))).toInt8.toInt32 = ((own_ch (own_sx q1 (5 : Int32) ((5 : Int32) / (4 : Int32)) ((5 : Int32) % (4 : Int32))))).toInt8.toInt32 then (1 : Int32) else (0 : Int32)))]) := fun t k => K217 _ (st218 _ k)
    have K219 : own_K p e below SE T218 (mkF m 170 #[.val (.int p0), .val (.long q1), .second, .val (.int (5 : Int32)), .val (.ref b188), .val (.ref bt), .val (.int (2 : Int32)), .val (.int (7 : Int32))] [(.long q1), (.int (5 : Int32)), (.int (6 : Int32)), (.ref bt)]) := by
      intro t k
      refine K218 _ ?_
      refine XS.ifNo X218.here hx rfl (hb hby at_161) rfl (XT.i0_eq_f ck5) ?_
      show own_S p e below T218 (mkF m 164 #[.val (.int p0), .val (.long q1), .second, .val (.int (5 : Int32)), .val (.ref b188), .val (.ref bt), .val (.int (2 : Int32)), .val (.int (7 : Int32))] []) _
      refine XS.aload X218.here hx rfl (hb hby at_164) rfl rfl ?_
      show own_S p e below T218 (mkF m 166 #[.val (.int p0), .val (.long q1), .second, .val (.int (5 : Int32)), .val (.ref b188), .val (.ref bt), .val (.int (2 : Int32)), .val (.int (7 : Int32))] [(.ref bt)]) _
      refine XS.bipush X218.here hx rfl (hb hby at_166) ?_
      show own_S p e below T218 (mkF m 168 #[.val (.int p0), .val (.long q1), .second, .val (.int (5 : Int32)), .val (.ref b188), .val (.ref bt), .val (.int (2 : Int32)), .val (.int (7 : Int32))] [(.int (6 : Int32)), (.ref bt)]) _
      refine XS.iloadN X218.here hx rfl (hb hby at_168) rfl ?_
      show own_S p e below T218 (mkF m 169 #[.val (.int p0), .val (.long q1), .second, .val (.int (5 : Int32)), .val (.ref b188), .val (.ref bt), .val (.int (2 : Int32)), .val (.int (7 : Int32))] [(.int (5 : Int32)), (.int (6 : Int32)), (.ref bt)]) _
      refine XS.lloadN X218.here hx rfl (hb hby at_169) rfl ?_
      exact k
    have sx6 : ((((((ub3 &&& (255 : Int32)) <<< ((16 : Int32) &&& 31)) ||| ((ub4 &&& (255 : Int32)) <<< ((8 : Int32) &&& 31))).toUInt32 >>> ((6 : Int32) &&& 31).toUInt32).toInt32) &&& (63 : Int32)) = own_sx q1 (5 : Int32) ((6 : Int32) / (4 : Int32)) ((6 : Int32) % (4 : Int32)) := by
      have h1 := own_i2 _ _ _ _ (own_m255 ub3) (own_m255 ub4) (own_r0) (own_x2i ub3 ub4)
      have o0 : (ub3 &&& (255 : Int32)) = own_oct q1 (3 : Int32) (5 : Int32) := by rw [hub3]; exact own_eo q1 (3 : Int32) (5 : Int32) (by decide)
      have o1 : (ub4 &&& (255 : Int32)) = own_oct q1 (4 : Int32) (5 : Int32) := by rw [hub4]; exact own_eo q1 (4 : Int32) (5 : Int32) (by decide)
      have o2 : (0 : Int32) = own_oct q1 (5 : Int32) (5 : Int32) := by unfold own_oct; rw [if_neg (by decide)]
      rw [h1]
      unfold own_sx
      rw [show ((6 : Int32) / (4 : Int32)) = (1 : Int32) by decide, show ((6 : Int32) % (4 : Int32)) = (2 : Int32) by decide, show ((3 : Int32) * (1 : Int32)) = (3 : Int32) by decide, show ((3 : Int32) + (1 : Int32)) = (4 : Int32) by decide, show ((3 : Int32) + (2 : Int32)) = (5 : Int32) by decide]
      rw [if_neg (by decide), if_neg (by decide), if_pos (by decide), ← o1, ← o2]
    have ck6 : ¬ (if (atv cA ((((((ub3 &&& (255 : Int32)) <<< ((16 : Int32) &&& 31)) ||| ((ub4 &&& (255 : Int32)) <<< ((8 : Int32) &&& 31))).toUInt32 >>> ((6 : Int32) &&& 31).toUInt32).toInt32) &&& (63 : Int32))).toInt8.toInt32 = ((own_ch (own_sx q1 (5 : Int32) ((6 : Int32) / (4 : Int32)) ((6 : Int32) % (4 : Int32))))).toInt8.toInt32 then (1 : Int32) else (0 : Int32)) = 0 := own_one (own_chk hAL (own_b63 _) sx6)
    obtain ⟨_, _, ⟨T220, L220, k220, n220⟩, -, X220, ⟨Lc220, hQ220, l220, y220, z220⟩, st220⟩ := Jvm.LawKit.callS X218 hx (y := (⟨"com/example/whorl/whorl/Base64urlTextPinLaw", "chk", "([BIIJ)Z"⟩ : MethodName)) hown (mvT hZ (hw _ (List.mem_of_getElem? (i := 13) rfl))) (mvT hZ (hw _ (List.mem_of_getElem? (i := 14) rfl))) (mvT hZ (hw _ (List.mem_of_getElem? (i := 4) rfl))) (mvT hZ (hw _ (List.mem_of_getElem? (i := 15) rfl))) (by decide) (backOf (W := 0) (rm3y l Z a0 hw [] bt (6 : Int32) (5 : Int32) q1 kT (7 : Int32) _ ((atv cA ((((((ub3 &&& (255 : Int32)) <<< ((16 : Int32) &&& 31)) ||| ((ub4 &&& (255 : Int32)) <<< ((8 : Int32) &&& 31))).toUInt32 >>> ((6 : Int32) &&& 31).toUInt32).toInt32) &&& (63 : Int32))).toInt8.toInt32) T202.heap n0 (Nat.le_trans Z0 Kp202.1) VT (by decide) (by decide) rfl) hZ (hw _ (List.mem_of_getElem? (i := 15) rfl)) (hw _ (List.mem_of_getElem? (i := 4) rfl)) (by decide) (by decide)) (g := (mkF m 170 #[.val (.int p0), .val (.long q1), .second, .val (.int (5 : Int32)), .val (.ref b188), .val (.ref bt), .val (.int (2 : Int32)), .val (.int (7 : Int32))] [(.long q1), (.int (5 : Int32)), (.int (6 : Int32)), (.ref bt)])) rfl (by rw [hml]; rfl) (argsL := [(.ref bt), (.int (6 : Int32)), (.int (5 : Int32)), (.long q1)]) (rest := []) (lenOf pd_0_2 rfl) rfl (by show 2 * 0 + _ ≤ _; exact Nat.le_of_eq rfl) (hb hby at_170) (fun _ _ => ⟨rfl, e218, (by decide : 2 + 0 ≤ _), (by decide : 12 + 0 ≤ _)⟩)
    dsimp only [Pt.U, Pt.locs, Pt.cells, Pt.slots] at X220 l220 y220 z220 st220 hQ220
    rw [y220, z220] at X220
    obtain ⟨rfl, Nq220, e220⟩ := hQ220
    have N220 : Fr n0 L220 := by rw [l220]; exact Fr.app N218 Nq220
    have K220 : own_K p e below SE T220 (mkF m 173 #[.val (.int p0), .val (.long q1), .second, .val (.int (5 : Int32)), .val (.ref b188), .val (.ref bt), .val (.int (2 : Int32)), .val (.int (7 : Int32))] [(.int (if (atv cA ((((((ub3 &&& (255 : Int32)) <<< ((16 : Int32) &&& 31)) ||| ((ub4 &&& (255 : Int32)) <<< ((8 : Int32) &&& 31))).toUInt32 >>> ((6 : Int32) &&& 31).toUInt32).toInt32) &&& (63 : Int32))).toInt8.toInt32 = ((own_ch (own_sx q1 (5 : Int32) ((6 : Int32) / (4 : Int32)) ((6 : Int32) % (4 : Int32))))).toInt8.toInt32 then (1 : Int32) else (0 : Int32)))]) := fun t k => K219 _ (st220 _ k)
    have K221 : own_K p e below SE T220 (mkF m 182 #[.val (.int p0), .val (.long q1), .second, .val (.int (5 : Int32)), .val (.ref b188), .val (.ref bt), .val (.int (2 : Int32)), .val (.int (7 : Int32))] [(.long q1), (.int (5 : Int32)), (.int (7 : Int32)), (.ref bt)]) := by
      intro t k
      refine K220 _ ?_
      refine XS.ifNo X220.here hx rfl (hb hby at_173) rfl (XT.i0_eq_f ck6) ?_
      show own_S p e below T220 (mkF m 176 #[.val (.int p0), .val (.long q1), .second, .val (.int (5 : Int32)), .val (.ref b188), .val (.ref bt), .val (.int (2 : Int32)), .val (.int (7 : Int32))] []) _
      refine XS.aload X220.here hx rfl (hb hby at_176) rfl rfl ?_
      show own_S p e below T220 (mkF m 178 #[.val (.int p0), .val (.long q1), .second, .val (.int (5 : Int32)), .val (.ref b188), .val (.ref bt), .val (.int (2 : Int32)), .val (.int (7 : Int32))] [(.ref bt)]) _
      refine XS.bipush X220.here hx rfl (hb hby at_178) ?_
      show own_S p e below T220 (mkF m 180 #[.val (.int p0), .val (.long q1), .second, .val (.int (5 : Int32)), .val (.ref b188), .val (.ref bt), .val (.int (2 : Int32)), .val (.int (7 : Int32))] [(.int (7 : Int32)), (.ref bt)]) _
      refine XS.iloadN X220.here hx rfl (hb hby at_180) rfl ?_
      show own_S p e below T220 (mkF m 181 #[.val (.int p0), .val (.long q1), .second, .val (.int (5 : Int32)), .val (.ref b188), .val (.ref bt), .val (.int (2 : Int32)), .val (.int (7 : Int32))] [(.int (5 : Int32)), (.int (7 : Int32)), (.ref bt)]) _
      refine XS.lloadN X220.here hx rfl (hb hby at_181) rfl ?_
      exact k
    obtain ⟨_, _, ⟨T222, L222, k222, n222⟩, -, X222, ⟨Lc222, hQ222, l222, y222, z222⟩, st222⟩ := Jvm.LawKit.callS X220 hx (y := (⟨"com/example/whorl/whorl/Base64urlTextPinLaw", "chk", "([BIIJ)Z"⟩ : MethodName)) hown (mvT hZ (hw _ (List.mem_of_getElem? (i := 13) rfl))) (mvT hZ (hw _ (List.mem_of_getElem? (i := 14) rfl))) (mvT hZ (hw _ (List.mem_of_getElem? (i := 4) rfl))) (mvT hZ (hw _ (List.mem_of_getElem? (i := 15) rfl))) (by decide) (backOf (W := 0) (rm3n l Z a0 hw [] bt (7 : Int32) (5 : Int32) q1 kT (7 : Int32) _ T202.heap n0 (Nat.le_trans Z0 Kp202.1) VT (by decide)) hZ (hw _ (List.mem_of_getElem? (i := 15) rfl)) (hw _ (List.mem_of_getElem? (i := 4) rfl)) (by decide) (by decide)) (g := (mkF m 182 #[.val (.int p0), .val (.long q1), .second, .val (.int (5 : Int32)), .val (.ref b188), .val (.ref bt), .val (.int (2 : Int32)), .val (.int (7 : Int32))] [(.long q1), (.int (5 : Int32)), (.int (7 : Int32)), (.ref bt)])) rfl (by rw [hml]; rfl) (argsL := [(.ref bt), (.int (7 : Int32)), (.int (5 : Int32)), (.long q1)]) (rest := []) (lenOf pd_0_2 rfl) rfl (by show 2 * 0 + _ ≤ _; exact Nat.le_of_eq rfl) (hb hby at_182) (fun _ _ => ⟨rfl, e220, (by decide : 2 + 0 ≤ _), (by decide : 12 + 0 ≤ _)⟩)
    dsimp only [Pt.U, Pt.locs, Pt.cells, Pt.slots] at X222 l222 y222 z222 st222 hQ222
    rw [y222, z222] at X222
    obtain ⟨rfl, Nq222, e222⟩ := hQ222
    have N222 : Fr n0 L222 := by rw [l222]; exact Fr.app N220 Nq222
    have K222 : own_K p e below SE T222 (mkF m 185 #[.val (.int p0), .val (.long q1), .second, .val (.int (5 : Int32)), .val (.ref b188), .val (.ref bt), .val (.int (2 : Int32)), .val (.int (7 : Int32))] [(.int (1 : Int32))]) := fun t k => K221 _ (st222 _ k)
    have K223 : own_K p e below SE T222 (mkF m 193 #[.val (.int p0), .val (.long q1), .second, .val (.int (5 : Int32)), .val (.ref b188), .val (.ref bt), .val (.int (2 : Int32)), .val (.int (7 : Int32))] [(.int (1 : Int32))]) := by
      intro t k
      refine K222 _ ?_
      refine XS.ifNo X222.here hx rfl (hb hby at_185) rfl (XT.i0_eq_f (by decide : ¬ ((1 : Int32) = 0))) ?_
      show own_S p e below T222 (mkF m 188 #[.val (.int p0), .val (.long q1), .second, .val (.int (5 : Int32)), .val (.ref b188), .val (.ref bt), .val (.int (2 : Int32)), .val (.int (7 : Int32))] []) _
      refine XS.iconst X222.here hx rfl (hb hby at_188) ?_
      show own_S p e below T222 (mkF m 189 #[.val (.int p0), .val (.long q1), .second, .val (.int (5 : Int32)), .val (.ref b188), .val (.ref bt), .val (.int (2 : Int32)), .val (.int (7 : Int32))] [(.int (1 : Int32))]) _
      refine XS.goto X222.here hx rfl (pc0 := 189) (pc' := 193) rfl (hb hby at_189) (by decide) (by decide) ?_
      exact k
    obtain ⟨fs, hr, hrun, hended, hW, hsame⟩ := X222.leave (v := some (.int (1 : Int32))) (fun h => by rw [Bd.returns] at h; cases h)
    refine ⟨_, _, K223 _ ?_, hrun, hended, _, _, rfl, ?_, ⟨_, rfl⟩, hW, hsame.mono (by decide) (by decide)⟩
    · exact retN X222 hx (t := .boolean) Bd.returns (by simp) (hb hby at_193) hr
    · show Q0 Z p0 q1 oAL cA h0 n0 _ T222.heap _
      rw [e222]
      exact ⟨rfl, N222⟩
  · skip
    rw [q] at K1
    have K224 : own_K p e below SE s₁ (mkF m 9 #[.val (.int p0), .val (.long q1), .second, .val (.int (6 : Int32)), .unset, .unset, .unset, .unset] [(.int (6 : Int32))]) := by
      intro t k
      refine K1 _ ?_
      refine XS.iloadN X0.here hx rfl (hb hby at_8) rfl ?_
      exact k
    obtain ⟨T225, h225, k225, X225, e225, E225, A225, st225⟩ := newP X0 hx hZ (hw _ (List.mem_of_getElem? (i := 1) rfl)) e0 (g := (mkF m 9 #[.val (.int p0), .val (.long q1), .second, .val (.int (6 : Int32)), .unset, .unset, .unset, .unset] [(.int (6 : Int32))])) rfl (hb hby at_9) rfl (by decide) (cap := 6) (by decide) (by decide) (by decide) (by decide)
    obtain ⟨b225, g225⟩ : ∃ z, z = h0.size := ⟨_, rfl⟩
    rw [← g225] at A225 st225
    have g_b225 : n0 ≤ b225 := Nat.le_trans Z0 (Nat.le_of_eq g225.symm)
    have sz_b225 : h0.size ≤ b225 := Nat.le_trans (Nat.le_refl _) (Nat.le_of_eq g225.symm)
    have Kp225 : Keep h0 h225 [] := Keep.ext (Keep.refl h0 []) E225
    have V225 : Arv Z h225 b225 k225 .byte (6 : Int32) [(.int (0 : Int32)), (.int (0 : Int32)), (.int (0 : Int32)), (.int (0 : Int32)), (.int (0 : Int32)), (.int (0 : Int32))] (.int (0 : Int32)) := (Arv.new A225 (by decide)).pad (pad_rep [] (.int (0 : Int32)) 6)
    have K225 : own_K p e below SE T225 (mkF m 11 #[.val (.int p0), .val (.long q1), .second, .val (.int (6 : Int32)), .unset, .unset, .unset, .unset] [(.ref b225)]) := fun t k => K224 _ (st225 _ k)
    have K226 : own_K p e below SE T225 (mkF m 17 #[.val (.int p0), .val (.long q1), .second, .val (.int (6 : Int32)), .val (.ref b225), .unset, .unset, .unset] [(.long q1), (.int (0 : Int32)), (.ref b225)]) := by
      intro t k
      refine K225 _ ?_
      refine XS.astore X225.here hx rfl (hb hby at_11) rfl rfl (l' := #[.val (.int p0), .val (.long q1), .second, .val (.int (6 : Int32)), .val (.ref b225), .unset, .unset, .unset]) rfl ?_
      show own_S p e below T225 (mkF m 13 #[.val (.int p0), .val (.long q1), .second, .val (.int (6 : Int32)), .val (.ref b225), .unset, .unset, .unset] []) _
      refine XS.aload X225.here hx rfl (hb hby at_13) rfl rfl ?_
      show own_S p e below T225 (mkF m 15 #[.val (.int p0), .val (.long q1), .second, .val (.int (6 : Int32)), .val (.ref b225), .unset, .unset, .unset] [(.ref b225)]) _
      refine XS.iconst X225.here hx rfl (hb hby at_15) ?_
      show own_S p e below T225 (mkF m 16 #[.val (.int p0), .val (.long q1), .second, .val (.int (6 : Int32)), .val (.ref b225), .unset, .unset, .unset] [(.int (0 : Int32)), (.ref b225)]) _
      refine XS.lloadN X225.here hx rfl (hb hby at_16) rfl ?_
      exact k
    obtain ⟨_, _, ⟨T227, L227, k227, n227⟩, -, X227, ⟨Lc227, hQ227, l227, y227, z227⟩, st227⟩ := Jvm.LawKit.callS X225 hx (y := (⟨"com/example/whorl/whorl/Base64urlTextPinLaw", "put", "([BIJ)V"⟩ : MethodName)) hown (mvT hZ (hw _ (List.mem_of_getElem? (i := 2) rfl))) (mvT hZ (hw _ (List.mem_of_getElem? (i := 3) rfl))) (mvT hZ (hw _ (List.mem_of_getElem? (i := 4) rfl))) (mvT hZ (hw _ (List.mem_of_getElem? (i := 5) rfl))) (by decide) (backOf (W := 0) (rm1y l Z a0 hw [] b225 (0 : Int32) q1 k225 (6 : Int32) _ 0 h225 n0 (Nat.le_trans Z0 Kp225.1) V225 (by decide) (by decide) rfl (Nat.le_of_ble_eq_true rfl) g_b225) hZ (hw _ (List.mem_of_getElem? (i := 5) rfl)) (hw _ (List.mem_of_getElem? (i := 4) rfl)) (by decide) (by decide)) (g := (mkF m 17 #[.val (.int p0), .val (.long q1), .second, .val (.int (6 : Int32)), .val (.ref b225), .unset, .unset, .unset] [(.long q1), (.int (0 : Int32)), (.ref b225)])) rfl (by rw [hml]; rfl) (argsL := [(.ref b225), (.int (0 : Int32)), (.long q1)]) (rest := []) (lenOf pd_0_0 rfl) rfl (by show 2 * 0 + _ ≤ _; exact Nat.le_of_eq rfl) (hb hby at_17) (fun _ _ => ⟨rfl, e225, (by decide : 1 + 0 ≤ _), (by decide : 6 + 0 ≤ _)⟩)
    dsimp only [Pt.U, Pt.locs, Pt.cells, Pt.slots] at X227 l227 y227 z227 st227 hQ227
    rw [y227, z227] at X227
    obtain ⟨rfl, Nq227, Kq227, Vq227⟩ := hQ227
    have N227 : Fr n0 L227 := by rw [l227]; exact Fr.app N0 Nq227
    have Kp227 : Keep h0 T227.heap [] := Keep.trans Kp225 Kq227 (allS (Or.inr sz_b225) all0)
    have K227 : own_K p e below SE T227 (mkF m 20 #[.val (.int p0), .val (.long q1), .second, .val (.int (6 : Int32)), .val (.ref b225), .unset, .unset, .unset] []) := fun t k => K226 _ (st227 _ k)
    obtain ⟨ub0, hub0⟩ : ∃ z : Int32, z = ((((((q1.toUInt64 >>> (((8 : Int32) * (0 : Int32)) &&& 0x3f).toInt64.toUInt64).toInt64)).toInt32).toInt8.toInt32).toInt8.toInt32) := ⟨_, rfl⟩
    rw [← hub0] at Vq227
    have Vr227 : Arv Z T227.heap b225 k225 .byte (6 : Int32) [(.int ub0), (.int (0 : Int32)), (.int (0 : Int32)), (.int (0 : Int32)), (.int (0 : Int32)), (.int (0 : Int32))] (.int (0 : Int32)) := Vq227
    have K228 : own_K p e below SE T227 (mkF m 24 #[.val (.int p0), .val (.long q1), .second, .val (.int (6 : Int32)), .val (.ref b225), .unset, .unset, .unset] [(.long q1), (.int (1 : Int32)), (.ref b225)]) := by
      intro t k
      refine K227 _ ?_
      refine XS.aload X227.here hx rfl (hb hby at_20) rfl rfl ?_
      show own_S p e below T227 (mkF m 22 #[.val (.int p0), .val (.long q1), .second, .val (.int (6 : Int32)), .val (.ref b225), .unset, .unset, .unset] [(.ref b225)]) _
      refine XS.iconst X227.here hx rfl (hb hby at_22) ?_
      show own_S p e below T227 (mkF m 23 #[.val (.int p0), .val (.long q1), .second, .val (.int (6 : Int32)), .val (.ref b225), .unset, .unset, .unset] [(.int (1 : Int32)), (.ref b225)]) _
      refine XS.lloadN X227.here hx rfl (hb hby at_23) rfl ?_
      exact k
    obtain ⟨_, _, ⟨T229, L229, k229, n229⟩, -, X229, ⟨Lc229, hQ229, l229, y229, z229⟩, st229⟩ := Jvm.LawKit.callS X227 hx (y := (⟨"com/example/whorl/whorl/Base64urlTextPinLaw", "put", "([BIJ)V"⟩ : MethodName)) hown (mvT hZ (hw _ (List.mem_of_getElem? (i := 2) rfl))) (mvT hZ (hw _ (List.mem_of_getElem? (i := 3) rfl))) (mvT hZ (hw _ (List.mem_of_getElem? (i := 4) rfl))) (mvT hZ (hw _ (List.mem_of_getElem? (i := 5) rfl))) (by decide) (backOf (W := 0) (rm1y l Z a0 hw [] b225 (1 : Int32) q1 k225 (6 : Int32) _ 1 T227.heap n0 (Nat.le_trans Z0 Kp227.1) Vr227 (by decide) (by decide) rfl (Nat.le_of_ble_eq_true rfl) g_b225) hZ (hw _ (List.mem_of_getElem? (i := 5) rfl)) (hw _ (List.mem_of_getElem? (i := 4) rfl)) (by decide) (by decide)) (g := (mkF m 24 #[.val (.int p0), .val (.long q1), .second, .val (.int (6 : Int32)), .val (.ref b225), .unset, .unset, .unset] [(.long q1), (.int (1 : Int32)), (.ref b225)])) rfl (by rw [hml]; rfl) (argsL := [(.ref b225), (.int (1 : Int32)), (.long q1)]) (rest := []) (lenOf pd_0_0 rfl) rfl (by show 2 * 0 + _ ≤ _; exact Nat.le_of_eq rfl) (hb hby at_24) (fun _ _ => ⟨rfl, rfl, (by decide : 1 + 0 ≤ _), (by decide : 6 + 0 ≤ _)⟩)
    dsimp only [Pt.U, Pt.locs, Pt.cells, Pt.slots] at X229 l229 y229 z229 st229 hQ229
    rw [y229, z229] at X229
    obtain ⟨rfl, Nq229, Kq229, Vq229⟩ := hQ229
    have N229 : Fr n0 L229 := by rw [l229]; exact Fr.app N227 Nq229
    have Kp229 : Keep h0 T229.heap [] := Keep.trans Kp227 Kq229 (allS (Or.inr sz_b225) all0)
    have K229 : own_K p e below SE T229 (mkF m 27 #[.val (.int p0), .val (.long q1), .second, .val (.int (6 : Int32)), .val (.ref b225), .unset, .unset, .unset] []) := fun t k => K228 _ (st229 _ k)
    obtain ⟨ub1, hub1⟩ : ∃ z : Int32, z = ((((((q1.toUInt64 >>> (((8 : Int32) * (1 : Int32)) &&& 0x3f).toInt64.toUInt64).toInt64)).toInt32).toInt8.toInt32).toInt8.toInt32) := ⟨_, rfl⟩
    rw [← hub1] at Vq229
    have Vr229 : Arv Z T229.heap b225 k225 .byte (6 : Int32) [(.int ub0), (.int ub1), (.int (0 : Int32)), (.int (0 : Int32)), (.int (0 : Int32)), (.int (0 : Int32))] (.int (0 : Int32)) := Vq229
    have K230 : own_K p e below SE T229 (mkF m 31 #[.val (.int p0), .val (.long q1), .second, .val (.int (6 : Int32)), .val (.ref b225), .unset, .unset, .unset] [(.long q1), (.int (2 : Int32)), (.ref b225)]) := by
      intro t k
      refine K229 _ ?_
      refine XS.aload X229.here hx rfl (hb hby at_27) rfl rfl ?_
      show own_S p e below T229 (mkF m 29 #[.val (.int p0), .val (.long q1), .second, .val (.int (6 : Int32)), .val (.ref b225), .unset, .unset, .unset] [(.ref b225)]) _
      refine XS.iconst X229.here hx rfl (hb hby at_29) ?_
      show own_S p e below T229 (mkF m 30 #[.val (.int p0), .val (.long q1), .second, .val (.int (6 : Int32)), .val (.ref b225), .unset, .unset, .unset] [(.int (2 : Int32)), (.ref b225)]) _
      refine XS.lloadN X229.here hx rfl (hb hby at_30) rfl ?_
      exact k
    obtain ⟨_, _, ⟨T231, L231, k231, n231⟩, -, X231, ⟨Lc231, hQ231, l231, y231, z231⟩, st231⟩ := Jvm.LawKit.callS X229 hx (y := (⟨"com/example/whorl/whorl/Base64urlTextPinLaw", "put", "([BIJ)V"⟩ : MethodName)) hown (mvT hZ (hw _ (List.mem_of_getElem? (i := 2) rfl))) (mvT hZ (hw _ (List.mem_of_getElem? (i := 3) rfl))) (mvT hZ (hw _ (List.mem_of_getElem? (i := 4) rfl))) (mvT hZ (hw _ (List.mem_of_getElem? (i := 5) rfl))) (by decide) (backOf (W := 0) (rm1y l Z a0 hw [] b225 (2 : Int32) q1 k225 (6 : Int32) _ 2 T229.heap n0 (Nat.le_trans Z0 Kp229.1) Vr229 (by decide) (by decide) rfl (Nat.le_of_ble_eq_true rfl) g_b225) hZ (hw _ (List.mem_of_getElem? (i := 5) rfl)) (hw _ (List.mem_of_getElem? (i := 4) rfl)) (by decide) (by decide)) (g := (mkF m 31 #[.val (.int p0), .val (.long q1), .second, .val (.int (6 : Int32)), .val (.ref b225), .unset, .unset, .unset] [(.long q1), (.int (2 : Int32)), (.ref b225)])) rfl (by rw [hml]; rfl) (argsL := [(.ref b225), (.int (2 : Int32)), (.long q1)]) (rest := []) (lenOf pd_0_0 rfl) rfl (by show 2 * 0 + _ ≤ _; exact Nat.le_of_eq rfl) (hb hby at_31) (fun _ _ => ⟨rfl, rfl, (by decide : 1 + 0 ≤ _), (by decide : 6 + 0 ≤ _)⟩)
    dsimp only [Pt.U, Pt.locs, Pt.cells, Pt.slots] at X231 l231 y231 z231 st231 hQ231
    rw [y231, z231] at X231
    obtain ⟨rfl, Nq231, Kq231, Vq231⟩ := hQ231
    have N231 : Fr n0 L231 := by rw [l231]; exact Fr.app N229 Nq231
    have Kp231 : Keep h0 T231.heap [] := Keep.trans Kp229 Kq231 (allS (Or.inr sz_b225) all0)
    have K231 : own_K p e below SE T231 (mkF m 34 #[.val (.int p0), .val (.long q1), .second, .val (.int (6 : Int32)), .val (.ref b225), .unset, .unset, .unset] []) := fun t k => K230 _ (st231 _ k)
    obtain ⟨ub2, hub2⟩ : ∃ z : Int32, z = ((((((q1.toUInt64 >>> (((8 : Int32) * (2 : Int32)) &&& 0x3f).toInt64.toUInt64).toInt64)).toInt32).toInt8.toInt32).toInt8.toInt32) := ⟨_, rfl⟩
    rw [← hub2] at Vq231
    have Vr231 : Arv Z T231.heap b225 k225 .byte (6 : Int32) [(.int ub0), (.int ub1), (.int ub2), (.int (0 : Int32)), (.int (0 : Int32)), (.int (0 : Int32))] (.int (0 : Int32)) := Vq231
    have K232 : own_K p e below SE T231 (mkF m 38 #[.val (.int p0), .val (.long q1), .second, .val (.int (6 : Int32)), .val (.ref b225), .unset, .unset, .unset] [(.long q1), (.int (3 : Int32)), (.ref b225)]) := by
      intro t k
      refine K231 _ ?_
      refine XS.aload X231.here hx rfl (hb hby at_34) rfl rfl ?_
      show own_S p e below T231 (mkF m 36 #[.val (.int p0), .val (.long q1), .second, .val (.int (6 : Int32)), .val (.ref b225), .unset, .unset, .unset] [(.ref b225)]) _
      refine XS.iconst X231.here hx rfl (hb hby at_36) ?_
      show own_S p e below T231 (mkF m 37 #[.val (.int p0), .val (.long q1), .second, .val (.int (6 : Int32)), .val (.ref b225), .unset, .unset, .unset] [(.int (3 : Int32)), (.ref b225)]) _
      refine XS.lloadN X231.here hx rfl (hb hby at_37) rfl ?_
      exact k
    obtain ⟨_, _, ⟨T233, L233, k233, n233⟩, -, X233, ⟨Lc233, hQ233, l233, y233, z233⟩, st233⟩ := Jvm.LawKit.callS X231 hx (y := (⟨"com/example/whorl/whorl/Base64urlTextPinLaw", "put", "([BIJ)V"⟩ : MethodName)) hown (mvT hZ (hw _ (List.mem_of_getElem? (i := 2) rfl))) (mvT hZ (hw _ (List.mem_of_getElem? (i := 3) rfl))) (mvT hZ (hw _ (List.mem_of_getElem? (i := 4) rfl))) (mvT hZ (hw _ (List.mem_of_getElem? (i := 5) rfl))) (by decide) (backOf (W := 0) (rm1y l Z a0 hw [] b225 (3 : Int32) q1 k225 (6 : Int32) _ 3 T231.heap n0 (Nat.le_trans Z0 Kp231.1) Vr231 (by decide) (by decide) rfl (Nat.le_of_ble_eq_true rfl) g_b225) hZ (hw _ (List.mem_of_getElem? (i := 5) rfl)) (hw _ (List.mem_of_getElem? (i := 4) rfl)) (by decide) (by decide)) (g := (mkF m 38 #[.val (.int p0), .val (.long q1), .second, .val (.int (6 : Int32)), .val (.ref b225), .unset, .unset, .unset] [(.long q1), (.int (3 : Int32)), (.ref b225)])) rfl (by rw [hml]; rfl) (argsL := [(.ref b225), (.int (3 : Int32)), (.long q1)]) (rest := []) (lenOf pd_0_0 rfl) rfl (by show 2 * 0 + _ ≤ _; exact Nat.le_of_eq rfl) (hb hby at_38) (fun _ _ => ⟨rfl, rfl, (by decide : 1 + 0 ≤ _), (by decide : 6 + 0 ≤ _)⟩)
    dsimp only [Pt.U, Pt.locs, Pt.cells, Pt.slots] at X233 l233 y233 z233 st233 hQ233
    rw [y233, z233] at X233
    obtain ⟨rfl, Nq233, Kq233, Vq233⟩ := hQ233
    have N233 : Fr n0 L233 := by rw [l233]; exact Fr.app N231 Nq233
    have Kp233 : Keep h0 T233.heap [] := Keep.trans Kp231 Kq233 (allS (Or.inr sz_b225) all0)
    have K233 : own_K p e below SE T233 (mkF m 41 #[.val (.int p0), .val (.long q1), .second, .val (.int (6 : Int32)), .val (.ref b225), .unset, .unset, .unset] []) := fun t k => K232 _ (st233 _ k)
    obtain ⟨ub3, hub3⟩ : ∃ z : Int32, z = ((((((q1.toUInt64 >>> (((8 : Int32) * (3 : Int32)) &&& 0x3f).toInt64.toUInt64).toInt64)).toInt32).toInt8.toInt32).toInt8.toInt32) := ⟨_, rfl⟩
    rw [← hub3] at Vq233
    have Vr233 : Arv Z T233.heap b225 k225 .byte (6 : Int32) [(.int ub0), (.int ub1), (.int ub2), (.int ub3), (.int (0 : Int32)), (.int (0 : Int32))] (.int (0 : Int32)) := Vq233
    have K234 : own_K p e below SE T233 (mkF m 45 #[.val (.int p0), .val (.long q1), .second, .val (.int (6 : Int32)), .val (.ref b225), .unset, .unset, .unset] [(.long q1), (.int (4 : Int32)), (.ref b225)]) := by
      intro t k
      refine K233 _ ?_
      refine XS.aload X233.here hx rfl (hb hby at_41) rfl rfl ?_
      show own_S p e below T233 (mkF m 43 #[.val (.int p0), .val (.long q1), .second, .val (.int (6 : Int32)), .val (.ref b225), .unset, .unset, .unset] [(.ref b225)]) _
      refine XS.iconst X233.here hx rfl (hb hby at_43) ?_
      show own_S p e below T233 (mkF m 44 #[.val (.int p0), .val (.long q1), .second, .val (.int (6 : Int32)), .val (.ref b225), .unset, .unset, .unset] [(.int (4 : Int32)), (.ref b225)]) _
      refine XS.lloadN X233.here hx rfl (hb hby at_44) rfl ?_
      exact k
    obtain ⟨_, _, ⟨T235, L235, k235, n235⟩, -, X235, ⟨Lc235, hQ235, l235, y235, z235⟩, st235⟩ := Jvm.LawKit.callS X233 hx (y := (⟨"com/example/whorl/whorl/Base64urlTextPinLaw", "put", "([BIJ)V"⟩ : MethodName)) hown (mvT hZ (hw _ (List.mem_of_getElem? (i := 2) rfl))) (mvT hZ (hw _ (List.mem_of_getElem? (i := 3) rfl))) (mvT hZ (hw _ (List.mem_of_getElem? (i := 4) rfl))) (mvT hZ (hw _ (List.mem_of_getElem? (i := 5) rfl))) (by decide) (backOf (W := 0) (rm1y l Z a0 hw [] b225 (4 : Int32) q1 k225 (6 : Int32) _ 4 T233.heap n0 (Nat.le_trans Z0 Kp233.1) Vr233 (by decide) (by decide) rfl (Nat.le_of_ble_eq_true rfl) g_b225) hZ (hw _ (List.mem_of_getElem? (i := 5) rfl)) (hw _ (List.mem_of_getElem? (i := 4) rfl)) (by decide) (by decide)) (g := (mkF m 45 #[.val (.int p0), .val (.long q1), .second, .val (.int (6 : Int32)), .val (.ref b225), .unset, .unset, .unset] [(.long q1), (.int (4 : Int32)), (.ref b225)])) rfl (by rw [hml]; rfl) (argsL := [(.ref b225), (.int (4 : Int32)), (.long q1)]) (rest := []) (lenOf pd_0_0 rfl) rfl (by show 2 * 0 + _ ≤ _; exact Nat.le_of_eq rfl) (hb hby at_45) (fun _ _ => ⟨rfl, rfl, (by decide : 1 + 0 ≤ _), (by decide : 6 + 0 ≤ _)⟩)
    dsimp only [Pt.U, Pt.locs, Pt.cells, Pt.slots] at X235 l235 y235 z235 st235 hQ235
    rw [y235, z235] at X235
    obtain ⟨rfl, Nq235, Kq235, Vq235⟩ := hQ235
    have N235 : Fr n0 L235 := by rw [l235]; exact Fr.app N233 Nq235
    have Kp235 : Keep h0 T235.heap [] := Keep.trans Kp233 Kq235 (allS (Or.inr sz_b225) all0)
    have K235 : own_K p e below SE T235 (mkF m 48 #[.val (.int p0), .val (.long q1), .second, .val (.int (6 : Int32)), .val (.ref b225), .unset, .unset, .unset] []) := fun t k => K234 _ (st235 _ k)
    obtain ⟨ub4, hub4⟩ : ∃ z : Int32, z = ((((((q1.toUInt64 >>> (((8 : Int32) * (4 : Int32)) &&& 0x3f).toInt64.toUInt64).toInt64)).toInt32).toInt8.toInt32).toInt8.toInt32) := ⟨_, rfl⟩
    rw [← hub4] at Vq235
    have Vr235 : Arv Z T235.heap b225 k225 .byte (6 : Int32) [(.int ub0), (.int ub1), (.int ub2), (.int ub3), (.int ub4), (.int (0 : Int32))] (.int (0 : Int32)) := Vq235
    have K236 : own_K p e below SE T235 (mkF m 52 #[.val (.int p0), .val (.long q1), .second, .val (.int (6 : Int32)), .val (.ref b225), .unset, .unset, .unset] [(.long q1), (.int (5 : Int32)), (.ref b225)]) := by
      intro t k
      refine K235 _ ?_
      refine XS.aload X235.here hx rfl (hb hby at_48) rfl rfl ?_
      show own_S p e below T235 (mkF m 50 #[.val (.int p0), .val (.long q1), .second, .val (.int (6 : Int32)), .val (.ref b225), .unset, .unset, .unset] [(.ref b225)]) _
      refine XS.iconst X235.here hx rfl (hb hby at_50) ?_
      show own_S p e below T235 (mkF m 51 #[.val (.int p0), .val (.long q1), .second, .val (.int (6 : Int32)), .val (.ref b225), .unset, .unset, .unset] [(.int (5 : Int32)), (.ref b225)]) _
      refine XS.lloadN X235.here hx rfl (hb hby at_51) rfl ?_
      exact k
    obtain ⟨_, _, ⟨T237, L237, k237, n237⟩, -, X237, ⟨Lc237, hQ237, l237, y237, z237⟩, st237⟩ := Jvm.LawKit.callS X235 hx (y := (⟨"com/example/whorl/whorl/Base64urlTextPinLaw", "put", "([BIJ)V"⟩ : MethodName)) hown (mvT hZ (hw _ (List.mem_of_getElem? (i := 2) rfl))) (mvT hZ (hw _ (List.mem_of_getElem? (i := 3) rfl))) (mvT hZ (hw _ (List.mem_of_getElem? (i := 4) rfl))) (mvT hZ (hw _ (List.mem_of_getElem? (i := 5) rfl))) (by decide) (backOf (W := 0) (rm1y l Z a0 hw [] b225 (5 : Int32) q1 k225 (6 : Int32) _ 5 T235.heap n0 (Nat.le_trans Z0 Kp235.1) Vr235 (by decide) (by decide) rfl (Nat.le_of_ble_eq_true rfl) g_b225) hZ (hw _ (List.mem_of_getElem? (i := 5) rfl)) (hw _ (List.mem_of_getElem? (i := 4) rfl)) (by decide) (by decide)) (g := (mkF m 52 #[.val (.int p0), .val (.long q1), .second, .val (.int (6 : Int32)), .val (.ref b225), .unset, .unset, .unset] [(.long q1), (.int (5 : Int32)), (.ref b225)])) rfl (by rw [hml]; rfl) (argsL := [(.ref b225), (.int (5 : Int32)), (.long q1)]) (rest := []) (lenOf pd_0_0 rfl) rfl (by show 2 * 0 + _ ≤ _; exact Nat.le_of_eq rfl) (hb hby at_52) (fun _ _ => ⟨rfl, rfl, (by decide : 1 + 0 ≤ _), (by decide : 6 + 0 ≤ _)⟩)
    dsimp only [Pt.U, Pt.locs, Pt.cells, Pt.slots] at X237 l237 y237 z237 st237 hQ237
    rw [y237, z237] at X237
    obtain ⟨rfl, Nq237, Kq237, Vq237⟩ := hQ237
    have N237 : Fr n0 L237 := by rw [l237]; exact Fr.app N235 Nq237
    have Kp237 : Keep h0 T237.heap [] := Keep.trans Kp235 Kq237 (allS (Or.inr sz_b225) all0)
    have K237 : own_K p e below SE T237 (mkF m 55 #[.val (.int p0), .val (.long q1), .second, .val (.int (6 : Int32)), .val (.ref b225), .unset, .unset, .unset] []) := fun t k => K236 _ (st237 _ k)
    obtain ⟨ub5, hub5⟩ : ∃ z : Int32, z = ((((((q1.toUInt64 >>> (((8 : Int32) * (5 : Int32)) &&& 0x3f).toInt64.toUInt64).toInt64)).toInt32).toInt8.toInt32).toInt8.toInt32) := ⟨_, rfl⟩
    rw [← hub5] at Vq237
    have Vr237 : Arv Z T237.heap b225 k225 .byte (6 : Int32) [(.int ub0), (.int ub1), (.int ub2), (.int ub3), (.int ub4), (.int ub5)] (.int (0 : Int32)) := Vq237
    have K238 : own_K p e below SE T237 (mkF m 57 #[.val (.int p0), .val (.long q1), .second, .val (.int (6 : Int32)), .val (.ref b225), .unset, .unset, .unset] [(.ref b225)]) := by
      intro t k
      refine K237 _ ?_
      refine XS.aload X237.here hx rfl (hb hby at_55) rfl rfl ?_
      exact k
    obtain ⟨_, _, ⟨T239, L239, k239, n239⟩, -, X239, ⟨Lc239, hQ239, l239, y239, z239⟩, st239⟩ := Jvm.LawKit.callS X237 hx (y := (⟨"com/example/whorl/whorl/Base64url", "text", "([B)[B"⟩ : MethodName)) hown (mvT hZ (hw _ (List.mem_of_getElem? (i := 6) rfl))) (mvT hZ (hw _ (List.mem_of_getElem? (i := 7) rfl))) (mvT hZ (hw _ (List.mem_of_getElem? (i := 8) rfl))) (mvT hZ (hw _ (List.mem_of_getElem? (i := 9) rfl))) (by decide) (backOf (W := 0) (rm2_6 l Z a0 hw [] b225 k225 oAL cA ub0 ub1 ub2 ub3 ub4 ub5 T237.heap n0 (Nat.le_trans Z0 Kp237.1) Vr237 (SA.ext (own_ext Kp237)) (TA.ext (own_ext Kp237))) hZ (hw _ (List.mem_of_getElem? (i := 9) rfl)) (hw _ (List.mem_of_getElem? (i := 8) rfl)) (by decide) (by decide)) (g := (mkF m 57 #[.val (.int p0), .val (.long q1), .second, .val (.int (6 : Int32)), .val (.ref b225), .unset, .unset, .unset] [(.ref b225)])) rfl (by rw [hml]; rfl) (argsL := [(.ref b225)]) (rest := []) (lenOf pd_0_1 rfl) rfl (by show 2 * 0 + _ ≤ _; exact Nat.le_of_eq rfl) (hb hby at_57) (fun _ _ => ⟨rfl, rfl, (by decide : 1 + 1 ≤ _), (by decide : 6 + 8 ≤ _)⟩)
    dsimp only [Pt.U, Pt.locs, Pt.cells, Pt.slots] at X239 l239 y239 z239 st239 hQ239
    rw [y239, z239] at X239
    obtain ⟨rfl, Nq239, Kq239, VT239⟩ := hQ239
    have N239 : Fr n0 L239 := by rw [l239]; exact Fr.app N237 Nq239
    have Kp239 : Keep h0 T239.heap [] := Keep.trans Kp237 Kq239 all0
    have K239 : own_K p e below SE T239 (mkF m 60 #[.val (.int p0), .val (.long q1), .second, .val (.int (6 : Int32)), .val (.ref b225), .unset, .unset, .unset] [(.ref T237.heap.size)]) := fun t k => K238 _ (st239 _ k)
    obtain ⟨kT, VT⟩ := VT239
    obtain ⟨bt, gbt⟩ : ∃ z, z = T237.heap.size := ⟨_, rfl⟩
    rw [← gbt] at K239 VT
    have K240 : own_K p e below SE T239 (mkF m 65 #[.val (.int p0), .val (.long q1), .second, .val (.int (6 : Int32)), .val (.ref b225), .val (.ref bt), .unset, .unset] [(.int ((6 : Int32) % (3 : Int32)))]) := by
      intro t k
      refine K239 _ ?_
      refine XS.astore X239.here hx rfl (hb hby at_60) rfl rfl (l' := #[.val (.int p0), .val (.long q1), .second, .val (.int (6 : Int32)), .val (.ref b225), .val (.ref bt), .unset, .unset]) rfl ?_
      show own_S p e below T239 (mkF m 62 #[.val (.int p0), .val (.long q1), .second, .val (.int (6 : Int32)), .val (.ref b225), .val (.ref bt), .unset, .unset] []) _
      refine XS.iloadN X239.here hx rfl (hb hby at_62) rfl ?_
      show own_S p e below T239 (mkF m 63 #[.val (.int p0), .val (.long q1), .second, .val (.int (6 : Int32)), .val (.ref b225), .val (.ref bt), .unset, .unset] [(.int (6 : Int32))]) _
      refine XS.iconst X239.here hx rfl (hb hby at_63) ?_
      show own_S p e below T239 (mkF m 64 #[.val (.int p0), .val (.long q1), .second, .val (.int (6 : Int32)), .val (.ref b225), .val (.ref bt), .unset, .unset] [(.int (3 : Int32)), (.int (6 : Int32))]) _
      refine iremM X239 hx rfl (hb hby at_64) rfl (by decide) ?_
      exact k
    rw [(by decide : ((6 : Int32) % (3 : Int32)) = (0 : Int32))] at K240
    have K241 : own_K p e below SE T239 (mkF m 70 #[.val (.int p0), .val (.long q1), .second, .val (.int (6 : Int32)), .val (.ref b225), .val (.ref bt), .val (.int (0 : Int32)), .unset] [(.int ((6 : Int32) / (3 : Int32)))]) := by
      intro t k
      refine K240 _ ?_
      refine XS.istore X239.here hx rfl (hb hby at_65) rfl (l' := #[.val (.int p0), .val (.long q1), .second, .val (.int (6 : Int32)), .val (.ref b225), .val (.ref bt), .val (.int (0 : Int32)), .unset]) rfl ?_
      show own_S p e below T239 (mkF m 67 #[.val (.int p0), .val (.long q1), .second, .val (.int (6 : Int32)), .val (.ref b225), .val (.ref bt), .val (.int (0 : Int32)), .unset] []) _
      refine XS.iloadN X239.here hx rfl (hb hby at_67) rfl ?_
      show own_S p e below T239 (mkF m 68 #[.val (.int p0), .val (.long q1), .second, .val (.int (6 : Int32)), .val (.ref b225), .val (.ref bt), .val (.int (0 : Int32)), .unset] [(.int (6 : Int32))]) _
      refine XS.iconst X239.here hx rfl (hb hby at_68) ?_
      show own_S p e below T239 (mkF m 69 #[.val (.int p0), .val (.long q1), .second, .val (.int (6 : Int32)), .val (.ref b225), .val (.ref bt), .val (.int (0 : Int32)), .unset] [(.int (3 : Int32)), (.int (6 : Int32))]) _
      refine XS.idiv X239.here hx rfl (hb hby at_69) rfl (by decide) ?_
      exact k
    rw [(by decide : ((6 : Int32) / (3 : Int32)) = (2 : Int32))] at K241
    have K242 : own_K p e below SE T239 (mkF m 90 #[.val (.int p0), .val (.long q1), .second, .val (.int (6 : Int32)), .val (.ref b225), .val (.ref bt), .val (.int (0 : Int32)), .val (.int (8 : Int32))] [(.ref bt)]) := by
      intro t k
      refine K241 _ ?_
      refine XS.iconst X239.here hx rfl (hb hby at_70) ?_
      show own_S p e below T239 (mkF m 71 #[.val (.int p0), .val (.long q1), .second, .val (.int (6 : Int32)), .val (.ref b225), .val (.ref bt), .val (.int (0 : Int32)), .unset] [(.int (4 : Int32)), (.int (2 : Int32))]) _
      refine XS.imul X239.here hx rfl (hb hby at_71) rfl ?_
      show own_S p e below T239 (mkF m 72 #[.val (.int p0), .val (.long q1), .second, .val (.int (6 : Int32)), .val (.ref b225), .val (.ref bt), .val (.int (0 : Int32)), .unset] [(.int (8 : Int32))]) _
      refine XS.iload X239.here hx rfl (hb hby at_72) rfl ?_
      show own_S p e below T239 (mkF m 74 #[.val (.int p0), .val (.long q1), .second, .val (.int (6 : Int32)), .val (.ref b225), .val (.ref bt), .val (.int (0 : Int32)), .unset] [(.int (0 : Int32)), (.int (8 : Int32))]) _
      refine XS.ifNo X239.here hx rfl (hb hby at_74) rfl (XT.i0_ne_f (by decide : (0 : Int32) = 0)) ?_
      show own_S p e below T239 (mkF m 77 #[.val (.int p0), .val (.long q1), .second, .val (.int (6 : Int32)), .val (.ref b225), .val (.ref bt), .val (.int (0 : Int32)), .unset] [(.int (8 : Int32))]) _
      refine XS.iconst X239.here hx rfl (hb hby at_77) ?_
      show own_S p e below T239 (mkF m 78 #[.val (.int p0), .val (.long q1), .second, .val (.int (6 : Int32)), .val (.ref b225), .val (.ref bt), .val (.int (0 : Int32)), .unset] [(.int (0 : Int32)), (.int (8 : Int32))]) _
      refine XS.goto X239.here hx rfl (pc0 := 78) (pc' := 85) rfl (hb hby at_78) (by decide) (by decide) ?_
      show own_S p e below T239 (mkF m 85 #[.val (.int p0), .val (.long q1), .second, .val (.int (6 : Int32)), .val (.ref b225), .val (.ref bt), .val (.int (0 : Int32)), .unset] [(.int (0 : Int32)), (.int (8 : Int32))]) _
      refine XS.iadd X239.here hx rfl (hb hby at_85) rfl ?_
      show own_S p e below T239 (mkF m 86 #[.val (.int p0), .val (.long q1), .second, .val (.int (6 : Int32)), .val (.ref b225), .val (.ref bt), .val (.int (0 : Int32)), .unset] [(.int (8 : Int32))]) _
      refine XS.istore X239.here hx rfl (hb hby at_86) rfl (l' := #[.val (.int p0), .val (.long q1), .second, .val (.int (6 : Int32)), .val (.ref b225), .val (.ref bt), .val (.int (0 : Int32)), .val (.int (8 : Int32))]) rfl ?_
      show own_S p e below T239 (mkF m 88 #[.val (.int p0), .val (.long q1), .second, .val (.int (6 : Int32)), .val (.ref b225), .val (.ref bt), .val (.int (0 : Int32)), .val (.int (8 : Int32))] []) _
      refine XS.aload X239.here hx rfl (hb hby at_88) rfl rfl ?_
      exact k
    obtain ⟨cl243, Ar243, -, S243, Ng243, -, -⟩ := id VT
    have K244 : own_K p e below SE T239 (mkF m 103 #[.val (.int p0), .val (.long q1), .second, .val (.int (6 : Int32)), .val (.ref b225), .val (.ref bt), .val (.int (0 : Int32)), .val (.int (8 : Int32))] [(.long q1), (.int (6 : Int32)), (.int (0 : Int32)), (.ref bt)]) := by
      intro t k
      refine K242 _ ?_
      refine X239.arraylength hx Ar243.1 (State.isArrayOf_alike hZ.alike Ar243.2.1) (g := (mkF m 90 #[.val (.int p0), .val (.long q1), .second, .val (.int (6 : Int32)), .val (.ref b225), .val (.ref bt), .val (.int (0 : Int32)), .val (.int (8 : Int32))] [(.ref bt)])) rfl rfl (hb hby at_90) _ ?_
      rw [len_of S243 Ng243]
      show own_S p e below T239 (mkF m 91 #[.val (.int p0), .val (.long q1), .second, .val (.int (6 : Int32)), .val (.ref b225), .val (.ref bt), .val (.int (0 : Int32)), .val (.int (8 : Int32))] [(.int (8 : Int32))]) _
      refine XS.iload X239.here hx rfl (hb hby at_91) rfl ?_
      show own_S p e below T239 (mkF m 93 #[.val (.int p0), .val (.long q1), .second, .val (.int (6 : Int32)), .val (.ref b225), .val (.ref bt), .val (.int (0 : Int32)), .val (.int (8 : Int32))] [(.int (8 : Int32)), (.int (8 : Int32))]) _
      refine XS.icmpYes X239.here hx rfl (pc0 := 93) (pc' := 98) rfl (hb hby at_93) rfl (XT.ii_eq_t (by decide : (8 : Int32) = (8 : Int32))) (by decide) (by decide) ?_
      show own_S p e below T239 (mkF m 98 #[.val (.int p0), .val (.long q1), .second, .val (.int (6 : Int32)), .val (.ref b225), .val (.ref bt), .val (.int (0 : Int32)), .val (.int (8 : Int32))] []) _
      refine XS.aload X239.here hx rfl (hb hby at_98) rfl rfl ?_
      show own_S p e below T239 (mkF m 100 #[.val (.int p0), .val (.long q1), .second, .val (.int (6 : Int32)), .val (.ref b225), .val (.ref bt), .val (.int (0 : Int32)), .val (.int (8 : Int32))] [(.ref bt)]) _
      refine XS.iconst X239.here hx rfl (hb hby at_100) ?_
      show own_S p e below T239 (mkF m 101 #[.val (.int p0), .val (.long q1), .second, .val (.int (6 : Int32)), .val (.ref b225), .val (.ref bt), .val (.int (0 : Int32)), .val (.int (8 : Int32))] [(.int (0 : Int32)), (.ref bt)]) _
      refine XS.iloadN X239.here hx rfl (hb hby at_101) rfl ?_
      show own_S p e below T239 (mkF m 102 #[.val (.int p0), .val (.long q1), .second, .val (.int (6 : Int32)), .val (.ref b225), .val (.ref bt), .val (.int (0 : Int32)), .val (.int (8 : Int32))] [(.int (6 : Int32)), (.int (0 : Int32)), (.ref bt)]) _
      refine XS.lloadN X239.here hx rfl (hb hby at_102) rfl ?_
      exact k
    have sx0 : ((((((ub0 &&& (255 : Int32)) <<< ((16 : Int32) &&& 31)) ||| ((ub1 &&& (255 : Int32)) <<< ((8 : Int32) &&& 31))) ||| (ub2 &&& (255 : Int32))).toUInt32 >>> ((18 : Int32) &&& 31).toUInt32).toInt32) = own_sx q1 (6 : Int32) ((0 : Int32) / (4 : Int32)) ((0 : Int32) % (4 : Int32)) := by
      have h1 := own_i0 _ _ _ _ (own_m255 ub0) (own_m255 ub1) (own_m255 ub2) (own_x3i ub0 ub1 ub2)
      have o0 : (ub0 &&& (255 : Int32)) = own_oct q1 (0 : Int32) (6 : Int32) := by rw [hub0]; exact own_eo q1 (0 : Int32) (6 : Int32) (by decide)
      have o1 : (ub1 &&& (255 : Int32)) = own_oct q1 (1 : Int32) (6 : Int32) := by rw [hub1]; exact own_eo q1 (1 : Int32) (6 : Int32) (by decide)
      have o2 : (ub2 &&& (255 : Int32)) = own_oct q1 (2 : Int32) (6 : Int32) := by rw [hub2]; exact own_eo q1 (2 : Int32) (6 : Int32) (by decide)
      rw [h1]
      unfold own_sx
      rw [show ((0 : Int32) / (4 : Int32)) = (0 : Int32) by decide, show ((0 : Int32) % (4 : Int32)) = (0 : Int32) by decide, show ((3 : Int32) * (0 : Int32)) = (0 : Int32) by decide, show ((0 : Int32) + (1 : Int32)) = (1 : Int32) by decide, show ((0 : Int32) + (2 : Int32)) = (2 : Int32) by decide]
      rw [if_pos (by decide), ← o0]
    have ck0 : ¬ (if (atv cA ((((((ub0 &&& (255 : Int32)) <<< ((16 : Int32) &&& 31)) ||| ((ub1 &&& (255 : Int32)) <<< ((8 : Int32) &&& 31))) ||| (ub2 &&& (255 : Int32))).toUInt32 >>> ((18 : Int32) &&& 31).toUInt32).toInt32)).toInt8.toInt32 = ((own_ch (own_sx q1 (6 : Int32) ((0 : Int32) / (4 : Int32)) ((0 : Int32) % (4 : Int32))))).toInt8.toInt32 then (1 : Int32) else (0 : Int32)) = 0 := own_one (own_chk hAL (own_b18 _ (own_xb (own_m255 _) (own_m255 _) (own_m255 _) (own_x3i ub0 ub1 ub2))) sx0)
    obtain ⟨_, _, ⟨T245, L245, k245, n245⟩, -, X245, ⟨Lc245, hQ245, l245, y245, z245⟩, st245⟩ := Jvm.LawKit.callS X239 hx (y := (⟨"com/example/whorl/whorl/Base64urlTextPinLaw", "chk", "([BIIJ)Z"⟩ : MethodName)) hown (mvT hZ (hw _ (List.mem_of_getElem? (i := 13) rfl))) (mvT hZ (hw _ (List.mem_of_getElem? (i := 14) rfl))) (mvT hZ (hw _ (List.mem_of_getElem? (i := 4) rfl))) (mvT hZ (hw _ (List.mem_of_getElem? (i := 15) rfl))) (by decide) (backOf (W := 0) (rm3y l Z a0 hw [] bt (0 : Int32) (6 : Int32) q1 kT (8 : Int32) _ ((atv cA ((((((ub0 &&& (255 : Int32)) <<< ((16 : Int32) &&& 31)) ||| ((ub1 &&& (255 : Int32)) <<< ((8 : Int32) &&& 31))) ||| (ub2 &&& (255 : Int32))).toUInt32 >>> ((18 : Int32) &&& 31).toUInt32).toInt32)).toInt8.toInt32) T239.heap n0 (Nat.le_trans Z0 Kp239.1) VT (by decide) (by decide) rfl) hZ (hw _ (List.mem_of_getElem? (i := 15) rfl)) (hw _ (List.mem_of_getElem? (i := 4) rfl)) (by decide) (by decide)) (g := (mkF m 103 #[.val (.int p0), .val (.long q1), .second, .val (.int (6 : Int32)), .val (.ref b225), .val (.ref bt), .val (.int (0 : Int32)), .val (.int (8 : Int32))] [(.long q1), (.int (6 : Int32)), (.int (0 : Int32)), (.ref bt)])) rfl (by rw [hml]; rfl) (argsL := [(.ref bt), (.int (0 : Int32)), (.int (6 : Int32)), (.long q1)]) (rest := []) (lenOf pd_0_2 rfl) rfl (by show 2 * 0 + _ ≤ _; exact Nat.le_of_eq rfl) (hb hby at_103) (fun _ _ => ⟨rfl, rfl, (by decide : 2 + 0 ≤ _), (by decide : 14 + 0 ≤ _)⟩)
    dsimp only [Pt.U, Pt.locs, Pt.cells, Pt.slots] at X245 l245 y245 z245 st245 hQ245
    rw [y245, z245] at X245
    obtain ⟨rfl, Nq245, e245⟩ := hQ245
    have N245 : Fr n0 L245 := by rw [l245]; exact Fr.app N239 Nq245
    have K245 : own_K p e below SE T245 (mkF m 106 #[.val (.int p0), .val (.long q1), .second, .val (.int (6 : Int32)), .val (.ref b225), .val (.ref bt), .val (.int (0 : Int32)), .val (.int (8 : Int32))] [(.int (if (atv cA ((((((ub0 &&& (255 : Int32)) <<< ((16 : Int32) &&& 31)) ||| ((ub1 &&& (255 : Int32)) <<< ((8 : Int32) &&& 31))) ||| (ub2 &&& (255 : Int32))).toUInt32 >>> ((18 : Int32) &&& 31).toUInt32).toInt32)).toInt8.toInt32 = ((own_ch (own_sx q1 (6 : Int32) ((0 : Int32) / (4 : Int32)) ((0 : Int32) % (4 : Int32))))).toInt8.toInt32 then (1 : Int32) else (0 : Int32)))]) := fun t k => K244 _ (st245 _ k)
    have K246 : own_K p e below SE T245 (mkF m 114 #[.val (.int p0), .val (.long q1), .second, .val (.int (6 : Int32)), .val (.ref b225), .val (.ref bt), .val (.int (0 : Int32)), .val (.int (8 : Int32))] [(.long q1), (.int (6 : Int32)), (.int (1 : Int32)), (.ref bt)]) := by
      intro t k
      refine K245 _ ?_
      refine XS.ifNo X245.here hx rfl (hb hby at_106) rfl (XT.i0_eq_f ck0) ?_
      show own_S p e below T245 (mkF m 109 #[.val (.int p0), .val (.long q1), .second, .val (.int (6 : Int32)), .val (.ref b225), .val (.ref bt), .val (.int (0 : Int32)), .val (.int (8 : Int32))] []) _
      refine XS.aload X245.here hx rfl (hb hby at_109) rfl rfl ?_
      show own_S p e below T245 (mkF m 111 #[.val (.int p0), .val (.long q1), .second, .val (.int (6 : Int32)), .val (.ref b225), .val (.ref bt), .val (.int (0 : Int32)), .val (.int (8 : Int32))] [(.ref bt)]) _
      refine XS.iconst X245.here hx rfl (hb hby at_111) ?_
      show own_S p e below T245 (mkF m 112 #[.val (.int p0), .val (.long q1), .second, .val (.int (6 : Int32)), .val (.ref b225), .val (.ref bt), .val (.int (0 : Int32)), .val (.int (8 : Int32))] [(.int (1 : Int32)), (.ref bt)]) _
      refine XS.iloadN X245.here hx rfl (hb hby at_112) rfl ?_
      show own_S p e below T245 (mkF m 113 #[.val (.int p0), .val (.long q1), .second, .val (.int (6 : Int32)), .val (.ref b225), .val (.ref bt), .val (.int (0 : Int32)), .val (.int (8 : Int32))] [(.int (6 : Int32)), (.int (1 : Int32)), (.ref bt)]) _
      refine XS.lloadN X245.here hx rfl (hb hby at_113) rfl ?_
      exact k
    have sx1 : (((((((ub0 &&& (255 : Int32)) <<< ((16 : Int32) &&& 31)) ||| ((ub1 &&& (255 : Int32)) <<< ((8 : Int32) &&& 31))) ||| (ub2 &&& (255 : Int32))).toUInt32 >>> ((12 : Int32) &&& 31).toUInt32).toInt32) &&& (63 : Int32)) = own_sx q1 (6 : Int32) ((1 : Int32) / (4 : Int32)) ((1 : Int32) % (4 : Int32)) := by
      have h1 := own_i1 _ _ _ _ (own_m255 ub0) (own_m255 ub1) (own_m255 ub2) (own_x3i ub0 ub1 ub2)
      have o0 : (ub0 &&& (255 : Int32)) = own_oct q1 (0 : Int32) (6 : Int32) := by rw [hub0]; exact own_eo q1 (0 : Int32) (6 : Int32) (by decide)
      have o1 : (ub1 &&& (255 : Int32)) = own_oct q1 (1 : Int32) (6 : Int32) := by rw [hub1]; exact own_eo q1 (1 : Int32) (6 : Int32) (by decide)
      have o2 : (ub2 &&& (255 : Int32)) = own_oct q1 (2 : Int32) (6 : Int32) := by rw [hub2]; exact own_eo q1 (2 : Int32) (6 : Int32) (by decide)
      rw [h1]
      unfold own_sx
      rw [show ((1 : Int32) / (4 : Int32)) = (0 : Int32) by decide, show ((1 : Int32) % (4 : Int32)) = (1 : Int32) by decide, show ((3 : Int32) * (0 : Int32)) = (0 : Int32) by decide, show ((0 : Int32) + (1 : Int32)) = (1 : Int32) by decide, show ((0 : Int32) + (2 : Int32)) = (2 : Int32) by decide]
      rw [if_neg (by decide), if_pos (by decide), ← o0, ← o1]
    have ck1 : ¬ (if (atv cA (((((((ub0 &&& (255 : Int32)) <<< ((16 : Int32) &&& 31)) ||| ((ub1 &&& (255 : Int32)) <<< ((8 : Int32) &&& 31))) ||| (ub2 &&& (255 : Int32))).toUInt32 >>> ((12 : Int32) &&& 31).toUInt32).toInt32) &&& (63 : Int32))).toInt8.toInt32 = ((own_ch (own_sx q1 (6 : Int32) ((1 : Int32) / (4 : Int32)) ((1 : Int32) % (4 : Int32))))).toInt8.toInt32 then (1 : Int32) else (0 : Int32)) = 0 := own_one (own_chk hAL (own_b63 _) sx1)
    obtain ⟨_, _, ⟨T247, L247, k247, n247⟩, -, X247, ⟨Lc247, hQ247, l247, y247, z247⟩, st247⟩ := Jvm.LawKit.callS X245 hx (y := (⟨"com/example/whorl/whorl/Base64urlTextPinLaw", "chk", "([BIIJ)Z"⟩ : MethodName)) hown (mvT hZ (hw _ (List.mem_of_getElem? (i := 13) rfl))) (mvT hZ (hw _ (List.mem_of_getElem? (i := 14) rfl))) (mvT hZ (hw _ (List.mem_of_getElem? (i := 4) rfl))) (mvT hZ (hw _ (List.mem_of_getElem? (i := 15) rfl))) (by decide) (backOf (W := 0) (rm3y l Z a0 hw [] bt (1 : Int32) (6 : Int32) q1 kT (8 : Int32) _ ((atv cA (((((((ub0 &&& (255 : Int32)) <<< ((16 : Int32) &&& 31)) ||| ((ub1 &&& (255 : Int32)) <<< ((8 : Int32) &&& 31))) ||| (ub2 &&& (255 : Int32))).toUInt32 >>> ((12 : Int32) &&& 31).toUInt32).toInt32) &&& (63 : Int32))).toInt8.toInt32) T239.heap n0 (Nat.le_trans Z0 Kp239.1) VT (by decide) (by decide) rfl) hZ (hw _ (List.mem_of_getElem? (i := 15) rfl)) (hw _ (List.mem_of_getElem? (i := 4) rfl)) (by decide) (by decide)) (g := (mkF m 114 #[.val (.int p0), .val (.long q1), .second, .val (.int (6 : Int32)), .val (.ref b225), .val (.ref bt), .val (.int (0 : Int32)), .val (.int (8 : Int32))] [(.long q1), (.int (6 : Int32)), (.int (1 : Int32)), (.ref bt)])) rfl (by rw [hml]; rfl) (argsL := [(.ref bt), (.int (1 : Int32)), (.int (6 : Int32)), (.long q1)]) (rest := []) (lenOf pd_0_2 rfl) rfl (by show 2 * 0 + _ ≤ _; exact Nat.le_of_eq rfl) (hb hby at_114) (fun _ _ => ⟨rfl, e245, (by decide : 2 + 0 ≤ _), (by decide : 14 + 0 ≤ _)⟩)
    dsimp only [Pt.U, Pt.locs, Pt.cells, Pt.slots] at X247 l247 y247 z247 st247 hQ247
    rw [y247, z247] at X247
    obtain ⟨rfl, Nq247, e247⟩ := hQ247
    have N247 : Fr n0 L247 := by rw [l247]; exact Fr.app N245 Nq247
    have K247 : own_K p e below SE T247 (mkF m 117 #[.val (.int p0), .val (.long q1), .second, .val (.int (6 : Int32)), .val (.ref b225), .val (.ref bt), .val (.int (0 : Int32)), .val (.int (8 : Int32))] [(.int (if (atv cA (((((((ub0 &&& (255 : Int32)) <<< ((16 : Int32) &&& 31)) ||| ((ub1 &&& (255 : Int32)) <<< ((8 : Int32) &&& 31))) ||| (ub2 &&& (255 : Int32))).toUInt32 >>> ((12 : Int32) &&& 31).toUInt32).toInt32) &&& (63 : Int32))).toInt8.toInt32 = ((own_ch (own_sx q1 (6 : Int32) ((1 : Int32) / (4 : Int32)) ((1 : Int32) % (4 : Int32))))).toInt8.toInt32 then (1 : Int32) else (0 : Int32)))]) := fun t k => K246 _ (st247 _ k)
    have K248 : own_K p e below SE T247 (mkF m 125 #[.val (.int p0), .val (.long q1), .second, .val (.int (6 : Int32)), .val (.ref b225), .val (.ref bt), .val (.int (0 : Int32)), .val (.int (8 : Int32))] [(.long q1), (.int (6 : Int32)), (.int (2 : Int32)), (.ref bt)]) := by
      intro t k
      refine K247 _ ?_
      refine XS.ifNo X247.here hx rfl (hb hby at_117) rfl (XT.i0_eq_f ck1) ?_
      show own_S p e below T247 (mkF m 120 #[.val (.int p0), .val (.long q1), .second, .val (.int (6 : Int32)), .val (.ref b225), .val (.ref bt), .val (.int (0 : Int32)), .val (.int (8 : Int32))] []) _
      refine XS.aload X247.here hx rfl (hb hby at_120) rfl rfl ?_
      show own_S p e below T247 (mkF m 122 #[.val (.int p0), .val (.long q1), .second, .val (.int (6 : Int32)), .val (.ref b225), .val (.ref bt), .val (.int (0 : Int32)), .val (.int (8 : Int32))] [(.ref bt)]) _
      refine XS.iconst X247.here hx rfl (hb hby at_122) ?_
      show own_S p e below T247 (mkF m 123 #[.val (.int p0), .val (.long q1), .second, .val (.int (6 : Int32)), .val (.ref b225), .val (.ref bt), .val (.int (0 : Int32)), .val (.int (8 : Int32))] [(.int (2 : Int32)), (.ref bt)]) _
      refine XS.iloadN X247.here hx rfl (hb hby at_123) rfl ?_
      show own_S p e below T247 (mkF m 124 #[.val (.int p0), .val (.long q1), .second, .val (.int (6 : Int32)), .val (.ref b225), .val (.ref bt), .val (.int (0 : Int32)), .val (.int (8 : Int32))] [(.int (6 : Int32)), (.int (2 : Int32)), (.ref bt)]) _
      refine XS.lloadN X247.here hx rfl (hb hby at_124) rfl ?_
      exact k
    have sx2 : (((((((ub0 &&& (255 : Int32)) <<< ((16 : Int32) &&& 31)) ||| ((ub1 &&& (255 : Int32)) <<< ((8 : Int32) &&& 31))) ||| (ub2 &&& (255 : Int32))).toUInt32 >>> ((6 : Int32) &&& 31).toUInt32).toInt32) &&& (63 : Int32)) = own_sx q1 (6 : Int32) ((2 : Int32) / (4 : Int32)) ((2 : Int32) % (4 : Int32)) := by
      have h1 := own_i2 _ _ _ _ (own_m255 ub0) (own_m255 ub1) (own_m255 ub2) (own_x3i ub0 ub1 ub2)
      have o0 : (ub0 &&& (255 : Int32)) = own_oct q1 (0 : Int32) (6 : Int32) := by rw [hub0]; exact own_eo q1 (0 : Int32) (6 : Int32) (by decide)
      have o1 : (ub1 &&& (255 : Int32)) = own_oct q1 (1 : Int32) (6 : Int32) := by rw [hub1]; exact own_eo q1 (1 : Int32) (6 : Int32) (by decide)
      have o2 : (ub2 &&& (255 : Int32)) = own_oct q1 (2 : Int32) (6 : Int32) := by rw [hub2]; exact own_eo q1 (2 : Int32) (6 : Int32) (by decide)
      rw [h1]
      unfold own_sx
      rw [show ((2 : Int32) / (4 : Int32)) = (0 : Int32) by decide, show ((2 : Int32) % (4 : Int32)) = (2 : Int32) by decide, show ((3 : Int32) * (0 : Int32)) = (0 : Int32) by decide, show ((0 : Int32) + (1 : Int32)) = (1 : Int32) by decide, show ((0 : Int32) + (2 : Int32)) = (2 : Int32) by decide]
      rw [if_neg (by decide), if_neg (by decide), if_pos (by decide), ← o1, ← o2]
    have ck2 : ¬ (if (atv cA (((((((ub0 &&& (255 : Int32)) <<< ((16 : Int32) &&& 31)) ||| ((ub1 &&& (255 : Int32)) <<< ((8 : Int32) &&& 31))) ||| (ub2 &&& (255 : Int32))).toUInt32 >>> ((6 : Int32) &&& 31).toUInt32).toInt32) &&& (63 : Int32))).toInt8.toInt32 = ((own_ch (own_sx q1 (6 : Int32) ((2 : Int32) / (4 : Int32)) ((2 : Int32) % (4 : Int32))))).toInt8.toInt32 then (1 : Int32) else (0 : Int32)) = 0 := own_one (own_chk hAL (own_b63 _) sx2)
    obtain ⟨_, _, ⟨T249, L249, k249, n249⟩, -, X249, ⟨Lc249, hQ249, l249, y249, z249⟩, st249⟩ := Jvm.LawKit.callS X247 hx (y := (⟨"com/example/whorl/whorl/Base64urlTextPinLaw", "chk", "([BIIJ)Z"⟩ : MethodName)) hown (mvT hZ (hw _ (List.mem_of_getElem? (i := 13) rfl))) (mvT hZ (hw _ (List.mem_of_getElem? (i := 14) rfl))) (mvT hZ (hw _ (List.mem_of_getElem? (i := 4) rfl))) (mvT hZ (hw _ (List.mem_of_getElem? (i := 15) rfl))) (by decide) (backOf (W := 0) (rm3y l Z a0 hw [] bt (2 : Int32) (6 : Int32) q1 kT (8 : Int32) _ ((atv cA (((((((ub0 &&& (255 : Int32)) <<< ((16 : Int32) &&& 31)) ||| ((ub1 &&& (255 : Int32)) <<< ((8 : Int32) &&& 31))) ||| (ub2 &&& (255 : Int32))).toUInt32 >>> ((6 : Int32) &&& 31).toUInt32).toInt32) &&& (63 : Int32))).toInt8.toInt32) T239.heap n0 (Nat.le_trans Z0 Kp239.1) VT (by decide) (by decide) rfl) hZ (hw _ (List.mem_of_getElem? (i := 15) rfl)) (hw _ (List.mem_of_getElem? (i := 4) rfl)) (by decide) (by decide)) (g := (mkF m 125 #[.val (.int p0), .val (.long q1), .second, .val (.int (6 : Int32)), .val (.ref b225), .val (.ref bt), .val (.int (0 : Int32)), .val (.int (8 : Int32))] [(.long q1), (.int (6 : Int32)), (.int (2 : Int32)), (.ref bt)])) rfl (by rw [hml]; rfl) (argsL := [(.ref bt), (.int (2 : Int32)), (.int (6 : Int32)), (.long q1)]) (rest := []) (lenOf pd_0_2 rfl) rfl (by show 2 * 0 + _ ≤ _; exact Nat.le_of_eq rfl) (hb hby at_125) (fun _ _ => ⟨rfl, e247, (by decide : 2 + 0 ≤ _), (by decide : 14 + 0 ≤ _)⟩)
    dsimp only [Pt.U, Pt.locs, Pt.cells, Pt.slots] at X249 l249 y249 z249 st249 hQ249
    rw [y249, z249] at X249
    obtain ⟨rfl, Nq249, e249⟩ := hQ249
    have N249 : Fr n0 L249 := by rw [l249]; exact Fr.app N247 Nq249
    have K249 : own_K p e below SE T249 (mkF m 128 #[.val (.int p0), .val (.long q1), .second, .val (.int (6 : Int32)), .val (.ref b225), .val (.ref bt), .val (.int (0 : Int32)), .val (.int (8 : Int32))] [(.int (if (atv cA (((((((ub0 &&& (255 : Int32)) <<< ((16 : Int32) &&& 31)) ||| ((ub1 &&& (255 : Int32)) <<< ((8 : Int32) &&& 31))) ||| (ub2 &&& (255 : Int32))).toUInt32 >>> ((6 : Int32) &&& 31).toUInt32).toInt32) &&& (63 : Int32))).toInt8.toInt32 = ((own_ch (own_sx q1 (6 : Int32) ((2 : Int32) / (4 : Int32)) ((2 : Int32) % (4 : Int32))))).toInt8.toInt32 then (1 : Int32) else (0 : Int32)))]) := fun t k => K248 _ (st249 _ k)
    have K250 : own_K p e below SE T249 (mkF m 136 #[.val (.int p0), .val (.long q1), .second, .val (.int (6 : Int32)), .val (.ref b225), .val (.ref bt), .val (.int (0 : Int32)), .val (.int (8 : Int32))] [(.long q1), (.int (6 : Int32)), (.int (3 : Int32)), (.ref bt)]) := by
      intro t k
      refine K249 _ ?_
      refine XS.ifNo X249.here hx rfl (hb hby at_128) rfl (XT.i0_eq_f ck2) ?_
      show own_S p e below T249 (mkF m 131 #[.val (.int p0), .val (.long q1), .second, .val (.int (6 : Int32)), .val (.ref b225), .val (.ref bt), .val (.int (0 : Int32)), .val (.int (8 : Int32))] []) _
      refine XS.aload X249.here hx rfl (hb hby at_131) rfl rfl ?_
      show own_S p e below T249 (mkF m 133 #[.val (.int p0), .val (.long q1), .second, .val (.int (6 : Int32)), .val (.ref b225), .val (.ref bt), .val (.int (0 : Int32)), .val (.int (8 : Int32))] [(.ref bt)]) _
      refine XS.iconst X249.here hx rfl (hb hby at_133) ?_
      show own_S p e below T249 (mkF m 134 #[.val (.int p0), .val (.long q1), .second, .val (.int (6 : Int32)), .val (.ref b225), .val (.ref bt), .val (.int (0 : Int32)), .val (.int (8 : Int32))] [(.int (3 : Int32)), (.ref bt)]) _
      refine XS.iloadN X249.here hx rfl (hb hby at_134) rfl ?_
      show own_S p e below T249 (mkF m 135 #[.val (.int p0), .val (.long q1), .second, .val (.int (6 : Int32)), .val (.ref b225), .val (.ref bt), .val (.int (0 : Int32)), .val (.int (8 : Int32))] [(.int (6 : Int32)), (.int (3 : Int32)), (.ref bt)]) _
      refine XS.lloadN X249.here hx rfl (hb hby at_135) rfl ?_
      exact k
    have sx3 : (((((ub0 &&& (255 : Int32)) <<< ((16 : Int32) &&& 31)) ||| ((ub1 &&& (255 : Int32)) <<< ((8 : Int32) &&& 31))) ||| (ub2 &&& (255 : Int32))) &&& (63 : Int32)) = own_sx q1 (6 : Int32) ((3 : Int32) / (4 : Int32)) ((3 : Int32) % (4 : Int32)) := by
      have h1 := own_i3 _ _ _ _ (own_m255 ub0) (own_m255 ub1) (own_m255 ub2) (own_x3i ub0 ub1 ub2)
      have o0 : (ub0 &&& (255 : Int32)) = own_oct q1 (0 : Int32) (6 : Int32) := by rw [hub0]; exact own_eo q1 (0 : Int32) (6 : Int32) (by decide)
      have o1 : (ub1 &&& (255 : Int32)) = own_oct q1 (1 : Int32) (6 : Int32) := by rw [hub1]; exact own_eo q1 (1 : Int32) (6 : Int32) (by decide)
      have o2 : (ub2 &&& (255 : Int32)) = own_oct q1 (2 : Int32) (6 : Int32) := by rw [hub2]; exact own_eo q1 (2 : Int32) (6 : Int32) (by decide)
      rw [h1]
      unfold own_sx
      rw [show ((3 : Int32) / (4 : Int32)) = (0 : Int32) by decide, show ((3 : Int32) % (4 : Int32)) = (3 : Int32) by decide, show ((3 : Int32) * (0 : Int32)) = (0 : Int32) by decide, show ((0 : Int32) + (1 : Int32)) = (1 : Int32) by decide, show ((0 : Int32) + (2 : Int32)) = (2 : Int32) by decide]
      rw [if_neg (by decide), if_neg (by decide), if_neg (by decide), ← o2]
    have ck3 : ¬ (if (atv cA (((((ub0 &&& (255 : Int32)) <<< ((16 : Int32) &&& 31)) ||| ((ub1 &&& (255 : Int32)) <<< ((8 : Int32) &&& 31))) ||| (ub2 &&& (255 : Int32))) &&& (63 : Int32))).toInt8.toInt32 = ((own_ch (own_sx q1 (6 : Int32) ((3 : Int32) / (4 : Int32)) ((3 : Int32) % (4 : Int32))))).toInt8.toInt32 then (1 : Int32) else (0 : Int32)) = 0 := own_one (own_chk hAL (own_b63 _) sx3)
    obtain ⟨_, _, ⟨T251, L251, k251, n251⟩, -, X251, ⟨Lc251, hQ251, l251, y251, z251⟩, st251⟩ := Jvm.LawKit.callS X249 hx (y := (⟨"com/example/whorl/whorl/Base64urlTextPinLaw", "chk", "([BIIJ)Z"⟩ : MethodName)) hown (mvT hZ (hw _ (List.mem_of_getElem? (i := 13) rfl))) (mvT hZ (hw _ (List.mem_of_getElem? (i := 14) rfl))) (mvT hZ (hw _ (List.mem_of_getElem? (i := 4) rfl))) (mvT hZ (hw _ (List.mem_of_getElem? (i := 15) rfl))) (by decide) (backOf (W := 0) (rm3y l Z a0 hw [] bt (3 : Int32) (6 : Int32) q1 kT (8 : Int32) _ ((atv cA (((((ub0 &&& (255 : Int32)) <<< ((16 : Int32) &&& 31)) ||| ((ub1 &&& (255 : Int32)) <<< ((8 : Int32) &&& 31))) ||| (ub2 &&& (255 : Int32))) &&& (63 : Int32))).toInt8.toInt32) T239.heap n0 (Nat.le_trans Z0 Kp239.1) VT (by decide) (by decide) rfl) hZ (hw _ (List.mem_of_getElem? (i := 15) rfl)) (hw _ (List.mem_of_getElem? (i := 4) rfl)) (by decide) (by decide)) (g := (mkF m 136 #[.val (.int p0), .val (.long q1), .second, .val (.int (6 : Int32)), .val (.ref b225), .val (.ref bt), .val (.int (0 : Int32)), .val (.int (8 : Int32))] [(.long q1), (.int (6 : Int32)), (.int (3 : Int32)), (.ref bt)])) rfl (by rw [hml]; rfl) (argsL := [(.ref bt), (.int (3 : Int32)), (.int (6 : Int32)), (.long q1)]) (rest := []) (lenOf pd_0_2 rfl) rfl (by show 2 * 0 + _ ≤ _; exact Nat.le_of_eq rfl) (hb hby at_136) (fun _ _ => ⟨rfl, e249, (by decide : 2 + 0 ≤ _), (by decide : 14 + 0 ≤ _)⟩)
    dsimp only [Pt.U, Pt.locs, Pt.cells, Pt.slots] at X251 l251 y251 z251 st251 hQ251
    rw [y251, z251] at X251
    obtain ⟨rfl, Nq251, e251⟩ := hQ251
    have N251 : Fr n0 L251 := by rw [l251]; exact Fr.app N249 Nq251
    have K251 : own_K p e below SE T251 (mkF m 139 #[.val (.int p0), .val (.long q1), .second, .val (.int (6 : Int32)), .val (.ref b225), .val (.ref bt), .val (.int (0 : Int32)), .val (.int (8 : Int32))] [(.int (if (atv cA (((((ub0 &&& (255 : Int32)) <<< ((16 : Int32) &&& 31)) ||| ((ub1 &&& (255 : Int32)) <<< ((8 : Int32) &&& 31))) ||| (ub2 &&& (255 : Int32))) &&& (63 : Int32))).toInt8.toInt32 = ((own_ch (own_sx q1 (6 : Int32) ((3 : Int32) / (4 : Int32)) ((3 : Int32) % (4 : Int32))))).toInt8.toInt32 then (1 : Int32) else (0 : Int32)))]) := fun t k => K250 _ (st251 _ k)
    have K252 : own_K p e below SE T251 (mkF m 147 #[.val (.int p0), .val (.long q1), .second, .val (.int (6 : Int32)), .val (.ref b225), .val (.ref bt), .val (.int (0 : Int32)), .val (.int (8 : Int32))] [(.long q1), (.int (6 : Int32)), (.int (4 : Int32)), (.ref bt)]) := by
      intro t k
      refine K251 _ ?_
      refine XS.ifNo X251.here hx rfl (hb hby at_139) rfl (XT.i0_eq_f ck3) ?_
      show own_S p e below T251 (mkF m 142 #[.val (.int p0), .val (.long q1), .second, .val (.int (6 : Int32)), .val (.ref b225), .val (.ref bt), .val (.int (0 : Int32)), .val (.int (8 : Int32))] []) _
      refine XS.aload X251.here hx rfl (hb hby at_142) rfl rfl ?_
      show own_S p e below T251 (mkF m 144 #[.val (.int p0), .val (.long q1), .second, .val (.int (6 : Int32)), .val (.ref b225), .val (.ref bt), .val (.int (0 : Int32)), .val (.int (8 : Int32))] [(.ref bt)]) _
      refine XS.iconst X251.here hx rfl (hb hby at_144) ?_
      show own_S p e below T251 (mkF m 145 #[.val (.int p0), .val (.long q1), .second, .val (.int (6 : Int32)), .val (.ref b225), .val (.ref bt), .val (.int (0 : Int32)), .val (.int (8 : Int32))] [(.int (4 : Int32)), (.ref bt)]) _
      refine XS.iloadN X251.here hx rfl (hb hby at_145) rfl ?_
      show own_S p e below T251 (mkF m 146 #[.val (.int p0), .val (.long q1), .second, .val (.int (6 : Int32)), .val (.ref b225), .val (.ref bt), .val (.int (0 : Int32)), .val (.int (8 : Int32))] [(.int (6 : Int32)), (.int (4 : Int32)), (.ref bt)]) _
      refine XS.lloadN X251.here hx rfl (hb hby at_146) rfl ?_
      exact k
    have sx4 : ((((((ub3 &&& (255 : Int32)) <<< ((16 : Int32) &&& 31)) ||| ((ub4 &&& (255 : Int32)) <<< ((8 : Int32) &&& 31))) ||| (ub5 &&& (255 : Int32))).toUInt32 >>> ((18 : Int32) &&& 31).toUInt32).toInt32) = own_sx q1 (6 : Int32) ((4 : Int32) / (4 : Int32)) ((4 : Int32) % (4 : Int32)) := by
      have h1 := own_i0 _ _ _ _ (own_m255 ub3) (own_m255 ub4) (own_m255 ub5) (own_x3i ub3 ub4 ub5)
      have o0 : (ub3 &&& (255 : Int32)) = own_oct q1 (3 : Int32) (6 : Int32) := by rw [hub3]; exact own_eo q1 (3 : Int32) (6 : Int32) (by decide)
      have o1 : (ub4 &&& (255 : Int32)) = own_oct q1 (4 : Int32) (6 : Int32) := by rw [hub4]; exact own_eo q1 (4 : Int32) (6 : Int32) (by decide)
      have o2 : (ub5 &&& (255 : Int32)) = own_oct q1 (5 : Int32) (6 : Int32) := by rw [hub5]; exact own_eo q1 (5 : Int32) (6 : Int32) (by decide)
      rw [h1]
      unfold own_sx
      rw [show ((4 : Int32) / (4 : Int32)) = (1 : Int32) by decide, show ((4 : Int32) % (4 : Int32)) = (0 : Int32) by decide, show ((3 : Int32) * (1 : Int32)) = (3 : Int32) by decide, show ((3 : Int32) + (1 : Int32)) = (4 : Int32) by decide, show ((3 : Int32) + (2 : Int32)) = (5 : Int32) by decide]
      rw [if_pos (by decide), ← o0]
    have ck4 : ¬ (if (atv cA ((((((ub3 &&& (255 : Int32)) <<< ((16 : Int32) &&& 31)) ||| ((ub4 &&& (255 : Int32)) <<< ((8 : Int32) &&& 31))) ||| (ub5 &&& (255 : Int32))).toUInt32 >>> ((18 : Int32) &&& 31).toUInt32).toInt32)).toInt8.toInt32 = ((own_ch (own_sx q1 (6 : Int32) ((4 : Int32) / (4 : Int32)) ((4 : Int32) % (4 : Int32))))).toInt8.toInt32 then (1 : Int32) else (0 : Int32)) = 0 := own_one (own_chk hAL (own_b18 _ (own_xb (own_m255 _) (own_m255 _) (own_m255 _) (own_x3i ub3 ub4 ub5))) sx4)
    obtain ⟨_, _, ⟨T253, L253, k253, n253⟩, -, X253, ⟨Lc253, hQ253, l253, y253, z253⟩, st253⟩ := Jvm.LawKit.callS X251 hx (y := (⟨"com/example/whorl/whorl/Base64urlTextPinLaw", "chk", "([BIIJ)Z"⟩ : MethodName)) hown (mvT hZ (hw _ (List.mem_of_getElem? (i := 13) rfl))) (mvT hZ (hw _ (List.mem_of_getElem? (i := 14) rfl))) (mvT hZ (hw _ (List.mem_of_getElem? (i := 4) rfl))) (mvT hZ (hw _ (List.mem_of_getElem? (i := 15) rfl))) (by decide) (backOf (W := 0) (rm3y l Z a0 hw [] bt (4 : Int32) (6 : Int32) q1 kT (8 : Int32) _ ((atv cA ((((((ub3 &&& (255 : Int32)) <<< ((16 : Int32) &&& 31)) ||| ((ub4 &&& (255 : Int32)) <<< ((8 : Int32) &&& 31))) ||| (ub5 &&& (255 : Int32))).toUInt32 >>> ((18 : Int32) &&& 31).toUInt32).toInt32)).toInt8.toInt32) T239.heap n0 (Nat.le_trans Z0 Kp239.1) VT (by decide) (by decide) rfl) hZ (hw _ (List.mem_of_getElem? (i := 15) rfl)) (hw _ (List.mem_of_getElem? (i := 4) rfl)) (by decide) (by decide)) (g := (mkF m 147 #[.val (.int p0), .val (.long q1), .second, .val (.int (6 : Int32)), .val (.ref b225), .val (.ref bt), .val (.int (0 : Int32)), .val (.int (8 : Int32))] [(.long q1), (.int (6 : Int32)), (.int (4 : Int32)), (.ref bt)])) rfl (by rw [hml]; rfl) (argsL := [(.ref bt), (.int (4 : Int32)), (.int (6 : Int32)), (.long q1)]) (rest := []) (lenOf pd_0_2 rfl) rfl (by show 2 * 0 + _ ≤ _; exact Nat.le_of_eq rfl) (hb hby at_147) (fun _ _ => ⟨rfl, e251, (by decide : 2 + 0 ≤ _), (by decide : 14 + 0 ≤ _)⟩)
    dsimp only [Pt.U, Pt.locs, Pt.cells, Pt.slots] at X253 l253 y253 z253 st253 hQ253
    rw [y253, z253] at X253
    obtain ⟨rfl, Nq253, e253⟩ := hQ253
    have N253 : Fr n0 L253 := by rw [l253]; exact Fr.app N251 Nq253
    have K253 : own_K p e below SE T253 (mkF m 150 #[.val (.int p0), .val (.long q1), .second, .val (.int (6 : Int32)), .val (.ref b225), .val (.ref bt), .val (.int (0 : Int32)), .val (.int (8 : Int32))] [(.int (if (atv cA ((((((ub3 &&& (255 : Int32)) <<< ((16 : Int32) &&& 31)) ||| ((ub4 &&& (255 : Int32)) <<< ((8 : Int32) &&& 31))) ||| (ub5 &&& (255 : Int32))).toUInt32 >>> ((18 : Int32) &&& 31).toUInt32).toInt32)).toInt8.toInt32 = ((own_ch (own_sx q1 (6 : Int32) ((4 : Int32) / (4 : Int32)) ((4 : Int32) % (4 : Int32))))).toInt8.toInt32 then (1 : Int32) else (0 : Int32)))]) := fun t k => K252 _ (st253 _ k)
    have K254 : own_K p e below SE T253 (mkF m 158 #[.val (.int p0), .val (.long q1), .second, .val (.int (6 : Int32)), .val (.ref b225), .val (.ref bt), .val (.int (0 : Int32)), .val (.int (8 : Int32))] [(.long q1), (.int (6 : Int32)), (.int (5 : Int32)), (.ref bt)]) := by
      intro t k
      refine K253 _ ?_
      refine XS.ifNo X253.here hx rfl (hb hby at_150) rfl (XT.i0_eq_f ck4) ?_
      show own_S p e below T253 (mkF m 153 #[.val (.int p0), .val (.long q1), .second, .val (.int (6 : Int32)), .val (.ref b225), .val (.ref bt), .val (.int (0 : Int32)), .val (.int (8 : Int32))] []) _
      refine XS.aload X253.here hx rfl (hb hby at_153) rfl rfl ?_
      show own_S p e below T253 (mkF m 155 #[.val (.int p0), .val (.long q1), .second, .val (.int (6 : Int32)), .val (.ref b225), .val (.ref bt), .val (.int (0 : Int32)), .val (.int (8 : Int32))] [(.ref bt)]) _
      refine XS.iconst X253.here hx rfl (hb hby at_155) ?_
      show own_S p e below T253 (mkF m 156 #[.val (.int p0), .val (.long q1), .second, .val (.int (6 : Int32)), .val (.ref b225), .val (.ref bt), .val (.int (0 : Int32)), .val (.int (8 : Int32))] [(.int (5 : Int32)), (.ref bt)]) _
      refine XS.iloadN X253.here hx rfl (hb hby at_156) rfl ?_
      show own_S p e below T253 (mkF m 157 #[.val (.int p0), .val (.long q1), .second, .val (.int (6 : Int32)), .val (.ref b225), .val (.ref bt), .val (.int (0 : Int32)), .val (.int (8 : Int32))] [(.int (6 : Int32)), (.int (5 : Int32)), (.ref bt)]) _
      refine XS.lloadN X253.here hx rfl (hb hby at_157) rfl ?_
      exact k
    have sx5 : (((((((ub3 &&& (255 : Int32)) <<< ((16 : Int32) &&& 31)) ||| ((ub4 &&& (255 : Int32)) <<< ((8 : Int32) &&& 31))) ||| (ub5 &&& (255 : Int32))).toUInt32 >>> ((12 : Int32) &&& 31).toUInt32).toInt32) &&& (63 : Int32)) = own_sx q1 (6 : Int32) ((5 : Int32) / (4 : Int32)) ((5 : Int32) % (4 : Int32)) := by
      have h1 := own_i1 _ _ _ _ (own_m255 ub3) (own_m255 ub4) (own_m255 ub5) (own_x3i ub3 ub4 ub5)
      have o0 : (ub3 &&& (255 : Int32)) = own_oct q1 (3 : Int32) (6 : Int32) := by rw [hub3]; exact own_eo q1 (3 : Int32) (6 : Int32) (by decide)
      have o1 : (ub4 &&& (255 : Int32)) = own_oct q1 (4 : Int32) (6 : Int32) := by rw [hub4]; exact own_eo q1 (4 : Int32) (6 : Int32) (by decide)
      have o2 : (ub5 &&& (255 : Int32)) = own_oct q1 (5 : Int32) (6 : Int32) := by rw [hub5]; exact own_eo q1 (5 : Int32) (6 : Int32) (by decide)
      rw [h1]
      unfold own_sx
      rw [show ((5 : Int32) / (4 : Int32)) = (1 : Int32) by decide, show ((5 : Int32) % (4 : Int32)) = (1 : Int32) by decide, show ((3 : Int32) * (1 : Int32)) = (3 : Int32) by decide, show ((3 : Int32) + (1 : Int32)) = (4 : Int32) by decide, show ((3 : Int32) + (2 : Int32)) = (5 : Int32) by decide]
      rw [if_neg (by decide), if_pos (by decide), ← o0, ← o1]
    have ck5 : ¬ (if (atv cA (((((((ub3 &&& (255 : Int32)) <<< ((16 : Int32) &&& 31)) ||| ((ub4 &&& (255 : Int32)) <<< ((8 : Int32) &&& 31))) ||| (ub5 &&& (255 : Int32))).toUInt32 >>> ((12 : Int32) &&& 31).toUInt32).toInt32) &&& (63 : Int32))).toInt8.toInt32 = ((own_ch (own_sx q1 (6 : Int32) ((5 : Int32) / (4 : Int32)) ((5 : Int32) % (4 : Int32))))).toInt8.toInt32 then (1 : Int32) else (0 : Int32)) = 0 := own_one (own_chk hAL (own_b63 _) sx5)
    obtain ⟨_, _, ⟨T255, L255, k255, n255⟩, -, X255, ⟨Lc255, hQ255, l255, y255, z255⟩, st255⟩ := Jvm.LawKit.callS X253 hx (y := (⟨"com/example/whorl/whorl/Base64urlTextPinLaw", "chk", "([BIIJ)Z"⟩ : MethodName)) hown (mvT hZ (hw _ (List.mem_of_getElem? (i := 13) rfl))) (mvT hZ (hw _ (List.mem_of_getElem? (i := 14) rfl))) (mvT hZ (hw _ (List.mem_of_getElem? (i := 4) rfl))) (mvT hZ (hw _ (List.mem_of_getElem? (i := 15) rfl))) (by decide) (backOf (W := 0) (rm3y l Z a0 hw [] bt (5 : Int32) (6 : Int32) q1 kT (8 : Int32) _ ((atv cA (((((((ub3 &&& (255 : Int32)) <<< ((16 : Int32) &&& 31)) ||| ((ub4 &&& (255 : Int32)) <<< ((8 : Int32) &&& 31))) ||| (ub5 &&& (255 : Int32))).toUInt32 >>> ((12 : Int32) &&& 31).toUInt32).toInt32) &&& (63 : Int32))).toInt8.toInt32) T239.heap n0 (Nat.le_trans Z0 Kp239.1) VT (by decide) (by decide) rfl) hZ (hw _ (List.mem_of_getElem? (i := 15) rfl)) (hw _ (List.mem_of_getElem? (i := 4) rfl)) (by decide) (by decide)) (g := (mkF m 158 #[.val (.int p0), .val (.long q1), .second, .val (.int (6 : Int32)), .val (.ref b225), .val (.ref bt), .val (.int (0 : Int32)), .val (.int (8 : Int32))] [(.long q1), (.int (6 : Int32)), (.int (5 : Int32)), (.ref bt)])) rfl (by rw [hml]; rfl) (argsL := [(.ref bt), (.int (5 : Int32)), (.int (6 : Int32)), (.long q1)]) (rest := []) (lenOf pd_0_2 rfl) rfl (by show 2 * 0 + _ ≤ _; exact Nat.le_of_eq rfl) (hb hby at_158) (fun _ _ => ⟨rfl, e253, (by decide : 2 + 0 ≤ _), (by decide : 14 + 0 ≤ _)⟩)
    dsimp only [Pt.U, Pt.locs, Pt.cells, Pt.slots] at X255 l255 y255 z255 st255 hQ255
    rw [y255, z255] at X255
    obtain ⟨rfl, Nq255, e255⟩ := hQ255
    have N255 : Fr n0 L255 := by rw [l255]; exact Fr.app N253 Nq255
    have K255 : own_K p e below SE T255 (mkF m 161 #[.val (.int p0), .val (.long q1), .second, .val (.int (6 : Int32)), .val (.ref b225), .val (.ref bt), .val (.int (0 : Int32)), .val (.int (8 : Int32))] [(.int (if (atv cA (((((((ub3 &&& (255 : Int32)) <<< ((16 : Int32) &&& 31)) ||| ((ub4 &&& (255 : Int32)) <<< ((8 : Int32) &&& 31))) ||| (ub5 &&& (255 : Int32))).toUInt32 >>> ((12 : Int32) &&& 31).toUInt32).toInt32) &&& (63 : Int32))).toInt8.toInt32 = ((own_ch (own_sx q1 (6 : Int32) ((5 : Int32) / (4 : Int32)) ((5 : Int32) % (4 : Int32))))).toInt8.toInt32 then (1 : Int32) else (0 : Int32)))]) := fun t k => K254 _ (st255 _ k)
    have K256 : own_K p e below SE T255 (mkF m 170 #[.val (.int p0), .val (.long q1), .second, .val (.int (6 : Int32)), .val (.ref b225), .val (.ref bt), .val (.int (0 : Int32)), .val (.int (8 : Int32))] [(.long q1), (.int (6 : Int32)), (.int (6 : Int32)), (.ref bt)]) := by
      intro t k
      refine K255 _ ?_
      refine XS.ifNo X255.here hx rfl (hb hby at_161) rfl (XT.i0_eq_f ck5) ?_
      show own_S p e below T255 (mkF m 164 #[.val (.int p0), .val (.long q1), .second, .val (.int (6 : Int32)), .val (.ref b225), .val (.ref bt), .val (.int (0 : Int32)), .val (.int (8 : Int32))] []) _
      refine XS.aload X255.here hx rfl (hb hby at_164) rfl rfl ?_
      show own_S p e below T255 (mkF m 166 #[.val (.int p0), .val (.long q1), .second, .val (.int (6 : Int32)), .val (.ref b225), .val (.ref bt), .val (.int (0 : Int32)), .val (.int (8 : Int32))] [(.ref bt)]) _
      refine XS.bipush X255.here hx rfl (hb hby at_166) ?_
      show own_S p e below T255 (mkF m 168 #[.val (.int p0), .val (.long q1), .second, .val (.int (6 : Int32)), .val (.ref b225), .val (.ref bt), .val (.int (0 : Int32)), .val (.int (8 : Int32))] [(.int (6 : Int32)), (.ref bt)]) _
      refine XS.iloadN X255.here hx rfl (hb hby at_168) rfl ?_
      show own_S p e below T255 (mkF m 169 #[.val (.int p0), .val (.long q1), .second, .val (.int (6 : Int32)), .val (.ref b225), .val (.ref bt), .val (.int (0 : Int32)), .val (.int (8 : Int32))] [(.int (6 : Int32)), (.int (6 : Int32)), (.ref bt)]) _
      refine XS.lloadN X255.here hx rfl (hb hby at_169) rfl ?_
      exact k
    have sx6 : (((((((ub3 &&& (255 : Int32)) <<< ((16 : Int32) &&& 31)) ||| ((ub4 &&& (255 : Int32)) <<< ((8 : Int32) &&& 31))) ||| (ub5 &&& (255 : Int32))).toUInt32 >>> ((6 : Int32) &&& 31).toUInt32).toInt32) &&& (63 : Int32)) = own_sx q1 (6 : Int32) ((6 : Int32) / (4 : Int32)) ((6 : Int32) % (4 : Int32)) := by
      have h1 := own_i2 _ _ _ _ (own_m255 ub3) (own_m255 ub4) (own_m255 ub5) (own_x3i ub3 ub4 ub5)
      have o0 : (ub3 &&& (255 : Int32)) = own_oct q1 (3 : Int32) (6 : Int32) := by rw [hub3]; exact own_eo q1 (3 : Int32) (6 : Int32) (by decide)
      have o1 : (ub4 &&& (255 : Int32)) = own_oct q1 (4 : Int32) (6 : Int32) := by rw [hub4]; exact own_eo q1 (4 : Int32) (6 : Int32) (by decide)
      have o2 : (ub5 &&& (255 : Int32)) = own_oct q1 (5 : Int32) (6 : Int32) := by rw [hub5]; exact own_eo q1 (5 : Int32) (6 : Int32) (by decide)
      rw [h1]
      unfold own_sx
      rw [show ((6 : Int32) / (4 : Int32)) = (1 : Int32) by decide, show ((6 : Int32) % (4 : Int32)) = (2 : Int32) by decide, show ((3 : Int32) * (1 : Int32)) = (3 : Int32) by decide, show ((3 : Int32) + (1 : Int32)) = (4 : Int32) by decide, show ((3 : Int32) + (2 : Int32)) = (5 : Int32) by decide]
      rw [if_neg (by decide), if_neg (by decide), if_pos (by decide), ← o1, ← o2]
    have ck6 : ¬ (if (atv cA (((((((ub3 &&& (255 : Int32)) <<< ((16 : Int32) &&& 31)) ||| ((ub4 &&& (255 : Int32)) <<< ((8 : Int32) &&& 31))) ||| (ub5 &&& (255 : Int32))).toUInt32 >>> ((6 : Int32) &&& 31).toUInt32).toInt32) &&& (63 : Int32))).toInt8.toInt32 = ((own_ch (own_sx q1 (6 : Int32) ((6 : Int32) / (4 : Int32)) ((6 : Int32) % (4 : Int32))))).toInt8.toInt32 then (1 : Int32) else (0 : Int32)) = 0 := own_one (own_chk hAL (own_b63 _) sx6)
    obtain ⟨_, _, ⟨T257, L257, k257, n257⟩, -, X257, ⟨Lc257, hQ257, l257, y257, z257⟩, st257⟩ := Jvm.LawKit.callS X255 hx (y := (⟨"com/example/whorl/whorl/Base64urlTextPinLaw", "chk", "([BIIJ)Z"⟩ : MethodName)) hown (mvT hZ (hw _ (List.mem_of_getElem? (i := 13) rfl))) (mvT hZ (hw _ (List.mem_of_getElem? (i := 14) rfl))) (mvT hZ (hw _ (List.mem_of_getElem? (i := 4) rfl))) (mvT hZ (hw _ (List.mem_of_getElem? (i := 15) rfl))) (by decide) (backOf (W := 0) (rm3y l Z a0 hw [] bt (6 : Int32) (6 : Int32) q1 kT (8 : Int32) _ ((atv cA (((((((ub3 &&& (255 : Int32)) <<< ((16 : Int32) &&& 31)) ||| ((ub4 &&& (255 : Int32)) <<< ((8 : Int32) &&& 31))) ||| (ub5 &&& (255 : Int32))).toUInt32 >>> ((6 : Int32) &&& 31).toUInt32).toInt32) &&& (63 : Int32))).toInt8.toInt32) T239.heap n0 (Nat.le_trans Z0 Kp239.1) VT (by decide) (by decide) rfl) hZ (hw _ (List.mem_of_getElem? (i := 15) rfl)) (hw _ (List.mem_of_getElem? (i := 4) rfl)) (by decide) (by decide)) (g := (mkF m 170 #[.val (.int p0), .val (.long q1), .second, .val (.int (6 : Int32)), .val (.ref b225), .val (.ref bt), .val (.int (0 : Int32)), .val (.int (8 : Int32))] [(.long q1), (.int (6 : Int32)), (.int (6 : Int32)), (.ref bt)])) rfl (by rw [hml]; rfl) (argsL := [(.ref bt), (.int (6 : Int32)), (.int (6 : Int32)), (.long q1)]) (rest := []) (lenOf pd_0_2 rfl) rfl (by show 2 * 0 + _ ≤ _; exact Nat.le_of_eq rfl) (hb hby at_170) (fun _ _ => ⟨rfl, e255, (by decide : 2 + 0 ≤ _), (by decide : 14 + 0 ≤ _)⟩)
    dsimp only [Pt.U, Pt.locs, Pt.cells, Pt.slots] at X257 l257 y257 z257 st257 hQ257
    rw [y257, z257] at X257
    obtain ⟨rfl, Nq257, e257⟩ := hQ257
    have N257 : Fr n0 L257 := by rw [l257]; exact Fr.app N255 Nq257
    have K257 : own_K p e below SE T257 (mkF m 173 #[.val (.int p0), .val (.long q1), .second, .val (.int (6 : Int32)), .val (.ref b225), .val (.ref bt), .val (.int (0 : Int32)), .val (.int (8 : Int32))] [(.int (if (atv cA (((((((ub3 &&& (255 : Int32)) <<< ((16 : Int32) &&& 31)) ||| ((ub4 &&& (255 : Int32)) <<< ((8 : Int32) &&& 31))) ||| (ub5 &&& (255 : Int32))).toUInt32 >>> ((6 : Int32) &&& 31).toUInt32).toInt32) &&& (63 : Int32))).toInt8.toInt32 = ((own_ch (own_sx q1 (6 : Int32) ((6 : Int32) / (4 : Int32)) ((6 : Int32) % (4 : Int32))))).toInt8.toInt32 then (1 : Int32) else (0 : Int32)))]) := fun t k => K256 _ (st257 _ k)
    have K258 : own_K p e below SE T257 (mkF m 182 #[.val (.int p0), .val (.long q1), .second, .val (.int (6 : Int32)), .val (.ref b225), .val (.ref bt), .val (.int (0 : Int32)), .val (.int (8 : Int32))] [(.long q1), (.int (6 : Int32)), (.int (7 : Int32)), (.ref bt)]) := by
      intro t k
      refine K257 _ ?_
      refine XS.ifNo X257.here hx rfl (hb hby at_173) rfl (XT.i0_eq_f ck6) ?_
      show own_S p e below T257 (mkF m 176 #[.val (.int p0), .val (.long q1), .second, .val (.int (6 : Int32)), .val (.ref b225), .val (.ref bt), .val (.int (0 : Int32)), .val (.int (8 : Int32))] []) _
      refine XS.aload X257.here hx rfl (hb hby at_176) rfl rfl ?_
      show own_S p e below T257 (mkF m 178 #[.val (.int p0), .val (.long q1), .second, .val (.int (6 : Int32)), .val (.ref b225), .val (.ref bt), .val (.int (0 : Int32)), .val (.int (8 : Int32))] [(.ref bt)]) _
      refine XS.bipush X257.here hx rfl (hb hby at_178) ?_
      show own_S p e below T257 (mkF m 180 #[.val (.int p0), .val (.long q1), .second, .val (.int (6 : Int32)), .val (.ref b225), .val (.ref bt), .val (.int (0 : Int32)), .val (.int (8 : Int32))] [(.int (7 : Int32)), (.ref bt)]) _
      refine XS.iloadN X257.here hx rfl (hb hby at_180) rfl ?_
      show own_S p e below T257 (mkF m 181 #[.val (.int p0), .val (.long q1), .second, .val (.int (6 : Int32)), .val (.ref b225), .val (.ref bt), .val (.int (0 : Int32)), .val (.int (8 : Int32))] [(.int (6 : Int32)), (.int (7 : Int32)), (.ref bt)]) _
      refine XS.lloadN X257.here hx rfl (hb hby at_181) rfl ?_
      exact k
    have sx7 : (((((ub3 &&& (255 : Int32)) <<< ((16 : Int32) &&& 31)) ||| ((ub4 &&& (255 : Int32)) <<< ((8 : Int32) &&& 31))) ||| (ub5 &&& (255 : Int32))) &&& (63 : Int32)) = own_sx q1 (6 : Int32) ((7 : Int32) / (4 : Int32)) ((7 : Int32) % (4 : Int32)) := by
      have h1 := own_i3 _ _ _ _ (own_m255 ub3) (own_m255 ub4) (own_m255 ub5) (own_x3i ub3 ub4 ub5)
      have o0 : (ub3 &&& (255 : Int32)) = own_oct q1 (3 : Int32) (6 : Int32) := by rw [hub3]; exact own_eo q1 (3 : Int32) (6 : Int32) (by decide)
      have o1 : (ub4 &&& (255 : Int32)) = own_oct q1 (4 : Int32) (6 : Int32) := by rw [hub4]; exact own_eo q1 (4 : Int32) (6 : Int32) (by decide)
      have o2 : (ub5 &&& (255 : Int32)) = own_oct q1 (5 : Int32) (6 : Int32) := by rw [hub5]; exact own_eo q1 (5 : Int32) (6 : Int32) (by decide)
      rw [h1]
      unfold own_sx
      rw [show ((7 : Int32) / (4 : Int32)) = (1 : Int32) by decide, show ((7 : Int32) % (4 : Int32)) = (3 : Int32) by decide, show ((3 : Int32) * (1 : Int32)) = (3 : Int32) by decide, show ((3 : Int32) + (1 : Int32)) = (4 : Int32) by decide, show ((3 : Int32) + (2 : Int32)) = (5 : Int32) by decide]
      rw [if_neg (by decide), if_neg (by decide), if_neg (by decide), ← o2]
    have ck7 : ¬ (if (atv cA (((((ub3 &&& (255 : Int32)) <<< ((16 : Int32) &&& 31)) ||| ((ub4 &&& (255 : Int32)) <<< ((8 : Int32) &&& 31))) ||| (ub5 &&& (255 : Int32))) &&& (63 : Int32))).toInt8.toInt32 = ((own_ch (own_sx q1 (6 : Int32) ((7 : Int32) / (4 : Int32)) ((7 : Int32) % (4 : Int32))))).toInt8.toInt32 then (1 : Int32) else (0 : Int32)) = 0 := own_one (own_chk hAL (own_b63 _) sx7)
    obtain ⟨_, _, ⟨T259, L259, k259, n259⟩, -, X259, ⟨Lc259, hQ259, l259, y259, z259⟩, st259⟩ := Jvm.LawKit.callS X257 hx (y := (⟨"com/example/whorl/whorl/Base64urlTextPinLaw", "chk", "([BIIJ)Z"⟩ : MethodName)) hown (mvT hZ (hw _ (List.mem_of_getElem? (i := 13) rfl))) (mvT hZ (hw _ (List.mem_of_getElem? (i := 14) rfl))) (mvT hZ (hw _ (List.mem_of_getElem? (i := 4) rfl))) (mvT hZ (hw _ (List.mem_of_getElem? (i := 15) rfl))) (by decide) (backOf (W := 0) (rm3y l Z a0 hw [] bt (7 : Int32) (6 : Int32) q1 kT (8 : Int32) _ ((atv cA (((((ub3 &&& (255 : Int32)) <<< ((16 : Int32) &&& 31)) ||| ((ub4 &&& (255 : Int32)) <<< ((8 : Int32) &&& 31))) ||| (ub5 &&& (255 : Int32))) &&& (63 : Int32))).toInt8.toInt32) T239.heap n0 (Nat.le_trans Z0 Kp239.1) VT (by decide) (by decide) rfl) hZ (hw _ (List.mem_of_getElem? (i := 15) rfl)) (hw _ (List.mem_of_getElem? (i := 4) rfl)) (by decide) (by decide)) (g := (mkF m 182 #[.val (.int p0), .val (.long q1), .second, .val (.int (6 : Int32)), .val (.ref b225), .val (.ref bt), .val (.int (0 : Int32)), .val (.int (8 : Int32))] [(.long q1), (.int (6 : Int32)), (.int (7 : Int32)), (.ref bt)])) rfl (by rw [hml]; rfl) (argsL := [(.ref bt), (.int (7 : Int32)), (.int (6 : Int32)), (.long q1)]) (rest := []) (lenOf pd_0_2 rfl) rfl (by show 2 * 0 + _ ≤ _; exact Nat.le_of_eq rfl) (hb hby at_182) (fun _ _ => ⟨rfl, e257, (by decide : 2 + 0 ≤ _), (by decide : 14 + 0 ≤ _)⟩)
    dsimp only [Pt.U, Pt.locs, Pt.cells, Pt.slots] at X259 l259 y259 z259 st259 hQ259
    rw [y259, z259] at X259
    obtain ⟨rfl, Nq259, e259⟩ := hQ259
    have N259 : Fr n0 L259 := by rw [l259]; exact Fr.app N257 Nq259
    have K259 : own_K p e below SE T259 (mkF m 185 #[.val (.int p0), .val (.long q1), .second, .val (.int (6 : Int32)), .val (.ref b225), .val (.ref bt), .val (.int (0 : Int32)), .val (.int (8 : Int32))] [(.int (if (atv cA (((((ub3 &&& (255 : Int32)) <<< ((16 : Int32) &&& 31)) ||| ((ub4 &&& (255 : Int32)) <<< ((8 : Int32) &&& 31))) ||| (ub5 &&& (255 : Int32))) &&& (63 : Int32))).toInt8.toInt32 = ((own_ch (own_sx q1 (6 : Int32) ((7 : Int32) / (4 : Int32)) ((7 : Int32) % (4 : Int32))))).toInt8.toInt32 then (1 : Int32) else (0 : Int32)))]) := fun t k => K258 _ (st259 _ k)
    have K260 : own_K p e below SE T259 (mkF m 193 #[.val (.int p0), .val (.long q1), .second, .val (.int (6 : Int32)), .val (.ref b225), .val (.ref bt), .val (.int (0 : Int32)), .val (.int (8 : Int32))] [(.int (1 : Int32))]) := by
      intro t k
      refine K259 _ ?_
      refine XS.ifNo X259.here hx rfl (hb hby at_185) rfl (XT.i0_eq_f ck7) ?_
      show own_S p e below T259 (mkF m 188 #[.val (.int p0), .val (.long q1), .second, .val (.int (6 : Int32)), .val (.ref b225), .val (.ref bt), .val (.int (0 : Int32)), .val (.int (8 : Int32))] []) _
      refine XS.iconst X259.here hx rfl (hb hby at_188) ?_
      show own_S p e below T259 (mkF m 189 #[.val (.int p0), .val (.long q1), .second, .val (.int (6 : Int32)), .val (.ref b225), .val (.ref bt), .val (.int (0 : Int32)), .val (.int (8 : Int32))] [(.int (1 : Int32))]) _
      refine XS.goto X259.here hx rfl (pc0 := 189) (pc' := 193) rfl (hb hby at_189) (by decide) (by decide) ?_
      exact k
    obtain ⟨fs, hr, hrun, hended, hW, hsame⟩ := X259.leave (v := some (.int (1 : Int32))) (fun h => by rw [Bd.returns] at h; cases h)
    refine ⟨_, _, K260 _ ?_, hrun, hended, _, _, rfl, ?_, ⟨_, rfl⟩, hW, hsame.mono (by decide) (by decide)⟩
    · exact retN X259 hx (t := .boolean) Bd.returns (by simp) (hb hby at_193) hr
    · show Q0 Z p0 q1 oAL cA h0 n0 _ T259.heap _
      rw [e259]
      exact ⟨rfl, N259⟩
theorem own_len {args : Array Value} {s : State} {t : Term} {x : Addr} {cl : Cell} {z : Int32} (ht : t.eval args s none [] s = some (.ref x)) (ha : s.arrayAt? x = some cl) (h : (Term.length t).eval args s none [] s = some (.int z)) : cl.slots.size < 2 ^ 31 ∧ cl.slots.size.toInt32 = z := by
  simp [Term.eval, ht, ha] at h
  exact h
theorem own_all {args : Array Value} {s : State} {T : Term} {oc : Addr} {cc : Cell} {ty : FieldType} {q : Jvm.Cond} (evc : T.eval args s none [] s = some (.ref oc)) (AC : Arr s s.heap oc cc ty) (hall : (Jvm.Cond.all T q).value args s none s [] = some true) {j : Int32} (hj : ¬ (j < 0 ∨ cc.slots.size ≤ j.toNatClampNeg)) : q.value args s none s [j.toNatClampNeg] = some true :=
  Cond.all_elim evc (IntBox.arrayAt_of AC.1 AC.2.1 AC.2.2) hall _ (Nat.lt_of_not_le fun q => hj (Or.inr q))
theorem own_plain (j v : Int32) (h0 : 0 ≤ j.toInt) (h64 : j.toInt < 64) (a1 : j.toInt < 26 → v.toInt = j.toInt + 65) (a2 : 26 ≤ j.toInt → j.toInt < 52 → v.toInt = j.toInt + 71) (a3 : 52 ≤ j.toInt → j.toInt < 62 → v.toInt = j.toInt - 4) (a4 : j.toInt = 62 → v.toInt = 45) (a5 : j.toInt = 63 → v.toInt = 95) : v = (own_ch j).toInt8.toInt32 := by
  have t : ∀ k : Fin 64, ((own_ch (Int32.ofNat k.val)).toInt8.toInt32).toInt = if k.val < 26 then (k.val : Int) + 65 else if k.val < 52 then (k.val : Int) + 71 else if k.val < 62 then (k.val : Int) - 4 else if k.val = 62 then 45 else 95 := by decide +kernel
  obtain ⟨k, hk⟩ : ∃ k : Nat, j.toInt = k := ⟨j.toInt.toNat, by omega⟩
  have hj : j = Int32.ofNat k := by
    apply Int32.toInt_inj.mp
    rw [hk, Int32.toInt_ofNat_of_lt (by omega)]
  have := t ⟨k, by omega⟩
  apply Int32.toInt_inj.mp
  rw [hj, this]
  simp only
  repeat' split
  all_goals omega
theorem own_hAL {args : Array Value} {s : State} {oAL : Addr} {cA : Cell} {C n d : String} (evAL : (Term.static C n d).eval args s none [] s = some (.ref oAL)) (AA : Arr s s.heap oAL cA .byte) (hln : cA.slots.size.toInt32 = (64 : Int32)) (hsz : cA.slots.size < 2 ^ 31) (TA : Tab s s.heap oAL cA .byte (64 : Int32))
    (h2 : (Jvm.Cond.all (.static C n d) (.or (.le (.int 26) (.index 0)) (.eq (.op1 .i2l (.elem (.static C n d) (.index 0))) (.op2 .ladd (.op1 .i2l (.index 0)) (.long 65))))).value args s none s [] = some true)
    (h3 : (Jvm.Cond.all (.static C n d) (.or (.lt (.index 0) (.int 26)) (.or (.le (.int 52) (.index 0)) (.eq (.op1 .i2l (.elem (.static C n d) (.index 0))) (.op2 .ladd (.op1 .i2l (.index 0)) (.long 71)))))).value args s none s [] = some true)
    (h4 : (Jvm.Cond.all (.static C n d) (.or (.lt (.index 0) (.int 52)) (.or (.le (.int 62) (.index 0)) (.eq (.elem (.static C n d) (.index 0)) (.sub (.index 0) (.int 4)))))).value args s none s [] = some true)
    (h5 : (Jvm.Cond.eq (.elem (.static C n d) (.int 62)) (.int 45)).value args s none s [] = some true)
    (h6 : (Jvm.Cond.eq (.elem (.static C n d) (.int 63)) (.int 95)).value args s none s [] = some true) :
    ∀ j : Int32, ¬ j < 0 → j < (64 : Int32) → atv cA j = (own_ch j).toInt8.toInt32 := by
  intro j hj0 hj64
  obtain ⟨-, S, -, H⟩ := TA
  have hin : ¬ (j < 0 ∨ cA.slots.size ≤ j.toNatClampNeg) := inb_of S ⟨hj0, hj64⟩
  have hat := H j hin
  have b := back32 hj0
  have hs : (Term.static C n d).eval args s none [j.toNatClampNeg] s = some (.ref oAL) := by rw [← evAL]; simp only [Term.eval]
  have hi : (Term.index 0).eval args s none [j.toNatClampNeg] s = some (.int j) := by simp [Term.eval, b.1, b.2]
  have hel : (Term.elem (.static C n d) (.index 0)).eval args s none [j.toNatClampNeg] s = some (.int (atv cA j)) := by
    rw [elem_f hs hi (IntBox.arrayAt_of AA.1 AA.2.1 AA.2.2) hj0]; exact hat
  have q2 := own_all evAL AA h2 hin
  have q3 := own_all evAL AA h3 hin
  have q4 := own_all evAL AA h4 hin
  have c26 : (26 : Int32).toInt = 26 := by decide
  have c52 : (52 : Int32).toInt = 52 := by decide
  have c62 : (62 : Int32).toInt = 62 := by decide
  have c64 : (64 : Int32).toInt = 64 := by decide
  have c0 : (0 : Int32).toInt = 0 := by decide
  have k65 : (65 : Int64).toInt = 65 := by decide
  have k71 : (71 : Int64).toInt = 71 := by decide
  have k4 : (4 : Int32).toInt = 4 := by decide
  have rv := (atv cA j).toInt_lt
  have rv2 := (atv cA j).le_toInt
  rw [Int32.lt_iff_toInt_lt, c0] at hj0
  rw [Int32.lt_iff_toInt_lt, c64] at hj64
  have e26 : (Term.int 26).eval args s none [j.toNatClampNeg] s = some (.int 26) := Term.int_eval _
  have e52 : (Term.int 52).eval args s none [j.toNatClampNeg] s = some (.int 52) := Term.int_eval _
  have e62 : (Term.int 62).eval args s none [j.toNatClampNeg] s = some (.int 62) := Term.int_eval _
  have el : (Term.op1 .i2l (.elem (.static C n d) (.index 0))).eval args s none [j.toNatClampNeg] s = some (.long (atv cA j).toInt64) := by rw [op1_f hel]; rfl
  have ei : (Term.op1 .i2l (.index 0)).eval args s none [j.toNatClampNeg] s = some (.long j.toInt64) := by rw [op1_f hi]; rfl
  have e65 : (Term.op2 .ladd (.op1 .i2l (.index 0)) (.long 65)).eval args s none [j.toNatClampNeg] s = some (.long (j.toInt64 + 65)) := by rw [op2_f ei (long_at 65)]; rfl
  have e71 : (Term.op2 .ladd (.op1 .i2l (.index 0)) (.long 71)).eval args s none [j.toNatClampNeg] s = some (.long (j.toInt64 + 71)) := by rw [op2_f ei (long_at 71)]; rfl
  have e4 : (Term.sub (.index 0) (.int 4)).eval args s none [j.toNatClampNeg] s = some (.int (j - 4)) := by simp [Term.eval, b.1]
  have l26 : (Jvm.Cond.le (.int 26) (.index 0)).value args s none s [j.toNatClampNeg] = some (decide ((26 : Int32) ≤ j)) := Cond.le_ints e26 hi
  have l52 : (Jvm.Cond.le (.int 52) (.index 0)).value args s none s [j.toNatClampNeg] = some (decide ((52 : Int32) ≤ j)) := Cond.le_ints e52 hi
  have l62 : (Jvm.Cond.le (.int 62) (.index 0)).value args s none s [j.toNatClampNeg] = some (decide ((62 : Int32) ≤ j)) := Cond.le_ints e62 hi
  have t26 : (Jvm.Cond.lt (.index 0) (.int 26)).value args s none s [j.toNatClampNeg] = some (decide (j < (26 : Int32))) := Cond.lt_ints hi e26
  have t52 : (Jvm.Cond.lt (.index 0) (.int 52)).value args s none s [j.toNatClampNeg] = some (decide (j < (52 : Int32))) := Cond.lt_ints hi e52
  have g65 := eq_L el e65
  have g71 := eq_L el e71
  have g4 : (Jvm.Cond.eq (.elem (.static C n d) (.index 0)) (.sub (.index 0) (.int 4))).value args s none s [j.toNatClampNeg] = some (decide (atv cA j = j - 4)) := by simp [Cond.value, hel, e4]
  have or_v : ∀ {a b : Jvm.Cond} {x y : Bool}, a.value args s none s [j.toNatClampNeg] = some x → b.value args s none s [j.toNatClampNeg] = some y → (Jvm.Cond.or a b).value args s none s [j.toNatClampNeg] = some true → (x = true ∨ y = true) := by
    intro a b x y h1 h2 h3
    simp only [Cond.value, h1, h2] at h3
    cases x <;> cases y <;> simp_all
  have or_w : ∀ {a b : Jvm.Cond} {x y : Bool}, a.value args s none s [j.toNatClampNeg] = some x → b.value args s none s [j.toNatClampNeg] = some y → (Jvm.Cond.or a b).value args s none s [j.toNatClampNeg] = some (x || y) := by
    intro a b x y h1 h2
    simp only [Cond.value, h1, h2]
    cases x <;> cases y <;> simp_all
  have r2 := or_v l26 g65 q2
  have r3 := or_v t26 (or_w l52 g71) q3
  have r4 := or_v t52 (or_w l62 g4) q4
  simp only [decide_eq_true_eq, Bool.or_eq_true, Int32.le_iff_toInt_le, Int32.lt_iff_toInt_lt, c26, c52, c62] at r2 r3 r4
  have i64 : j.toInt64.toInt = j.toInt := Jvm.Kit.i64_of_i32 j
  have v64 : (atv cA j).toInt64.toInt = (atv cA j).toInt := Jvm.Kit.i64_of_i32 _
  have s65 : (j.toInt64 + 65).toInt = j.toInt64.toInt + (65 : Int64).toInt := Jvm.Kit.i64_add (by omega) (by omega)
  have s71 : (j.toInt64 + 71).toInt = j.toInt64.toInt + (71 : Int64).toInt := Jvm.Kit.i64_add (by omega) (by omega)
  have s4 : (j - 4).toInt = j.toInt - (4 : Int32).toInt := Jvm.Kit.i32_sub (by omega) (by omega)
  rw [← Int64.toInt_inj] at r2 r3
  rw [← Int32.toInt_inj] at r4
  refine own_plain j (atv cA j) (by omega) hj64 ?_ ?_ ?_ ?_ ?_
  · intro z; omega
  · intro z1 z2; omega
  · intro z1 z2; omega
  · intro z
    have ej : j = 62 := Int32.toInt_inj.mp (by rw [z, c62])
    subst ej
    have w := (elem_in (own_eqI h5) evAL (Term.int_eval _) AA.1).2
    have w2 := atv_of w
    rw [w2]; decide
  · intro z
    have ej : j = 63 := Int32.toInt_inj.mp (by rw [z]; decide)
    subst ej
    have w := (elem_in (own_eqI h6) evAL (Term.int_eval _) AA.1).2
    have w2 := atv_of w
    rw [w2]; decide

set_option maxRecDepth 65536 in
set_option maxHeartbeats 40000000 in
theorem comes_1 {Post : Tables → Env → Array Value → State → Outcome → State → Prop} (hpost : ∀ tb e args s v u, (limb_1_1.after args s (.returned v) u = true ∧ limb_1_2.after args s (.returned v) u = true ∧ True) → FrameEnd s (.returned v) u (Jvm.fieldLocs frame_1_writes args s ++ Jvm.arrayLocs frame_1_arrays args s ++ Jvm.staticLocs frame_1_statics s) 16 128 → Post tb e args s (.returned v) u) :
    ArmFor flags0 classFile x code maxLocals ret World_1 tables_1 room_1 Calls_1 rest_1 Pre_1 Post := by
  intro l hfl _ _ p e ha hc hk s m args below hf hA hF happ hP
  obtain ⟨hcalls, hrest, hpre⟩ := hP
  obtain ⟨-, -, -, hnamed, -, -, -, hat⟩ := (Spec.applies_iff hf).mp happ
  obtain ⟨hg, hn⟩ := and_e (Cond.before_iff.mp (show (Jvm.Cond.and given_1 narrow_1).before args s = true from hpre))
  obtain ⟨hcount, hg0⟩ := and_e hg
  obtain ⟨ha0, hg1⟩ := and_e hg0
  obtain ⟨w0, w1, rfl⟩ : ∃ w0 w1 : Value, args = #[w0, w1] := by
    have hs : args.size = 2 := by simpa [Cond.value, given_1] using hcount
    obtain ⟨L⟩ := args
    match L, hs with
    | [w0, w1], _ => exact ⟨w0, w1, rfl⟩
  have hw := fun d (hd : d ∈ tables_1) => atoms_spec (ws := Jvm.Cond.code x code maxLocals ret :: tables_1) hat d (List.mem_cons_of_mem _ hd)
  have hfit : Fit s := fun {y c} hc i hi => by
    obtain ⟨ha, rfl⟩ := Array.getElem?_eq_some_iff.mp hc
    have q := List.all_eq_true.mp ((Array.all_eq_true_iff_forall_mem.mp hF) _ (Array.getElem_mem ha)) i (List.mem_range.mpr hi)
    simpa [Array.getElem?_eq_getElem hi] using q
  obtain ⟨i0, ei0⟩ := is_v ha0
  obtain rfl : w0 = (.int i0) := Option.some.inj ei0
  obtain ⟨i1, ei1⟩ := isL_v hg1
  obtain rfl : w1 = (.long i1) := Option.some.inj ei1
  obtain ⟨hc0, hcr0⟩ := and_e hn
  obtain ⟨hc1, hcr1⟩ := and_e hcr0
  obtain ⟨hc2, hcr2⟩ := and_e hcr1
  obtain ⟨hc3, hcr3⟩ := and_e hcr2
  obtain ⟨hc4, hcr4⟩ := and_e hcr3
  obtain ⟨hc5, hcr5⟩ := and_e hcr4
  obtain ⟨oAL, evAL⟩ := arr_v hc0
  obtain ⟨cA, AA⟩ := Arr.start evAL hc0
  have SA : Sta s s.heap "com/example/whorl/whorl/Base64url" "ALPHABET" "[B" (.ref oAL) := Sta.start evAL (Or.inr ⟨(hw _ (List.mem_of_getElem? (i := 8) rfl)), (hw _ (List.mem_of_getElem? (i := 17) rfl))⟩)
  obtain ⟨hsz, hln⟩ := own_len evAL (IntBox.arrayAt_of AA.1 AA.2.1 AA.2.2) (own_eqI hc1)
  have TA : Tab s s.heap oAL cA .byte (64 : Int32) := Tab.start hfit AA (Or.inr (Or.inr (Or.inl rfl))) hsz hln (by decide)
  have hAL := own_hAL evAL AA hln hsz TA hc2 hc3 hc4 hc5 hcr5
  obtain ⟨n, o, h1, h2, h3, _, L, rfl, ⟨rfl, N⟩, hq⟩ := rm0 l s _ hw tables_1 i0 i1 oAL cA s.heap s.heap.size (Nat.le_refl _) SA TA hAL p e ha hc hk s m _ below hf ((Spec.applies_iff_loose hf).mp happ).1 ⟨rfl, State.Warmed39.refl s, rfl⟩ trivial
  refine ⟨n, _, h1, h2, h3, hpost _ _ _ _ _ _ ⟨Cond.after_iff.mpr rfl, Cond.after_iff.mpr (eq_i res_at (Term.int_eval (1)) rfl), trivial⟩ ⟨hq.1, hq.2.1, (hq.2.2.sift fun y hy => Or.inr (N y hy)).mono (by decide) (by decide)⟩⟩
theorem main_1_1 : Claimed_1_1 := comes_1 fun _ _ _ _ _ _ h hF => ⟨h.1, hF⟩
theorem main_1_2 : Claimed_1_2 := comes_1 fun _ _ _ _ _ _ h hF => ⟨h.2.1, hF⟩
end Jvm.Pilot.@@N@@
namespace Jvm.Pilot.@@N@@
open Jvm Jvm.ClassFile Sem Op Lib Jvm.Free Jvm.Stand Jvm.Pilot.@@N@@.Jvm.D
/-! MADE BY PROGRAM (witnessworld.py) out of the Statement's table words and the real class files: 9 classes; the members and pool entries that the words name. The judged class is class 1, her method 1. -/
namespace start1
open Jvm.ClassFile
def u (s : String) : CpInfo := .utf8 (stringToUtf16 s)
/-- a pool by its gaps: so many unusable entries, then the entry; so many at the end -/
def gap : Nat → List CpInfo → List CpInfo
  | 0, r => r
  | n + 1, r => .unusable :: gap n r
def poolList (es : List (Nat × CpInfo)) (last : Nat) : List CpInfo := es.foldr (fun e r => gap e.1 (e.2 :: r)) (gap last [])
def pool (es : List (Nat × CpInfo)) (last : Nat) : Array CpInfo := ⟨poolList es last⟩
def fileOf (pool : Array CpInfo) (this : Nat) (attrs : Array Attribute := #[]) (ms : Array MethodInfo := #[]) (fl : Nat := 33) (sup : Nat := 0) (ifs : Array Nat := #[]) (fds : Array FieldInfo := #[]) : ClassFile where
  minorVersion := 0
  majorVersion := 65
  constantPool := pool
  accessFlags := fl
  thisClass := this
  superClass := sup
  interfaces := ifs
  fields := fds
  methods := ms
  attributes := attrs
def plain (name : String) (sup : Option ClassId) : Class where
  name := name
  kind := .ordinary
  loader := none
  accessFlags := 33
  super := sup
  interfaces := #[]
  cf := none
  fields := #[]
  methods := #[]
  instanceTypes := #[]
  staticTypes := #[]
  resolved := #[]
  callSites := []
  init := .initialized
  statics := none
  mirror := none

def pool0 : Array CpInfo := pool [(5, u "<init>"), (0, u "()V"), (1, .class_ 10), (1, u "java/lang/Object")] 113

def k0m0 : Method := { name := "<init>", desc := "()V", sig := { parameters := [], returnType := none }, accessFlags := 1, code := none }
/-- java/lang/Object -/
def k0 : Class := { plain "java/lang/Object" none with
  accessFlags := 33
  interfaces := #[]
  cf := some (fileOf pool0 8 #[] #[{ accessFlags := 1, nameIndex := 5, descriptorIndex := 6, attributes := #[] }] 33 0 #[] #[])
  fields := #[]
  methods := #[k0m0]
  instanceTypes := #[]
  staticTypes := #[]
  resolved := Array.replicate 124 none
  statics := none }

def pool1 : Array CpInfo := pool [(2, .class_ 4), (1, u "java/lang/Object"), (0, u "<init>"), (0, u "()V"), (0, .integer 2147483647), (0, .methodref 9 10), (0, .class_ 11), (0, .nameAndType 12 13), (0, u "com/example/whorl/whorl/Base64urlTextPinLaw"), (0, u "put"), (0, u "([BIJ)V"), (0, .methodref 15 16), (0, .class_ 17), (0, .nameAndType 18 19), (0, u "com/example/whorl/whorl/Base64url"), (0, u "text"), (0, u "([B)[B"), (0, .methodref 9 21), (0, .nameAndType 22 23), (0, u "chk"), (0, u "([BIIJ)Z"), (0, .long 255), (1, .methodref 9 27), (0, .nameAndType 28 29), (0, u "oct"), (0, u "(JII)I"), (0, .methodref 9 31), (0, .nameAndType 32 33), (0, u "sextet"), (0, u "(JIII)I"), (0, .methodref 9 35), (0, .nameAndType 36 37), (0, u "ch"), (0, u "(I)I"), (2, u "law"), (0, u "(IJ)Z")] 5

def k1m0 : Method := { name := "<init>", desc := "()V", sig := { parameters := [], returnType := none }, accessFlags := 1, code := none }
def k1c1 : Code := { maxStack := 5, maxLocals := 8, code := code, exceptionTable := #[], attributes := #[] }
def k1m1 : Method := { name := "law", desc := "(IJ)Z", sig := { parameters := [.int, .long], returnType := some .boolean }, accessFlags := 9, code := some k1c1 }
def k1c2 : Code := { maxStack := 6, maxLocals := 4, code := method_3_code, exceptionTable := #[], attributes := #[] }
def k1m2 : Method := { name := "put", desc := "([BIJ)V", sig := { parameters := [(.array .byte), .int, .long], returnType := none }, accessFlags := 10, code := some k1c2 }
def k1c3 : Code := { maxStack := 4, maxLocals := 4, code := method_4_code, exceptionTable := #[], attributes := #[] }
def k1m3 : Method := { name := "oct", desc := "(JII)I", sig := { parameters := [.long, .int, .int], returnType := some .int }, accessFlags := 10, code := some k1c3 }
def k1c4 : Code := { maxStack := 4, maxLocals := 8, code := method_5_code, exceptionTable := #[], attributes := #[] }
def k1m4 : Method := { name := "sextet", desc := "(JIII)I", sig := { parameters := [.long, .int, .int, .int], returnType := some .int }, accessFlags := 10, code := some k1c4 }
def k1c5 : Code := { maxStack := 3, maxLocals := 1, code := method_6_code, exceptionTable := #[], attributes := #[] }
def k1m5 : Method := { name := "ch", desc := "(I)I", sig := { parameters := [.int], returnType := some .int }, accessFlags := 10, code := some k1c5 }
def k1c6 : Code := { maxStack := 6, maxLocals := 6, code := method_7_code, exceptionTable := #[], attributes := #[] }
def k1m6 : Method := { name := "chk", desc := "([BIIJ)Z", sig := { parameters := [(.array .byte), .int, .int, .long], returnType := some .boolean }, accessFlags := 10, code := some k1c6 }
/-- com/example/whorl/whorl/Base64urlTextPinLaw -/
def k1 : Class := { plain "com/example/whorl/whorl/Base64urlTextPinLaw" (some 0) with
  accessFlags := 49
  interfaces := #[]
  cf := some (fileOf pool1 9 #[] #[{ accessFlags := 1, nameIndex := 5, descriptorIndex := 6, attributes := #[] }, { accessFlags := 9, nameIndex := 40, descriptorIndex := 41, attributes := #[] }, { accessFlags := 10, nameIndex := 12, descriptorIndex := 13, attributes := #[] }, { accessFlags := 10, nameIndex := 28, descriptorIndex := 29, attributes := #[] }, { accessFlags := 10, nameIndex := 32, descriptorIndex := 33, attributes := #[] }, { accessFlags := 10, nameIndex := 36, descriptorIndex := 37, attributes := #[] }, { accessFlags := 10, nameIndex := 22, descriptorIndex := 23, attributes := #[] }] 49 2 #[] #[])
  fields := #[]
  methods := #[k1m0, k1m1, k1m2, k1m3, k1m4, k1m5, k1m6]
  instanceTypes := #[]
  staticTypes := #[]
  resolved := Array.replicate 47 none
  statics := none }

def pool2 : Array CpInfo := pool [(2, .class_ 4), (1, u "java/lang/Object"), (0, u "<init>"), (0, u "()V"), (3, .class_ 12), (1, u "com/example/whorl/whorl/Base64url"), (0, u "text"), (0, u "([B)[B"), (9, .long 4), (1, .long 2), (1, .long 3), (1, .fieldref 10 31), (0, .nameAndType 32 33), (0, u "ALPHABET"), (0, u "[B"), (15, .class_ 50), (0, u "com/example/whorl/whorl/Base64url$NotBase64urlException"), (24, u "PAD_BITS"), (0, u "[I"), (4, u "SEXTETS")] 42

def k2m0 : Method := { name := "<init>", desc := "()V", sig := { parameters := [], returnType := none }, accessFlags := 2, code := none }
def k2c1 : Code := { maxStack := 5, maxLocals := 6, code := prog_1_method_3_code, exceptionTable := #[], attributes := #[] }
def k2m1 : Method := { name := "text", desc := "([B)[B", sig := { parameters := [(.array .byte)], returnType := some (.array .byte) }, accessFlags := 8, code := some k2c1 }
/-- com/example/whorl/whorl/Base64url -/
def k2 : Class := { plain "com/example/whorl/whorl/Base64url" (some 0) with
  accessFlags := 48
  interfaces := #[]
  cf := some (fileOf pool2 10 #[.nestMembers #[49]] #[{ accessFlags := 2, nameIndex := 5, descriptorIndex := 6, attributes := #[] }, { accessFlags := 8, nameIndex := 13, descriptorIndex := 14, attributes := #[] }] 48 2 #[] #[{ accessFlags := 26, nameIndex := 32, descriptorIndex := 33, attributes := #[] }, { accessFlags := 26, nameIndex := 75, descriptorIndex := 76, attributes := #[] }, { accessFlags := 26, nameIndex := 81, descriptorIndex := 33, attributes := #[] }])
  fields := #[{ name := "ALPHABET", type := (.array .byte), accessFlags := 26, slot := 0, constantValue := 0 }, { name := "PAD_BITS", type := (.array .int), accessFlags := 26, slot := 1, constantValue := 0 }, { name := "SEXTETS", type := (.array .byte), accessFlags := 26, slot := 2, constantValue := 0 }]
  methods := #[k2m0, k2m1]
  instanceTypes := #[]
  staticTypes := #[(.array .byte), (.array .int), (.array .byte)]
  resolved := Array.replicate 124 none
  statics := some 0 }

def pool3 : Array CpInfo := pool [(1, u "java/lang/Cloneable"), (0, .class_ 1), (0, u "java/lang/Object"), (0, .class_ 3)] 3

/-- java/lang/Cloneable -/
def k3 : Class := { plain "java/lang/Cloneable" (some 0) with
  accessFlags := 1537
  interfaces := #[]
  cf := some (fileOf pool3 2 #[] #[] 1537 4 #[] #[])
  fields := #[]
  methods := #[]
  instanceTypes := #[]
  staticTypes := #[]
  resolved := Array.replicate 8 none
  statics := none }

def pool4 : Array CpInfo := pool [(1, u "java/io/Serializable"), (0, .class_ 1), (0, u "java/lang/Object"), (0, .class_ 3)] 3

/-- java/io/Serializable -/
def k4 : Class := { plain "java/io/Serializable" (some 0) with
  accessFlags := 1537
  interfaces := #[]
  cf := some (fileOf pool4 2 #[] #[] 1537 4 #[] #[])
  fields := #[]
  methods := #[]
  instanceTypes := #[]
  staticTypes := #[]
  resolved := Array.replicate 8 none
  statics := none }

/-- the primitive byte -/
def k5 : Class := { plain "byte" none with kind := .primitive 'B', accessFlags := 0x411 }
/-- [B -/
def k6 : Class := { plain "[B" (some 0) with kind := .array 5 .byte, interfaces := #[3, 4], accessFlags := 1041 }

/-- the primitive int -/
def k7 : Class := { plain "int" none with kind := .primitive 'I', accessFlags := 0x411 }
/-- [I -/
def k8 : Class := { plain "[I" (some 0) with kind := .array 7 .int, interfaces := #[3, 4], accessFlags := 1041 }

def heap : Heap := #[{ cls := 2, slots := #[.ref 1, .null, .null], vm := .statics 2 },
  { cls := 6, slots := #[.int 65, .int 66, .int 67, .int 68, .int 69, .int 70, .int 71, .int 72, .int 73, .int 74, .int 75, .int 76, .int 77, .int 78, .int 79, .int 80, .int 81, .int 82, .int 83, .int 84, .int 85, .int 86, .int 87, .int 88, .int 89, .int 90, .int 97, .int 98, .int 99, .int 100, .int 101, .int 102, .int 103, .int 104, .int 105, .int 106, .int 107, .int 108, .int 109, .int 110, .int 111, .int 112, .int 113, .int 114, .int 115, .int 116, .int 117, .int 118, .int 119, .int 120, .int 121, .int 122, .int 48, .int 49, .int 50, .int 51, .int 52, .int 53, .int 54, .int 55, .int 56, .int 57, .int 45, .int 95], vm := .none }]
def classes : Array Class := #[k0, k1, k2, k3, k4, k5, k6, k7, k8]
def interned : List (Array UInt16 × Addr) := []
def slotsUsed : Nat := 67
def theMethod : MethodId := ⟨1, 1⟩
def args0 : Array Value := #[.int 5, .long 6]
def aboutOver (below : List Frame) : State where
  vm := { classes := classes, interned := interned.toArray }
  heap := heap
  slotsUsed := slotsUsed
  threads := #[{ frames := .invoking theMethod args0 :: below }]
def below0 : List Frame := [.native { method := ⟨0, 0⟩, args := #[] }]
def about1 : State := aboutOver below0
def p0 : Program := .bare "" "" ""
def e0 : Env := launch0.env 0 0 0
theorem w_frames : about1.frames = Frame.invoking theMethod args0 :: below0 := rfl
set_option maxRecDepth 65536 in
theorem w_args : argsFit about1.vm theMethod args0 = true := by decide +kernel
set_option maxRecDepth 65536 in
theorem w_heap : heapFits about1 = true := by decide +kernel
set_option maxRecDepth 65536 in
theorem w_runnable : about1.curStatus? = some .runnable := by decide +kernel
set_option maxRecDepth 65536 in
theorem w_alone : about1.alone = true := by decide +kernel
set_option maxRecDepth 65536 in
theorem w_named : about1.methodNamed? x = some theMethod := by decide +kernel
set_option maxRecDepth 65536 in
theorem w_hears : about1.hears theMethod below0 = true := by decide +kernel
set_option maxRecDepth 65536 in
theorem w_ripe : about1.ripe theMethod args0 below0 = true := by decide +kernel
theorem w_running : about1.status = .running := rfl
set_option maxRecDepth 65536 in
theorem w_room : about1.hasRoom e0.platform room_1 = true :=
  launch0.hasRoom_least _ room_1 (by decide +kernel) (by decide +kernel) (by decide +kernel) (by decide +kernel) (by decide +kernel) (by decide +kernel)
theorem allAtoms_all (ts : List Jvm.Cond) (a : Array Jvm.Value) (st : Jvm.State) : (allAtoms ts).before a st = ts.all (fun c => c.before a st) := by
  induction ts with
  | nil => rfl
  | cons c t ih =>
    show (Jvm.Cond.and c (allAtoms t)).before a st = _
    rw [Jvm.Cond.before_and, ih, List.all_cons]
def words1 : List Jvm.Cond := Jvm.Cond.code x code maxLocals ret :: tables_1
/-- a 'code' word, met by the world's own term for the bytes: nothing is compared byte by byte -/
theorem code_word {y : MethodName} {bytes : ByteArray} {mx : Nat} {rt : Option FieldType} {a : Array Value} {s : State} {m : MethodId} {meth : Method} {c : Code} (h1 : s.methodNamed? y = some m) (h2 : s.vm.method? m = some meth) (h3 : meth.code = some c) (h4 : c.code = bytes)
    (h5 : (c.maxLocals == mx && c.exceptionTable.isEmpty && decide (c.maxStack ≤ mostOperands) && decide (meth.sig.returnType = rt) && !meth.locks && decide (parseMethodDescriptor y.desc = some meth.sig)) = true) : (Jvm.Cond.code y bytes mx rt).before a s = true := by
  simp only [Bool.and_eq_true, beq_iff_eq, Bool.not_eq_true', decide_eq_true_eq] at h5
  obtain ⟨⟨⟨⟨⟨g1, g2⟩, g3⟩, g4⟩, g5⟩, g6⟩ := h5
  simp [Cond.before, Cond.holds, Cond.value, h1, h2, h3, h4, g1, g2, g3, g4, g5, g6]
def isCode : Jvm.Cond → Bool
  | .code _ _ _ _ => true
  | _ => false
theorem all_split {L : List Jvm.Cond} {P : Jvm.Cond → Bool} (h1 : L.all (fun c => isCode c || P c) = true) (h2 : ∀ c ∈ L.filter isCode, P c = true) : L.all P = true := by
  refine List.all_eq_true.mpr fun c hc => ?_
  have h := List.all_eq_true.mp h1 c hc
  rcases Bool.eq_false_or_eq_true (isCode c) with hi | hi
  · exact h2 c (List.mem_filter.mpr ⟨hc, hi⟩)
  · simpa [hi] using h
set_option maxRecDepth 65536 in
theorem w_c0 : (Jvm.Cond.code x code maxLocals ret).before args0 about1 = true := code_word (m := ⟨1, 1⟩) (meth := k1m1) (c := k1c1) (by decide +kernel) rfl rfl rfl (by decide +kernel)
set_option maxRecDepth 65536 in
theorem w_c1 : (Jvm.Cond.code ({ cls := "com/example/whorl/whorl/Base64urlTextPinLaw", name := "put", desc := "([BIJ)V" } : Jvm.MethodName) method_3_code (4 : Nat) (Option.none : Option Jvm.ClassFile.FieldType)).before args0 about1 = true := code_word (m := ⟨1, 2⟩) (meth := k1m2) (c := k1c2) (by decide +kernel) rfl rfl rfl (by decide +kernel)
set_option maxRecDepth 65536 in
theorem w_c2 : (Jvm.Cond.code ({ cls := "com/example/whorl/whorl/Base64url", name := "text", desc := "([B)[B" } : Jvm.MethodName) prog_1_method_3_code (6 : Nat) (Option.some (Jvm.ClassFile.FieldType.array Jvm.ClassFile.FieldType.byte))).before args0 about1 = true := code_word (m := ⟨2, 1⟩) (meth := k2m1) (c := k2c1) (by decide +kernel) rfl rfl rfl (by decide +kernel)
set_option maxRecDepth 65536 in
theorem w_c3 : (Jvm.Cond.code ({ cls := "com/example/whorl/whorl/Base64urlTextPinLaw", name := "chk", desc := "([BIIJ)Z" } : Jvm.MethodName) method_7_code (6 : Nat) (Option.some Jvm.ClassFile.FieldType.boolean)).before args0 about1 = true := code_word (m := ⟨1, 6⟩) (meth := k1m6) (c := k1c6) (by decide +kernel) rfl rfl rfl (by decide +kernel)
set_option maxRecDepth 65536 in
theorem w_c4 : (Jvm.Cond.code ({ cls := "com/example/whorl/whorl/Base64urlTextPinLaw", name := "sextet", desc := "(JIII)I" } : Jvm.MethodName) method_5_code (8 : Nat) (Option.some Jvm.ClassFile.FieldType.int)).before args0 about1 = true := code_word (m := ⟨1, 4⟩) (meth := k1m4) (c := k1c4) (by decide +kernel) rfl rfl rfl (by decide +kernel)
set_option maxRecDepth 65536 in
theorem w_c5 : (Jvm.Cond.code ({ cls := "com/example/whorl/whorl/Base64urlTextPinLaw", name := "oct", desc := "(JII)I" } : Jvm.MethodName) method_4_code (4 : Nat) (Option.some Jvm.ClassFile.FieldType.int)).before args0 about1 = true := code_word (m := ⟨1, 3⟩) (meth := k1m3) (c := k1c3) (by decide +kernel) rfl rfl rfl (by decide +kernel)
set_option maxRecDepth 65536 in
theorem w_c6 : (Jvm.Cond.code ({ cls := "com/example/whorl/whorl/Base64urlTextPinLaw", name := "ch", desc := "(I)I" } : Jvm.MethodName) method_6_code (1 : Nat) (Option.some Jvm.ClassFile.FieldType.int)).before args0 about1 = true := code_word (m := ⟨1, 5⟩) (meth := k1m5) (c := k1c5) (by decide +kernel) rfl rfl rfl (by decide +kernel)
def codes1 : List Jvm.Cond := [Jvm.Cond.code x code maxLocals ret, Jvm.Cond.code ({ cls := "com/example/whorl/whorl/Base64urlTextPinLaw", name := "put", desc := "([BIJ)V" } : Jvm.MethodName) method_3_code (4 : Nat) (Option.none : Option Jvm.ClassFile.FieldType), Jvm.Cond.code ({ cls := "com/example/whorl/whorl/Base64url", name := "text", desc := "([B)[B" } : Jvm.MethodName) prog_1_method_3_code (6 : Nat) (Option.some (Jvm.ClassFile.FieldType.array Jvm.ClassFile.FieldType.byte)), Jvm.Cond.code ({ cls := "com/example/whorl/whorl/Base64urlTextPinLaw", name := "chk", desc := "([BIIJ)Z" } : Jvm.MethodName) method_7_code (6 : Nat) (Option.some Jvm.ClassFile.FieldType.boolean), Jvm.Cond.code ({ cls := "com/example/whorl/whorl/Base64urlTextPinLaw", name := "sextet", desc := "(JIII)I" } : Jvm.MethodName) method_5_code (8 : Nat) (Option.some Jvm.ClassFile.FieldType.int), Jvm.Cond.code ({ cls := "com/example/whorl/whorl/Base64urlTextPinLaw", name := "oct", desc := "(JII)I" } : Jvm.MethodName) method_4_code (4 : Nat) (Option.some Jvm.ClassFile.FieldType.int), Jvm.Cond.code ({ cls := "com/example/whorl/whorl/Base64urlTextPinLaw", name := "ch", desc := "(I)I" } : Jvm.MethodName) method_6_code (1 : Nat) (Option.some Jvm.ClassFile.FieldType.int)]
set_option maxRecDepth 65536 in
theorem codes_eq : words1.filter isCode = codes1 := rfl
theorem w_codes : ∀ c ∈ words1.filter isCode, c.before args0 about1 = true := by
  rw [codes_eq]
  intro c hc
  simp only [codes1, List.mem_cons, List.not_mem_nil, or_false] at hc
  rcases hc with rfl | rfl | rfl | rfl | rfl | rfl | rfl
  · exact w_c0
  · exact w_c1
  · exact w_c2
  · exact w_c3
  · exact w_c4
  · exact w_c5
  · exact w_c6
set_option maxRecDepth 65536 in
theorem w_t1 : (words1.take 24).all (fun c => isCode c || c.before args0 about1) = true := by decide +kernel
set_option maxRecDepth 65536 in
theorem w_t2 : (words1.drop 24).all (fun c => isCode c || c.before args0 about1) = true := by decide +kernel
theorem w_tables : (allAtoms (Jvm.Cond.code x code maxLocals ret :: tables_1)).before args0 about1 = true := by
  rw [allAtoms_all]
  show words1.all (fun c => c.before args0 about1) = true
  refine all_split ?_ w_codes
  rw [← List.take_append_drop 24 words1, List.all_append, w_t1, w_t2]
  rfl
set_option maxRecDepth 65536 in
theorem w_case : (Jvm.Cond.and given_1 narrow_1).before args0 about1 = true := by decide +kernel
theorem w_applies : (headSpec (Jvm.Cond.code x code maxLocals ret :: tables_1) room_1).applies x e0.platform about1 = true :=
  (Spec.applies_iff w_frames).mpr ⟨w_running, w_runnable, w_alone, w_named, w_hears, w_ripe, w_room, w_tables⟩
theorem atStart : AtStart classFile x code maxLocals ret World_1 tables_1 room_1 Calls_1 rest_1 Pre_1 launch0 p0 e0 about1 theMethod args0 below0 :=
  ⟨lists_1, trivial, launch0.admits_env _ _ _, launch0.least_env, fairChoices_fair.cas, fairChoices_fair.clock, w_frames, w_args, w_heap, w_applies, trivial, trivial, w_case⟩
end start1
theorem witness_1 : WitnessClaimed_1 := ⟨start1.p0, start1.e0, start1.about1, start1.theMethod, start1.args0, start1.below0, start1.atStart⟩
end Jvm.Pilot.@@N@@
