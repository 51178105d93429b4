import PyProof.Rows.All
import Wide.All
import OpenK.AllK
import Wide.FinOn
import PySem.Challenge.RW_ta0142_02
set_option Elab.async false
set_option maxRecDepth 100000
set_option linter.all false
section
open PySem PySem.W PyProof.Rows
local macro_rules | `(tactic| walk_at $s:str) => `(tactic| k_extra $s)
section
open PySem PySem.W PyProof.Rows
set_option maxHeartbeats 8000000
open_top hd for PySem.Challenge.rw_ta0142_02

end
section
open PySem PySem.W PyProof.Rows PySem.Calls PySem.Spec
namespace Mine
/-! sizes -/
def Sz (x : Int) (k : Nat) : Prop := x.natAbs < 2 ^ k
theorem bits_of_sz {x : Int} {k : Nat} (h : Sz x k) : Builtin.Int.intBits x ≤ k := by
  unfold Builtin.Int.intBits
  split
  · omega
  · rename_i h0
    have hx : x.natAbs ≠ 0 := by intro e; apply h0; simp only [beq_iff_eq]; omega
    have := (Nat.log2_lt hx).mpr h
    omega
theorem sz_of_bits {x : Int} {k : Nat} (h : Builtin.Int.intBits x ≤ k) : Sz x k := by
  unfold Builtin.Int.intBits at h
  unfold Sz
  by_cases h0 : x = 0
  · subst h0; exact Nat.pow_pos (by decide)
  · have hx : x.natAbs ≠ 0 := by omega
    rw [if_neg (by simpa using h0)] at h
    exact (Nat.log2_lt hx).mp (by omega)
theorem Sz.mono {x : Int} {k l : Nat} (h : Sz x k) (hl : k ≤ l) : Sz x l := Nat.lt_of_lt_of_le h (Nat.pow_le_pow_right (by decide) hl)
theorem Sz.mul {x y : Int} {k l : Nat} (h : Sz x k) (g : Sz y l) : Sz (x * y) (k + l) := by
  unfold Sz at *
  rw [Int.natAbs_mul, Nat.pow_add]
  exact Nat.mul_lt_mul'' h g
theorem Sz.add {x y : Int} {k l : Nat} (h : Sz x k) (g : Sz y l) : Sz (x + y) (max k l + 1) := by
  have h' := Sz.mono h (Nat.le_max_left k l)
  have g' := Sz.mono g (Nat.le_max_right k l)
  unfold Sz at *
  rw [Nat.pow_succ]
  omega
theorem Sz.neg {x : Int} {k : Nat} (h : Sz x k) : Sz (-x) k := by unfold Sz at *; omega
theorem Sz.sub {x y : Int} {k l : Nat} (h : Sz x k) (g : Sz y l) : Sz (x - y) (max k l + 1) := by
  have := Sz.add h (Sz.neg g); rwa [← Int.sub_eq_add_neg] at this
theorem sz_le {x : Int} {k : Nat} (h0 : 0 ≤ x) (h : x < 2 ^ k) : Sz x k := by
  unfold Sz
  have e : ((2 ^ k : Nat) : Int) = (2 : Int) ^ k := by simp
  omega
theorem sz_abs {x : Int} {k : Nat} (h0 : -(2 ^ k) < x) (h : x < 2 ^ k) : Sz x k := by
  unfold Sz
  have e : ((2 ^ k : Nat) : Int) = (2 : Int) ^ k := by simp
  omega
theorem Sz.lt {x : Int} {k : Nat} (h : Sz x k) : x < 2 ^ k ∧ -(2 ^ k) < x := by
  unfold Sz at h
  have e : ((2 ^ k : Nat) : Int) = (2 : Int) ^ k := by simp
  omega
theorem Sz.of_le {x y : Int} {k : Nat} (h : Sz y k) (hx : x.natAbs ≤ y.natAbs) : Sz x k := Nat.lt_of_le_of_lt hx h
theorem sz_one {k : Nat} (h : 1 ≤ k) : Sz 1 k := Sz.mono (k := 1) (by unfold Sz; decide) h
theorem shl_ok {a n : Int} {k : Nat} (h : Sz a k) (hk : (k : Int) + n ≤ 134217728) : (Builtin.Int.intBits a : Int) + n ≤ 2 ^ 27 := by
  have := bits_of_sz h
  have e : (2 : Int) ^ 27 = 134217728 := by decide
  omega
theorem mul_ok {a b : Int} {k l : Nat} (h : Sz a k) (g : Sz b l) (hk : k + l ≤ 134217728) : IntMulOk a b := by
  have h1 := bits_of_sz h
  have h2 := bits_of_sz g
  have e : Builtin.Int.intTooBig (Builtin.Int.intBits a + Builtin.Int.intBits b) = false := by
    unfold Builtin.Int.intTooBig bitsLine
    have e : (2 : Nat) ^ 27 = 134217728 := by decide
    exact decide_eq_false (by omega)
  unfold IntMulOk
  rw [e]
  simp
theorem pow_pos (k : Nat) : (0 : Int) < 2 ^ k := Int.pow_pos (by decide)
theorem pow_add (k l : Nat) : (2 : Int) ^ (k + l) = 2 ^ k * 2 ^ l := Int.pow_add ..
theorem pow_le {k l : Nat} (h : k ≤ l) : (2 : Int) ^ k ≤ 2 ^ l := by
  have := Nat.pow_le_pow_right (n := 2) (by decide) h
  have e : ∀ k : Nat, ((2 ^ k : Nat) : Int) = (2 : Int) ^ k := by simp
  have e1 := e k
  have e2 := e l
  omega
end Mine

end
section
open PySem PySem.W PyProof.Rows PySem.Calls PySem.Spec
namespace Mine
/-! bits -/
theorem bitAnd_nat (x y : Nat) : Builtin.bitAnd (x : Int) (y : Int) = ((x &&& y : Nat) : Int) := by
  unfold Builtin.bitAnd
  have h1 : decide (0 ≤ (x : Int)) = true := decide_eq_true (by omega)
  have h2 : decide (0 ≤ (y : Int)) = true := decide_eq_true (by omega)
  rw [h1, h2]
  rfl
theorem bitOr_nat (x y : Nat) : Builtin.bitOr (x : Int) (y : Int) = ((x ||| y : Nat) : Int) := by
  unfold Builtin.bitOr Builtin.bitAnd
  have h1 : decide (0 ≤ Builtin.bitNot (x : Int)) = false := decide_eq_false (by unfold Builtin.bitNot; omega)
  have h2 : decide (0 ≤ Builtin.bitNot (y : Int)) = false := decide_eq_false (by unfold Builtin.bitNot; omega)
  rw [h1, h2]
  have e : ∀ x : Nat, (Builtin.bitNot (Builtin.bitNot (x : Int))).toNat = x := by intro x; unfold Builtin.bitNot; omega
  show Builtin.bitNot (Builtin.bitNot ((((Builtin.bitNot (Builtin.bitNot (x : Int))).toNat ||| (Builtin.bitNot (Builtin.bitNot (y : Int))).toNat : Nat)) : Int)) = _
  rw [e, e]
  unfold Builtin.bitNot; omega
theorem bitXor_nat (x y : Nat) : Builtin.bitXor (x : Int) (y : Int) = ((x ||| y : Nat) : Int) - ((x &&& y : Nat) : Int) := by
  unfold Builtin.bitXor; rw [bitOr_nat, bitAnd_nat]
theorem natPow (k : Nat) : ((2 ^ k : Nat) : Int) = (2 : Int) ^ k := by simp
theorem bitOr_shl {x y : Int} {k : Nat} (hx : 0 ≤ x) (hy : 0 ≤ y) (hk : y < 2 ^ k) : Builtin.bitOr (x * 2 ^ k) y = x * 2 ^ k + y := by
  obtain ⟨a, rfl⟩ := Int.eq_ofNat_of_zero_le hx
  obtain ⟨b, rfl⟩ := Int.eq_ofNat_of_zero_le hy
  have e := natPow k
  have hb : b < 2 ^ k := by omega
  have e2 : (a : Int) * 2 ^ k = ((a <<< k : Nat) : Int) := by rw [Nat.shiftLeft_eq, ← e]; simp
  rw [e2, bitOr_nat, ← Nat.shiftLeft_add_eq_or_of_lt hb]
  simp
theorem bitAnd_mask {x : Int} {k : Nat} (hx : 0 ≤ x) : Builtin.bitAnd x (1 * 2 ^ k - 1) = x % 2 ^ k := by
  obtain ⟨a, rfl⟩ := Int.eq_ofNat_of_zero_le hx
  have e := natPow k
  have e2 : (1 : Int) * 2 ^ k - 1 = ((2 ^ k - 1 : Nat) : Int) := by
    have := Nat.pow_pos (n := k) (show 0 < 2 by decide)
    omega
  rw [e2, bitAnd_nat, Nat.and_two_pow_sub_one_eq_mod, ← e]
  simp
theorem and_high (a k : Nat) : a &&& (a >>> k <<< k) = a >>> k <<< k := by
  apply Nat.eq_of_testBit_eq
  intro i
  simp only [Nat.testBit_and, Nat.testBit_shiftLeft, Nat.testBit_shiftRight]
  by_cases h : k ≤ i
  · have : k + (i - k) = i := by omega
    simp [h, this]
  · simp [h]
theorem bitXor_high {x : Int} {k : Nat} (hx : 0 ≤ x) : Builtin.bitXor x (x.fdiv (2 ^ k) * 2 ^ k) = x % 2 ^ k := by
  obtain ⟨a, rfl⟩ := Int.eq_ofNat_of_zero_le hx
  have e := natPow k
  have e1 : (a : Int).fdiv (2 ^ k) = ((a >>> k : Nat) : Int) := by
    rw [Int.fdiv_eq_ediv_of_nonneg _ (by have := pow_pos k; omega), ← e, Nat.shiftRight_eq_div_pow]; simp
  have e2 : ((a >>> k : Nat) : Int) * 2 ^ k = ((a >>> k <<< k : Nat) : Int) := by rw [Nat.shiftLeft_eq, ← e]; simp
  have e3 : (a ||| (a >>> k <<< k)) = a := by
    apply Nat.eq_of_testBit_eq
    intro i
    simp only [Nat.testBit_or, Nat.testBit_shiftLeft, Nat.testBit_shiftRight]
    by_cases h : k ≤ i
    · have : k + (i - k) = i := by omega
      simp [h, this]
    · simp [h]
  rw [e1, e2, bitXor_nat, e3, and_high]
  have e4 : a >>> k <<< k = a / 2 ^ k * 2 ^ k := by rw [Nat.shiftLeft_eq, Nat.shiftRight_eq_div_pow]
  have e5 := Nat.div_add_mod a (2 ^ k)
  rw [Nat.mul_comm] at e5
  rw [e4, ← e]
  have e6 : (a : Int) % ((2 ^ k : Nat) : Int) = ((a % 2 ^ k : Nat) : Int) := by simp
  rw [e6]
  omega
theorem fdiv_pow {x : Int} {k : Nat} : x.fdiv (2 ^ k) = x / 2 ^ k := Int.fdiv_eq_ediv_of_nonneg _ (by have := pow_pos k; omega)
/-! divisions -/
theorem div_of {a b q r : Int} (h : q * b + r = a) (h0 : 0 ≤ r) (h1 : r < b) : a / b = q ∧ a % b = r := by
  have hb : 0 < b := by omega
  constructor
  · rw [← h, Int.add_comm, Int.add_mul_ediv_right _ _ (by omega), Int.ediv_eq_zero_of_lt h0 h1]; omega
  · rw [← h, Int.add_comm, Int.add_mul_emod_self_right, Int.emod_eq_of_lt h0 h1]
theorem ediv_lt {a b c : Int} (hb : 0 < b) (h : a < c * b) : a / b < c := Int.ediv_lt_of_lt_mul hb h
theorem div_add_mod (a b : Int) : a / b * b + a % b = a := by rw [Int.mul_comm]; exact Int.mul_ediv_add_emod a b

/-- the count down of the remainder -/
theorem accDown_lin (b q0 r0 k : Int) (h : k ≤ q0) : accDown (fun _ x => x + b) q0 r0 k = r0 + (q0 - k) * b := by
  have : ∀ n : Nat, accDown (fun _ x => x + b) q0 r0 (q0 - n) = r0 + n * b := by
    intro n
    induction n with
    | zero =>
      have e : q0 - ((0 : Nat) : Int) = q0 := by omega
      rw [e, accDown_start]; simp
    | succ n ih =>
      have e : q0 - ((n + 1 : Nat) : Int) = (q0 - n) - 1 := by omega
      rw [e, accDown_succ (by omega), ih]
      grind
  have e : k = q0 - ((q0 - k).toNat : Int) := by omega
  have e2 : ((q0 - k).toNat : Int) = q0 - k := by omega
  have h3 := this (q0 - k).toNat
  rw [← e, e2] at h3
  exact h3
theorem stop_d3 {a b q0 r0 : Int} (h : q0 * b + r0 = a) (h1 : r0 < b) (hb : 0 < b) : StopDown (fun k => decide (accDown (fun _ x => x + b) q0 r0 k < 0)) q0 (a / b) := by
  have hm := Int.emod_nonneg a (show b ≠ 0 by omega)
  have hd := div_add_mod a b
  have hle : a / b ≤ q0 := by
    have : a / b < q0 + 1 := ediv_lt hb (by grind)
    omega
  refine ⟨hle, ?_⟩
  show decide (accDown (fun _ x => x + b) q0 r0 (a / b) < 0) = false
  rw [accDown_lin _ _ _ _ hle]
  refine decide_eq_false ?_
  have : r0 + (q0 - a / b) * b = a % b := by grind
  omega
theorem end_d3 {a b q0 r0 k : Int} (h : q0 * b + r0 = a) (h1 : r0 < b) (hk : k ≤ q0)
    (hall : ∀ j, k < j → j ≤ q0 → decide (accDown (fun _ x => x + b) q0 r0 j < 0) = true) (hend : decide (accDown (fun _ x => x + b) q0 r0 k < 0) = false) :
    k = a / b ∧ accDown (fun _ x => x + b) q0 r0 k = a % b := by
  rw [accDown_lin _ _ _ _ hk] at hend ⊢
  have h0 : 0 ≤ r0 + (q0 - k) * b := by simpa using hend
  have hlt : r0 + (q0 - k) * b < b := by
    by_cases hq : k = q0
    · subst hq; simp; omega
    · have h2 := hall (k + 1) (by omega) (by omega)
      rw [accDown_lin _ _ _ _ (by omega)] at h2
      have h3 : r0 + (q0 - (k + 1)) * b < 0 := by simpa using h2
      have h4 : r0 + (q0 - k) * b = r0 + (q0 - (k + 1)) * b + b := by grind
      omega
  obtain ⟨e1, e2⟩ := div_of (a := a) (b := b) (q := k) (r := r0 + (q0 - k) * b) (by grind) h0 hlt
  exact ⟨e1.symm, e2.symm⟩
end Mine
namespace Mine
open PySem PySem.W PyProof.Rows PySem.Calls PySem.Spec
theorem d3_a12_lt {P a12 a3 b : Int} (hP : 0 < P) (h3 : 0 ≤ a3) (ha : a12 * P + a3 < b * P) : a12 < b := by
  rcases Int.lt_or_le a12 b with h | h
  · exact h
  · have := Int.mul_le_mul_of_nonneg_right h (Int.le_of_lt hP)
    omega
theorem d3_pos {P a12 a3 b b1 b2 : Int} (hb : b = b1 * P + b2) (ha : a12 * P + a3 < b * P) :
    (1 * P - 1) * b + ((a12 - b1 * P + b1) * P + a3 - (1 * P - 1) * b2) = a12 * P + a3 ∧ (a12 - b1 * P + b1) * P + a3 - (1 * P - 1) * b2 < b := by
  have h : (1 * P - 1) * b + ((a12 - b1 * P + b1) * P + a3 - (1 * P - 1) * b2) = a12 * P + a3 := by subst hb; grind
  refine ⟨h, ?_⟩
  have h2 : (1 * P - 1) * b = b * P - b := by grind
  omega
theorem d3_neg {P a12 a3 b b1 b2 q r : Int} (hP : 0 < P) (h3 : a3 < P) (hb : b = b1 * P + b2) (hb2 : 0 ≤ b2) (hq : q * b1 + r = a12) (hq0 : 0 ≤ q) (hr : r < b1) :
    q * b + (r * P + a3 - q * b2) = a12 * P + a3 ∧ r * P + a3 - q * b2 < b := by
  have h : q * b + (r * P + a3 - q * b2) = a12 * P + a3 := by subst hb; subst hq; grind
  refine ⟨h, ?_⟩
  have h1 : 0 ≤ q * b2 := Int.mul_nonneg hq0 hb2
  have h2 : (r + 1) * P ≤ b1 * P := Int.mul_le_mul_of_nonneg_right (by omega) (Int.le_of_lt hP)
  have h3 : (r + 1) * P = r * P + P := by grind
  omega
theorem d3_not {P a12 b b1 b2 : Int} (hP : 0 < P) (hab : a12 < b) (hb : b = b1 * P + b2) (hb2' : b2 < P) (hc : ¬ a12 / P = b1) : a12 < b1 * P := by
  have h1 : a12 / P < b1 + 1 := ediv_lt hP (by have : (b1 + 1) * P = b1 * P + P := by grind
                                               omega)
  have h2 : a12 / P < b1 := by omega
  exact (Int.ediv_lt_iff_lt_mul hP).mp h2
end Mine

end
section
open PySem PySem.W PyProof.Rows PySem.Calls PySem.Spec
namespace Mine
theorem d2_math {A B P : Int} (hP : 0 < P) (hB : 0 < B) (hAB : A < B * (P * P)) :
    A / (P * P) * P + A / P % P = A / P ∧ A / P < B * P ∧ (A / P % B) * P + A % P < B * P ∧
    A / B = A / P / B * P + ((A / P % B) * P + A % P) / B ∧ ((A / P % B) * P + A % P) % B = A % B := by
  have e0 : A / (P * P) = A / P / P := by rw [Int.ediv_ediv_of_nonneg (by omega)]
  have e1 := div_add_mod A P
  have m0 := Int.emod_nonneg A (show P ≠ 0 by omega)
  have m1 := Int.emod_lt_of_pos A hP
  have e2 := div_add_mod (A / P) B
  have n0 := Int.emod_nonneg (A / P) (show B ≠ 0 by omega)
  have n1 := Int.emod_lt_of_pos (A / P) hB
  have e3 := div_add_mod ((A / P % B) * P + A % P) B
  have k0 := Int.emod_nonneg ((A / P % B) * P + A % P) (show B ≠ 0 by omega)
  have k1 := Int.emod_lt_of_pos ((A / P % B) * P + A % P) hB
  refine ⟨by rw [e0]; exact div_add_mod _ _, ?_, ?_, ?_⟩
  · refine ediv_lt hP ?_
    have : B * P * P = B * (P * P) := by grind
    omega
  · have : (A / P % B + 1) * P ≤ B * P := Int.mul_le_mul_of_nonneg_right (by omega) (by omega)
    have : (A / P % B + 1) * P = (A / P % B) * P + P := by grind
    omega
  · have key : (A / P / B * P + ((A / P % B) * P + A % P) / B) * B + ((A / P % B) * P + A % P) % B = A := by
      generalize A / P / B = x at *
      generalize A / P % B = y at *
      generalize A % P = z at *
      generalize (y * P + z) / B = u at *
      generalize (y * P + z) % B = v at *
      generalize A / P = t at *
      subst e2
      grind
    have := div_of key k0 k1
    exact ⟨this.1, this.2.symm⟩

structure D2Raw (A B N H : Int) : Prop where
  g12 : 0 ≤ A.fdiv (2 ^ N.toNat)
  g3 : 0 ≤ Builtin.bitAnd (A.fdiv (2 ^ H.toNat)) (1 * 2 ^ H.toNat - 1)
  g3' : Builtin.bitAnd (A.fdiv (2 ^ H.toNat)) (1 * 2 ^ H.toNat - 1) < 2 ^ H.toNat
  gb : B = B.fdiv (2 ^ H.toNat) * 2 ^ H.toNat + Builtin.bitAnd B (1 * 2 ^ H.toNat - 1)
  gb1 : 2 ^ (H.toNat - 1) ≤ B.fdiv (2 ^ H.toNat)
  gb1' : B.fdiv (2 ^ H.toNat) < 2 ^ H.toNat
  gb2 : 0 ≤ Builtin.bitAnd B (1 * 2 ^ H.toNat - 1)
  gb2' : Builtin.bitAnd B (1 * 2 ^ H.toNat - 1) < 2 ^ H.toNat
  ga : A.fdiv (2 ^ N.toNat) * 2 ^ H.toNat + Builtin.bitAnd (A.fdiv (2 ^ H.toNat)) (1 * 2 ^ H.toNat - 1) < B * 2 ^ H.toNat
  gr : 0 ≤ (A.fdiv (2 ^ N.toNat) * 2 ^ H.toNat + Builtin.bitAnd (A.fdiv (2 ^ H.toNat)) (1 * 2 ^ H.toNat - 1)) % B
  g4 : 0 ≤ Builtin.bitAnd A (1 * 2 ^ H.toNat - 1)
  g4' : Builtin.bitAnd A (1 * 2 ^ H.toNat - 1) < 2 ^ H.toNat
  gr' : (A.fdiv (2 ^ N.toNat) * 2 ^ H.toNat + Builtin.bitAnd (A.fdiv (2 ^ H.toNat)) (1 * 2 ^ H.toNat - 1)) % B * 2 ^ H.toNat + Builtin.bitAnd A (1 * 2 ^ H.toNat - 1) < B * 2 ^ H.toNat
  zq : Sz ((A.fdiv (2 ^ N.toNat) * 2 ^ H.toNat + Builtin.bitAnd (A.fdiv (2 ^ H.toNat)) (1 * 2 ^ H.toNat - 1)) / B) H.toNat
  eq1 : Builtin.bitOr ((A.fdiv (2 ^ N.toNat) * 2 ^ H.toNat + Builtin.bitAnd (A.fdiv (2 ^ H.toNat)) (1 * 2 ^ H.toNat - 1)) / B * 2 ^ H.toNat)
    (((A.fdiv (2 ^ N.toNat) * 2 ^ H.toNat + Builtin.bitAnd (A.fdiv (2 ^ H.toNat)) (1 * 2 ^ H.toNat - 1)) % B * 2 ^ H.toNat + Builtin.bitAnd A (1 * 2 ^ H.toNat - 1)) / B) = A / B
  eq2 : ((A.fdiv (2 ^ N.toNat) * 2 ^ H.toNat + Builtin.bitAnd (A.fdiv (2 ^ H.toNat)) (1 * 2 ^ H.toNat - 1)) % B * 2 ^ H.toNat + Builtin.bitAnd A (1 * 2 ^ H.toNat - 1)) % B = A % B

theorem d2_raw {A B N H : Int} (hN : N = 2 * H) (hH : 1 ≤ H) (hA : 0 ≤ A) (hB1 : 2 ^ (N.toNat - 1) ≤ B) (hB2 : B < 2 ^ N.toNat) (hAB : A < B * 2 ^ N.toNat) : D2Raw A B N H := by
  have hP : (0 : Int) < 2 ^ H.toNat := pow_pos _
  have hB : 0 < B := by have := pow_pos (N.toNat - 1); omega
  have eN : (2 : Int) ^ N.toNat = 2 ^ H.toNat * 2 ^ H.toNat := by rw [← pow_add]; congr 1; omega
  have eN1 : (2 : Int) ^ (N.toNat - 1) = 2 ^ (H.toNat - 1) * 2 ^ H.toNat := by rw [← pow_add]; congr 1; omega
  have hf : ∀ x : Int, x.fdiv (2 ^ H.toNat) = x / 2 ^ H.toNat := fun x => fdiv_pow
  have hfN : A.fdiv (2 ^ N.toNat) = A / 2 ^ N.toNat := fdiv_pow
  have hA1 : 0 ≤ A / 2 ^ H.toNat := Int.ediv_nonneg hA (by omega)
  have m3 : Builtin.bitAnd (A.fdiv (2 ^ H.toNat)) (1 * 2 ^ H.toNat - 1) = A / 2 ^ H.toNat % 2 ^ H.toNat := by rw [hf, bitAnd_mask hA1]
  have m4 : Builtin.bitAnd A (1 * 2 ^ H.toNat - 1) = A % 2 ^ H.toNat := bitAnd_mask hA
  have mb : Builtin.bitAnd B (1 * 2 ^ H.toNat - 1) = B % 2 ^ H.toNat := bitAnd_mask (by omega)
  have mm : ∀ x : Int, 0 ≤ x % 2 ^ H.toNat ∧ x % 2 ^ H.toNat < 2 ^ H.toNat := fun x => ⟨Int.emod_nonneg _ (by omega), Int.emod_lt_of_pos _ hP⟩
  rw [eN] at hB2 hAB
  rw [eN1] at hB1
  obtain ⟨c1, c2, c3, c4, c5⟩ := d2_math (P := 2 ^ H.toNat) hP hB hAB
  have s1 : A.fdiv (2 ^ N.toNat) * 2 ^ H.toNat + Builtin.bitAnd (A.fdiv (2 ^ H.toNat)) (1 * 2 ^ H.toNat - 1) = A / 2 ^ H.toNat := by rw [hfN, m3, eN, c1]
  have r0 : 0 ≤ A / 2 ^ H.toNat % B := Int.emod_nonneg _ (by omega)
  have q0 : 0 ≤ A / 2 ^ H.toNat / B := Int.ediv_nonneg hA1 (by omega)
  have q1 : A / 2 ^ H.toNat / B < 2 ^ H.toNat := ediv_lt hB (by rw [Int.mul_comm]; exact c2)
  have q2 : 0 ≤ (A / 2 ^ H.toNat % B * 2 ^ H.toNat + A % 2 ^ H.toNat) / B := Int.ediv_nonneg (by have := Int.mul_nonneg r0 (Int.le_of_lt hP); have := (mm A).1; omega) (by omega)
  have q2' : (A / 2 ^ H.toNat % B * 2 ^ H.toNat + A % 2 ^ H.toNat) / B < 2 ^ H.toNat := ediv_lt hB (by rw [Int.mul_comm (2 ^ H.toNat) B]; exact c3)
  exact {
    g12 := by rw [hfN]; exact Int.ediv_nonneg hA (by rw [eN]; exact Int.mul_nonneg (by omega) (by omega))
    g3 := by rw [m3]; exact (mm _).1
    g3' := by rw [m3]; exact (mm _).2
    gb := by rw [mb, hf]; exact (div_add_mod _ _).symm
    gb1 := by rw [hf]; exact (Int.le_ediv_iff_mul_le hP).mpr hB1
    gb1' := by rw [hf]; exact ediv_lt hP hB2
    gb2 := by rw [mb]; exact (mm _).1
    gb2' := by rw [mb]; exact (mm _).2
    ga := by rw [s1]; exact c2
    gr := by rw [s1]; exact r0
    g4 := by rw [m4]; exact (mm _).1
    g4' := by rw [m4]; exact (mm _).2
    gr' := by rw [s1, m4]; exact c3
    zq := by rw [s1]; exact sz_le q0 q1
    eq1 := by rw [s1, m4, bitOr_shl q0 q2 q2']; exact c4.symm
    eq2 := by rw [s1, m4]; exact c5 }

theorem log2_of {b : Int} {n : Int} (hn : 1 ≤ n) (hb : 2 ^ (n.toNat - 1) ≤ b) (hb' : b < 2 ^ n.toNat) : (b.natAbs.log2 : Int) = n - 1 := by
  have h0 := pow_pos (n.toNat - 1)
  have e1 := natPow (n.toNat - 1)
  have e2 := natPow n.toNat
  have hx : b.natAbs ≠ 0 := by omega
  have l1 : b.natAbs.log2 < n.toNat := (Nat.log2_lt hx).mpr (by omega)
  have l2 : ¬ b.natAbs.log2 < n.toNat - 1 := fun h => by have := (Nat.log2_lt hx).mp h; omega
  omega
theorem bits_of {b : Int} {n : Int} (hn : 1 ≤ n) (hb : 2 ^ (n.toNat - 1) ≤ b) (hb' : b < 2 ^ n.toNat) : (Builtin.Int.intBits b : Int) = n := by
  have h0 := pow_pos (n.toNat - 1)
  have := log2_of hn hb hb'
  unfold Builtin.Int.intBits
  rw [if_neg (by simp only [beq_iff_eq]; omega)]
  omega
theorem no_pylong {a b n : Int} (hn : 1 ≤ n) (hb : 2 ^ (n.toNat - 1) ≤ b) (hb' : b < 2 ^ n.toNat) (hl : (Builtin.Int.intBits a : Int) - n ≤ 4000) : Builtin.divisionGoesByPylong a b = false := by
  have h0 := pow_pos (n.toNat - 1)
  have hlog := log2_of hn hb hb'
  have e1 : (if b == 0 then 0 else b.natAbs.log2 / 30 + 1) = b.natAbs.log2 / 30 + 1 := by rw [if_neg (by simp only [beq_iff_eq]; omega)]
  have h2 : (if a == 0 then 0 else a.natAbs.log2 / 30 + 1) ≤ b.natAbs.log2 / 30 + 1 + 150 := by
    unfold Builtin.Int.intBits at hl
    by_cases ha : (a == 0) = true
    · rw [if_pos ha]; omega
    · rw [if_neg ha] at hl ⊢; omega
  show (decide ((if b == 0 then 0 else b.natAbs.log2 / 30 + 1) > 300) && decide ((if a == 0 then 0 else a.natAbs.log2 / 30 + 1) > (if b == 0 then 0 else b.natAbs.log2 / 30 + 1) + 150)) = false
  rw [e1, decide_eq_false (p := (if a == 0 then 0 else a.natAbs.log2 / 30 + 1) > b.natAbs.log2 / 30 + 1 + 150) (by omega)]
  simp
theorem bitAnd_one (n : Int) : Builtin.bitAnd n 1 = n % 2 := bitAnd_m1 n
end Mine

end
section
open PySem PySem.W PyProof.Rows PySem.Calls PySem.Spec
namespace Mine
/-! digits -/
def digs (n : Nat) : Nat → Int → List Int
  | 0, _ => []
  | k + 1, x => x % 2 ^ n :: digs n k (x / 2 ^ n)
theorem digs_length (n : Nat) : ∀ (k : Nat) (x : Int), (digs n k x).length = k
  | 0, _ => rfl
  | k + 1, x => by rw [digs, List.length_cons, digs_length n k]
theorem emod_mul_emod {x P Q : Int} (hP : 0 < P) (hQ : 0 < Q) : x % (P * Q) % P = x % P ∧ x % (P * Q) / P = x / P % Q := by
  have e1 := div_add_mod x (P * Q)
  have a1 := Int.emod_nonneg x (show P * Q ≠ 0 by have := Int.mul_pos hP hQ; omega)
  have a2 := Int.emod_lt_of_pos x (Int.mul_pos hP hQ)
  have e2 := div_add_mod (x % (P * Q)) P
  have b1 := Int.emod_nonneg (x % (P * Q)) (show P ≠ 0 by omega)
  have b2 := Int.emod_lt_of_pos (x % (P * Q)) hP
  have c1 : 0 ≤ x % (P * Q) / P := Int.ediv_nonneg a1 (by omega)
  have c2 : x % (P * Q) / P < Q := ediv_lt hP (by rw [Int.mul_comm Q P]; exact a2)
  generalize x / (P * Q) = t at *
  generalize x % (P * Q) / P = u at *
  generalize x % (P * Q) % P = v at *
  generalize x % (P * Q) = y at *
  have k1 : (t * Q + u) * P + v = x := by subst e1; subst e2; grind
  obtain ⟨d1, d2⟩ := div_of k1 b1 b2
  obtain ⟨_, f2⟩ := div_of (a := x / P) (b := Q) (q := t) (r := u) d1.symm c1 c2
  exact ⟨d2.symm, f2.symm⟩
theorem digs_add (n : Nat) : ∀ (a b : Nat) (x : Int), digs n (a + b) x = digs n a (x % 2 ^ (n * a)) ++ digs n b (x / 2 ^ (n * a))
  | 0, b, x => by simp [digs]
  | a + 1, b, x => by
    have hP := pow_pos n
    have hQ := pow_pos (n * a)
    have e : (2 : Int) ^ (n * (a + 1)) = 2 ^ n * 2 ^ (n * a) := by rw [← pow_add]; congr 1; rw [Nat.mul_add]; omega
    obtain ⟨m1, m2⟩ := emod_mul_emod (x := x) hP hQ
    have e3 : x / (2 ^ n * 2 ^ (n * a)) = x / 2 ^ n / 2 ^ (n * a) := by rw [Int.ediv_ediv_of_nonneg (by omega)]
    rw [show a + 1 + b = (a + b) + 1 by omega, digs, digs_add n a b, digs, e, m1, m2, e3]
    rfl
theorem digs_range (n : Nat) : ∀ (k : Nat) (x : Int), ∀ d ∈ digs n k x, 0 ≤ d ∧ d < 2 ^ n
  | 0, _, _, h => nomatch h
  | k + 1, x, d, h => by
    rcases List.mem_cons.mp h with rfl | h
    · have := pow_pos n
      exact ⟨Int.emod_nonneg _ (by omega), Int.emod_lt_of_pos _ this⟩
    · exact digs_range n k _ d h
def undigs (n : Nat) : List Int → Int
  | [] => 0
  | d :: r => d + undigs n r * 2 ^ n
theorem undigs_digs (n : Nat) : ∀ (k : Nat) (x : Int), 0 ≤ x → x < 2 ^ (n * k) → undigs n (digs n k x) = x
  | 0, x, h0, h1 => by simp at h1; simp [digs, undigs]; omega
  | k + 1, x, h0, h1 => by
    have hP := pow_pos n
    have e : (2 : Int) ^ (n * (k + 1)) = 2 ^ n * 2 ^ (n * k) := by rw [← pow_add]; congr 1; rw [Nat.mul_add]; omega
    have e2 := div_add_mod x (2 ^ n)
    rw [digs, undigs, undigs_digs n k _ (Int.ediv_nonneg h0 (by omega)) (ediv_lt hP (by rw [Int.mul_comm, ← e]; exact h1))]
    omega
theorem undigs_append (n : Nat) : ∀ (l r : List Int), undigs n (l ++ r) = undigs n l + undigs n r * 2 ^ (n * l.length)
  | [], r => by simp [undigs]
  | d :: l, r => by
    have e : (2 : Int) ^ (n * (l.length + 1)) = 2 ^ (n * l.length) * 2 ^ n := by rw [← pow_add]; congr 1
    rw [List.cons_append, undigs, undigs_append n l r, undigs, List.length_cons, e]
    grind
theorem undigs_range (n : Nat) : ∀ l : List Int, (∀ d ∈ l, 0 ≤ d ∧ d < 2 ^ n) → 0 ≤ undigs n l ∧ undigs n l < 2 ^ (n * l.length)
  | [], _ => by simp [undigs]
  | d :: r, h => by
    have hP := pow_pos n
    have e : (2 : Int) ^ (n * (r.length + 1)) = 2 ^ (n * r.length) * 2 ^ n := by rw [← pow_add]; congr 1
    have ih := undigs_range n r fun x hx => h x (List.mem_cons_of_mem _ hx)
    have hd := h d (List.mem_cons_self ..)
    rw [undigs, List.length_cons, e]
    have h1 : 0 ≤ undigs n r * 2 ^ n := Int.mul_nonneg ih.1 (by omega)
    have h2 : (undigs n r + 1) * 2 ^ n ≤ 2 ^ (n * r.length) * 2 ^ n := Int.mul_le_mul_of_nonneg_right (by omega) (by omega)
    have h3 : (undigs n r + 1) * 2 ^ n = undigs n r * 2 ^ n + 2 ^ n := by grind
    omega
/-- long division, the lowest digit first: the quotient's digits and the rest -/
def ldiv (n : Nat) (b : Int) : List Int → List Int × Int
  | [] => ([], 0)
  | d :: t => (((ldiv n b t).2 * 2 ^ n + d) / b :: (ldiv n b t).1, ((ldiv n b t).2 * 2 ^ n + d) % b)
theorem ldiv_spec (n : Nat) {b : Int} (hb : 0 < b) : ∀ l : List Int, (∀ d ∈ l, 0 ≤ d ∧ d < 2 ^ n) →
    undigs n (ldiv n b l).1 * b + (ldiv n b l).2 = undigs n l ∧ 0 ≤ (ldiv n b l).2 ∧ (ldiv n b l).2 < b ∧ (ldiv n b l).1.length = l.length ∧ ∀ q ∈ (ldiv n b l).1, 0 ≤ q ∧ q < 2 ^ n
  | [], _ => by simp [ldiv, undigs]; omega
  | d :: t, h => by
    obtain ⟨i1, i2, i3, i4, i5⟩ := ldiv_spec n hb t fun x hx => h x (List.mem_cons_of_mem _ hx)
    have hd := h d (List.mem_cons_self ..)
    have hP := pow_pos n
    have e := div_add_mod ((ldiv n b t).2 * 2 ^ n + d) b
    have m1 := Int.emod_nonneg ((ldiv n b t).2 * 2 ^ n + d) (show b ≠ 0 by omega)
    have m2 := Int.emod_lt_of_pos ((ldiv n b t).2 * 2 ^ n + d) hb
    have p0 : 0 ≤ (ldiv n b t).2 * 2 ^ n := Int.mul_nonneg i2 (by omega)
    have p1 : ((ldiv n b t).2 + 1) * 2 ^ n ≤ b * 2 ^ n := Int.mul_le_mul_of_nonneg_right (by omega) (by omega)
    have p2 : ((ldiv n b t).2 + 1) * 2 ^ n = (ldiv n b t).2 * 2 ^ n + 2 ^ n := by grind
    refine ⟨?_, m1, m2, by simp [ldiv, i4], fun q hq => ?_⟩
    · simp only [ldiv, undigs]
      generalize undigs n (ldiv n b t).1 = u at *
      generalize undigs n t = v at *
      generalize (ldiv n b t).2 = r at *
      generalize (r * 2 ^ n + d) / b = x at *
      generalize (r * 2 ^ n + d) % b = y at *
      subst i1
      grind
    · rcases List.mem_cons.mp hq with rfl | hq
      · exact ⟨Int.ediv_nonneg (by omega) (by omega), ediv_lt hb (by rw [Int.mul_comm (2 ^ n) b]; omega)⟩
      · exact i5 q hq
end Mine

end
section
open PySem PySem.W PyProof.Rows PySem.Calls PySem.Spec
namespace Mine
theorem half_fdiv (n : Int) : n.fdiv (2 ^ Int.toNat 1) = n / 2 := by
  have e : (2 : Int) ^ Int.toNat 1 = 2 := by decide
  rw [e, Int.fdiv_eq_ediv_of_nonneg _ (by decide)]
theorem join_lists {α : Type} {ns d1 d2 : List α} {lo mid hi : Nat} (h1 : lo + d1.length = mid) (h2 : mid + d2.length = hi) (h3 : hi ≤ ns.length) :
    (ns.take lo ++ (d1 ++ ns.drop mid)).take mid ++ (d2 ++ (ns.take lo ++ (d1 ++ ns.drop mid)).drop hi) = ns.take lo ++ ((d1 ++ d2) ++ ns.drop hi) := by
  have l1 : (ns.take lo ++ d1).length = mid := by rw [List.length_append, List.length_take]; omega
  rw [← List.append_assoc (ns.take lo) d1]
  have e1 : ((ns.take lo ++ d1) ++ ns.drop mid).take mid = ns.take lo ++ d1 := by rw [List.take_append_of_le_length (by omega), List.take_of_length_le (by omega)]
  have e2 : ((ns.take lo ++ d1) ++ ns.drop mid).drop hi = ns.drop hi := by
    rw [List.drop_append, List.drop_eq_nil_of_le (by omega), List.nil_append, List.drop_drop, l1]
    congr 1
    omega
  rw [e1, e2]
  simp [List.append_assoc]
theorem join_len {α : Type} {ns d1 : List α} {lo mid : Nat} (h1 : lo + d1.length = mid) (h3 : mid ≤ ns.length) : (ns.take lo ++ (d1 ++ ns.drop mid)).length = ns.length := by
  simp only [List.length_append, List.length_take, List.length_drop]; omega
theorem set_as_digs {ns : List Int} {n lo hi : Nat} {x : Int} (h : lo + 1 = hi) (hl : lo < ns.length) (h0 : 0 ≤ x) (h1 : x < 2 ^ (n * (hi - lo))) : ns.set lo x = ns.take lo ++ (digs n (hi - lo) x ++ ns.drop hi) := by
  subst h
  have e : lo + 1 - lo = 1 := by omega
  rw [e] at h1 ⊢
  rw [Nat.mul_one] at h1
  rw [List.set_eq_take_append_cons_drop, if_pos hl, digs, digs, Int.emod_eq_of_lt h0 h1]
  rfl

structure I2dRaw (n x lo hi M : Int) (len k : Nat) : Prop where
  m1 : lo < M
  m2 : M < hi
  m3 : M ≤ len
  m4 : M - lo ≤ 2 ^ (k - 1)
  m5 : hi - M ≤ 2 ^ (k - 1)
  m6 : k - 1 < k
  m7 : 0 ≤ M
  s0 : 0 ≤ (M - lo) * n
  z1 : Sz (M - lo) 25
  z2 : Sz n 26
  z3 : Sz (x.fdiv (2 ^ ((M - lo) * n).toNat)) (n.toNat * (hi - M).toNat)
  z4 : ((n.toNat * (hi - M).toNat : Nat) : Int) + (M - lo) * n ≤ 134217728
  u1 : 0 ≤ x.fdiv (2 ^ ((M - lo) * n).toNat)
  u2 : x.fdiv (2 ^ ((M - lo) * n).toNat) < 2 ^ (n.toNat * (hi - M).toNat)
  l1 : 0 ≤ Builtin.bitXor x (x.fdiv (2 ^ ((M - lo) * n).toNat) * 2 ^ ((M - lo) * n).toNat)
  l2 : Builtin.bitXor x (x.fdiv (2 ^ ((M - lo) * n).toNat) * 2 ^ ((M - lo) * n).toNat) < 2 ^ (n.toNat * (M - lo).toNat)
  eq : digs n.toNat (M - lo).toNat (Builtin.bitXor x (x.fdiv (2 ^ ((M - lo) * n).toNat) * 2 ^ ((M - lo) * n).toNat)) ++
    digs n.toNat (hi - M).toNat (x.fdiv (2 ^ ((M - lo) * n).toNat)) = digs n.toNat (hi - lo).toNat x

theorem i2d_raw {n x lo hi : Int} {len k : Nat} (hn : 1 ≤ n) (hnn : n ≤ 33554432) (h0 : 0 ≤ lo) (h1 : lo + 1 < hi) (h2 : hi ≤ len) (h3 : hi - lo ≤ 2 ^ k) (h4 : (len : Int) ≤ 16777216) (h5 : n * len ≤ 50000000) (h6 : 0 ≤ x) (h7 : x < 2 ^ (n.toNat * (hi - lo).toNat)) {M : Int} (hM : M = (lo + hi) / 2) : I2dRaw n x lo hi M len k := by
  have a1 : lo < M := by omega
  have a2 : M < hi := by omega
  have hk : k ≠ 0 := by intro e; subst e; simp at h3; omega
  obtain ⟨k', rfl⟩ : ∃ k', k = k' + 1 := ⟨k - 1, by omega⟩
  have ek : k' + 1 - 1 = k' := by omega
  rw [Int.pow_succ] at h3
  obtain ⟨a, ha⟩ := Int.eq_ofNat_of_zero_le (show 0 ≤ M - lo by omega)
  obtain ⟨b, hb⟩ := Int.eq_ofNat_of_zero_le (show 0 ≤ hi - M by omega)
  obtain ⟨nn, hnn'⟩ := Int.eq_ofNat_of_zero_le (show 0 ≤ n by omega)
  subst hnn'
  have e1 : hi - lo = ((a + b : Nat) : Int) := by omega
  have es : (M - lo) * (nn : Int) = ((nn * a : Nat) : Int) := by rw [ha, Int.mul_comm]; simp
  rw [e1] at h3 h7
  simp only [Int.toNat_natCast] at h7
  have hP := pow_pos (nn * a)
  have hfd : x.fdiv (2 ^ (nn * a)) = x / 2 ^ (nn * a) := fdiv_pow
  have hx := bitXor_high (k := nn * a) h6
  have hmm : (nn : Int) * (hi - lo) ≤ nn * len := Int.mul_le_mul_of_nonneg_left (by omega) (by omega)
  rw [e1] at hmm
  have hmm2 : nn * (a + b) ≤ 50000000 := by
    have : ((nn * (a + b) : Nat) : Int) ≤ 50000000 := by rw [Int.natCast_mul]; omega
    omega
  rw [Nat.mul_add] at hmm2 h7
  have hup : x / 2 ^ (nn * a) < 2 ^ (nn * b) := ediv_lt hP (by rw [← pow_add, Nat.add_comm]; exact h7)
  have hup0 : 0 ≤ x / 2 ^ (nn * a) := Int.ediv_nonneg h6 (by omega)
  have et : ∀ j : Nat, (j : Int).toNat = j := fun j => Int.toNat_natCast j
  exact {
    m1 := a1, m2 := a2, m3 := by omega
    m4 := by rw [ek]; omega
    m5 := by rw [ek]; omega
    m6 := by omega
    m7 := by omega
    s0 := by rw [es]; omega
    z1 := sz_le (by omega) (by omega)
    z2 := sz_le (by omega) (by omega)
    z3 := by rw [es, hb, et, et, et, hfd]; exact sz_le hup0 hup
    z4 := by rw [es, hb, et, et]; omega
    u1 := by rw [es, et, hfd]; exact hup0
    u2 := by rw [es, hb, et, et, et, hfd]; exact hup
    l1 := by rw [es, et, hx]; exact Int.emod_nonneg _ (by omega)
    l2 := by rw [es, ha, et, et, et, hx]; exact Int.emod_lt_of_pos _ hP
    eq := by rw [es, ha, hb, e1, et, et, et, et, et, hx, hfd, digs_add] }
end Mine

end
section
open PySem PySem.W PyProof.Rows PySem.Calls PySem.Spec
namespace Mine
def slc (ds : List Int) (lo hi : Int) : List Int := (ds.drop lo.toNat).take (hi - lo).toNat
theorem slc_split {ds : List Int} {lo mid hi : Int} (h0 : 0 ≤ lo) (h1 : lo ≤ mid) (h2 : mid ≤ hi) (_h3 : hi ≤ ds.length) : slc ds lo hi = slc ds lo mid ++ slc ds mid hi := by
  unfold slc
  have e1 : (hi - lo).toNat = (mid - lo).toNat + (hi - mid).toNat := by omega
  have e2 : mid.toNat = lo.toNat + (mid - lo).toNat := by omega
  rw [e1, List.take_add, List.drop_drop, ← e2]
theorem slc_length {ds : List Int} {lo hi : Int} (h0 : 0 ≤ lo) (h1 : lo ≤ hi) (h3 : hi ≤ ds.length) : (slc ds lo hi).length = (hi - lo).toNat := by
  unfold slc; rw [List.length_take, List.length_drop]; omega
theorem slc_mem {ds : List Int} {lo hi d : Int} (h : d ∈ slc ds lo hi) : d ∈ ds := List.mem_of_mem_drop (List.mem_of_mem_take h)
theorem slc_one {ds : List Int} {lo hi : Int} (h0 : 0 ≤ lo) (h : lo + 1 = hi) (h3 : lo < ds.length) : slc ds lo hi = [ds.getD lo.toNat 0] := by
  unfold slc
  have e : (hi - lo).toNat = 1 := by omega
  have hl : lo.toNat < ds.length := by omega
  have e2 : ds.getD lo.toNat 0 = ds[lo.toNat] := by simp [hl]
  rw [e, e2, List.drop_eq_getElem_cons hl]
  rfl
theorem slc_all {ds : List Int} {k : Int} (h : (ds.length : Int) = k) : slc ds 0 k = ds := by
  unfold slc
  have e : (k - 0).toNat = ds.length := by omega
  rw [e]; simp
theorem undigs_slc {n : Nat} {ds : List Int} {lo mid hi : Int} (h0 : 0 ≤ lo) (h1 : lo ≤ mid) (h2 : mid ≤ hi) (h3 : hi ≤ ds.length) :
    undigs n (slc ds lo hi) = undigs n (slc ds mid hi) * 2 ^ (n * (mid - lo).toNat) + undigs n (slc ds lo mid) := by
  rw [slc_split h0 h1 h2 h3, undigs_append, slc_length h0 h1 (by omega)]
  omega
theorem undigs_one {n : Nat} {d : Int} : undigs n [d] = d := by simp [undigs]

structure D2iRaw (n lo hi M : Int) (ds : List Int) (k : Nat) : Prop where
  m1 : lo < M
  m2 : M < hi
  m3 : M ≤ ds.length
  m4 : M - lo ≤ 2 ^ (k - 1)
  m5 : hi - M ≤ 2 ^ (k - 1)
  m6 : k - 1 < k
  m7 : 0 ≤ M
  s0 : 0 ≤ (M - lo) * n
  z1 : Sz (M - lo) 25
  z2 : Sz n 26
  z3 : Sz (undigs n.toNat (slc ds M hi)) (n.toNat * (hi - M).toNat)
  z4 : ((n.toNat * (hi - M).toNat : Nat) : Int) + (M - lo) * n ≤ 134217728
  eq : undigs n.toNat (slc ds M hi) * 2 ^ ((M - lo) * n).toNat + undigs n.toNat (slc ds lo M) = undigs n.toNat (slc ds lo hi)

theorem d2i_raw {n lo hi : Int} {ds : List Int} {k : Nat} (hn : 1 ≤ n) (hnn : n ≤ 33554432) (h0 : 0 ≤ lo) (h1 : lo + 1 < hi) (h2 : hi ≤ ds.length) (h3 : hi - lo ≤ 2 ^ k) (h4 : (ds.length : Int) ≤ 16777216) (h5 : n * ds.length ≤ 50000000)
    (hd : ∀ d ∈ ds, 0 ≤ d ∧ d < 2 ^ n.toNat) {M : Int} (hM : M = (lo + hi) / 2) : D2iRaw n lo hi M ds k := by
  have a1 : lo < M := by omega
  have a2 : M < hi := by omega
  have hk : k ≠ 0 := by intro e; subst e; simp at h3; omega
  obtain ⟨k', rfl⟩ : ∃ k', k = k' + 1 := ⟨k - 1, by omega⟩
  have ek : k' + 1 - 1 = k' := by omega
  rw [Int.pow_succ] at h3
  have hs : (slc ds M hi).length = (hi - M).toNat := slc_length (by omega) (by omega) h2
  have hr := undigs_range n.toNat (slc ds M hi) fun d hd' => hd d (slc_mem hd')
  rw [hs] at hr
  obtain ⟨a, ha⟩ := Int.eq_ofNat_of_zero_le (show 0 ≤ M - lo by omega)
  obtain ⟨b, hb⟩ := Int.eq_ofNat_of_zero_le (show 0 ≤ hi - M by omega)
  obtain ⟨nn, hnn'⟩ := Int.eq_ofNat_of_zero_le (show 0 ≤ n by omega)
  subst hnn'
  have e1 : hi - lo = ((a + b : Nat) : Int) := by omega
  have es : (M - lo) * (nn : Int) = ((nn * a : Nat) : Int) := by rw [ha, Int.mul_comm]; simp
  have et : ∀ j : Nat, (j : Int).toNat = j := fun j => Int.toNat_natCast j
  have hmm : (nn : Int) * (hi - lo) ≤ nn * ds.length := Int.mul_le_mul_of_nonneg_left (by omega) (by omega)
  rw [e1] at hmm
  have hmm2 : nn * (a + b) ≤ 50000000 := by
    have : ((nn * (a + b) : Nat) : Int) ≤ 50000000 := by rw [Int.natCast_mul]; omega
    omega
  rw [Nat.mul_add] at hmm2
  exact {
    m1 := a1, m2 := a2, m3 := by omega
    m4 := by rw [ek]; omega
    m5 := by rw [ek]; omega
    m6 := by omega
    m7 := by omega
    s0 := by rw [es]; omega
    z1 := sz_le (by omega) (by omega)
    z2 := sz_le (by omega) (by omega)
    z3 := sz_le hr.1 hr.2
    z4 := by rw [es, hb, et, et]; omega
    eq := by
      have e := undigs_slc (n := nn) h0 (show lo ≤ M by omega) (show M ≤ hi by omega) h2
      rw [es, et, et, e, ha, et] }
/-! the digits' number -/
theorem numdigs {a n : Int} (ha : 0 ≤ a) (hn : 1 ≤ n) (hz : (Builtin.Int.intBits a : Int) ≤ 16777216) (hnn : n ≤ 16777216) :
    0 ≤ ((Builtin.Int.intBits a : Int) + n - 1).fdiv n ∧ ((Builtin.Int.intBits a : Int) + n - 1).fdiv n ≤ 16777216 ∧ n * ((Builtin.Int.intBits a : Int) + n - 1).fdiv n ≤ 50000000 ∧
    a < 2 ^ (n.toNat * (((Builtin.Int.intBits a : Int) + n - 1).fdiv n).toNat) ∧ (0 < a → 0 < ((Builtin.Int.intBits a : Int) + n - 1).fdiv n) ∧ (a = 0 → 0 = ((Builtin.Int.intBits a : Int) + n - 1).fdiv n) := by
  have hsz := sz_of_bits (Nat.le_refl (Builtin.Int.intBits a))
  have h0 : a = 0 → Builtin.Int.intBits a = 0 := by intro e; subst e; rfl
  have hp : 0 < a → 0 < Builtin.Int.intBits a := by
    intro h
    unfold Builtin.Int.intBits
    rw [if_neg (by simp only [beq_iff_eq]; omega)]; omega
  generalize Builtin.Int.intBits a = b at *
  rw [Int.fdiv_eq_ediv_of_nonneg _ (by omega)]
  have e := div_add_mod ((b : Int) + n - 1) n
  have m0 := Int.emod_nonneg ((b : Int) + n - 1) (show n ≠ 0 by omega)
  have m1 := Int.emod_lt_of_pos ((b : Int) + n - 1) (show 0 < n by omega)
  have hK0 : 0 ≤ ((b : Int) + n - 1) / n := Int.ediv_nonneg (by omega) (by omega)
  have hKb : ((b : Int) + n - 1) / n ≤ b := by
    have : ((b : Int) + n - 1) / n < b + 1 := ediv_lt (by omega) (by
      have h1 : (b : Int) * 1 ≤ b * n := Int.mul_le_mul_of_nonneg_left hn (by omega)
      have h2 : ((b : Int) + 1) * n = b * n + n := by grind
      omega)
    omega
  generalize ((b : Int) + n - 1) % n = r at *
  generalize ((b : Int) + n - 1) / n = K at *
  rw [Int.mul_comm K n] at e
  obtain ⟨KK, rfl⟩ := Int.eq_ofNat_of_zero_le hK0
  obtain ⟨nn, rfl⟩ := Int.eq_ofNat_of_zero_le (show 0 ≤ n by omega)
  have hmul : ((nn * KK : Nat) : Int) = (nn : Int) * (KK : Int) := Int.natCast_mul ..
  have hcast := Sz.lt (hsz.mono (show b ≤ nn * KK by omega))
  refine ⟨by omega, by omega, by omega, by simpa using hcast.1, fun h => ?_, fun h => ?_⟩
  · have := hp h
    rcases Nat.eq_zero_or_pos KK with rfl | h'
    · simp at hmul; omega
    · omega
  · have := h0 h
    omega
theorem bits_spec {b : Int} (hb : 0 < b) : 1 ≤ (Builtin.Int.intBits b : Int) ∧ 2 ^ ((Builtin.Int.intBits b : Int).toNat - 1) ≤ b ∧ b < 2 ^ (Builtin.Int.intBits b : Int).toNat := by
  have hb' : b.natAbs ≠ 0 := by omega
  have e : Builtin.Int.intBits b = b.natAbs.log2 + 1 := by
    unfold Builtin.Int.intBits
    rw [if_neg (by simp only [beq_iff_eq]; omega)]
  have h1 := Nat.log2_self_le hb'
  have h2 : b.natAbs < 2 ^ (b.natAbs.log2 + 1) := Nat.lt_log2_self
  rw [e]
  have et : ((b.natAbs.log2 + 1 : Nat) : Int).toNat = b.natAbs.log2 + 1 := Int.toNat_natCast _
  rw [et]
  have e1 := natPow b.natAbs.log2
  have e2 := natPow (b.natAbs.log2 + 1)
  refine ⟨by omega, ?_, ?_⟩
  · show (2 : Int) ^ b.natAbs.log2 ≤ b
    omega
  · omega
theorem dp_arith {r d b P : Int} (r0 : 0 ≤ r) (r1 : r < b) (d0 : 0 ≤ d) (d1 : d < P) : 0 ≤ r * P + d ∧ r * P + d < b * P := by
  have hP : 0 < P := by omega
  have h1 : 0 ≤ r * P := Int.mul_nonneg r0 (by omega)
  have h2 : (r + 1) * P ≤ b * P := Int.mul_le_mul_of_nonneg_right (by omega) (by omega)
  have h3 : (r + 1) * P = r * P + P := by grind
  omega
end Mine

end
section
open PySem PySem.W PyProof.Rows PySem.Calls PySem.Spec
namespace Mine

/-- a call of f with vs gives back a new pair (q, r) -/
def CtPair (w : World) (f : Addr) (vs : List Value) (dd uu : Nat) (q r : Int) : Prop :=
  ∀ (p : Program) (loose : List Str) (mean : ExcName → Option Value) (mg mb : Str → Option Value)
    (dp un : Nat) (gd : Option (List Code)) (cn : Str) (cs : Scope) (a : Addr) (ccd : Value) (cl : List (Str × Addr)) (outer : List Env) (A₀ : Around) (base h₀ : Heap) (L : Addr) (m : Str → Option Value) (news : List (Addr × Obj)) (s : Shared)
    (Q E : Value → Shared → Prop),
    Below A₀ base outer h₀ → Fr h₀ L s.heap m → (_root_.hd.heap_39 w.params).In h₀ → News h₀ L s.heap news → Top p loose mean mg mb h₀ → cs.kind = .function →
    dp + dd < recursionLimit → un + uu < cLine →
    (∀ D t1 t2 c h' tk', Fr h₀ L h' m → News h₀ L h' ((D, ({ cls := .type "tuple", data := .seq #[.int q t1, .int r t2] c } : Obj)) :: news) → AllLt D news → Q (.ref D) { s with heap := h', toks := tk' }) →
    wpAny (model PySem.Challenge.rw_ta0142_02.row.prog w) (ktrTop dp un gd cn cs L a ccd cl outer) (call (.ref f) vs) Q E s

theorem ct_use {w : World} {f : Addr} {vs : List Value} {dd uu : Nat} {q r : Int} {p : Program} {loose : List Str} {mean : ExcName → Option Value} {mg mb : Str → Option Value}
    {dp un : Nat} {gd : Option (List Code)} {cn : Str} {cs : Scope} {a : Addr} {ccd : Value} {cl : List (Str × Addr)} {outer : List Env} {A₀ : Around} {base h₀ : Heap} {L : Addr} {m : Str → Option Value} {news : List (Addr × Obj)} {s : Shared}
    {Q E : Value → Shared → Prop}
    (B : Below A₀ base outer h₀) (F : Fr h₀ L s.heap m) (X : (_root_.hd.heap_39 w.params).In h₀) (N : News h₀ L s.heap news) (T : Top p loose mean mg mb h₀) (hk : cs.kind = .function)
    (C : CtPair w f vs dd uu q r) (hd : dp + dd < recursionLimit) (hu : un + uu < cLine)
    (ret : ∀ D t1 t2 c h' tk', Fr h₀ L h' m → News h₀ L h' ((D, ({ cls := .type "tuple", data := .seq #[.int q t1, .int r t2] c } : Obj)) :: news) → AllLt D news → Q (.ref D) { s with heap := h', toks := tk' }) :
    wpAny (model PySem.Challenge.rw_ta0142_02.row.prog w) (ktrTop dp un gd cn cs L a ccd cl outer) (call (.ref f) vs) Q E s :=
  C _ _ _ _ _ _ _ _ _ _ _ _ _ _ _ _ _ _ _ _ _ _ _ B F X N T hk hd hu ret

def D2 (w : World) (dd uu : Nat) (n : Int) : Prop := ∀ (a b : Int) (ta tb tn : Tok), 0 ≤ a → 2 ^ (n.toNat - 1) ≤ b → b < 2 ^ n.toNat → a < b * 2 ^ n.toNat → CtPair w 21 [.int a ta, .int b tb, .int n tn] dd uu (a / b) (a % b)

theorem ct_end {w : World} {q r q' r' : Int} {h₀ h : Heap} {L D : Addr} {m : Str → Option Value} {news news' : List (Addr × Obj)} {s : Shared} {Q : Value → Shared → Prop} {t1 t2 : Tok} {c tk : Nat}
    (ret : ∀ D t1 t2 c h' tk', Fr h₀ L h' m → News h₀ L h' ((D, ({ cls := .type "tuple", data := .seq #[.int q t1, .int r t2] c } : Obj)) :: news) → AllLt D news → Q (.ref D) { s with heap := h', toks := tk' })
    (F : Fr h₀ L h m) (N : News h₀ L h news') (hm : (D, ({ cls := .type "tuple", data := .seq #[.int q' t1, .int r' t2] c } : Obj)) ∈ news') (hs : ∀ p ∈ news, p ∈ news') (hl : AllLt D news) (e1 : q' = q) (e2 : r' = r) :
    Q (.ref D) { s with heap := h, toks := tk } := by
  subst e1; subst e2
  refine ret D t1 t2 c h tk F (fun p hp => ?_) hl
  rcases List.mem_cons.mp hp with rfl | hp
  · exact N _ hm
  · exact N p (hs p hp)

set_option maxHeartbeats 8000000 in
theorem div3n2n_ct (w : World) (dd uu : Nat) (a12 a3 b b1 b2 n : Int) (t0 t1 t2 t3 t4 t5 : Tok)
    (hn : 1 ≤ n) (hnn : n ≤ 33554432) (h12 : 0 ≤ a12) (h3 : 0 ≤ a3) (h3' : a3 < 2 ^ n.toNat) (hb : b = b1 * 2 ^ n.toNat + b2) (hb1 : 2 ^ (n.toNat - 1) ≤ b1) (hb1' : b1 < 2 ^ n.toNat) (hb2 : 0 ≤ b2) (hb2' : b2 < 2 ^ n.toNat) (ha : a12 * 2 ^ n.toNat + a3 < b * 2 ^ n.toNat)
    (H : D2 w dd uu n) :
    CtPair w 28 [.int a12 t0, .int a3 t1, .int b t2, .int b1 t3, .int b2 t4, .int n t5] (dd + 2) (uu + 10) ((a12 * 2 ^ n.toNat + a3) / b) ((a12 * 2 ^ n.toNat + a3) % b) := by
  unfold CtPair
  k_fill
  k_with_none
  k_with "binaryOp LShift int int" => (((with_reducible refine lshift_int ?zqs0 ?zqs1 ?_); (case zqs0 => first | assumption | omega | decide); (case zqs1 => exact shl_ok (by assumption) (by omega))))
  k_with "binaryOp RShift int int" => (((with_reducible refine rshift_int ?zqs0 ?_); (case zqs0 => first | assumption | omega | decide)))
  k_with "binaryOp Mult int int" => ((with_reducible refine mul_int ?_ (mul_ok (by assumption) (by assumption) (by omega))))
  k_with "call ref" => ((k_here; k_extra "mycall"))
  intro p loose mean mg mb dp un gd cn cs ad ccd cl outer A₀ base h₀ L m news s Q E B F X N T hk hroom hunits hret
  have hn0 : 0 ≤ n := by omega
  have hP : (0 : Int) < 2 ^ n.toNat := pow_pos _
  have hb10 : 0 < b1 := by have := pow_pos (n.toNat - 1); omega
  have hb0 : 0 < b := by have := Int.mul_pos hb10 hP; omega
  have hab := d3_a12_lt hP h3 ha
  have z1 : Sz 1 1 := sz_one (by decide)
  have zb1 : Sz b1 n.toNat := sz_le (by omega) hb1'
  have zb2 : Sz b2 n.toNat := sz_le (by omega) hb2'
  by_cases hc : a12.fdiv (2 ^ n.toNat) = b1
  · have hcc : (a12.fdiv (2 ^ n.toNat) == b1) = true := by simpa using hc
    have hd := div_add_mod a12 (2 ^ n.toNat)
    have hd1 := Int.emod_lt_of_pos a12 hP
    have hd2 := Int.emod_nonneg a12 (show (2 : Int) ^ n.toNat ≠ 0 by omega)
    rw [fdiv_pow] at hc
    have hr0 : 0 ≤ a12 - b1 * 2 ^ n.toNat + b1 := by rw [hc] at hd; omega
    have zr : Sz (a12 - b1 * 2 ^ n.toNat + b1) (n.toNat + 1) := sz_le hr0 (by rw [hc] at hd; rw [Int.pow_succ]; omega)
    have zq : Sz (1 * 2 ^ n.toNat - 1) (n.toNat + 1) := sz_le (by omega) (by rw [Int.pow_succ]; omega)
    have hbo := bitOr_shl hr0 h3 h3'
    obtain ⟨hq, hlt⟩ := d3_pos hb ha
    rw [← hbo] at hq hlt
    refine wpAny_call ?_
    k_dflt ktr_enter
    k_with "StopDown" => exact stop_d3 hq hlt hb0
    k_steps
    all_goals (refine ct_end (w := w) hret (by k_asm) (by k_asm) (by k_mem) (by intro p9 h9; repeat (first | exact h9 | refine List.mem_cons_of_mem _ ?_)) (by first | assumption | exact And.right (by assumption) | exact And.right (And.right (by assumption))) ?e1 ?e2)
    case e1 => exact (end_d3 hq hlt (by assumption) (by assumption) (by assumption)).1
    case e2 => exact (end_d3 hq hlt (by assumption) (by assumption) (by assumption)).2
  · have hcc : (a12.fdiv (2 ^ n.toNat) == b1) = false := by simpa using hc
    rw [fdiv_pow] at hc
    have hlt12 := d3_not hP hab hb hb2' hc
    have hd := div_add_mod a12 b1
    have hd1 := Int.emod_lt_of_pos a12 hb10
    have hd2 := Int.emod_nonneg a12 (show b1 ≠ 0 by omega)
    have hq0 : 0 ≤ a12 / b1 := Int.ediv_nonneg h12 (by omega)
    have hqP : a12 / b1 < 2 ^ n.toNat := ediv_lt hb10 (by rw [Int.mul_comm]; exact hlt12)
    have zr : Sz (a12 % b1) (n.toNat + 1) := Sz.mono (k := n.toNat) (sz_le hd2 (by omega)) (by omega)
    have zq : Sz (a12 / b1) (n.toNat + 1) := Sz.mono (k := n.toNat) (sz_le hq0 hqP) (by omega)
    have hbo := bitOr_shl hd2 h3 h3'
    obtain ⟨hq, hlt⟩ := d3_neg hP h3' hb hb2 hd hq0 hd1
    rw [← hbo] at hq hlt
    refine wpAny_call ?_
    k_dflt ktr_enter
    k_with "StopDown" => exact stop_d3 hq hlt hb0
    k_with "mycall" => (refine' ct_use ?k1 ?k2 ?k3 ?k4 ?k5 ?kK (H _ _ _ _ _ ?g1 ?g2 ?g3 ?g4) ?kd ?ku ?_; (case k1 => k_asm); (case k2 => k_asm); (case k3 => k_asm); (case k4 => k_asm); (case k5 => k_asm); (case kK => exact rfl); (case g1 => assumption); (case g2 => assumption); (case g3 => assumption); (case g4 => assumption); (case kd => ktr_room); (case ku => ktr_units); (intro D' t1' t2' c' h' tk' F' N' l1); (try dsimp only); (try k_fold))
    k_steps
    all_goals (refine ct_end (w := w) hret (by k_asm) (by k_asm) (by k_mem) (by intro p9 h9; repeat (first | exact h9 | refine List.mem_cons_of_mem _ ?_)) (by first | assumption | exact And.right (by assumption) | exact And.right (And.right (by assumption))) ?e1 ?e2)
    case e1 => exact (end_d3 hq hlt (by assumption) (by assumption) (by assumption)).1
    case e2 => exact (end_d3 hq hlt (by assumption) (by assumption) (by assumption)).2
end Mine

end
section
open PySem PySem.W PyProof.Rows PySem.Calls PySem.Spec
namespace Mine
theorem my_divmod {prog : Program} {w : World} {A : Around} {E : Value → Shared → Prop} {s : Shared} {Q : Value → Shared → Prop} {a b : Int} {t u : Tok} {h₀ : Heap} {L : Addr} {m : Str → Option Value} {news : List (Addr × Obj)} (F : Fr h₀ L s.heap m) (N : News h₀ L s.heap news) (hb : 0 < b)
    (hp : Builtin.divisionGoesByPylong a b = false)
    (h : ∀ D t1 t2 c h' tk', Fr h₀ L h' m → News h₀ L h' ((D, ({ cls := .type "tuple", data := .seq #[.int (a / b) t1, .int (a % b) t2] c } : Obj)) :: news) → AllLt D news → Q (.ref D) { s with heap := h', toks := tk' }) :
    wpAny (model prog w) A (call (.builtin "divmod") [.int a t, .int b u]) Q E s := by
  have e1 : a.fdiv b = a / b := Int.fdiv_eq_ediv_of_nonneg _ (by omega)
  have e2 : a.fmod b = a % b := Int.fmod_eq_emod_of_nonneg _ (by omega)
  refine divmod_N F N (by omega) (fun h' F' N' => ?_) (Or.inl hp)
  rw [e1, e2] at N'
  exact h _ _ _ _ _ _ F' N' (allLt_of fun p hp => Heap.lt_size (N p hp).1)
set_option maxHeartbeats 8000000 in
theorem div2n1n_base (w : World) (dd uu : Nat) (a b n : Int) (t0 t1 t2 : Tok)
    (hb : 0 < b) (hl : (Builtin.Int.intBits a : Int) - n ≤ 4000) (hnp : Builtin.divisionGoesByPylong a b = false) :
    CtPair w 21 [.int a t0, .int b t1, .int n t2] (dd + 4) (uu + 20) (a / b) (a % b) := by
  unfold CtPair
  k_fill
  k_with_none
  k_with "binaryOp LShift int int" => (((with_reducible refine lshift_int ?zqs0 ?zqs1 ?_); (case zqs0 => first | assumption | omega | decide); (case zqs1 => exact shl_ok (by assumption) (by omega))))
  k_with "inplaceOp LShift int int" => (((with_reducible refine ilshift_int ?zqs0 ?zqs1 ?_); (case zqs0 => first | assumption | omega | decide); (case zqs1 => exact shl_ok (by assumption) (by omega))))
  k_with "binaryOp RShift int int" => (((with_reducible refine rshift_int ?zqs0 ?_); (case zqs0 => first | assumption | omega | decide)))
  k_with "inplaceOp RShift int int" => (((with_reducible refine irshift_int ?zqs0 ?_); (case zqs0 => first | assumption | omega | decide)))
  k_with "binaryOp Mult int int" => ((with_reducible refine mul_int ?_ (mul_ok (by assumption) (by assumption) (by omega))))
  k_with "call ref" => ((k_here; k_extra "mycall"))
  k_with "call builtin:divmod" => (((with_reducible show wpAny _ _ (call (Value.builtin _) [Value.int _ _, Value.int _ _]) _ _ _); refine my_divmod (by assumption) (by assumption) (by assumption) (by assumption) ?_; intro zqD' zqt1' zqt2' zqc' zqh' zqtk' zqF' zqN' zql1'; (try k_sweep)))
  intro p loose mean mg mb dp un gd cn cs ad ccd cl outer A₀ base h₀ L m news s Q E B F X N T hk hroom hunits hret
  refine wpAny_call ?_
  k_dflt ktr_enter
  k_steps
  all_goals (refine ct_end (w := w) hret (by k_asm) (by k_asm) (by k_mem) (by intro p9 h9; repeat (first | exact h9 | refine List.mem_cons_of_mem _ ?_)) (by first | assumption | exact And.right (by assumption) | exact And.right (And.right (by assumption)) | exact And.right (And.right (And.right (by assumption))) | exact And.right (And.right (And.right (And.right (by assumption))))) ?e1 ?e2)
  case e1 => rfl
  case e2 => rfl

set_option maxHeartbeats 8000000 in
theorem div2n1n_even (w : World) (dd uu : Nat) (a b n : Int) (t0 t1 t2 : Tok)
    (hl : ¬ ((Builtin.Int.intBits a : Int) - n ≤ 4000)) (hpad : Builtin.bitAnd n 1 = 0)
    (hH1 : 1 ≤ n.fdiv (2 ^ Int.toNat 1)) (hH2 : n.fdiv (2 ^ Int.toNat 1) ≤ 33554432) (hn0 : 0 ≤ n)
    (R : D2Raw a b n (n.fdiv (2 ^ Int.toNat 1))) (IH : D2 w dd uu (n.fdiv (2 ^ Int.toNat 1))) :
    CtPair w 21 [.int a t0, .int b t1, .int n t2] (dd + 4) (uu + 20) (a / b) (a % b) := by
  unfold CtPair
  k_fill
  k_with_none
  k_with "binaryOp LShift int int" => (((with_reducible refine lshift_int ?zqs0 ?zqs1 ?_); (case zqs0 => first | assumption | omega | decide); (case zqs1 => exact shl_ok (by assumption) (by omega))))
  k_with "inplaceOp LShift int int" => (((with_reducible refine ilshift_int ?zqs0 ?zqs1 ?_); (case zqs0 => first | assumption | omega | decide); (case zqs1 => exact shl_ok (by assumption) (by omega))))
  k_with "binaryOp RShift int int" => (((with_reducible refine rshift_int ?zqs0 ?_); (case zqs0 => first | assumption | omega | decide)))
  k_with "inplaceOp RShift int int" => (((with_reducible refine irshift_int ?zqs0 ?_); (case zqs0 => first | assumption | omega | decide)))
  k_with "binaryOp Mult int int" => ((with_reducible refine mul_int ?_ (mul_ok (by assumption) (by assumption) (by omega))))
  k_with "call ref" => ((k_here; k_extra "mycall"))
  k_with "call builtin:divmod" => (((with_reducible show wpAny _ _ (call (Value.builtin _) [Value.int _ _, Value.int _ _]) _ _ _); refine my_divmod (by assumption) (by assumption) (by assumption) (by assumption) ?_; intro zqD' zqt1' zqt2' zqc' zqh' zqtk' zqF' zqN' zql1'; (try k_sweep)))
  intro p loose mean mg mb dp un gd cn cs ad ccd cl outer A₀ base h₀ L m news s Q E B F X N T hk hroom hunits hret
  obtain ⟨g12, g3, g3', gb, gb1, gb1', gb2, gb2', ga, gr, g4, g4', gr', zq, eq1, eq2⟩ := R
  have hH0 : 0 ≤ n.fdiv (2 ^ Int.toNat 1) := by omega
  have hpp : (Builtin.bitAnd n 1 != 0) = false := by simp [hpad]
  have z1 : Sz 1 1 := sz_one (by decide)
  refine wpAny_call ?_
  k_dflt ktr_enter
  k_with "mycall" => (refine' ct_use ?k1 ?k2 ?k3 ?k4 ?k5 ?kK (div3n2n_ct w dd uu _ _ _ _ _ _ _ _ _ _ _ _ hH1 hH2 ?g1 ?g2 ?g3 gb gb1 gb1' gb2 gb2' ?g4 IH) ?kd ?ku ?_; (case k1 => k_asm); (case k2 => k_asm); (case k3 => k_asm); (case k4 => k_asm); (case k5 => k_asm); (case kK => exact rfl); (case g1 => assumption); (case g2 => assumption); (case g3 => assumption); (case g4 => assumption); (case kd => ktr_room); (case ku => ktr_units); (intro D' t1' t2' c' h' tk' F' N' l1); (try dsimp only); (try k_fold))
  k_steps
  all_goals (refine ct_end (w := w) hret (by k_asm) (by k_asm) (by k_mem) (by intro p9 h9; repeat (first | exact h9 | refine List.mem_cons_of_mem _ ?_)) (by first | assumption | exact And.right (by assumption) | exact And.right (And.right (by assumption)) | exact And.right (And.right (And.right (by assumption))) | exact And.right (And.right (And.right (And.right (by assumption))))) ?e1 ?e2)
  case e1 => exact eq1
  case e2 => exact eq2

set_option maxHeartbeats 8000000 in
theorem div2n1n_odd (w : World) (dd uu : Nat) (a b n : Int) (t0 t1 t2 : Tok)
    (hl : ¬ ((Builtin.Int.intBits a : Int) - n ≤ 4000)) (hpad : Builtin.bitAnd n 1 ≠ 0)
    (hH1 : 1 ≤ (n + 1).fdiv (2 ^ Int.toNat 1)) (hH2 : (n + 1).fdiv (2 ^ Int.toNat 1) ≤ 33554432) (hn0 : 0 ≤ n) (za : Sz a 100000000) (zb : Sz b 100000000)
    (ea : (a * 2 ^ Int.toNat 1) / (b * 2 ^ Int.toNat 1) = a / b) (em : ((a * 2 ^ Int.toNat 1) % (b * 2 ^ Int.toNat 1)).fdiv (2 ^ Int.toNat 1) = a % b)
    (R : D2Raw (a * 2 ^ Int.toNat 1) (b * 2 ^ Int.toNat 1) (n + 1) ((n + 1).fdiv (2 ^ Int.toNat 1))) (IH : D2 w dd uu ((n + 1).fdiv (2 ^ Int.toNat 1))) :
    CtPair w 21 [.int a t0, .int b t1, .int n t2] (dd + 4) (uu + 20) (a / b) (a % b) := by
  unfold CtPair
  k_fill
  k_with_none
  k_with "binaryOp LShift int int" => (((with_reducible refine lshift_int ?zqs0 ?zqs1 ?_); (case zqs0 => first | assumption | omega | decide); (case zqs1 => exact shl_ok (by assumption) (by omega))))
  k_with "inplaceOp LShift int int" => (((with_reducible refine ilshift_int ?zqs0 ?zqs1 ?_); (case zqs0 => first | assumption | omega | decide); (case zqs1 => exact shl_ok (by assumption) (by omega))))
  k_with "binaryOp RShift int int" => (((with_reducible refine rshift_int ?zqs0 ?_); (case zqs0 => first | assumption | omega | decide)))
  k_with "inplaceOp RShift int int" => (((with_reducible refine irshift_int ?zqs0 ?_); (case zqs0 => first | assumption | omega | decide)))
  k_with "binaryOp Mult int int" => ((with_reducible refine mul_int ?_ (mul_ok (by assumption) (by assumption) (by omega))))
  k_with "call ref" => ((k_here; k_extra "mycall"))
  k_with "call builtin:divmod" => (((with_reducible show wpAny _ _ (call (Value.builtin _) [Value.int _ _, Value.int _ _]) _ _ _); refine my_divmod (by assumption) (by assumption) (by assumption) (by assumption) ?_; intro zqD' zqt1' zqt2' zqc' zqh' zqtk' zqF' zqN' zql1'; (try k_sweep)))
  intro p loose mean mg mb dp un gd cn cs ad ccd cl outer A₀ base h₀ L m news s Q E B F X N T hk hroom hunits hret
  obtain ⟨g12, g3, g3', gb, gb1, gb1', gb2, gb2', ga, gr, g4, g4', gr', zq, eq1, eq2⟩ := R
  have hH0 : 0 ≤ (n + 1).fdiv (2 ^ Int.toNat 1) := by omega
  have hpp : (Builtin.bitAnd n 1 != 0) = true := by simp [hpad]
  have z1 : Sz 1 1 := sz_one (by decide)
  refine wpAny_call ?_
  k_dflt ktr_enter
  k_with "mycall" => (refine' ct_use ?k1 ?k2 ?k3 ?k4 ?k5 ?kK (div3n2n_ct w dd uu _ _ _ _ _ _ _ _ _ _ _ _ hH1 hH2 ?g1 ?g2 ?g3 gb gb1 gb1' gb2 gb2' ?g4 IH) ?kd ?ku ?_; (case k1 => k_asm); (case k2 => k_asm); (case k3 => k_asm); (case k4 => k_asm); (case k5 => k_asm); (case kK => exact rfl); (case g1 => assumption); (case g2 => assumption); (case g3 => assumption); (case g4 => assumption); (case kd => ktr_room); (case ku => ktr_units); (intro D' t1' t2' c' h' tk' F' N' l1); (try dsimp only); (try k_fold))
  k_steps
  all_goals (refine ct_end (w := w) hret (by k_asm) (by k_asm) (by k_mem) (by intro p9 h9; repeat (first | exact h9 | refine List.mem_cons_of_mem _ ?_)) (by first | assumption | exact And.right (by assumption) | exact And.right (And.right (by assumption)) | exact And.right (And.right (And.right (by assumption))) | exact And.right (And.right (And.right (And.right (by assumption))))) ?e1 ?e2)
  case e1 => rw [eq1, ea]
  case e2 => rw [eq2, em]
end Mine

end
section
open PySem PySem.W PyProof.Rows PySem.Calls PySem.Spec
namespace Mine
theorem half_eq (n : Int) : n.fdiv (2 ^ Int.toNat 1) = n / 2 := by
  have e : (2 : Int) ^ Int.toNat 1 = 2 := by decide
  rw [e, Int.fdiv_eq_ediv_of_nonneg _ (by decide)]
theorem d2_step (w : World) (dd uu : Nat) (n : Int) (hn : 1 ≤ n) (hnn : n ≤ 33554432) (IH : 4000 < n → ∀ h, 1 ≤ h → h ≤ 33554432 → 2 * h ≤ n + 1 → D2 w dd uu h) : D2 w (dd + 4) (uu + 20) n := by
  intro a b ta tb tn ha hb hb' hab
  have hb0 : 0 < b := by have := pow_pos (n.toNat - 1); omega
  by_cases hl : (Builtin.Int.intBits a : Int) - n ≤ 4000
  · exact div2n1n_base w dd uu a b n ta tb tn hb0 hl (no_pylong hn hb hb' hl)
  · have hP := pow_pos n.toNat
    have h2n : (2 : Int) ^ (n.toNat + n.toNat) = 2 ^ n.toNat * 2 ^ n.toNat := pow_add _ _
    have hlt : b * 2 ^ n.toNat < 2 ^ n.toNat * 2 ^ n.toNat := Int.mul_lt_mul_of_pos_right hb' hP
    have za : Sz a (n.toNat + n.toNat) := sz_le ha (by omega)
    have zb : Sz b n.toNat := sz_le (by omega) hb'
    have hbits := bits_of_sz za
    have h4 : 4000 < n := by omega
    have e2 : (2 : Int) ^ Int.toNat 1 = 2 := by decide
    by_cases hpad : Builtin.bitAnd n 1 = 0
    · have hp := hpad
      rw [bitAnd_one] at hp
      refine div2n1n_even w dd uu a b n ta tb tn hl hpad ?_ ?_ (by omega) (d2_raw ?_ ?_ ha hb hb' hab) (IH h4 _ ?_ ?_ ?_) <;> rw [half_eq] <;> omega
    · have hp := hpad
      rw [bitAnd_one] at hp
      have t1 : (n + 1).toNat = n.toNat + 1 := by omega
      have t2 : (n + 1).toNat - 1 = (n.toNat - 1) + 1 := by omega
      refine div2n1n_odd w dd uu a b n ta tb tn hl hpad ?_ ?_ (by omega) (Sz.mono za (by omega)) (Sz.mono zb (by omega)) ?_ ?_ (d2_raw ?_ ?_ ?_ ?_ ?_ ?_) (IH h4 _ ?_ ?_ ?_)
      · rw [half_eq]; omega
      · rw [half_eq]; omega
      · rw [e2]; exact Int.mul_ediv_mul_of_pos_left _ _ (by decide)
      · rw [e2, Int.mul_comm a, Int.mul_comm b, Int.mul_emod_mul_of_pos _ _ (by decide), Int.fdiv_eq_ediv_of_nonneg _ (by decide)]; omega
      · rw [half_eq]; omega
      · rw [half_eq]; omega
      · rw [e2]; omega
      · rw [e2, t2, Int.pow_succ]; omega
      · rw [e2, t1, Int.pow_succ]; omega
      · rw [e2, t1, Int.pow_succ]
        have : b * 2 * (2 ^ n.toNat * 2) = 4 * (b * 2 ^ n.toNat) := by grind
        have : 0 < b * 2 ^ n.toNat := Int.mul_pos hb0 hP
        omega
      · rw [half_eq]; omega
      · rw [half_eq]; omega
      · rw [half_eq]; omega
theorem d2_all (w : World) : ∀ (k : Nat) (n : Int), 1 ≤ n → n ≤ 33554432 → n ≤ 4000 * 2 ^ k → D2 w (4 * k + 4) (20 * k + 20) n
  | 0, n, hn, hnn, hk => d2_step w 0 0 n hn hnn fun h => absurd hk (by simp; omega)
  | k + 1, n, hn, hnn, hk => d2_step w (4 * k + 4) (20 * k + 20) n hn hnn fun _ h h1 h2 h3 => d2_all w k h h1 h2 (by rw [Int.pow_succ] at hk; omega)
theorem d2_any (w : World) {n : Int} (hn : 1 ≤ n) (hnn : n ≤ 33554432) : D2 w 60 300 n := by
  have : (4000 : Int) * 2 ^ 14 = 65536000 := by decide
  exact d2_all w 14 n hn hnn (by omega)
end Mine

end
section
open PySem PySem.W PyProof.Rows PySem.Calls PySem.Spec
namespace Mine
theorem my_rep {prog : Program} {w : World} {A : Around} {E : Value → Shared → Prop} {s : Shared} {h₀ : Heap} {L : Addr} {m : Str → Option Value} {news : List (Addr × Obj)} {l : Addr} {v : Value} {x : Int} {u : Tok} {Q : Value → Shared → Prop}
    (Fm : Fr h₀ L s.heap m) (N : News h₀ L s.heap news) (hm : (l, listOf #[v] 0) ∈ news) (hlo : 0 ≤ x) (hhi : x ≤ 16777216)
    (h : ∀ D h', Fr h₀ L h' m → News h₀ L h' ((D, listOf (List.replicate x.toNat v).toArray 0) :: news) → AllLt D news → Q (.ref D) { s with heap := h' }) : wpAny (model prog w) A (binaryOp .Mult (.ref l) (.int x u)) Q E s := by
  refine PyProof.Rows.mul_list Fm N (N.get hm) (by omega) (by omega) (by show 1 * x.toNat ≤ 2 ^ 24; omega) (fun h' F' N' => ?_)
  have e : List.foldl (fun x1 x2 => x1 ++ x2) #[] (List.replicate (if (#[v] : Array Value).isEmpty = true then 0 else x.toNat) #[v]) = (List.replicate x.toNat v).toArray := by
    have e1 : ∀ n : Nat, (List.replicate n [v]).flatten = List.replicate n v := by
      intro n
      induction n with
      | zero => rfl
      | succ n ih => rw [List.replicate_succ, List.flatten_cons, ih, List.replicate_succ]; rfl
    rw [listMul_foldl_if, e1]
  rw [e] at N'
  exact h _ _ F' N' (allLt_of fun p hp => Heap.lt_size (N p hp).1)
theorem all_ne {c l : Addr} : ∀ {news : List (Addr × Obj)}, AllLt l news → (@LE.le Nat _ l c) → ∀ p ∈ news, p.1 ≠ c
  | [], _, _, _, h => nomatch h
  | q :: r, h, hl, p, hp => by
    rcases List.mem_cons.mp hp with rfl | hp
    · exact Nat.ne_of_lt (Nat.lt_of_lt_of_le h.1 hl)
    · exact all_ne h.2 hl p hp
section
variable {d : Addr} {o o' : Obj} {l : List (Addr × Obj)} {g : Obj → List (Addr × Obj)} {p : Addr × Obj}
theorem updF_upd (U : UpdF d o l g) (o' : Obj) : Upd d o o' l (g o') := by
  induction U with
  | head h => exact .head h
  | tail h _ ih => exact .tail h ih
theorem updF_again (U : UpdF d o l g) (o' : Obj) : UpdF d o' (g o') g := by
  induction U with
  | head h => exact .head h
  | tail h _ ih => exact .tail h ih
theorem updF_mem (U : UpdF d o l g) (hp : p ∈ l) (hd : p.1 ≠ d) (o' : Obj) : p ∈ g o' := by
  induction U with
  | head h =>
    rcases List.mem_cons.mp hp with rfl | hp
    · exact absurd rfl hd
    · exact List.mem_cons_of_mem _ hp
  | tail h _ ih =>
    rcases List.mem_cons.mp hp with rfl | hp
    · exact List.mem_cons_self
    · exact List.mem_cons_of_mem _ (ih hp)
theorem updF_self (U : UpdF d o l g) : (d, o) ∈ l := by
  induction U with
  | head h => exact List.mem_cons_self
  | tail h _ ih => exact List.mem_cons_of_mem _ ih
end

def nestedIn : List Stmt → Option (Arguments × List Stmt × Scope)
  | [] => none
  | .FunctionDef _ a b _ _ _ sc _ _ _ :: _ => some (a, b, sc)
  | _ :: r => nestedIn r
def nestObj : Obj → Option (Arguments × List Stmt × Scope)
  | ⟨_, _, .func fd, _⟩ => (match fd.body with
    | .stmts b => nestedIn b
    | _ => none)
  | _ => none
theorem nest_key {K : Frag} {f : Addr} {o : Obj} {x : Option (Arguments × List Stmt × Scope)} (h : K.lookup f = some o) (hx : (K.lookup f).bind nestObj = x) : nestObj o = x := by
  rw [h] at hx; exact hx

def I2dCt (w : World) (f D : Addr) (need : List (Addr × Obj)) (n : Int) (k : Nat) : Prop :=
  ∀ (p : Program) (loose : List Str) (mean : ExcName → Option Value) (mg mb : Str → Option Value)
    (dp un : Nat) (gd : Option (List Code)) (cn : Str) (cs : Scope) (a : Addr) (ccd : Value) (cl : List (Str × Addr)) (outer : List Env) (A₀ : Around) (base h₀ : Heap) (L : Addr) (m : Str → Option Value) (news : List (Addr × Obj)) (g : Obj → List (Addr × Obj)) (s : Shared)
    (Q E : Value → Shared → Prop) (items : List Value) (ns : List Int) (x lo hi : Int) (tx tl th : Tok),
    Below A₀ base outer h₀ → Fr h₀ L s.heap m → (_root_.hd.heap_39 w.params).In h₀ → News h₀ L s.heap news → Top p loose mean mg mb h₀ → cs.kind = .function →
    UpdF D (listOf items.toArray 0) news g → (∀ p ∈ need, p ∈ news) → IntsAre items ns →
    0 ≤ lo → lo < hi → hi ≤ ns.length → hi - lo ≤ 2 ^ k → (ns.length : Int) ≤ 16777216 → n * ns.length ≤ 50000000 → 0 ≤ x → x < 2 ^ (n.toNat * (hi - lo).toNat) →
    dp + (k + 2) < recursionLimit → un + (10 * k + 10) < cLine →
    (∀ items' h' tk', IntsAre items' (ns.take lo.toNat ++ (digs n.toNat (hi - lo).toNat x ++ ns.drop hi.toNat)) → Fr h₀ L h' m → News h₀ L h' (g (listOf items'.toArray 0)) → Q .none { s with heap := h', toks := tk' }) →
    wpAny (model PySem.Challenge.rw_ta0142_02.row.prog w) (ktrTop dp un gd cn cs L a ccd cl outer) (call (.ref f) [.int x tx, .int lo tl, .int hi th]) Q E s

theorem i2d_use {w : World} {f D : Addr} {need : List (Addr × Obj)} {n : Int} {k : Nat} (C : I2dCt w f D need n k) {p : Program} {loose : List Str} {mean : ExcName → Option Value} {mg mb : Str → Option Value}
    {dp un : Nat} {gd : Option (List Code)} {cn : Str} {cs : Scope} {a : Addr} {ccd : Value} {cl : List (Str × Addr)} {outer : List Env} {A₀ : Around} {base h₀ : Heap} {L : Addr} {m : Str → Option Value} {news : List (Addr × Obj)} {g : Obj → List (Addr × Obj)} {s : Shared}
    {Q E : Value → Shared → Prop} {items : List Value} {ns : List Int} {x lo hi : Int} {tx tl th : Tok}
    (B : Below A₀ base outer h₀) (F : Fr h₀ L s.heap m) (X : (_root_.hd.heap_39 w.params).In h₀) (N : News h₀ L s.heap news) (T : Top p loose mean mg mb h₀) (hk : cs.kind = .function)
    (U : UpdF D (listOf items.toArray 0) news g) (hneed : ∀ p ∈ need, p ∈ news) (hints : IntsAre items ns)
    (h0 : 0 ≤ lo) (h1 : lo < hi) (h2 : hi ≤ ns.length) (h3 : hi - lo ≤ 2 ^ k) (h4 : (ns.length : Int) ≤ 16777216) (h5 : n * ns.length ≤ 50000000) (h6 : 0 ≤ x) (h7 : x < 2 ^ (n.toNat * (hi - lo).toNat))
    (hd : dp + (k + 2) < recursionLimit) (hu : un + (10 * k + 10) < cLine)
    (ret : ∀ items' h' tk', IntsAre items' (ns.take lo.toNat ++ (digs n.toNat (hi - lo).toNat x ++ ns.drop hi.toNat)) → Fr h₀ L h' m → News h₀ L h' (g (listOf items'.toArray 0)) → Q .none { s with heap := h', toks := tk' }) :
    wpAny (model PySem.Challenge.rw_ta0142_02.row.prog w) (ktrTop dp un gd cn cs L a ccd cl outer) (call (.ref f) [.int x tx, .int lo tl, .int hi th]) Q E s :=
  C _ _ _ _ _ _ _ _ _ _ _ _ _ _ _ _ _ _ _ _ _ _ _ _ _ _ _ _ _ _ _ _ B F X N T hk U hneed hints h0 h1 h2 h3 h4 h5 h6 h7 hd hu ret

set_option maxHeartbeats 1000000 in
theorem i2d_inner (w : World) (params : Arguments) (body : List Stmt) (scope : Scope) (hno : ((_root_.hd.heap_39 w.params).lookup 35).bind nestObj = some (params, body, scope))
    (name qual : Str) (f D cA cI cN c' : Addr) (doc pm ctv : Value) (oA oI oN oc : Obj) (vs : Array Value) (tq tn : Tok) (n : Int)
    (hA : oA.data = .cell (some (.ref D))) (hI : oI.data = .cell (some (.ref f))) (hN : oN.data = .cell (some (.int n tn))) (hoc : oc.data = .fields vs) (hvs : vs[1]? = some (.str qual tq))
    (dA : cA ≠ D) (dI : cI ≠ D) (dN : cN ≠ D) (df : f ≠ D) (dc : c' ≠ D) (hn : 1 ≤ n) (hnn : n ≤ 33554432) :
    ∀ k, I2dCt w f D [(f, fnMade name qual params body scope [(Str.ofString "n", cN), (Str.ofString "inner", cI), (Str.ofString "a_digits", cA)] doc pm c' ctv), (cA, oA), (cI, oI), (cN, oN), (c', oc)] n k := by
  intro k
  induction k using Nat.strongRecOn with
  | ind k ih =>
  unfold I2dCt
  k_fill
  k_with_none
  k_with "binaryOp LShift int int" => (((with_reducible refine lshift_int ?zqs0 ?zqs1 ?_); (case zqs0 => first | assumption | omega | decide); (case zqs1 => exact shl_ok (by assumption) (by assumption))))
  k_with "binaryOp RShift int int" => (((with_reducible refine rshift_int ?zqs0 ?_); (case zqs0 => first | assumption | omega | decide)))
  k_with "binaryOp Mult int int" => ((with_reducible refine mul_int ?_ (mul_ok (by assumption) (by assumption) (by decide))))
  k_with "eval Name" => ((k_here; kc_free; k_dflt (refine' nameX_F ?zqN ?zqc ?zqm ?zqd ?_ ?zqa ?zqb; (case zqa => rfl); (case zqb => rfl); (case zqN => k_asm); (case zqc => rfl); (case zqm => first | assumption | k_extra "mymem"); (case zqd => assumption); k_whole)))
  k_with "callWith ref" => ((k_here; k_dflt (refine' callWith_F ?zqk1 ?_; (case zqk1 => k_extra "myfn"); k_whole)))
  k_with "FnAt" => ((k_extra "myfn"))
  k_with "setItem ref int" => ((k_extra "myset"))
  k_with "call ref" => ((k_here; k_extra "mycall"))
  have hno2 := nest_key (by k_is) hno
  clear hno
  dsimp only [nestObj, nestedIn] at hno2
  cases hno2
  intro p loose mean mg mb dp un gd cn cs ad ccd cl outer A₀ base h₀ L m news g s Q E items ns x lo hi tx tl th B F X N T hk U hneed hints h0 h1 h2 h3 h4 h5 h6 h7 hroom hunits hret
  have mf := hneed _ (List.mem_cons_self)
  have mA := hneed _ (List.mem_cons_of_mem _ (List.mem_cons_self))
  have mI := hneed _ (List.mem_cons_of_mem _ (List.mem_cons_of_mem _ (List.mem_cons_self)))
  have mN := hneed _ (List.mem_cons_of_mem _ (List.mem_cons_of_mem _ (List.mem_cons_of_mem _ (List.mem_cons_self))))
  have mc := hneed _ (List.mem_cons_of_mem _ (List.mem_cons_of_mem _ (List.mem_cons_of_mem _ (List.mem_cons_of_mem _ (List.mem_cons_self)))))
  have hneed2 : ∀ o' : Obj, ∀ p ∈ _, p ∈ g o' := fun o' p hp => updF_mem U (hneed p hp) (by
    rcases List.mem_cons.mp hp with rfl | hp
    · exact df
    · rcases List.mem_cons.mp hp with rfl | hp
      · exact dA
      · rcases List.mem_cons.mp hp with rfl | hp
        · exact dI
        · rcases List.mem_cons.mp hp with rfl | hp
          · exact dN
          · rcases List.mem_cons.mp hp with rfl | hp
            · exact dc
            · exact nomatch hp) o'
  by_cases hlo : lo + 1 = hi
  · have hc : (lo + 1 == hi) = true := by simpa using hlo
    have hll : lo < ns.length := by omega
    have hfit : lo < 2 ^ 63 := by omega
    have ehl : hi.toNat - lo.toNat = (hi - lo).toNat := by omega
    have h7' := h7
    rw [← ehl] at h7'
    have hset := set_as_digs (n := n.toNat) (lo := lo.toNat) (hi := hi.toNat) (x := x) (ns := ns) (by omega) (by omega) h6 h7'
    rw [ehl] at hset
    clear h7' ehl
    refine wpAny_call ?_
    k_dflt (refine' code_nest ?k1 ?k2 ?k3 ?k4 ?k5 ?kA ?kF ?kK ?k6 ?k7 ?k8 ?k9 ?kB ?_ ?c2 ?c3 ?c4 ?c5; (case kA => exact rfl); (case kF => exact rfl); (case kK => assumption); (case k1 => k_asm); (case k2 => k_asm); (case k3 => k_asm); (case k4 => k_asm); (case k5 => k_asm); (case k6 => exact mf); (case k7 => exact codeRec_news N mc hoc hvs); (case k8 => ktr_room); (case k9 => exact BindsTo.of_eq rfl); (case c5 => decide); (case kB => exact locs rfl); (case c2 => exact rfl); (case c3 => exact rfl); (case c4 => exact rfl); k_whole; intro g' L' h' FG' F' N' B' X' T'; (try dsimp only); (try k_lift B'); (try k_fold))
    k_with "myset" => (refine' ksa_set ?F ?N (updF_upd U _) hints h0 hll hfit ?_; (case F => k_asm); (case N => k_asm); intro h' F' N' hi' hl' hs'; (try k_sweep))
    k_steps
    all_goals (rename_i hi' _ _ _ _ _; rw [hset] at hi'; exact hret _ _ _ hi' (by k_asm) (by k_asm))
  · have hc : (lo + 1 == hi) = false := by simpa using hlo
    obtain ⟨m1, m2, m3, m4, m5, m6, m7, s0, z1, z2, z3, z4, u1, u2, l1, l2, eq⟩ := i2d_raw hn hnn h0 (show lo + 1 < hi by omega) h2 h3 h4 h5 h6 h7 (half_fdiv (lo + hi))
    have hlen := join_len (ns := ns) (lo := lo.toNat) (mid := ((lo + hi).fdiv (2 ^ Int.toNat 1)).toNat) (d1 := digs n.toNat ((lo + hi).fdiv (2 ^ Int.toNat 1) - lo).toNat (Builtin.bitXor x (x.fdiv (2 ^ (((lo + hi).fdiv (2 ^ Int.toNat 1) - lo) * n).toNat) * 2 ^ (((lo + hi).fdiv (2 ^ Int.toNat 1) - lo) * n).toNat))) (by rw [digs_length]; omega) (by omega)
    have hjoin := join_lists (ns := ns) (lo := lo.toNat) (mid := ((lo + hi).fdiv (2 ^ Int.toNat 1)).toNat) (hi := hi.toNat) (d1 := digs n.toNat ((lo + hi).fdiv (2 ^ Int.toNat 1) - lo).toNat (Builtin.bitXor x (x.fdiv (2 ^ (((lo + hi).fdiv (2 ^ Int.toNat 1) - lo) * n).toNat) * 2 ^ (((lo + hi).fdiv (2 ^ Int.toNat 1) - lo) * n).toNat)))
      (d2 := digs n.toNat (hi - (lo + hi).fdiv (2 ^ Int.toNat 1)).toNat (x.fdiv (2 ^ (((lo + hi).fdiv (2 ^ Int.toNat 1) - lo) * n).toNat))) (by rw [digs_length]; omega) (by rw [digs_length]; omega) (by omega)
    rw [eq] at hjoin
    refine wpAny_call ?_
    k_dflt (refine' code_nest ?k1 ?k2 ?k3 ?k4 ?k5 ?kA ?kF ?kK ?k6 ?k7 ?k8 ?k9 ?kB ?_ ?c2 ?c3 ?c4 ?c5; (case kA => exact rfl); (case kF => exact rfl); (case kK => assumption); (case k1 => k_asm); (case k2 => k_asm); (case k3 => k_asm); (case k4 => k_asm); (case k5 => k_asm); (case k6 => exact mf); (case k7 => exact codeRec_news N mc hoc hvs); (case k8 => ktr_room); (case k9 => exact BindsTo.of_eq rfl); (case c5 => decide); (case kB => exact locs rfl); (case c2 => exact rfl); (case c3 => exact rfl); (case c4 => exact rfl); k_whole; intro g' L' h' FG' F' N' B' X' T'; (try dsimp only); (try k_lift B'); (try k_fold))
    have mf2 := fun o' => hneed2 o' _ (List.mem_cons_self)
    have mI2 := fun o' => hneed2 o' _ (List.mem_cons_of_mem _ (List.mem_cons_of_mem _ (List.mem_cons_self)))
    k_with "mymem" => exact mI2 _
    k_with "myfn" => first | exact FnAt.of (by k_asm) mf | exact FnAt.of (by k_asm) (mf2 _)
    k_with "mycall" => (refine' i2d_use (ih _ m6) ?B ?F ?X ?N ?T ?hk ?U ?need ?kin ?a0 ?a1 ?a2 ?a3 ?a4 ?a5 ?a6 ?a7 ?hd ?hu ?_; (case B => k_asm); (case F => k_asm); (case X => k_asm); (case N => k_asm); (case T => k_asm); (case hk => exact rfl); (case U => first | exact U | exact updF_again U _); (case need => first | exact hneed | exact hneed2 _); (case kin => assumption); (case a0 => assumption); (case a1 => assumption); (case a2 => first | assumption | (rw [hlen]; assumption)); (case a3 => assumption); (case a4 => first | assumption | (rw [hlen]; assumption)); (case a5 => first | assumption | (rw [hlen]; assumption)); (case a6 => assumption); (case a7 => assumption); (case hd => ktr_room); (case hu => ktr_units); (intro items' h' tk' hints' F' N'); (try dsimp only); (try k_fold))
    k_steps
    all_goals (rw [hjoin] at hints'; exact hret _ _ _ hints' (by k_asm) (by k_asm))
end Mine

end
section
open PySem PySem.W PyProof.Rows PySem.Calls PySem.Spec
namespace Mine
def Tab1 (P : Addr) (line col : Nat) (qual : Str) (tb : List (Addr × Obj)) : Prop :=
  tb = [(P, tabObj #[])] ∨ ∃ (c' : Addr) (oc : Obj) (vs : Array Value) (t : Tok), tb = [(P, tabObj (#[] ++ #[rawInt line, rawInt col, .ref c'])), (c', oc)] ∧ oc.data = .fields vs ∧ vs[1]? = some (.str qual t) ∧ @LT.lt Nat _ 50 c'
def qI2D : Str := (Str.ofString "_int2digits" ++ ".<locals>.") ++ Str.ofString "inner"
theorem ints_replicate (k : Nat) (t : Tok) : IntsAre (List.replicate k (Value.int 0 t)) (List.replicate k 0) := by
  induction k with
  | zero => exact .nil
  | succ k ih => rw [List.replicate_succ, List.replicate_succ]; exact .cons _ _ ih
theorem my_len {prog : Program} {w : World} {A : Around} {E : Value → Shared → Prop} {s : Shared} {h₀ : Heap} {L : Addr} {news : List (Addr × Obj)} {l : Addr} {vs : List Value} {c : Nat} {k : Int} {Q : Value → Shared → Prop}
    (N : News h₀ L s.heap news) (hm : (l, listOf vs.toArray c) ∈ news) (hk : (vs.length : Int) = k) (hfit : k < 9223372036854775808)
    (h : Q (.int k (s.toks + 1)) { s with toks := s.toks + 1 + 1 }) : wpAny (model prog w) A (call (.builtin "len") [.ref l]) Q E s := by
  subst hk
  refine PyProof.Rows.len_list (PySem.IsL.isList (n := c) (N _ hm).1) (by simpa using hfit) ?_
  have e : ((vs.toArray.size : Nat) : Int) = (vs.length : Int) := by simp
  rw [e]; exact h
theorem i2d_end {n : Int} {K : Nat} {h₀ h : Heap} {L D c' : Addr} {m : Str → Option Value} {led rest : List (Addr × Obj)} {s : Shared} {Q : Value → Shared → Prop} {items : List Value} {tk : Nat} {a : Int} {oc : Obj} {vs : Array Value} {t : Tok}
    (ret : ∀ D items h' tk' tb', Tab1 30 32 4 qI2D tb' → (∀ p ∈ tb', p.1 ≠ D) → @LT.lt Nat _ 50 D → AllLt D rest → IntsAre items (digs n.toNat K a) → Fr h₀ L h' m → News h₀ L h' ((D, listOf items.toArray 0) :: (tb' ++ rest)) → Q (.ref D) { s with heap := h', toks := tk' })
    (F : Fr h₀ L h m) (N : News h₀ L h led) (m1 : (D, listOf items.toArray 0) ∈ led) (m2 : ((30 : Addr), tabObj (#[] ++ #[rawInt (32 : Nat), rawInt (4 : Nat), .ref c'])) ∈ led) (m3 : (c', oc) ∈ led) (m4 : ∀ p ∈ rest, p ∈ led)
    (hoc : oc.data = .fields vs) (hvs : vs[1]? = some (.str qI2D t)) (hlt : @LT.lt Nat _ 50 c') (d0 : @LT.lt Nat _ 50 D) (d1 : @Ne Nat D 30) (d2 : @Ne Nat D c') (hl : AllLt D rest) (hints : IntsAre items (digs n.toNat K a)) :
    Q (.ref D) { s with heap := h, toks := tk } := by
  refine ret D items h tk [((30 : Addr), tabObj (#[] ++ #[rawInt (32 : Nat), rawInt (4 : Nat), .ref c'])), (c', oc)] (.inr ⟨c', oc, vs, t, rfl, hoc, hvs, hlt⟩) ?_ d0 hl hints F ?_
  · intro p hp
    rcases List.mem_cons.mp hp with rfl | hp
    · exact Ne.symm d1
    · rw [List.mem_singleton.mp hp]; exact Ne.symm d2
  · intro p hp
    rcases List.mem_cons.mp hp with rfl | hp
    · exact N _ m1
    · rcases List.mem_cons.mp hp with rfl | hp
      · exact N _ m2
      · rcases List.mem_cons.mp hp with rfl | hp
        · exact N _ m3
        · exact N _ (m4 _ hp)
theorem len_rep {k : Nat} {v : Value} {K : Int} (h : (k : Int) = K) : ((List.replicate k v).length : Int) = K := by rw [List.length_replicate]; exact h
theorem mem5 {α : Type} {a b c d e : α} {l : List α} (h1 : a ∈ l) (h2 : b ∈ l) (h3 : c ∈ l) (h4 : d ∈ l) (h5 : e ∈ l) : ∀ p ∈ [a, b, c, d, e], p ∈ l := by
  intro p hp
  simp only [List.mem_cons, List.not_mem_nil, or_false] at hp
  rcases hp with rfl | rfl | rfl | rfl | rfl <;> assumption
theorem nest_mk {K : Frag} {f : Addr} {o : Obj} {x : Option (Arguments × List Stmt × Scope)} (h : K.lookup f = some o) (hx : nestObj o = x) : (K.lookup f).bind nestObj = x := by
  rw [h]; exact hx

local macro_rules | `(tactic| k_all) => `(tactic| k_extra "kall")
set_option maxHeartbeats 8000000 in
theorem i2d_pos (w : World) (a n : Int) (hn : 1 ≤ n) (hnn : n ≤ 33554432) (ha : 0 < a)
   (hk0 : 0 < ((Builtin.Int.intBits a : Int) + n - 1).fdiv n) (hk1 : ((Builtin.Int.intBits a : Int) + n - 1).fdiv n ≤ 16777216) (hk2 : n * ((Builtin.Int.intBits a : Int) + n - 1).fdiv n ≤ 50000000)
   (hk3 : a < 2 ^ (n.toNat * (((Builtin.Int.intBits a : Int) + n - 1).fdiv n - 0).toNat)) (hnp : Builtin.divisionGoesByPylong ((Builtin.Int.intBits a : Int) + n - 1) n = false)
   (p : Program) (loose : List Str) (mean : ExcName → Option Value) (mg mb : Str → Option Value)
    (dp un : Nat) (gd : Option (List Code)) (cn : Str) (cs : Scope) (ad : Addr) (ccd : Value) (cl : List (Str × Addr)) (outer : List Env) (A₀ : Around) (base h₀ : Heap) (L : Addr) (m : Str → Option Value) (tb rest : List (Addr × Obj)) (s : Shared)
    (Q E : Value → Shared → Prop) (t0 t1 : Tok) (hB : Below A₀ base outer h₀) (hC : CodeHd base 34 30) (hF : Fr h₀ L s.heap m) (hX : (_root_.hd.heap_39 w.params).In h₀) (hN : News h₀ L s.heap (tb ++ rest)) (hT : Top p loose mean mg mb h₀) (hk : cs.kind = .function)
    (htb : Tab1 30 32 4 qI2D tb) (hr : ∀ p ∈ rest, p.1 ≠ 30) (hroom : dp + 40 < recursionLimit) (hunits : un + 400 < cLine)
    (hret : ∀ D items h' tk' tb', Tab1 30 32 4 qI2D tb' → (∀ p ∈ tb', p.1 ≠ D) → @LT.lt Nat _ 50 D → AllLt D rest → IntsAre items (digs n.toNat (((Builtin.Int.intBits a : Int) + n - 1).fdiv n).toNat a) → Fr h₀ L h' m → News h₀ L h' ((D, listOf items.toArray 0) :: (tb' ++ rest)) → Q (.ref D) { s with heap := h', toks := tk' }) :
    wpAny (model PySem.Challenge.rw_ta0142_02.row.prog w) (ktrTop dp un gd cn cs L ad ccd cl outer) (call (.ref 35) [.int a t0, .int n t1]) Q E s := by
  revert hB hF hX hN hT
  k_fill
  k_with_none
  k_with "binaryOp FloorDiv int int" => ((k_extra "mydiv"))
  k_with "binaryOp Mult ref int" => ((k_dflt (refine' my_rep ?zqF ?zqN ?zql ?zqz1 ?zqz2 ?_; (case zqF => k_asm); (case zqN => k_asm); (case zql => k_mem); (case zqz1 => first | assumption | omega); (case zqz2 => first | assumption | omega); k_whole); intro zqD' zqh' zqF' zqN' zql1; (try simp only [AllLt, and_true] at zql1); (try k_sweep)))
  k_with "call ref" => ((k_here; k_extra "mycall"))
  k_with "call builtin:len" => ((k_here; (with_reducible show wpAny _ _ (call (Value.builtin "len") [Value.ref _]) _ _ _); k_dflt (refine' my_len ?zqN ?zqm ?zqe ?zqf ?_; (case zqN => k_asm); (case zqm => k_mem); (case zqe => k_extra "mylen"); (case zqf => omega); k_whole)))
  intro B F X N T
  have haa : (a != 0) = true := by simp; omega
  have hkn : ((((Builtin.Int.intBits a : Int) + n - 1).fdiv n).toNat : Int) = ((Builtin.Int.intBits a : Int) + n - 1).fdiv n := by omega
  have hk2' : n * ((((Builtin.Int.intBits a : Int) + n - 1).fdiv n).toNat : Int) ≤ 50000000 := by rw [hkn]; exact hk2
  have hdig : ∀ k : Nat, (List.replicate k (0 : Int)).take (Int.toNat 0) ++ (digs n.toNat (((Builtin.Int.intBits a : Int) + n - 1).fdiv n - 0).toNat a ++ (List.replicate k (0 : Int)).drop k) = digs n.toNat (((Builtin.Int.intBits a : Int) + n - 1).fdiv n).toNat a := by
    intro k
    rw [Int.sub_zero, List.drop_eq_nil_of_le (by simp)]
    simp
  rcases htb with rfl | ⟨c0, oc0, vs0, tq0, rfl, hoc0, hvs0, hlt0⟩
  · refine wpAny_call ?_
    refine' code_defC ?k1 ?k2 ?k3 ?k4 ?k5 ?kA ?kF ?kK ?k6 ?k7 ?k8 ?k9 ?kB ?kD ?_ ?c2 ?c3 ?c4; (case kA => exact rfl); (case kF => exact rfl); (case kK => assumption); (case k1 => k_asm); (case k2 => k_asm); (case k3 => k_asm); (case k4 => k_asm); (case k5 => k_asm); (case k6 => k_is); (case k7 => k_is); (case k8 => ktr_room); (case k9 => first | exact BindsTo.of_eq rfl | exact binds_K (by k_in) rfl (by k_is) rfl rfl rfl | fail "k_enter: no rule for these arguments"); (case kB => exact rfl); (case kD => decide +kernel); (case c2 => exact rfl); (case c3 => exact rfl); (case c4 => exact rfl); k_whole; intro g' L' h' tk' cells' FG' F' N' Y' B' X' T' l1; replace l1 := allLt_of l1; (simp only [List.cons_append, List.nil_append, AllLt] at l1); k_cells Y'; (try simp only [List.cons_append, List.nil_append] at N'); (try dsimp only); (try k_lift B'); (try k_fold)
    have lr := l1.2
    have l30 := l1.1
    have hL56 : @LT.lt Nat _ 56 L' := Nat.lt_of_lt_of_le (Heap.lt_size (X' 56 _ (by k_is))) F'.above
    k_with "kall" => first | exact hr | exact all_ne lr (by omega)
    k_with "mydiv" => (refine floordiv_int (by omega) ?_ (Or.inl hnp))
    k_with "mylen" => exact len_rep hkn
    k_with "mycall" => (refine' i2d_use (i2d_inner w _ _ _ ?hno _ _ _ _ _ _ _ _ _ _ _ _ _ _ _ _ _ _ _ ?hA ?hI ?hN ?hoc ?hvs ?dA ?dI ?dN ?df ?dc hn hnn 24) ?B ?F ?X ?N ?T ?hk ?U ?need ?kin ?a0 ?a1 ?a2 ?a3 ?a4 ?a5 ?a6 ?a7 ?hd ?hu ?_; (case B => k_asm); (case F => k_asm); (case X => k_asm); (case N => k_asm); (case T => k_asm); (case need => exact mem5 (by k_mem) (by k_mem) (by k_mem) (by k_mem) (by k_mem)); (case hk => exact rfl); (case hA => assumption); (case U => k_updF); (case hI => assumption); (case hN => assumption); (case hoc => assumption); (case hvs => assumption); (case dA => k_ne); (case dI => k_ne); (case dN => k_ne); (case df => k_ne); (case dc => k_ne); (case hno => exact nest_mk (by k_is) rfl); (case kin => exact ints_replicate _ _); (case a0 => decide); (case a1 => assumption); (case a2 => rw [List.length_replicate]; omega); (case a3 => omega); (case a4 => rw [List.length_replicate]; omega); (case a5 => rw [List.length_replicate]; omega); (case a6 => omega); (case a7 => assumption); (case hd => ktr_room); (case hu => ktr_units); (intro items' h' tk' hints' F' N'); (try dsimp only at N'); (try dsimp only); (try k_fold))
    k_steps
    all_goals (rw [hdig] at hints'; refine i2d_end hret (by k_asm) (by k_asm) (by k_mem) (by k_mem) (by k_mem) (by intro p9 h9; repeat (first | exact h9 | refine List.mem_cons_of_mem _ ?_)) (by assumption) (by assumption) (by omega) (by omega) (by omega) (by omega) (by first | assumption | exact (And.right (by assumption)) | exact (And.right (And.right (by assumption))) | exact (And.right (And.right (And.right (by assumption)))) | exact (And.right (And.right (And.right (And.right (by assumption))))) | exact (And.right (And.right (And.right (And.right (And.right (by assumption)))))) | exact (And.right (And.right (And.right (And.right (And.right (And.right (by assumption))))))) | exact (And.right (And.right (And.right (And.right (And.right (And.right (And.right (by assumption))))))))) hints')
  · refine wpAny_call ?_
    refine' code_defC ?k1 ?k2 ?k3 ?k4 ?k5 ?kA ?kF ?kK ?k6 ?k7 ?k8 ?k9 ?kB ?kD ?_ ?c2 ?c3 ?c4; (case kA => exact rfl); (case kF => exact rfl); (case kK => assumption); (case k1 => k_asm); (case k2 => k_asm); (case k3 => k_asm); (case k4 => k_asm); (case k5 => k_asm); (case k6 => k_is); (case k7 => k_is); (case k8 => ktr_room); (case k9 => first | exact BindsTo.of_eq rfl | exact binds_K (by k_in) rfl (by k_is) rfl rfl rfl | fail "k_enter: no rule for these arguments"); (case kB => exact rfl); (case kD => decide +kernel); (case c2 => exact rfl); (case c3 => exact rfl); (case c4 => exact rfl); k_whole; intro g' L' h' tk' cells' FG' F' N' Y' B' X' T' l1; replace l1 := allLt_of l1; (simp only [List.cons_append, List.nil_append, AllLt] at l1); k_cells Y'; (try simp only [List.cons_append, List.nil_append] at N'); (try dsimp only); (try k_lift B'); (try k_fold)
    have lr := l1.2.2
    have l30 := l1.1
    have l31 := l1.2.1
    have hL56 : @LT.lt Nat _ 56 L' := Nat.lt_of_lt_of_le (Heap.lt_size (X' 56 _ (by k_is))) F'.above
    k_with "kall" => first | exact hr | exact all_ne lr (by omega)
    k_with "mydiv" => (refine floordiv_int (by omega) ?_ (Or.inl hnp))
    k_with "mylen" => exact len_rep hkn
    k_with "mycall" => (refine' i2d_use (i2d_inner w _ _ _ ?hno _ _ _ _ _ _ _ _ _ _ _ _ _ _ _ _ _ _ _ ?hA ?hI ?hN ?hoc ?hvs ?dA ?dI ?dN ?df ?dc hn hnn 24) ?B ?F ?X ?N ?T ?hk ?U ?need ?kin ?a0 ?a1 ?a2 ?a3 ?a4 ?a5 ?a6 ?a7 ?hd ?hu ?_; (case B => k_asm); (case F => k_asm); (case X => k_asm); (case N => k_asm); (case T => k_asm); (case need => exact mem5 (by k_mem) (by k_mem) (by k_mem) (by k_mem) (by k_mem)); (case hk => exact rfl); (case hA => assumption); (case U => k_updF); (case hI => assumption); (case hN => assumption); (case hoc => assumption); (case hvs => assumption); (case dA => k_ne); (case dI => k_ne); (case dN => k_ne); (case df => k_ne); (case dc => k_ne); (case hno => exact nest_mk (by k_is) rfl); (case kin => exact ints_replicate _ _); (case a0 => decide); (case a1 => assumption); (case a2 => rw [List.length_replicate]; omega); (case a3 => omega); (case a4 => rw [List.length_replicate]; omega); (case a5 => rw [List.length_replicate]; omega); (case a6 => omega); (case a7 => assumption); (case hd => ktr_room); (case hu => ktr_units); (intro items' h' tk' hints' F' N'); (try dsimp only at N'); (try dsimp only); (try k_fold))
    k_steps
    all_goals (rw [hdig] at hints'; refine i2d_end hret (by k_asm) (by k_asm) (by k_mem) (by k_mem) (by k_mem) (by intro p9 h9; repeat (first | exact h9 | refine List.mem_cons_of_mem _ ?_)) (by assumption) (by assumption) (by omega) (by omega) (by omega) (by omega) (by first | assumption | exact (And.right (by assumption)) | exact (And.right (And.right (by assumption))) | exact (And.right (And.right (And.right (by assumption)))) | exact (And.right (And.right (And.right (And.right (by assumption))))) | exact (And.right (And.right (And.right (And.right (And.right (by assumption)))))) | exact (And.right (And.right (And.right (And.right (And.right (And.right (by assumption))))))) | exact (And.right (And.right (And.right (And.right (And.right (And.right (And.right (by assumption))))))))) hints')
set_option maxHeartbeats 8000000 in
theorem i2d_zero (w : World) (a n : Int) (hn : 1 ≤ n) (hnn : n ≤ 33554432) (ha : a = 0)
   (hk0 : 0 = ((Builtin.Int.intBits a : Int) + n - 1).fdiv n) (hk1 : ((Builtin.Int.intBits a : Int) + n - 1).fdiv n ≤ 16777216) (hnp : Builtin.divisionGoesByPylong ((Builtin.Int.intBits a : Int) + n - 1) n = false)
   (p : Program) (loose : List Str) (mean : ExcName → Option Value) (mg mb : Str → Option Value)
    (dp un : Nat) (gd : Option (List Code)) (cn : Str) (cs : Scope) (ad : Addr) (ccd : Value) (cl : List (Str × Addr)) (outer : List Env) (A₀ : Around) (base h₀ : Heap) (L : Addr) (m : Str → Option Value) (tb rest : List (Addr × Obj)) (s : Shared)
    (Q E : Value → Shared → Prop) (t0 t1 : Tok) (hB : Below A₀ base outer h₀) (hC : CodeHd base 34 30) (hF : Fr h₀ L s.heap m) (hX : (_root_.hd.heap_39 w.params).In h₀) (hN : News h₀ L s.heap (tb ++ rest)) (hT : Top p loose mean mg mb h₀) (hk : cs.kind = .function)
    (htb : Tab1 30 32 4 qI2D tb) (hr : ∀ p ∈ rest, p.1 ≠ 30) (hroom : dp + 40 < recursionLimit) (hunits : un + 400 < cLine)
    (hret : ∀ D items h' tk' tb', Tab1 30 32 4 qI2D tb' → (∀ p ∈ tb', p.1 ≠ D) → @LT.lt Nat _ 50 D → AllLt D rest → IntsAre items (digs n.toNat (((Builtin.Int.intBits a : Int) + n - 1).fdiv n).toNat a) → Fr h₀ L h' m → News h₀ L h' ((D, listOf items.toArray 0) :: (tb' ++ rest)) → Q (.ref D) { s with heap := h', toks := tk' }) :
    wpAny (model PySem.Challenge.rw_ta0142_02.row.prog w) (ktrTop dp un gd cn cs L ad ccd cl outer) (call (.ref 35) [.int a t0, .int n t1]) Q E s := by
  revert hB hF hX hN hT
  k_fill
  k_with_none
  k_with "binaryOp FloorDiv int int" => ((k_extra "mydiv"))
  k_with "binaryOp Mult ref int" => ((k_dflt (refine' my_rep ?zqF ?zqN ?zql ?zqz1 ?zqz2 ?_; (case zqF => k_asm); (case zqN => k_asm); (case zql => k_mem); (case zqz1 => first | assumption | omega); (case zqz2 => first | assumption | omega); k_whole); intro zqD' zqh' zqF' zqN' zql1; (try simp only [AllLt, and_true] at zql1); (try k_sweep)))
  k_with "call ref" => ((k_here; k_extra "mycall"))
  k_with "call builtin:len" => ((k_here; (with_reducible show wpAny _ _ (call (Value.builtin "len") [Value.ref _]) _ _ _); k_dflt (refine' my_len ?zqN ?zqm ?zqe ?zqf ?_; (case zqN => k_asm); (case zqm => k_mem); (case zqe => k_extra "mylen"); (case zqf => omega); k_whole)))
  intro B F X N T
  have haa : (a != 0) = false := by simp [ha]
  have hkn : ((((Builtin.Int.intBits a : Int) + n - 1).fdiv n).toNat : Int) = ((Builtin.Int.intBits a : Int) + n - 1).fdiv n := by omega
  have hz : ∀ t : Tok, IntsAre (List.replicate (((Builtin.Int.intBits a : Int) + n - 1).fdiv n).toNat (Value.int 0 t)) (digs n.toNat (((Builtin.Int.intBits a : Int) + n - 1).fdiv n).toNat a) := by
    intro t
    rw [← hk0]
    exact .nil
  rcases htb with rfl | ⟨c0, oc0, vs0, tq0, rfl, hoc0, hvs0, hlt0⟩
  · refine wpAny_call ?_
    refine' code_defC ?k1 ?k2 ?k3 ?k4 ?k5 ?kA ?kF ?kK ?k6 ?k7 ?k8 ?k9 ?kB ?kD ?_ ?c2 ?c3 ?c4; (case kA => exact rfl); (case kF => exact rfl); (case kK => assumption); (case k1 => k_asm); (case k2 => k_asm); (case k3 => k_asm); (case k4 => k_asm); (case k5 => k_asm); (case k6 => k_is); (case k7 => k_is); (case k8 => ktr_room); (case k9 => first | exact BindsTo.of_eq rfl | exact binds_K (by k_in) rfl (by k_is) rfl rfl rfl | fail "k_enter: no rule for these arguments"); (case kB => exact rfl); (case kD => decide +kernel); (case c2 => exact rfl); (case c3 => exact rfl); (case c4 => exact rfl); k_whole; intro g' L' h' tk' cells' FG' F' N' Y' B' X' T' l1; replace l1 := allLt_of l1; (simp only [List.cons_append, List.nil_append, AllLt] at l1); k_cells Y'; (try simp only [List.cons_append, List.nil_append] at N'); (try dsimp only); (try k_lift B'); (try k_fold)
    have lr := l1.2
    have l30 := l1.1
    have hL56 : @LT.lt Nat _ 56 L' := Nat.lt_of_lt_of_le (Heap.lt_size (X' 56 _ (by k_is))) F'.above
    k_with "kall" => first | exact hr | exact all_ne lr (by omega)
    k_with "mydiv" => (refine floordiv_int (by omega) ?_ (Or.inl hnp))
    k_steps
    all_goals (refine i2d_end hret (by k_asm) (by k_asm) (by k_mem) (by k_mem) (by k_mem) (by intro p9 h9; repeat (first | exact h9 | refine List.mem_cons_of_mem _ ?_)) (by assumption) (by assumption) (by omega) (by omega) (by omega) (by omega) (by first | assumption | exact (And.right (by assumption)) | exact (And.right (And.right (by assumption))) | exact (And.right (And.right (And.right (by assumption)))) | exact (And.right (And.right (And.right (And.right (by assumption))))) | exact (And.right (And.right (And.right (And.right (And.right (by assumption)))))) | exact (And.right (And.right (And.right (And.right (And.right (And.right (by assumption))))))) | exact (And.right (And.right (And.right (And.right (And.right (And.right (And.right (by assumption))))))))) (hz _))
  · refine wpAny_call ?_
    refine' code_defC ?k1 ?k2 ?k3 ?k4 ?k5 ?kA ?kF ?kK ?k6 ?k7 ?k8 ?k9 ?kB ?kD ?_ ?c2 ?c3 ?c4; (case kA => exact rfl); (case kF => exact rfl); (case kK => assumption); (case k1 => k_asm); (case k2 => k_asm); (case k3 => k_asm); (case k4 => k_asm); (case k5 => k_asm); (case k6 => k_is); (case k7 => k_is); (case k8 => ktr_room); (case k9 => first | exact BindsTo.of_eq rfl | exact binds_K (by k_in) rfl (by k_is) rfl rfl rfl | fail "k_enter: no rule for these arguments"); (case kB => exact rfl); (case kD => decide +kernel); (case c2 => exact rfl); (case c3 => exact rfl); (case c4 => exact rfl); k_whole; intro g' L' h' tk' cells' FG' F' N' Y' B' X' T' l1; replace l1 := allLt_of l1; (simp only [List.cons_append, List.nil_append, AllLt] at l1); k_cells Y'; (try simp only [List.cons_append, List.nil_append] at N'); (try dsimp only); (try k_lift B'); (try k_fold)
    have lr := l1.2.2
    have l30 := l1.1
    have l31 := l1.2.1
    have hL56 : @LT.lt Nat _ 56 L' := Nat.lt_of_lt_of_le (Heap.lt_size (X' 56 _ (by k_is))) F'.above
    k_with "kall" => first | exact hr | exact all_ne lr (by omega)
    k_with "mydiv" => (refine floordiv_int (by omega) ?_ (Or.inl hnp))
    k_steps
    all_goals (refine i2d_end hret (by k_asm) (by k_asm) (by k_mem) (by k_mem) (by k_mem) (by intro p9 h9; repeat (first | exact h9 | refine List.mem_cons_of_mem _ ?_)) (by assumption) (by assumption) (by omega) (by omega) (by omega) (by omega) (by first | assumption | exact (And.right (by assumption)) | exact (And.right (And.right (by assumption))) | exact (And.right (And.right (And.right (by assumption)))) | exact (And.right (And.right (And.right (And.right (by assumption))))) | exact (And.right (And.right (And.right (And.right (And.right (by assumption)))))) | exact (And.right (And.right (And.right (And.right (And.right (And.right (by assumption))))))) | exact (And.right (And.right (And.right (And.right (And.right (And.right (And.right (by assumption))))))))) (hz _))
end Mine

end
section
open PySem PySem.W PyProof.Rows PySem.Calls PySem.Spec
namespace Mine
def D2iCt (w : World) (f : Addr) (need : List (Addr × Obj)) (ds : List Int) (n : Int) (k : Nat) : Prop :=
  ∀ (p : Program) (loose : List Str) (mean : ExcName → Option Value) (mg mb : Str → Option Value)
    (dp un : Nat) (gd : Option (List Code)) (cn : Str) (cs : Scope) (a : Addr) (ccd : Value) (cl : List (Str × Addr)) (outer : List Env) (A₀ : Around) (base h₀ : Heap) (L : Addr) (m : Str → Option Value) (news : List (Addr × Obj)) (s : Shared)
    (Q E : Value → Shared → Prop) (lo hi : Int) (tl th : Tok),
    Below A₀ base outer h₀ → Fr h₀ L s.heap m → (_root_.hd.heap_39 w.params).In h₀ → News h₀ L s.heap news → Top p loose mean mg mb h₀ → cs.kind = .function →
    (∀ p ∈ need, p ∈ news) →
    0 ≤ lo → lo < hi → hi ≤ ds.length → hi - lo ≤ 2 ^ k →
    dp + (k + 2) < recursionLimit → un + (10 * k + 10) < cLine →
    (∀ t h' tk', Fr h₀ L h' m → News h₀ L h' news → Q (.int (undigs n.toNat (slc ds lo hi)) t) { s with heap := h', toks := tk' }) →
    wpAny (model PySem.Challenge.rw_ta0142_02.row.prog w) (ktrTop dp un gd cn cs L a ccd cl outer) (call (.ref f) [.int lo tl, .int hi th]) Q E s
theorem d2i_use {w : World} {f : Addr} {need : List (Addr × Obj)} {ds : List Int} {n : Int} {k : Nat} (C : D2iCt w f need ds n k) {p : Program} {loose : List Str} {mean : ExcName → Option Value} {mg mb : Str → Option Value}
    {dp un : Nat} {gd : Option (List Code)} {cn : Str} {cs : Scope} {a : Addr} {ccd : Value} {cl : List (Str × Addr)} {outer : List Env} {A₀ : Around} {base h₀ : Heap} {L : Addr} {m : Str → Option Value} {news : List (Addr × Obj)} {s : Shared}
    {Q E : Value → Shared → Prop} {lo hi : Int} {tl th : Tok}
    (B : Below A₀ base outer h₀) (F : Fr h₀ L s.heap m) (X : (_root_.hd.heap_39 w.params).In h₀) (N : News h₀ L s.heap news) (T : Top p loose mean mg mb h₀) (hk : cs.kind = .function)
    (hneed : ∀ p ∈ need, p ∈ news) (h0 : 0 ≤ lo) (h1 : lo < hi) (h2 : hi ≤ ds.length) (h3 : hi - lo ≤ 2 ^ k)
    (hd : dp + (k + 2) < recursionLimit) (hu : un + (10 * k + 10) < cLine)
    (ret : ∀ t h' tk', Fr h₀ L h' m → News h₀ L h' news → Q (.int (undigs n.toNat (slc ds lo hi)) t) { s with heap := h', toks := tk' }) :
    wpAny (model PySem.Challenge.rw_ta0142_02.row.prog w) (ktrTop dp un gd cn cs L a ccd cl outer) (call (.ref f) [.int lo tl, .int hi th]) Q E s :=
  C _ _ _ _ _ _ _ _ _ _ _ _ _ _ _ _ _ _ _ _ _ _ _ _ _ _ _ B F X N T hk hneed h0 h1 h2 h3 hd hu ret

set_option maxHeartbeats 1000000 in
theorem d2i_inner (w : World) (params : Arguments) (body : List Stmt) (scope : Scope) (hno : ((_root_.hd.heap_39 w.params).lookup 42).bind nestObj = some (params, body, scope))
    (name qual : Str) (f cD cI cN c' l : Addr) (doc pm ctv : Value) (oD oI oN oc : Obj) (vs : Array Value) (tq tn : Tok) (n : Int) (items : List Value) (cc : Nat) (ds : List Int)
    (hD : oD.data = .cell (some (.ref l))) (hI : oI.data = .cell (some (.ref f))) (hN : oN.data = .cell (some (.int n tn))) (hoc : oc.data = .fields vs) (hvs : vs[1]? = some (.str qual tq))
    (hints : IntsAre items ds) (hn : 1 ≤ n) (hnn : n ≤ 33554432) (h4 : (ds.length : Int) ≤ 16777216) (h5 : n * ds.length ≤ 50000000) (hdr : ∀ d ∈ ds, 0 ≤ d ∧ d < 2 ^ n.toNat) :
    ∀ k, D2iCt w f [(f, fnMade name qual params body scope [(Str.ofString "n", cN), (Str.ofString "inner", cI), (Str.ofString "digits", cD)] doc pm c' ctv), (cD, oD), (cI, oI), (cN, oN), (c', oc), (l, listOf items.toArray cc)] ds n k := by
  intro k
  induction k using Nat.strongRecOn with
  | ind k ih =>
  unfold D2iCt
  k_fill
  k_with_none
  k_with "binaryOp LShift int int" => (((with_reducible refine lshift_int ?zqs0 ?zqs1 ?_); (case zqs0 => first | assumption | omega | decide); (case zqs1 => exact shl_ok (by assumption) (by assumption))))
  k_with "binaryOp RShift int int" => (((with_reducible refine rshift_int ?zqs0 ?_); (case zqs0 => first | assumption | omega | decide)))
  k_with "binaryOp Mult int int" => ((with_reducible refine mul_int ?_ (mul_ok (by assumption) (by assumption) (by decide))))
  k_with "eval Name" => ((k_here; kc_free; k_dflt (refine' nameX_F ?zqN ?zqc ?zqm ?zqd ?_ ?zqa ?zqb; (case zqa => rfl); (case zqb => rfl); (case zqN => k_asm); (case zqc => rfl); (case zqm => assumption); (case zqd => assumption); k_whole)))
  k_with "callWith ref" => ((k_here; k_dflt (refine' callWith_F ?zqk1 ?_; (case zqk1 => k_extra "myfn"); k_whole)))
  k_with "FnAt" => ((k_extra "myfn"))
  k_with "subscriptTail" => ((k_here; (with_reducible show wpAny _ _ (subscriptTail _ _ (Value.ref _) (Value.int _ _)) _ _ _); k_extra "mysub"))
  k_with "call ref" => ((k_here; k_extra "mycall"))
  have hno2 := nest_key (by k_is) hno
  clear hno
  dsimp only [nestObj, nestedIn] at hno2
  cases hno2
  intro p loose mean mg mb dp un gd cn cs ad ccd cl outer A₀ base h₀ L m news s Q E lo hi tl th B F X N T hk hneed h0 h1 h2 h3 hroom hunits hret
  have mf := hneed _ (List.mem_cons_self)
  have mD := hneed _ (List.mem_cons_of_mem _ (List.mem_cons_self))
  have mI := hneed _ (List.mem_cons_of_mem _ (List.mem_cons_of_mem _ (List.mem_cons_self)))
  have mN := hneed _ (List.mem_cons_of_mem _ (List.mem_cons_of_mem _ (List.mem_cons_of_mem _ (List.mem_cons_self))))
  have mc := hneed _ (List.mem_cons_of_mem _ (List.mem_cons_of_mem _ (List.mem_cons_of_mem _ (List.mem_cons_of_mem _ (List.mem_cons_self)))))
  have ml := hneed _ (List.mem_cons_of_mem _ (List.mem_cons_of_mem _ (List.mem_cons_of_mem _ (List.mem_cons_of_mem _ (List.mem_cons_of_mem _ (List.mem_cons_self))))))
  by_cases hlo : lo + 1 = hi
  · have hc : (lo + 1 == hi) = true := by simpa using hlo
    have hll : lo < ds.length := by omega
    have hfit : lo < 2 ^ 63 := by omega
    have hone : undigs n.toNat (slc ds lo hi) = ds.getD lo.toNat 0 := by rw [slc_one h0 hlo hll, undigs_one]
    refine wpAny_call ?_
    k_dflt (refine' code_nest ?k1 ?k2 ?k3 ?k4 ?k5 ?kA ?kF ?kK ?k6 ?k7 ?k8 ?k9 ?kB ?_ ?c2 ?c3 ?c4 ?c5; (case kA => exact rfl); (case kF => exact rfl); (case kK => assumption); (case k1 => k_asm); (case k2 => k_asm); (case k3 => k_asm); (case k4 => k_asm); (case k5 => k_asm); (case k6 => exact mf); (case k7 => exact codeRec_news N mc hoc hvs); (case k8 => ktr_room); (case k9 => exact BindsTo.of_eq rfl); (case c5 => decide); (case kB => exact locs rfl); (case c2 => exact rfl); (case c3 => exact rfl); (case c4 => exact rfl); k_whole; intro g' L' h' FG' F' N' B' X' T'; (try dsimp only); (try k_lift B'); (try k_fold))
    k_with "mysub" => (refine' ksa_sub ?N ?m hints h0 hll hfit ?_ ?k7; (case N => k_asm); (case m => exact ml); (case k7 => with_unfolding_all rfl); intro tt)
    k_steps
    all_goals (rw [hone] at hret; exact hret _ _ _ (by k_asm) (by k_asm))
  · have hc : (lo + 1 == hi) = false := by simpa using hlo
    obtain ⟨m1, m2, m3, m4, m5, m6, m7, s0, z1, z2, z3, z4, eq⟩ := d2i_raw hn hnn h0 (show lo + 1 < hi by omega) h2 h3 h4 h5 hdr (half_fdiv (lo + hi))
    refine wpAny_call ?_
    k_dflt (refine' code_nest ?k1 ?k2 ?k3 ?k4 ?k5 ?kA ?kF ?kK ?k6 ?k7 ?k8 ?k9 ?kB ?_ ?c2 ?c3 ?c4 ?c5; (case kA => exact rfl); (case kF => exact rfl); (case kK => assumption); (case k1 => k_asm); (case k2 => k_asm); (case k3 => k_asm); (case k4 => k_asm); (case k5 => k_asm); (case k6 => exact mf); (case k7 => exact codeRec_news N mc hoc hvs); (case k8 => ktr_room); (case k9 => exact BindsTo.of_eq rfl); (case c5 => decide); (case kB => exact locs rfl); (case c2 => exact rfl); (case c3 => exact rfl); (case c4 => exact rfl); k_whole; intro g' L' h' FG' F' N' B' X' T'; (try dsimp only); (try k_lift B'); (try k_fold))
    k_with "myfn" => exact FnAt.of (by k_asm) mf
    k_with "mycall" => (refine' d2i_use (ih _ m6) ?B ?F ?X ?N ?T ?hk ?need ?a0 ?a1 ?a2 ?a3 ?hd ?hu ?_; (case B => k_asm); (case F => k_asm); (case X => k_asm); (case N => k_asm); (case T => k_asm); (case hk => exact rfl); (case need => exact hneed); (case a0 => assumption); (case a1 => assumption); (case a2 => assumption); (case a3 => assumption); (case hd => ktr_room); (case hu => ktr_units); (intro tt h' tk' F' N'); (try dsimp only); (try k_fold))
    k_steps
    all_goals (rw [← eq] at hret; exact hret _ _ _ (by k_asm) (by k_asm))
end Mine

end
section
open PySem PySem.W PyProof.Rows PySem.Calls PySem.Spec
namespace Mine
def qD2I : Str := (Str.ofString "_digits2int" ++ ".<locals>.") ++ Str.ofString "inner"
local macro_rules | `(tactic| k_mem) => `(tactic| first | exact List.mem_cons_self | assumption | (refine' List.mem_cons_of_mem _ ?_; k_mem))
local macro_rules | `(tactic| k_all) => `(tactic| k_extra "kall")
theorem my_truthy {prog : Program} {w : World} {A : Around} {E : Value → Shared → Prop} {s : Shared} {h₀ : Heap} {L : Addr} {news : List (Addr × Obj)} {l : Addr} {vs : List Value} {c : Nat} {Q : Bool → Shared → Prop}
    (N : News h₀ L s.heap news) (hm : (l, listOf vs.toArray c) ∈ news) (hfit : (vs.length : Int) < 9223372036854775808)
    (h : Q (!vs.isEmpty) { s with toks := s.toks + 1 + 1 }) : wpAny (model prog w) A (truthy (.ref l)) Q E s := by
  refine wpAny_truthy_list (PySem.IsL.isList (n := c) (N _ hm).1) (by simpa using hfit) ?_
  have e : (!vs.toArray.isEmpty) = (!vs.isEmpty) := by simp
  rw [e]; exact h
theorem d2i_end {n : Int} {ds : List Int} {h₀ h : Heap} {L c' : Addr} {m : Str → Option Value} {led rest : List (Addr × Obj)} {s : Shared} {Q : Value → Shared → Prop} {tk : Nat} {x : Int} {oc : Obj} {vs : Array Value} {t t' : Tok}
    (ret : ∀ t h' tk' tb', Tab1 37 47 4 qD2I tb' → Fr h₀ L h' m → News h₀ L h' (tb' ++ rest) → Q (.int (undigs n.toNat ds) t) { s with heap := h', toks := tk' })
    (F : Fr h₀ L h m) (N : News h₀ L h led) (m2 : ((37 : Addr), tabObj (#[] ++ #[rawInt (47 : Nat), rawInt (4 : Nat), .ref c'])) ∈ led) (m3 : (c', oc) ∈ led) (m4 : ∀ p ∈ rest, p ∈ led)
    (hoc : oc.data = .fields vs) (hvs : vs[1]? = some (.str qD2I t)) (hlt : @LT.lt Nat _ 50 c') (hx : x = undigs n.toNat ds) :
    Q (.int x t') { s with heap := h, toks := tk } := by
  subst hx
  refine ret t' h tk [((37 : Addr), tabObj (#[] ++ #[rawInt (47 : Nat), rawInt (4 : Nat), .ref c'])), (c', oc)] (.inr ⟨c', oc, vs, t, rfl, hoc, hvs, hlt⟩) F ?_
  intro p hp
  rcases List.mem_cons.mp hp with rfl | hp
  · exact N _ m2
  · rcases List.mem_cons.mp hp with rfl | hp
    · exact N _ m3
    · exact N _ (m4 _ hp)
theorem mem6 {α : Type} {a b c d e f : α} {l : List α} (h1 : a ∈ l) (h2 : b ∈ l) (h3 : c ∈ l) (h4 : d ∈ l) (h5 : e ∈ l) (h6 : f ∈ l) : ∀ p ∈ [a, b, c, d, e, f], p ∈ l := by
  intro p hp
  simp only [List.mem_cons, List.not_mem_nil, or_false] at hp
  rcases hp with rfl | rfl | rfl | rfl | rfl | rfl <;> assumption
set_option maxHeartbeats 8000000 in
theorem d2i_pos (w : World) (n : Int) (items : List Value) (cc : Nat) (ds : List Int) (l : Addr) (t1 : Tok) (hn : 1 ≤ n) (hnn : n ≤ 33554432)
    (hints : IntsAre items ds) (h4 : (ds.length : Int) ≤ 16777216) (h5 : n * ds.length ≤ 50000000) (hdr : ∀ d ∈ ds, 0 ≤ d ∧ d < 2 ^ n.toNat) (hpos : 0 < ds.length)
   (p : Program) (loose : List Str) (mean : ExcName → Option Value) (mg mb : Str → Option Value)
    (dp un : Nat) (gd : Option (List Code)) (cn : Str) (cs : Scope) (ad : Addr) (ccd : Value) (cl : List (Str × Addr)) (outer : List Env) (A₀ : Around) (base h₀ : Heap) (L : Addr) (m : Str → Option Value) (tb rest : List (Addr × Obj)) (s : Shared)
    (Q E : Value → Shared → Prop) (hB : Below A₀ base outer h₀) (hC : CodeHd base 41 37) (hF : Fr h₀ L s.heap m) (hX : (_root_.hd.heap_39 w.params).In h₀) (hN : News h₀ L s.heap (tb ++ rest)) (hT : Top p loose mean mg mb h₀) (hk : cs.kind = .function)
    (htb : Tab1 37 47 4 qD2I tb) (hr : ∀ p ∈ rest, p.1 ≠ 37) (hl : (l, listOf items.toArray cc) ∈ rest) (hroom : dp + 40 < recursionLimit) (hunits : un + 400 < cLine)
    (hret : ∀ t h' tk' tb', Tab1 37 47 4 qD2I tb' → Fr h₀ L h' m → News h₀ L h' (tb' ++ rest) → Q (.int (undigs n.toNat ds) t) { s with heap := h', toks := tk' }) :
    wpAny (model PySem.Challenge.rw_ta0142_02.row.prog w) (ktrTop dp un gd cn cs L ad ccd cl outer) (call (.ref 42) [.ref l, .int n t1]) Q E s := by
  revert hB hF hX hN hT
  k_fill
  k_with_none
  k_with "binaryOp FloorDiv int int" => ((k_extra "mydiv"))
  k_with "binaryOp Mult ref int" => ((k_dflt (refine' my_rep ?zqF ?zqN ?zql ?zqz1 ?zqz2 ?_; (case zqF => k_asm); (case zqN => k_asm); (case zql => k_mem); (case zqz1 => first | assumption | omega); (case zqz2 => first | assumption | omega); k_whole); intro zqD' zqh' zqF' zqN' zql1; (try simp only [AllLt, and_true] at zql1); (try k_sweep)))
  k_with "call ref" => ((k_here; k_extra "mycall"))
  k_with "call builtin:len" => ((k_here; (with_reducible show wpAny _ _ (call (Value.builtin "len") [Value.ref _]) _ _ _); k_dflt (refine' my_len ?zqN ?zqm ?zqe ?zqf ?_; (case zqN => k_asm); (case zqm => k_mem); (case zqe => k_extra "mylen"); (case zqf => omega); k_whole)))
  k_with "truthy ref" => ((k_here; (with_reducible show wpAny _ _ (truthy (Value.ref _)) _ _ _); k_dflt (refine' my_truthy ?zqN ?zqm ?zqe ?_; (case zqN => k_asm); (case zqm => k_mem); (case zqe => omega); k_whole)))
  intro B F X N T
  have hlen : items.length = ds.length := hints.length
  have hlenZ : (items.length : Int) = (ds.length : Int) := by omega
  have htr : (!items.isEmpty) = true := by
    cases items with
    | nil => simp at hlen; omega
    | cons _ _ => rfl
  rcases htb with rfl | ⟨c0, oc0, vs0, tq0, rfl, hoc0, hvs0, hlt0⟩
  · refine wpAny_call ?_
    refine' code_defC ?k1 ?k2 ?k3 ?k4 ?k5 ?kA ?kF ?kK ?k6 ?k7 ?k8 ?k9 ?kB ?kD ?_ ?c2 ?c3 ?c4; (case kA => exact rfl); (case kF => exact rfl); (case kK => assumption); (case k1 => k_asm); (case k2 => k_asm); (case k3 => k_asm); (case k4 => k_asm); (case k5 => k_asm); (case k6 => k_is); (case k7 => k_is); (case k8 => ktr_room); (case k9 => first | exact BindsTo.of_eq rfl | exact binds_K (by k_in) rfl (by k_is) rfl rfl rfl | fail "k_enter: no rule for these arguments"); (case kB => exact rfl); (case kD => decide +kernel); (case c2 => exact rfl); (case c3 => exact rfl); (case c4 => exact rfl); k_whole; intro g' L' h' tk' cells' FG' F' N' Y' B' X' T' l1; replace l1 := allLt_of l1; (simp only [List.cons_append, List.nil_append, AllLt] at l1); k_cells Y'; (try simp only [List.cons_append, List.nil_append] at N'); (try dsimp only); (try k_lift B'); (try k_fold)
    have lr := l1.2
    have l30 := l1.1
    have hL56 : @LT.lt Nat _ 56 L' := Nat.lt_of_lt_of_le (Heap.lt_size (X' 56 _ (by k_is))) F'.above
    k_with "kall" => first | exact hr | exact all_ne lr (by omega)
    k_with "mylen" => exact hlenZ
    k_with "mycall" => (refine' d2i_use (d2i_inner w _ _ _ ?hno _ _ _ _ _ _ _ _ _ _ _ _ _ _ _ _ _ _ _ _ _ _ ?hD ?hI ?hN ?hoc ?hvs hints hn hnn h4 h5 hdr 24) ?B ?F ?X ?N ?T ?hk ?need ?a0 ?a1 ?a2 ?a3 ?hd ?hu ?_; (case B => k_asm); (case F => k_asm); (case X => k_asm); (case N => k_asm); (case T => k_asm); (case need => exact mem6 (by k_mem) (by k_mem) (by k_mem) (by k_mem) (by k_mem) (by k_mem)); (case hk => exact rfl); (case hD => assumption); (case hI => assumption); (case hN => assumption); (case hoc => assumption); (case hvs => assumption); (case hno => exact nest_mk (by k_is) rfl); (case a0 => decide); (case a1 => omega); (case a2 => omega); (case a3 => omega); (case hd => ktr_room); (case hu => ktr_units); (intro tt h' tk' F' N'); (try dsimp only); (try k_fold))
    k_steps
    all_goals (refine d2i_end hret (by k_asm) (by k_asm) (by k_mem) (by k_mem) (by intro p9 h9; repeat (first | exact h9 | refine List.mem_cons_of_mem _ ?_)) (by assumption) (by assumption) (by omega) (by rw [slc_all rfl]))
  · refine wpAny_call ?_
    refine' code_defC ?k1 ?k2 ?k3 ?k4 ?k5 ?kA ?kF ?kK ?k6 ?k7 ?k8 ?k9 ?kB ?kD ?_ ?c2 ?c3 ?c4; (case kA => exact rfl); (case kF => exact rfl); (case kK => assumption); (case k1 => k_asm); (case k2 => k_asm); (case k3 => k_asm); (case k4 => k_asm); (case k5 => k_asm); (case k6 => k_is); (case k7 => k_is); (case k8 => ktr_room); (case k9 => first | exact BindsTo.of_eq rfl | exact binds_K (by k_in) rfl (by k_is) rfl rfl rfl | fail "k_enter: no rule for these arguments"); (case kB => exact rfl); (case kD => decide +kernel); (case c2 => exact rfl); (case c3 => exact rfl); (case c4 => exact rfl); k_whole; intro g' L' h' tk' cells' FG' F' N' Y' B' X' T' l1; replace l1 := allLt_of l1; (simp only [List.cons_append, List.nil_append, AllLt] at l1); k_cells Y'; (try simp only [List.cons_append, List.nil_append] at N'); (try dsimp only); (try k_lift B'); (try k_fold)
    have lr := l1.2.2
    have l30 := l1.1
    have l31 := l1.2.1
    have hL56 : @LT.lt Nat _ 56 L' := Nat.lt_of_lt_of_le (Heap.lt_size (X' 56 _ (by k_is))) F'.above
    k_with "kall" => first | exact hr | exact all_ne lr (by omega)
    k_with "mylen" => exact hlenZ
    k_with "mycall" => (refine' d2i_use (d2i_inner w _ _ _ ?hno _ _ _ _ _ _ _ _ _ _ _ _ _ _ _ _ _ _ _ _ _ _ ?hD ?hI ?hN ?hoc ?hvs hints hn hnn h4 h5 hdr 24) ?B ?F ?X ?N ?T ?hk ?need ?a0 ?a1 ?a2 ?a3 ?hd ?hu ?_; (case B => k_asm); (case F => k_asm); (case X => k_asm); (case N => k_asm); (case T => k_asm); (case need => exact mem6 (by k_mem) (by k_mem) (by k_mem) (by k_mem) (by k_mem) (by k_mem)); (case hk => exact rfl); (case hD => assumption); (case hI => assumption); (case hN => assumption); (case hoc => assumption); (case hvs => assumption); (case hno => exact nest_mk (by k_is) rfl); (case a0 => decide); (case a1 => omega); (case a2 => omega); (case a3 => omega); (case hd => ktr_room); (case hu => ktr_units); (intro tt h' tk' F' N'); (try dsimp only); (try k_fold))
    k_steps
    all_goals (refine d2i_end hret (by k_asm) (by k_asm) (by k_mem) (by k_mem) (by intro p9 h9; repeat (first | exact h9 | refine List.mem_cons_of_mem _ ?_)) (by assumption) (by assumption) (by omega) (by rw [slc_all rfl]))
set_option maxHeartbeats 8000000 in
theorem d2i_zero (w : World) (n : Int) (items : List Value) (cc : Nat) (ds : List Int) (l : Addr) (t1 : Tok) (hn : 1 ≤ n) (hnn : n ≤ 33554432)
    (hints : IntsAre items ds) (h4 : (ds.length : Int) ≤ 16777216) (h5 : n * ds.length ≤ 50000000) (hdr : ∀ d ∈ ds, 0 ≤ d ∧ d < 2 ^ n.toNat) (hpos : ds = [])
   (p : Program) (loose : List Str) (mean : ExcName → Option Value) (mg mb : Str → Option Value)
    (dp un : Nat) (gd : Option (List Code)) (cn : Str) (cs : Scope) (ad : Addr) (ccd : Value) (cl : List (Str × Addr)) (outer : List Env) (A₀ : Around) (base h₀ : Heap) (L : Addr) (m : Str → Option Value) (tb rest : List (Addr × Obj)) (s : Shared)
    (Q E : Value → Shared → Prop) (hB : Below A₀ base outer h₀) (hC : CodeHd base 41 37) (hF : Fr h₀ L s.heap m) (hX : (_root_.hd.heap_39 w.params).In h₀) (hN : News h₀ L s.heap (tb ++ rest)) (hT : Top p loose mean mg mb h₀) (hk : cs.kind = .function)
    (htb : Tab1 37 47 4 qD2I tb) (hr : ∀ p ∈ rest, p.1 ≠ 37) (hl : (l, listOf items.toArray cc) ∈ rest) (hroom : dp + 40 < recursionLimit) (hunits : un + 400 < cLine)
    (hret : ∀ t h' tk' tb', Tab1 37 47 4 qD2I tb' → Fr h₀ L h' m → News h₀ L h' (tb' ++ rest) → Q (.int (undigs n.toNat ds) t) { s with heap := h', toks := tk' }) :
    wpAny (model PySem.Challenge.rw_ta0142_02.row.prog w) (ktrTop dp un gd cn cs L ad ccd cl outer) (call (.ref 42) [.ref l, .int n t1]) Q E s := by
  revert hB hF hX hN hT
  k_fill
  k_with_none
  k_with "binaryOp FloorDiv int int" => ((k_extra "mydiv"))
  k_with "binaryOp Mult ref int" => ((k_dflt (refine' my_rep ?zqF ?zqN ?zql ?zqz1 ?zqz2 ?_; (case zqF => k_asm); (case zqN => k_asm); (case zql => k_mem); (case zqz1 => first | assumption | omega); (case zqz2 => first | assumption | omega); k_whole); intro zqD' zqh' zqF' zqN' zql1; (try simp only [AllLt, and_true] at zql1); (try k_sweep)))
  k_with "call ref" => ((k_here; k_extra "mycall"))
  k_with "call builtin:len" => ((k_here; (with_reducible show wpAny _ _ (call (Value.builtin "len") [Value.ref _]) _ _ _); k_dflt (refine' my_len ?zqN ?zqm ?zqe ?zqf ?_; (case zqN => k_asm); (case zqm => k_mem); (case zqe => k_extra "mylen"); (case zqf => omega); k_whole)))
  k_with "truthy ref" => ((k_here; (with_reducible show wpAny _ _ (truthy (Value.ref _)) _ _ _); k_dflt (refine' my_truthy ?zqN ?zqm ?zqe ?_; (case zqN => k_asm); (case zqm => k_mem); (case zqe => omega); k_whole)))
  intro B F X N T
  have hlen : items.length = ds.length := hints.length
  have hlenZ : (items.length : Int) = (ds.length : Int) := by omega
  have htr : (!items.isEmpty) = false := by
    cases items with
    | nil => rfl
    | cons _ _ => rw [hpos] at hlen; simp at hlen
  rcases htb with rfl | ⟨c0, oc0, vs0, tq0, rfl, hoc0, hvs0, hlt0⟩
  · refine wpAny_call ?_
    refine' code_defC ?k1 ?k2 ?k3 ?k4 ?k5 ?kA ?kF ?kK ?k6 ?k7 ?k8 ?k9 ?kB ?kD ?_ ?c2 ?c3 ?c4; (case kA => exact rfl); (case kF => exact rfl); (case kK => assumption); (case k1 => k_asm); (case k2 => k_asm); (case k3 => k_asm); (case k4 => k_asm); (case k5 => k_asm); (case k6 => k_is); (case k7 => k_is); (case k8 => ktr_room); (case k9 => first | exact BindsTo.of_eq rfl | exact binds_K (by k_in) rfl (by k_is) rfl rfl rfl | fail "k_enter: no rule for these arguments"); (case kB => exact rfl); (case kD => decide +kernel); (case c2 => exact rfl); (case c3 => exact rfl); (case c4 => exact rfl); k_whole; intro g' L' h' tk' cells' FG' F' N' Y' B' X' T' l1; replace l1 := allLt_of l1; (simp only [List.cons_append, List.nil_append, AllLt] at l1); k_cells Y'; (try simp only [List.cons_append, List.nil_append] at N'); (try dsimp only); (try k_lift B'); (try k_fold)
    have lr := l1.2
    have l30 := l1.1
    have hL56 : @LT.lt Nat _ 56 L' := Nat.lt_of_lt_of_le (Heap.lt_size (X' 56 _ (by k_is))) F'.above
    k_with "kall" => first | exact hr | exact all_ne lr (by omega)
    k_steps
    all_goals (refine d2i_end hret (by k_asm) (by k_asm) (by k_mem) (by k_mem) (by intro p9 h9; repeat (first | exact h9 | refine List.mem_cons_of_mem _ ?_)) (by assumption) (by assumption) (by omega) (by rw [hpos]; rfl))
  · refine wpAny_call ?_
    refine' code_defC ?k1 ?k2 ?k3 ?k4 ?k5 ?kA ?kF ?kK ?k6 ?k7 ?k8 ?k9 ?kB ?kD ?_ ?c2 ?c3 ?c4; (case kA => exact rfl); (case kF => exact rfl); (case kK => assumption); (case k1 => k_asm); (case k2 => k_asm); (case k3 => k_asm); (case k4 => k_asm); (case k5 => k_asm); (case k6 => k_is); (case k7 => k_is); (case k8 => ktr_room); (case k9 => first | exact BindsTo.of_eq rfl | exact binds_K (by k_in) rfl (by k_is) rfl rfl rfl | fail "k_enter: no rule for these arguments"); (case kB => exact rfl); (case kD => decide +kernel); (case c2 => exact rfl); (case c3 => exact rfl); (case c4 => exact rfl); k_whole; intro g' L' h' tk' cells' FG' F' N' Y' B' X' T' l1; replace l1 := allLt_of l1; (simp only [List.cons_append, List.nil_append, AllLt] at l1); k_cells Y'; (try simp only [List.cons_append, List.nil_append] at N'); (try dsimp only); (try k_lift B'); (try k_fold)
    have lr := l1.2.2
    have l30 := l1.1
    have l31 := l1.2.1
    have hL56 : @LT.lt Nat _ 56 L' := Nat.lt_of_lt_of_le (Heap.lt_size (X' 56 _ (by k_is))) F'.above
    k_with "kall" => first | exact hr | exact all_ne lr (by omega)
    k_steps
    all_goals (refine d2i_end hret (by k_asm) (by k_asm) (by k_mem) (by k_mem) (by intro p9 h9; repeat (first | exact h9 | refine List.mem_cons_of_mem _ ?_)) (by assumption) (by assumption) (by omega) (by rw [hpos]; rfl))
end Mine

end
section
open PySem PySem.W PyProof.Rows PySem.Calls PySem.Spec
namespace Mine
/-- the two code tables of the ledger -/
def Tabs (tb : List (Addr × Obj)) : Prop := ∃ t1 t2, tb = t2 ++ t1 ∧ Tab1 30 32 4 qI2D t1 ∧ Tab1 37 47 4 qD2I t2
theorem tab1_addr {P : Addr} {line col : Nat} {q : Str} {tb : List (Addr × Obj)} (h : Tab1 P line col q tb) : ∀ p ∈ tb, p.1 = P ∨ @LT.lt Nat _ 50 p.1 := by
  rcases h with rfl | ⟨c', oc, vs, t, rfl, _, _, hl⟩
  · intro p hp; rw [List.mem_singleton.mp hp]; exact .inl rfl
  · intro p hp
    rcases List.mem_cons.mp hp with rfl | hp
    · exact .inl rfl
    · rw [List.mem_singleton.mp hp]; exact .inr hl
def Over (rest : List (Addr × Obj)) : Prop := ∀ p ∈ rest, (@Ne Nat p.1 30) ∧ (@Ne Nat p.1 37)

/-- _int2digits -/
theorem i2d_ct (w : World) (a n : Int) (ha : 0 ≤ a) (hn : 1 ≤ n) (hz : (Builtin.Int.intBits a : Int) ≤ 16777216) (hnn : n ≤ 16777216)
   {p : Program} {loose : List Str} {mean : ExcName → Option Value} {mg mb : Str → Option Value}
    {dp un : Nat} {gd : Option (List Code)} {cn : Str} {cs : Scope} {ad : Addr} {ccd : Value} {cl : List (Str × Addr)} {outer : List Env} {A₀ : Around} {base h₀ : Heap} {L : Addr} {m : Str → Option Value} {t1 rest : List (Addr × Obj)} {s : Shared}
    {Q E : Value → Shared → Prop} {ta tn : Tok} (hB : Below A₀ base outer h₀) (hC : CodeHd base 34 30) (hF : Fr h₀ L s.heap m) (hX : (_root_.hd.heap_39 w.params).In h₀) (hN : News h₀ L s.heap (t1 ++ rest)) (hT : Top p loose mean mg mb h₀) (hk : cs.kind = .function)
    (htb : Tab1 30 32 4 qI2D t1) (hr : ∀ p ∈ rest, p.1 ≠ 30) (hroom : dp + 40 < recursionLimit) (hunits : un + 400 < cLine)
    (hret : ∀ D items h' tk' t1', Tab1 30 32 4 qI2D t1' → (∀ p ∈ t1', p.1 ≠ D) → @LT.lt Nat _ 50 D → AllLt D rest → IntsAre items (digs n.toNat (((Builtin.Int.intBits a : Int) + n - 1).fdiv n).toNat a) → Fr h₀ L h' m → News h₀ L h' ((D, listOf items.toArray 0) :: (t1' ++ rest)) → Q (.ref D) { s with heap := h', toks := tk' }) :
    wpAny (model PySem.Challenge.rw_ta0142_02.row.prog w) (ktrTop dp un gd cn cs L ad ccd cl outer) (call (.ref 35) [.int a ta, .int n tn]) Q E s := by
  obtain ⟨k0, k1, k2, k3, k4, k5⟩ := numdigs ha hn hz hnn
  have hnp : Builtin.divisionGoesByPylong ((Builtin.Int.intBits a : Int) + n - 1) n = false := PyProof.noPylong_small (by omega)
  by_cases h : a = 0
  · exact i2d_zero w a n hn (by omega) h (k5 h) k1 hnp _ _ _ _ _ _ _ _ _ _ _ _ _ _ _ _ _ _ _ _ _ _ _ _ _ _ hB hC hF hX hN hT hk htb hr hroom hunits hret
  · exact i2d_pos w a n hn (by omega) (by omega) (k4 (by omega)) k1 k2 (by rw [Int.sub_zero]; exact k3) hnp _ _ _ _ _ _ _ _ _ _ _ _ _ _ _ _ _ _ _ _ _ _ _ _ _ _ hB hC hF hX hN hT hk htb hr hroom hunits hret

/-- _digits2int -/
theorem d2i_ct (w : World) (n : Int) (items : List Value) (cc : Nat) (ds : List Int) (l : Addr) (hn : 1 ≤ n) (hnn : n ≤ 33554432)
    (hints : IntsAre items ds) (h4 : (ds.length : Int) ≤ 16777216) (h5 : n * ds.length ≤ 50000000) (hdr : ∀ d ∈ ds, 0 ≤ d ∧ d < 2 ^ n.toNat)
   {p : Program} {loose : List Str} {mean : ExcName → Option Value} {mg mb : Str → Option Value}
    {dp un : Nat} {gd : Option (List Code)} {cn : Str} {cs : Scope} {ad : Addr} {ccd : Value} {cl : List (Str × Addr)} {outer : List Env} {A₀ : Around} {base h₀ : Heap} {L : Addr} {m : Str → Option Value} {t2 rest : List (Addr × Obj)} {s : Shared}
    {Q E : Value → Shared → Prop} {tn : Tok} (hB : Below A₀ base outer h₀) (hC : CodeHd base 41 37) (hF : Fr h₀ L s.heap m) (hX : (_root_.hd.heap_39 w.params).In h₀) (hN : News h₀ L s.heap (t2 ++ rest)) (hT : Top p loose mean mg mb h₀) (hk : cs.kind = .function)
    (htb : Tab1 37 47 4 qD2I t2) (hr : ∀ p ∈ rest, p.1 ≠ 37) (hl : (l, listOf items.toArray cc) ∈ rest) (hroom : dp + 40 < recursionLimit) (hunits : un + 400 < cLine)
    (hret : ∀ t h' tk' t2', Tab1 37 47 4 qD2I t2' → Fr h₀ L h' m → News h₀ L h' (t2' ++ rest) → Q (.int (undigs n.toNat ds) t) { s with heap := h', toks := tk' }) :
    wpAny (model PySem.Challenge.rw_ta0142_02.row.prog w) (ktrTop dp un gd cn cs L ad ccd cl outer) (call (.ref 42) [.ref l, .int n tn]) Q E s := by
  rcases Nat.eq_zero_or_pos ds.length with h | h
  · exact d2i_zero w n items cc ds l tn hn hnn hints h4 h5 hdr (List.eq_nil_of_length_eq_zero h) _ _ _ _ _ _ _ _ _ _ _ _ _ _ _ _ _ _ _ _ _ _ _ _ hB hC hF hX hN hT hk htb hr hl hroom hunits hret
  · exact d2i_pos w n items cc ds l tn hn hnn hints h4 h5 hdr h _ _ _ _ _ _ _ _ _ _ _ _ _ _ _ _ _ _ _ _ _ _ _ _ hB hC hF hX hN hT hk htb hr hl hroom hunits hret

theorem RevRest.ind {prog : Program} {w : World} {A : Around} {E : Value → Shared → Prop} {s : Shared} {env : Env} {h₀ : Heap} {x : Str} {body : List Stmt} {Q : Flow → Shared → Prop} {I : Addr} {lp : Addr × Obj}
    (J : List Value → (Str → Option Value) → List (Addr × Obj) → Prop)
    (step : ∀ v r m news, J (v :: r) m news → ∀ (it : Obj) h tk, it.cls = .type "list_reverseiterator" → Fr h₀ env.locals h (fun y => if y = x then some v else m y) → News h₀ env.locals h ((I, it) :: news) →
      wpAny (model prog w) A (execs body env) (UnrPost h₀ env.locals { s with heap := h, toks := tk } I it (fun m' n' => lp ∈ n' ∧ J r m' n') Q) E { s with heap := h, toks := tk })
    (fin : ∀ m news, J [] m news → ∀ h tk, Fr h₀ env.locals h m → News h₀ env.locals h news → Q .next { s with heap := h, toks := tk }) :
    ∀ l m news, J l m news → RevRest prog w A E h₀ env x body Q s I lp l m news
  | [], m, news, hJ => RevRest.zero (fin m news hJ)
  | v :: r, m, news, hJ => RevRest.succ fun it h tk hc F N => wpAny_mono (step v r m news hJ it h tk hc F N) (fun f s₂ hp => by
      cases f with
      | ret v => exact hp
      | brk => exact hp
      | next =>
        obtain ⟨h', tk', m', n', e, F', N', ho, hl, hj⟩ := hp
        exact ⟨h', tk', m', n', e, F', N', ho, hl, RevRest.ind J step fin r m' n' hj⟩
      | cont =>
        obtain ⟨h', tk', m', n', e, F', N', ho, hl, hj⟩ := hp
        exact ⟨h', tk', m', n', e, F', N', ho, hl, RevRest.ind J step fin r m' n' hj⟩) fun _ _ e => e
end Mine

end
section
open PySem PySem.W PyProof.Rows PySem.Calls PySem.Spec
namespace Mine
theorem news_sub {h₀ h : Heap} {L : Addr} {l l' : List (Addr × Obj)} (N : News h₀ L h l) (hs : ∀ p ∈ l', p ∈ l) : News h₀ L h l' := fun p hp => N p (hs p hp)
theorem perm1 {t1 t2 rest : List (Addr × Obj)} : ∀ p ∈ t1 ++ (t2 ++ rest), p ∈ rest ++ (t2 ++ t1) := by
  intro p hp
  simp only [List.mem_append] at *
  rcases hp with h | h | h
  · exact .inr (.inr h)
  · exact .inr (.inl h)
  · exact .inl h
theorem offI_of {I : Addr} {it : Obj} : ∀ {l : List (Addr × Obj)}, AllLt I l → OffI I it l
  | [], _ => trivial
  | _ :: _, h => ⟨.inl (Nat.ne_of_lt h.1), offI_of h.2⟩
def CtDiv (w : World) (f : Addr) (a b q r : Int) (dd uu : Nat) : Prop :=
  ∀ (p : Program) (loose : List Str) (mean : ExcName → Option Value) (mg mb : Str → Option Value)
    (dp un : Nat) (gd : Option (List Code)) (cn : Str) (cs : Scope) (ad : Addr) (ccd : Value) (cl : List (Str × Addr)) (outer : List Env) (A₀ : Around) (base h₀ : Heap) (L : Addr) (m : Str → Option Value) (tb rest : List (Addr × Obj)) (s : Shared)
    (Q E : Value → Shared → Prop) (ta tt : Tok),
    Below A₀ base outer h₀ → CodeHd base 34 30 → CodeHd base 41 37 → Fr h₀ L s.heap m → (_root_.hd.heap_39 w.params).In h₀ → News h₀ L s.heap (rest ++ tb) → Top p loose mean mg mb h₀ → cs.kind = .function →
    Tabs tb → Over rest → dp + dd < recursionLimit → un + uu < cLine →
    (∀ D t1 t2 c h' tk' tb', Tabs tb' → AllLt D rest → Fr h₀ L h' m → News h₀ L h' ((D, ({ cls := .type "tuple", data := .seq #[.int q t1, .int r t2] c } : Obj)) :: (rest ++ tb')) → Q (.ref D) { s with heap := h', toks := tk' }) →
    wpAny (model PySem.Challenge.rw_ta0142_02.row.prog w) (ktrTop dp un gd cn cs L ad ccd cl outer) (call (.ref f) [.int a ta, .int b tt]) Q E s

abbrev sA : Str := Str.ofString "a_digit"
abbrev sQ : Str := Str.ofString "q_digit"
abbrev sR : Str := Str.ofString "r"
def MapL (M0 : Str → Option Value) (va vq : Option Value) (r : Int) (t : Tok) : Str → Option Value := fun y => if y = sA then va else if y = sQ then vq else if y = sR then some (.int r t) else M0 y
theorem mapL_bind {M0 : Str → Option Value} {va vq v : Option Value} {r : Int} {t : Tok} : (fun y => if y = sA then v else MapL M0 va vq r t y) = MapL M0 v vq r t := by
  funext y
  unfold MapL
  by_cases h : y = sA
  · simp [h]
  · simp [h]
theorem mapL_end {M0 : Str → Option Value} {va vq : Option Value} {r r' : Int} {t t' : Tok} {q : Value} :
    (fun y => if y = sR then some (.int r' t') else if y = sQ then some q else MapL M0 va vq r t y) = MapL M0 va (some q) r' t' := by
  have h1 : sR ≠ sA := by decide
  have h2 : sR ≠ sQ := by decide
  have h3 : sQ ≠ sA := by decide
  funext y
  unfold MapL
  by_cases hr : y = sR
  · subst hr; rw [if_pos rfl, if_neg h1, if_neg h2, if_pos rfl]
  · rw [if_neg hr]
    by_cases hq : y = sQ
    · subst hq; rw [if_pos rfl, if_neg h3, if_pos rfl]
    · simp [hr, hq]
theorem mapL_start {M0 : Str → Option Value} {r : Int} {t : Tok} (h : M0 sR = some (.int r t)) : M0 = MapL M0 (M0 sA) (M0 sQ) r t := by
  funext y
  unfold MapL
  by_cases h1 : y = sA
  · subst h1; simp
  · by_cases h2 : y = sQ
    · subst h2; simp [h1]
    · by_cases h3 : y = sR
      · subst h3; simp [h1, h2, h]
      · simp [h1, h2, h3]
/-- the state of the dividing loop: the digits ahead, those behind it, the quotients so far -/
def DpSt (n : Nat) (b : Int) (ds : List Int) (M0 : Str → Option Value) (Qd D1 : Addr) (items : List Value) (tail : List (Addr × Obj)) (l : List Value) (m : Str → Option Value) (news : List (Addr × Obj)) : Prop :=
  ∃ (rd high : List Int) (qv : List Value) (cq : Nat) (t : Tok) (va vq : Option Value), IntsAre l rd ∧ rd.reverse ++ high = ds ∧ IntsAre qv (ldiv n b high).1.reverse ∧ m = MapL M0 va vq (ldiv n b high).2 t ∧ news = (Qd, listOf qv.toArray cq) :: (D1, listOf items.toArray 0) :: tail
theorem ints_reverse : ∀ {vs : List Value} {ns : List Int}, IntsAre vs ns → IntsAre vs.reverse ns.reverse
  | _, _, .nil => .nil
  | _, _, .cons i t h => by
    rw [List.reverse_cons, List.reverse_cons]
    exact ints_app (ints_reverse h) (.cons i t .nil)
where ints_app : ∀ {a b : List Value} {x y : List Int}, IntsAre a x → IntsAre b y → IntsAre (a ++ b) (x ++ y)
  | _, _, _, _, .nil, h => h
  | _, _, _, _, .cons i t g, h => .cons i t (ints_app g h)
theorem dp_loop {prog : Program} {w : World} {A : Around} {E : Value → Shared → Prop} {s : Shared} {env : Env} {h₀ : Heap} {body : List Stmt} {Q : Flow → Shared → Prop} {I Qd D1 : Addr} {M0 : Str → Option Value} {items : List Value} {ds : List Int} {tail : List (Addr × Obj)} {t0 : Tok}
    (n : Nat) (b : Int) (hh : A.handled = none) (F : Fr h₀ env.locals s.heap M0) (N : News h₀ env.locals s.heap ((I, revObj D1 ((items.length : Int) - 1)) :: (Qd, listOf #[] 0) :: (D1, listOf items.toArray 0) :: tail))
    (l1 : AllLt I ((Qd, listOf #[] 0) :: (D1, listOf items.toArray 0) :: tail)) (hints : IntsAre items ds) (hM : M0 sR = some (.int 0 t0))
    (step : ∀ (d : Int) (td : Tok) (high : List Int) (low : List Int) (qv : List Value) (cq : Nat) (t : Tok) (vq : Option Value) (it : Obj) h tk, low ++ d :: high = ds → IntsAre qv (ldiv n b high).1.reverse → it.cls = .type "list_reverseiterator" → Fr h₀ env.locals h (MapL M0 (some (.int d td)) vq (ldiv n b high).2 t) → News h₀ env.locals h ((I, it) :: (Qd, listOf qv.toArray cq) :: (D1, listOf items.toArray 0) :: tail) →
      wpAny (model prog w) A (execs body env) (UnrPost h₀ env.locals { s with heap := h, toks := tk } I it (fun m' n' => (D1, listOf items.toArray 0) ∈ n' ∧ ∃ qv' cq' t' va' vq', IntsAre qv' (ldiv n b (d :: high)).1.reverse ∧ m' = MapL M0 va' vq' (ldiv n b (d :: high)).2 t' ∧ n' = (Qd, listOf qv'.toArray cq') :: (D1, listOf items.toArray 0) :: tail) Q) E { s with heap := h, toks := tk })
    (done : ∀ (qv : List Value) (cq : Nat) (t : Tok) (va vq : Option Value) h tk, IntsAre qv (ldiv n b ds).1.reverse → Fr h₀ env.locals h (MapL M0 va vq (ldiv n b ds).2 t) → News h₀ env.locals h ((Qd, listOf qv.toArray cq) :: (D1, listOf items.toArray 0) :: tail) → Q .next { s with heap := h, toks := tk }) :
    wpAny (model prog w) A (pyIter (.ref I)) (fun it s₂ => LoopAtV prog w A h₀ env sA body Q E it s₂) E s := by
  refine iter_revUnr (lo := listOf items.toArray 0) (vs := items) (n := 0) hh F N (offI_of l1) (List.mem_cons_of_mem _ List.mem_cons_self) rfl rfl ?_
  refine RevRest.ind (DpSt n b ds M0 Qd D1 items tail) ?_ ?_ _ _ _ ⟨ds.reverse, [], [], 0, t0, M0 sA, M0 sQ, ints_reverse hints, by simp, .nil, mapL_start hM, rfl⟩
  · rintro v r m news ⟨rd, high, qv, cq, t, va, vq, hi, hds, hq, rfl, rfl⟩ it h tk hc F N
    cases hi with
    | cons d td hr =>
      rename_i rd'
      rw [mapL_bind] at F
      rw [List.reverse_cons, List.append_assoc] at hds
      refine wpAny_mono (step d td high rd'.reverse qv cq t vq it h tk hds hq hc F N) (fun f s₂ hp => ?_) fun _ _ e => e
      have go : UnrEnd h₀ env.locals { s with heap := h, toks := tk } I it (fun m' n' => (D1, listOf items.toArray 0) ∈ n' ∧ ∃ qv' cq' t' va' vq', IntsAre qv' (ldiv n b (d :: high)).1.reverse ∧ m' = MapL M0 va' vq' (ldiv n b (d :: high)).2 t' ∧ n' = (Qd, listOf qv'.toArray cq') :: (D1, listOf items.toArray 0) :: tail) s₂ →
          UnrEnd h₀ env.locals { s with heap := h, toks := tk } I it (fun m' n' => (D1, listOf items.toArray 0) ∈ n' ∧ DpSt n b ds M0 Qd D1 items tail r m' n') s₂ := by
        rintro ⟨h', tk', m', n', e, F', N', ho, hl, qv', cq', t', va', vq', a1, a2, a3⟩
        exact ⟨h', tk', m', n', e, F', N', ho, hl, rd', d :: high, qv', cq', t', va', vq', hr, hds, a1, a2, a3⟩
      cases f with
      | ret v => exact hp
      | brk => exact hp
      | next => exact go hp
      | cont => exact go hp
  · rintro m news ⟨rd, high, qv, cq, t, va, vq, hi, hds, hq, rfl, rfl⟩ h tk F N
    cases hi
    have hds' : high = ds := hds
    subst hds'
    exact done qv cq t va vq h tk hq F N

theorem dp_step_end {h₀ h' : Heap} {L I Qd D1 : Addr} {s₁ : Shared} {it lo : Obj} {T : Addr × Obj} {tail : List (Addr × Obj)} {M0 : Str → Option Value} {va vq : Option Value} {r r' r'' q : Int} {t t' tq : Tok} {qv : List Value} {hs target : List Int} {c tk : Nat}
    (F : Fr h₀ L h' (fun y => if y = sR then some (.int r' t') else if y = sQ then some (.int q tq) else MapL M0 va vq r t y)) (N : News h₀ L h' (T :: (I, it) :: (Qd, listOf (qv ++ [Value.int q tq]).toArray c) :: (D1, lo) :: tail))
    (lI : AllLt I ((Qd, lo) :: (D1, lo) :: tail)) (hq : IntsAre qv hs) (ht : hs ++ [q] = target) (hr : r' = r'') :
    UnrEnd h₀ L s₁ I it (fun m' n' => (D1, lo) ∈ n' ∧ ∃ qv' cq' t' va' vq', IntsAre qv' target ∧ m' = MapL M0 va' vq' r'' t' ∧ n' = (Qd, listOf qv'.toArray cq') :: (D1, lo) :: tail) { s₁ with heap := h', toks := tk } := by
  subst hr; subst ht
  rw [mapL_end] at F
  refine UnrEnd.intro F N ((Qd, listOf (qv ++ [Value.int q tq]).toArray c) :: (D1, lo) :: tail) (fun p hp => List.mem_cons_of_mem _ hp) (fun p hp => ?_) ⟨List.mem_cons_of_mem _ List.mem_cons_self, _, _, _, _, _, ints_reverse.ints_app hq (.cons _ _ .nil), rfl, rfl⟩
  rcases List.mem_cons.mp hp with rfl | hp
  · exact Nat.ne_of_lt lI.1
  · rcases List.mem_cons.mp hp with rfl | hp
    · exact Nat.ne_of_lt lI.2.1
    · exact Nat.ne_of_lt (ktn_ltOf lI.2.2 p hp)
theorem ne30 {x : Nat} (h : x = 37 ∨ 50 < x) : x ≠ 30 := by omega
theorem ne37 {x : Nat} (h : x = 30 ∨ 50 < x) : x ≠ 37 := by omega
theorem my_append {prog : Program} {w : World} {A : Around} {E : Value → Shared → Prop} {s : Shared} {h₀ : Heap} {L D : Addr} {m : Str → Option Value} {news : List (Addr × Obj)} {g : Obj → List (Addr × Obj)} {vs : List Value} {c : Nat} {x : Value} {Q : Value → Shared → Prop}
    (F : Fr h₀ L s.heap m) (N : News h₀ L s.heap news) (U : UpdF D (listOf vs.toArray c) news g) (hsz : vs.length ≤ 16777216)
    (h : ∀ h', Fr h₀ L h' m → News h₀ L h' (g (listOf (vs ++ [x]).toArray (c + 1))) → Q .none { s with heap := h' }) : wpAny (model prog w) A (call (.builtin "list.append") [.ref D, x]) Q E s := by
  have e : vs.toArray.push x = (vs ++ [x]).toArray := by simp
  refine append_K F N (updF_upd U _) (fun h' F' N' => ?_) (by simpa [sizeLine] using hsz)
  rw [e] at N'
  exact h h' F' N'
theorem my_reverse {prog : Program} {w : World} {A : Around} {E : Value → Shared → Prop} {s : Shared} {h₀ : Heap} {L D : Addr} {m : Str → Option Value} {news : List (Addr × Obj)} {g : Obj → List (Addr × Obj)} {vs : List Value} {c : Nat} {Q : Value → Shared → Prop}
    (F : Fr h₀ L s.heap m) (N : News h₀ L s.heap news) (U : UpdF D (listOf vs.toArray c) news g) (hsz : vs.length ≤ 16777216)
    (h : ∀ h', Fr h₀ L h' m → News h₀ L h' (g (listOf vs.reverse.toArray c)) → Q .none { s with heap := h' }) : wpAny (model prog w) A (call (.builtin "list.reverse") [.ref D]) Q E s :=
  kl_reverse F N (by simp) (updF_upd U _) (by simpa [sizeLine] using hsz) h
theorem allLt_sub {D : Addr} {l l' : List (Addr × Obj)} (h : AllLt D l) (hs : ∀ p ∈ l', p ∈ l) : AllLt D l' := allLt_of fun p hp => ktn_ltOf h p (hs p hp)
theorem perm2 {q d : Addr × Obj} {t1 t2 rest : List (Addr × Obj)} : ∀ p ∈ t2 ++ (q :: d :: (t1 ++ rest)), p ∈ q :: d :: (t1 ++ (t2 ++ rest)) := by
  intro p hp
  simp only [List.mem_append, List.mem_cons] at *
  rcases hp with h | h | h | h | h <;> simp [h]
theorem perm3 {t q d : Addr × Obj} {t1 t2 rest : List (Addr × Obj)} : ∀ p ∈ t :: (rest ++ (t2 ++ t1)), p ∈ t :: (t2 ++ (q :: d :: (t1 ++ rest))) := by
  intro p hp
  simp only [List.mem_append, List.mem_cons] at *
  rcases hp with h | h | h | h <;> simp [h]
theorem perm4 {q d : Addr × Obj} {t1 t2 rest : List (Addr × Obj)} : ∀ p ∈ rest, p ∈ t2 ++ (q :: d :: (t1 ++ rest)) := by
  intro p hp
  simp only [List.mem_append, List.mem_cons]
  simp [hp]
theorem dp_end {q r x y : Int} {h₀ h : Heap} {L D : Addr} {m : Str → Option Value} {q1 d1 : Addr × Obj} {t1 t2 rest : List (Addr × Obj)} {s : Shared} {Q : Value → Shared → Prop} {ta tb : Tok} {c tk : Nat}
    (ret : ∀ D t1 t2 c h' tk' tb', Tabs tb' → AllLt D rest → Fr h₀ L h' m → News h₀ L h' ((D, ({ cls := .type "tuple", data := .seq #[.int q t1, .int r t2] c } : Obj)) :: (rest ++ tb')) → Q (.ref D) { s with heap := h', toks := tk' })
    (ht1 : Tab1 30 32 4 qI2D t1) (ht2 : Tab1 37 47 4 qD2I t2) (F : Fr h₀ L h m) (N : News h₀ L h ((D, ({ cls := .type "tuple", data := .seq #[.int x ta, .int y tb] c } : Obj)) :: (t2 ++ (q1 :: d1 :: (t1 ++ rest)))))
    (hl : AllLt D (t2 ++ (q1 :: d1 :: (t1 ++ rest)))) (e1 : x = q) (e2 : y = r) : Q (.ref D) { s with heap := h, toks := tk } := by
  subst e1; subst e2
  exact ret D ta tb c h tk (t2 ++ t1) ⟨t1, t2, rfl, ht1, ht2⟩ (allLt_sub hl perm4) F (news_sub N perm3)

local macro_rules | `(tactic| k_mem) => `(tactic| first | exact List.mem_cons_self | assumption | (refine' List.mem_cons_of_mem _ ?_; k_mem))
local macro_rules | `(tactic| k_all) => `(tactic| k_extra "kall")
set_option maxHeartbeats 8000000 in
theorem divpos_ct (w : World) (a b : Int) (ha : 0 ≤ a) (hb : 0 < b) (hza : (Builtin.Int.intBits a : Int) ≤ 16777216) (hzb : (Builtin.Int.intBits b : Int) ≤ 16777216) :
    CtDiv w 49 a b (a / b) (a % b) 100 1000 := by
  unfold CtDiv
  k_fill
  k_with_none
  k_with "call builtin:list.append" => ((k_dflt (refine' my_append ?zqF ?zqN ?zqU ?zqz ?_; (case zqF => k_asm); (case zqN => k_asm); (case zqU => k_updF); (case zqz => assumption); k_whole); intro zqh' zqF' zqN'; (try dsimp only at zqN'); (try k_sweep)))
  k_with "call builtin:list.reverse" => ((k_dflt (refine' my_reverse ?zqF ?zqN ?zqU ?zqz ?_; (case zqF => k_asm); (case zqN => k_asm); (case zqU => k_updF); (case zqz => assumption); k_whole); intro zqh' zqF' zqN'; (try dsimp only at zqN'); (try k_sweep)))
  k_with "binaryOp LShift int int" => (((with_reducible refine lshift_int ?zqs0 ?zqs1 ?_); (case zqs0 => first | assumption | omega | decide); (case zqs1 => exact shl_ok (by assumption) (by omega))))
  k_with "pyIter ref" => ((k_extra "myloop"))
  k_with "UnrEnd" => ((k_extra "myend"))
  k_with "call ref" => ((k_here; k_extra "mycall"))
  intro p loose mean mg mb dp un gd cn cs ad ccd cl outer A₀ base h₀ L m tb rest s Q E ta tt B hC1 hC2 F X N T hk htb hover hroom hunits hret
  obtain ⟨t1, t2, rfl, htb1, htb2⟩ := htb
  obtain ⟨hn1, hb1, hb2⟩ := bits_spec hb
  have hr30 : ∀ p ∈ t2 ++ rest, p.1 ≠ 30 := by
    intro p hp
    rcases List.mem_append.mp hp with h | h
    · exact ne30 (tab1_addr htb2 p h)
    · exact (hover p h).1
  obtain ⟨k0, k1, k2, k3, k4, k5⟩ := numdigs ha hn1 hza hzb
  generalize hK : (((Builtin.Int.intBits a : Int) + (Builtin.Int.intBits b : Int) - 1).fdiv (Builtin.Int.intBits b : Int)).toNat = K at k3
  have hds := undigs_digs (Builtin.Int.intBits b : Int).toNat K a ha k3
  have hdl := digs_length (Builtin.Int.intBits b : Int).toNat K a
  have hdr := digs_range (Builtin.Int.intBits b : Int).toNat K a
  obtain ⟨lv1, lv2, lv3, lv4, lv5⟩ := ldiv_spec (Builtin.Int.intBits b : Int).toNat hb _ hdr
  rw [hds] at lv1
  obtain ⟨eq1, eq2⟩ := div_of lv1 lv2 lv3
  have hbb : (Builtin.Int.intBits b : Int) ≤ 33554432 := by omega
  have hKl : K ≤ 16777216 := by omega
  have hnK : (Builtin.Int.intBits b : Int) * K ≤ 50000000 := by rw [← hK, Int.toNat_of_nonneg k0]; exact k2
  refine wpAny_call ?_
  k_dflt ktr_enter
  k_with_none
  k_with "call builtin:list.append" => ((k_dflt (refine' my_append ?zqF ?zqN ?zqU ?zqz ?_; (case zqF => k_asm); (case zqN => k_asm); (case zqU => k_updF); (case zqz => assumption); k_whole); intro zqh' zqF' zqN'; (try dsimp only at zqN'); (try k_sweep)))
  k_with "call builtin:list.reverse" => ((k_dflt (refine' my_reverse ?zqF ?zqN ?zqU ?zqz ?_; (case zqF => k_asm); (case zqN => k_asm); (case zqU => k_updF); (case zqz => assumption); k_whole); intro zqh' zqF' zqN'; (try dsimp only at zqN'); (try k_sweep)))
  k_with "binaryOp LShift int int" => (((with_reducible refine lshift_int ?zqs0 ?zqs1 ?_); (case zqs0 => first | assumption | omega | decide); (case zqs1 => exact shl_ok (by assumption) (by omega))))
  k_with "pyIter ref" => ((k_extra "myloop"))
  k_with "UnrEnd" => ((k_extra "myend"))
  k_with "call ref" => ((k_here; k_extra "mycall"))
  k_with "mycall" => (refine' i2d_ct w _ _ ha hn1 hza hzb ?B ?C ?F ?X ?N ?T ?hk htb1 hr30 ?hd ?hu ?_; (case B => k_asm); (case C => assumption); (case F => k_asm); (case X => k_asm); (case T => k_asm); (case hk => exact rfl); (case N => exact news_sub (by k_asm) perm1); (case hd => ktr_room); (case hu => ktr_units); (intro D1 items h' tk' t1' htb1' hne1 hD50 l1 hints1 F' N'; rw [hK] at hints1); (try dsimp only); (try k_fold))
  k_steps
  rename_i Qd _ lQ _ I _ FI NI lI
  k_dflt (refine' dp_loop (Builtin.Int.intBits b : Int).toNat b rfl ?F ?N lI hints1 ?hM ?step ?done; (case F => k_asm); (case N => k_asm); (case hM => rfl))
  case step =>
    intro d td high low qv cq t vq it h tk hds' hq hc F3 N3
    have hmd : ∀ x ∈ d :: high, 0 ≤ x ∧ x < 2 ^ (Builtin.Int.intBits b : Int).toNat := fun x hx => hdr x (by rw [← hds']; exact List.mem_append_right _ hx)
    have hd := hmd d List.mem_cons_self
    obtain ⟨_, r0, r1, rl, _⟩ := ldiv_spec (Builtin.Int.intBits b : Int).toNat hb high fun x hx => hmd x (List.mem_cons_of_mem _ hx)
    obtain ⟨hsp, hsp2⟩ := dp_arith r0 r1 hd.1 hd.2
    have hz1 : Sz (ldiv (Builtin.Int.intBits b : Int).toNat b high).2 (Builtin.Int.intBits b : Int).toNat := sz_le r0 (by omega)
    have hql : qv.length = high.length := by rw [hq.length, List.length_reverse, rl]
    have hhl : high.length ≤ K := by
      have := congrArg List.length hds'
      rw [List.length_append, List.length_cons, hdl] at this
      omega
    have hqz : qv.length ≤ 16777216 := by omega
    k_with_none
    k_with "call builtin:list.append" => ((k_dflt (refine' my_append ?zqF ?zqN ?zqU ?zqz ?_; (case zqF => k_asm); (case zqN => k_asm); (case zqU => k_updF); (case zqz => assumption); k_whole); intro zqh' zqF' zqN'; (try dsimp only at zqN'); (try k_sweep)))
    k_with "call builtin:list.reverse" => ((k_dflt (refine' my_reverse ?zqF ?zqN ?zqU ?zqz ?_; (case zqF => k_asm); (case zqN => k_asm); (case zqU => k_updF); (case zqz => assumption); k_whole); intro zqh' zqF' zqN'; (try dsimp only at zqN'); (try k_sweep)))
    k_with "binaryOp LShift int int" => (((with_reducible refine lshift_int ?zqs0 ?zqs1 ?_); (case zqs0 => first | assumption | omega | decide); (case zqs1 => exact shl_ok (by assumption) (by omega))))
    k_with "pyIter ref" => ((k_extra "myloop"))
    k_with "UnrEnd" => ((k_extra "myend"))
    k_with "call ref" => ((k_here; k_extra "mycall"))
    k_with "kall" => exact all_ne lQ.2 (by omega)
    k_with "mycall" => (refine' ct_use ?k1 ?k2 ?k3 ?k4 ?k5 ?kK (d2_any w hn1 hbb _ _ _ _ _ ?g1 ?g2 ?g3 ?g4) ?kd ?ku ?_; (case k1 => k_asm); (case k2 => k_asm); (case k3 => k_asm); (case k4 => k_asm); (case k5 => k_asm); (case kK => exact rfl); (case g1 => assumption); (case g2 => assumption); (case g3 => assumption); (case g4 => assumption); (case kd => ktr_room); (case ku => ktr_units); (intro D' ta' tb' c' h' tk' F' N' l1; simp only [AllLt, and_true] at l1); (try dsimp only); (try k_fold))
    k_steps
    all_goals (exact dp_step_end (by k_asm) (by k_asm) lI hq List.reverse_cons.symm rfl)
  case done => 
    intro qv cq t va vq h tk hq F3 N3
    dsimp only
    have hints2 := ints_reverse hq
    rw [List.reverse_reverse] at hints2
    have hqz : qv.length ≤ 16777216 := by rw [hq.length, List.length_reverse, lv4, hdl]; exact hKl
    have hr37 : ∀ x y : Obj, ∀ p ∈ (Qd, x) :: (D1, y) :: (t1' ++ rest), p.1 ≠ 37 := by
      intro x y p hp
      rcases List.mem_cons.mp hp with rfl | hp
      · exact ne37 (.inr (Nat.lt_trans hD50 lQ.1))
      · rcases List.mem_cons.mp hp with rfl | hp
        · exact ne37 (.inr hD50)
        · rcases List.mem_append.mp hp with h | h
          · exact ne37 (tab1_addr htb1' p h)
          · exact (hover p h).2
    k_with_none
    k_with "call builtin:list.append" => ((k_dflt (refine' my_append ?zqF ?zqN ?zqU ?zqz ?_; (case zqF => k_asm); (case zqN => k_asm); (case zqU => k_updF); (case zqz => assumption); k_whole); intro zqh' zqF' zqN'; (try dsimp only at zqN'); (try k_sweep)))
    k_with "call builtin:list.reverse" => ((k_dflt (refine' my_reverse ?zqF ?zqN ?zqU ?zqz ?_; (case zqF => k_asm); (case zqN => k_asm); (case zqU => k_updF); (case zqz => assumption); k_whole); intro zqh' zqF' zqN'; (try dsimp only at zqN'); (try k_sweep)))
    k_with "binaryOp LShift int int" => (((with_reducible refine lshift_int ?zqs0 ?zqs1 ?_); (case zqs0 => first | assumption | omega | decide); (case zqs1 => exact shl_ok (by assumption) (by omega))))
    k_with "pyIter ref" => ((k_extra "myloop"))
    k_with "UnrEnd" => ((k_extra "myend"))
    k_with "call ref" => ((k_here; k_extra "mycall"))
    k_with "kall" => exact all_ne lQ.2 (by omega)
    k_with "mycall" => (refine' d2i_ct w _ _ _ _ _ hn1 hbb hints2 ?a1 ?a2 lv5 ?B ?C ?F ?X ?N ?T ?hk htb2 (hr37 _ _) List.mem_cons_self ?hd ?hu ?_; (case a1 => rw [lv4, hdl]; omega); (case a2 => rw [lv4, hdl]; exact hnK); (case B => k_asm); (case C => assumption); (case F => k_asm); (case X => k_asm); (case T => k_asm); (case hk => exact rfl); (case N => exact news_sub (by k_asm) perm2); (case hd => ktr_room); (case hu => ktr_units); (intro tz h' tk' t2' htb2' F' N'); (try dsimp only); (try k_fold))
    try k_fold
    k_steps
    all_goals (rename_i lT _ _ _ _; exact dp_end hret htb1' htb2' (by k_asm) (by k_asm) (allLt_of lT) eq1.symm eq2.symm)
end Mine

end
section
open PySem PySem.W PyProof.Rows PySem.Calls PySem.Spec
namespace Mine
theorem cdiv_use {w : World} {f : Addr} {a b q r : Int} {dd uu : Nat} (C : CtDiv w f a b q r dd uu)
  {p : Program} {loose : List Str} {mean : ExcName → Option Value} {mg mb : Str → Option Value}
    {dp un : Nat} {gd : Option (List Code)} {cn : Str} {cs : Scope} {ad : Addr} {ccd : Value} {cl : List (Str × Addr)} {outer : List Env} {A₀ : Around} {base h₀ : Heap} {L : Addr} {m : Str → Option Value} {tb rest : List (Addr × Obj)} {s : Shared}
    {Q E : Value → Shared → Prop} {ta tt : Tok}
    (B : Below A₀ base outer h₀) (C1 : CodeHd base 34 30) (C2 : CodeHd base 41 37) (F : Fr h₀ L s.heap m) (X : (_root_.hd.heap_39 w.params).In h₀) (N : News h₀ L s.heap (rest ++ tb)) (T : Top p loose mean mg mb h₀) (hk : cs.kind = .function)
    (htb : Tabs tb) (hov : Over rest) (hd : dp + dd < recursionLimit) (hu : un + uu < cLine)
    (ret : ∀ D t1 t2 c h' tk' tb', Tabs tb' → AllLt D rest → Fr h₀ L h' m → News h₀ L h' ((D, ({ cls := .type "tuple", data := .seq #[.int q t1, .int r t2] c } : Obj)) :: (rest ++ tb')) → Q (.ref D) { s with heap := h', toks := tk' }) :
    wpAny (model PySem.Challenge.rw_ta0142_02.row.prog w) (ktrTop dp un gd cn cs L ad ccd cl outer) (call (.ref f) [.int a ta, .int b tt]) Q E s :=
  C _ _ _ _ _ _ _ _ _ _ _ _ _ _ _ _ _ _ _ _ _ _ _ _ _ _ B C1 C2 F X N T hk htb hov hd hu ret
theorem cdiv_end {q r x y : Int} {h₀ h : Heap} {L D : Addr} {m : Str → Option Value} {d1 : Addr × Obj} {tb rest : List (Addr × Obj)} {s : Shared} {Q : Value → Shared → Prop} {ta t' : Tok} {c tk : Nat}
    (ret : ∀ D t1 t2 c h' tk' tb', Tabs tb' → AllLt D rest → Fr h₀ L h' m → News h₀ L h' ((D, ({ cls := .type "tuple", data := .seq #[.int q t1, .int r t2] c } : Obj)) :: (rest ++ tb')) → Q (.ref D) { s with heap := h', toks := tk' })
    (htb : Tabs tb) (F : Fr h₀ L h m) (N : News h₀ L h ((D, ({ cls := .type "tuple", data := .seq #[.int x ta, .int y t'] c } : Obj)) :: d1 :: (rest ++ tb)))
    (hl : AllLt D (d1 :: (rest ++ tb))) (e1 : x = q) (e2 : y = r) : Q (.ref D) { s with heap := h, toks := tk } := by
  subst e1; subst e2
  exact ret D ta t' c h tk tb htb (allLt_sub hl fun p hp => List.mem_cons_of_mem _ (List.mem_append_left _ hp)) F (news_sub N fun p hp => by
    rcases List.mem_cons.mp hp with rfl | hp
    · exact List.mem_cons_self
    · exact List.mem_cons_of_mem _ (List.mem_cons_of_mem _ hp))
local macro_rules | `(tactic| k_mem) => `(tactic| first | exact List.mem_cons_self | assumption | (refine' List.mem_cons_of_mem _ ?_; k_mem))
set_option maxHeartbeats 8000000 in
theorem idiv_nn (w : World) (a b : Int) (ha : 0 ≤ a) (hb : 0 < b) (hza : (Builtin.Int.intBits a : Int) ≤ 16777216) (hzb : (Builtin.Int.intBits b : Int) ≤ 16777216) :
    CtDiv w 56 a b (a / b) (a % b) 110 1020 := by
  unfold CtDiv
  k_fill
  k_with_none
  k_with "call ref" => ((k_here; k_extra "mycall"))
  intro p loose mean mg mb dp un gd cn cs ad ccd cl outer A₀ base h₀ L m tb rest s Q E ta tt B hC1 hC2 F X N T hk htb hover hroom hunits hret
  have c1 : (b == 0) = false := by simp; omega
  have c2 : decide (b < 0) = false := by simp; omega
  have c3 : decide (a < 0) = false := by simp; omega
  refine wpAny_call ?_
  k_dflt ktr_enter
  k_with_none
  k_with "call ref" => ((k_here; k_extra "mycall"))
  k_with "mycall" => (refine' cdiv_use (divpos_ct w a b ha hb hza hzb) ?B hC1 hC2 ?F ?X ?N ?T ?hk htb hover ?hd ?hu ?_; (case B => k_asm); (case F => k_asm); (case X => k_asm); (case N => k_asm); (case T => k_asm); (case hk => exact rfl); (case hd => ktr_room); (case hu => ktr_units); (intro D1 ta' tb' c' h' tk' tbs' htbs' l1 F' N'); (try dsimp only); (try k_fold))
  k_steps
  all_goals exact hret _ _ _ _ _ _ _ htbs' l1 (by k_asm) (by k_asm)

theorem neg_eq {a b : Int} (hb : 0 < b) : Builtin.bitNot (Builtin.bitNot a / b) = a / b ∧ b + Builtin.bitNot (Builtin.bitNot a % b) = a % b := by
  unfold Builtin.bitNot
  have e := div_add_mod (-a - 1) b
  have m0 := Int.emod_nonneg (-a - 1) (show b ≠ 0 by omega)
  have m1 := Int.emod_lt_of_pos (-a - 1) hb
  generalize (-a - 1) / b = q at *
  generalize (-a - 1) % b = r at *
  have hh : (-q - 1) * b = -(q * b) - b := by grind
  obtain ⟨e1, e2⟩ := div_of (a := a) (b := b) (q := -q - 1) (r := b + (-r - 1)) (by omega) (by omega) (by omega)
  exact ⟨e1.symm, e2.symm⟩
theorem bits_abs {x y : Int} (h : x.natAbs ≤ y.natAbs) : Builtin.Int.intBits x ≤ Builtin.Int.intBits y := bits_of_sz (Sz.of_le (sz_of_bits (Nat.le_refl _)) h)
set_option maxHeartbeats 8000000 in
theorem idiv_neg (w : World) (a b : Int) (ha : a < 0) (hb : 0 < b) (hza : (Builtin.Int.intBits a : Int) ≤ 16777216) (hzb : (Builtin.Int.intBits b : Int) ≤ 16777216) :
    CtDiv w 56 a b (a / b) (a % b) 120 1040 := by
  unfold CtDiv
  k_fill
  k_with_none
  k_with "call ref" => ((k_here; k_extra "mycall"))
  intro p loose mean mg mb dp un gd cn cs ad ccd cl outer A₀ base h₀ L m tb rest s Q E ta tt B hC1 hC2 F X N T hk htb hover hroom hunits hret
  have c1 : (b == 0) = false := by simp; omega
  have c2 : decide (b < 0) = false := by simp; omega
  have c3 : decide (a < 0) = true := by simp; omega
  have hn0 : 0 ≤ Builtin.bitNot a := by unfold Builtin.bitNot; omega
  have hnz : (Builtin.Int.intBits (Builtin.bitNot a) : Int) ≤ 16777216 := by
    have := bits_abs (x := Builtin.bitNot a) (y := a) (by unfold Builtin.bitNot; omega)
    omega
  obtain ⟨e1, e2⟩ := neg_eq (a := a) hb
  refine wpAny_call ?_
  k_dflt ktr_enter
  k_with_none
  k_with "call ref" => ((k_here; k_extra "mycall"))
  k_with "mycall" => (refine' cdiv_use (idiv_nn w _ b hn0 hb hnz hzb) ?B hC1 hC2 ?F ?X ?N ?T ?hk htb hover ?hd ?hu ?_; (case B => k_asm); (case F => k_asm); (case X => k_asm); (case N => k_asm); (case T => k_asm); (case hk => exact rfl); (case hd => ktr_room); (case hu => ktr_units); (intro D1 ta' tb' c' h' tk' tbs' htbs' l1 F' N'); (try dsimp only); (try k_fold))
  k_steps
  all_goals (rename_i lT _ _ _ _; exact cdiv_end hret htbs' (by k_asm) (by k_asm) (by first | exact lT | exact allLt_of lT) e1 e2)
set_option maxHeartbeats 8000000 in
theorem idiv_bneg (w : World) (a b : Int) (hb : b < 0) (hza : (Builtin.Int.intBits a : Int) ≤ 16777216) (hzb : (Builtin.Int.intBits b : Int) ≤ 16777216)
    (H : CtDiv w 56 (-a) (-b) (-a / -b) (-a % -b) 120 1040) :
    CtDiv w 56 a b (a.fdiv b) (a.fmod b) 130 1060 := by
  unfold CtDiv
  k_fill
  k_with_none
  k_with "call ref" => ((k_here; k_extra "mycall"))
  intro p loose mean mg mb dp un gd cn cs ad ccd cl outer A₀ base h₀ L m tb rest s Q E ta tt B hC1 hC2 F X N T hk htb hover hroom hunits hret
  have c1 : (b == 0) = false := by simp; omega
  have c2 : decide (b < 0) = true := by simp; omega
  have e1 : -a / -b = a.fdiv b := by rw [← Int.fdiv_eq_ediv_of_nonneg _ (by omega), Int.neg_fdiv_neg]
  have e2 : -(-a % -b) = a.fmod b := by rw [← Int.fmod_eq_emod_of_nonneg _ (by omega), Int.neg_fmod_neg]; omega
  refine wpAny_call ?_
  k_dflt ktr_enter
  k_with_none
  k_with "call ref" => ((k_here; k_extra "mycall"))
  k_with "mycall" => (refine' cdiv_use H ?B hC1 hC2 ?F ?X ?N ?T ?hk htb hover ?hd ?hu ?_; (case B => k_asm); (case F => k_asm); (case X => k_asm); (case N => k_asm); (case T => k_asm); (case hk => exact rfl); (case hd => ktr_room); (case hu => ktr_units); (intro D1 ta' tb' c' h' tk' tbs' htbs' l1 F' N'); (try dsimp only); (try k_fold))
  k_steps
  all_goals (rename_i lT _ _ _ _; exact cdiv_end hret htbs' (by k_asm) (by k_asm) (by first | exact lT | exact allLt_of lT) e1 e2)
theorem ctdiv_mono {w : World} {f : Addr} {a b q r : Int} {dd uu dd' uu' : Nat} (C : CtDiv w f a b q r dd uu) (h1 : dd ≤ dd') (h2 : uu ≤ uu') : CtDiv w f a b q r dd' uu' := by
  unfold CtDiv at *
  intro p loose mean mg mb dp un gd cn cs ad ccd cl outer A₀ base h₀ L m tb rest s Q E ta tt B hC1 hC2 F X N T hk htb hover hroom hunits hret
  exact C _ _ _ _ _ _ _ _ _ _ _ _ _ _ _ _ _ _ _ _ _ _ _ _ _ _ B hC1 hC2 F X N T hk htb hover (by omega) (by omega) hret
/-- int_divmod -/
theorem idiv_ct (w : World) (a b : Int) (hb : b ≠ 0) (hza : (Builtin.Int.intBits a : Int) ≤ 16777216) (hzb : (Builtin.Int.intBits b : Int) ≤ 16777216) :
    CtDiv w 56 a b (a.fdiv b) (a.fmod b) 130 1060 := by
  have pos : ∀ a b : Int, 0 < b → (Builtin.Int.intBits a : Int) ≤ 16777216 → (Builtin.Int.intBits b : Int) ≤ 16777216 → CtDiv w 56 a b (a / b) (a % b) 120 1040 := by
    intro a b hb hza hzb
    by_cases ha : a < 0
    · exact idiv_neg w a b ha hb hza hzb
    · exact ctdiv_mono (idiv_nn w a b (by omega) hb hza hzb) (by omega) (by omega)
  by_cases h : b < 0
  · have z1 := bits_abs (x := -a) (y := a) (by omega)
    have z2 := bits_abs (x := -b) (y := b) (by omega)
    exact idiv_bneg w a b h hza hzb (pos _ _ (by omega) (by omega) (by omega))
  · have e1 : a.fdiv b = a / b := Int.fdiv_eq_ediv_of_nonneg _ (by omega)
    have e2 : a.fmod b = a % b := Int.fmod_eq_emod_of_nonneg _ (by omega)
    rw [e1, e2]
    exact ctdiv_mono (pos a b (by omega) hza hzb) (by omega) (by omega)
end Mine

end
section
open PySem PySem.W PyProof.Rows PySem.Calls PySem.Spec PyProof.Rows.LCg
namespace Mine
/-! enumerate over a tuple -/
section
variable {prog : Program} {w : World} {A : Around} {E : Value → Shared → Prop} {s : Shared}
theorem tupNext {it t : Addr} {i : Nat} {items : Array Value} {x : Value} {Q : Value → Shared → Prop} (hit : IsTupIter s.heap it t i) (ht : IsTup s.heap t items) (hx : items[i]? = some x)
    (hQ : ∀ h', IsTupIter h' it t (i + 1) → Heap.SameBut it s.heap h' → Q x { s with heap := h' }) : wpAny (model prog w) A (Builtin.SmallTypes.nextOf (.ref it)) Q E s := by
  obtain ⟨o, ho, hc, hd⟩ := id hit
  obtain ⟨_, hol, _, _, hdl⟩ := ht
  unfold Builtin.SmallTypes.nextOf
  refine wpAny_bind (wpAny_callSpecial?_slot (name := Str.ofString "__next__") hit.typeIs slot_tupleiter_next
    (wpAny_call_entry slot_tupleiter_next hit.typeIs entry_tupleiter_next ?_ (args_tupleiter_next _)))
  show wpAny _ _ (field (.ref it) 0 >>= _) _ _ s
  refine wpAny_bind (wpAny_field ho hd (x := .ref t) rfl ?_)
  show wpAny _ _ (if (Value.ref t == Value.none) = true then _ else _) _ _ s
  rw [if_neg (show ¬ ((Value.ref t == Value.none) = true) from Bool.false_ne_true)]
  show wpAny _ _ (field (.ref it) 1 >>= _) _ _ s
  refine wpAny_bind (wpAny_field ho hd (x := .int i 0) rfl ?_)
  show wpAny _ _ (seqItems? (.ref t) >>= _) _ _ s
  refine wpAny_bind (wpAny_seqItems hol hdl ?_)
  simp only [Int.toNat_natCast, hx]
  refine wpAny_bind (wpAny_setField ho hd (by simp) (wpAny_pure ⟨x, rfl, wpAny_pure (hQ _ ?_ (Heap.SameBut.update ..))⟩))
  exact ⟨_, Heap.get?_update_self _ ho (Obj.isFreed_of_fields (Obj.data_mapFields hd _)), (Obj.cls_mapFields ..).trans hc, by rw [Obj.data_mapFields hd]; simp [rawInt]⟩
theorem tupNextEnd {it t : Addr} {i : Nat} {items : Array Value} {Q : Value → Shared → Prop} (hh : A.handled = none) (hit : IsTupIter s.heap it t i) (ht : IsTup s.heap t items) (hx : items[i]? = none)
    (hE : ∀ h' e, Heap.ExtBut it s.heap h' → (∃ o, h'.get? e = some o ∧ o.cls = .type "StopIteration") → E (.ref e) { s with heap := h' }) :
    wpAny (model prog w) A (Builtin.SmallTypes.nextOf (.ref it)) Q E s := by
  obtain ⟨o, ho, hc, hd⟩ := id hit
  obtain ⟨_, hol, _, _, hdl⟩ := ht
  unfold Builtin.SmallTypes.nextOf
  refine wpAny_bind (wpAny_callSpecial?_slot (name := Str.ofString "__next__") hit.typeIs slot_tupleiter_next
    (wpAny_call_entry slot_tupleiter_next hit.typeIs entry_tupleiter_next ?_ (args_tupleiter_next _)))
  show wpAny _ _ (field (.ref it) 0 >>= _) _ _ s
  refine wpAny_bind (wpAny_field ho hd (x := .ref t) rfl ?_)
  show wpAny _ _ (if (Value.ref t == Value.none) = true then _ else _) _ _ s
  rw [if_neg (show ¬ ((Value.ref t == Value.none) = true) from Bool.false_ne_true)]
  show wpAny _ _ (field (.ref it) 1 >>= _) _ _ s
  refine wpAny_bind (wpAny_field ho hd (x := .int i 0) rfl ?_)
  show wpAny _ _ (seqItems? (.ref t) >>= _) _ _ s
  refine wpAny_bind (wpAny_seqItems hol hdl ?_)
  simp only [Int.toNat_natCast, hx]
  refine wpAny_bind (wpAny_rule (wpAny_bind (wpAny_setField ho hd (by simp) ?_)))
  show wpAny _ _ (newExc (.type "StopIteration") [] >>= _) _ _ _
  refine wpAny_bind ?_
  simp only [newExc, newTuple]
  refine wpAny_bind (wpAny_newObj_type ?_ (by size_fits))
  refine wpAny_bind (m := firstArgMember _ _) (wpAny_of_eq (a := Value.none) (by first | rfl | (simp only [firstArgMember]; rfl)) ?_)
  refine wpAny_newObj_type ?_ (by size_fits)
  simp only [raiseNew]
  refine wpAny_bind (wpAny_handled ?_)
  first | rw [show A.in1.handled = none from hh] | rw [hh]
  refine wpAny_bind (wpAny_pure (wpAny_throw ?_))
  exact hE _ _ (((Heap.SameBut.update ..).extBut.push _).push _) ⟨_, Heap.get?_push_size _ rfl, rfl⟩
end
theorem IsTup.extBut' {h h' : Heap} {t it : Addr} {items : Array Value} (x : IsTup h t items) (hs : Heap.SameBut it h h') (hne : t ≠ it) : IsTup h' t items :=
  let ⟨o, e, r⟩ := x; ⟨o, hs.extBut t o hne e, r⟩
theorem drawsTup {prog : Program} {w : World} {A : Around} (hh : A.handled = none) (it t : Addr) (hne : t ≠ it) (items : Array Value) :
    Draws prog w A it [it, t] items.size (fun i v => items[i]? = some v) (fun i h => IsTupIter h it t i ∧ IsTup h t items) where
  live := fun _ _ st => let ⟨o, ho, _⟩ := st.1; ⟨o, ho⟩
  frame := fun _ _ _ st hk => ⟨let ⟨o, e, r⟩ := st.1; ⟨o, hk it (by simp) o e, r⟩, let ⟨o, e, r⟩ := st.2; ⟨o, hk t (by simp) o e, r⟩⟩
  item := fun i s Q E hi st hQ => by
    refine tupNext st.1 st.2 (x := items[i]) (by simp [hi]) fun h' hit' hs' => ?_
    exact hQ _ h' s.toks (by simp [hi]) ⟨hit', IsTup.extBut' st.2 hs' hne⟩ hs'
  done := fun s Q E st hE => tupNextEnd hh st.1 st.2 (by simp) hE
theorem meetsEnumT (l : Addr) (items : Array Value) (n : Nat) (dct : Option Addr) (sl : Array (Option Value)) :
    Meets (Builtin.«enumerate.__new__» ⟨[.type "enumerate", .ref l], []⟩) (fun _ R s => s.heap.get? l = some { cls := .type "tuple", dict := dct, data := .seq items n, slots := sl } ∧
      R (.ok (.ret (.ref (s.heap.push { cls := .type "tuple_iterator", data := .fields #[.ref l, .int 0 0] }).objs.size)))
        { s with heap := (s.heap.push { cls := .type "tuple_iterator", data := .fields #[.ref l, .int 0 0] }).push { cls := .type "enumerate", data := .fields #[.none, .bool false, .ref s.heap.objs.size, rawInt 0, .none, .none] } }) :=
  .of_wp fun prog w A R s h => by
    obtain ⟨hp, g, d, tk, os⟩ := s; obtain ⟨hl, h⟩ := h
    have hsub := sub_enumerate
    have hL : IsTup (Shared.heap ⟨hp, g, d, tk, os⟩) l items := ⟨_, hl, rfl, n, rfl⟩
    wp_walk using AutoSeq1.wpAny_loadPart' hl
    refine wpAny_stack_any fun st => wpAny_pure ?_
    split
    · rename_i c _ _ _ _ _
      cases (c == Value.type "enumerate")
      · wp_walk using AutoSeq1.wpAny_loadPart' hl, iter_tuple hL
        exact ⟨_, rfl, h⟩
      · wp_walk using AutoSeq1.wpAny_loadPart' hl, iter_tuple hL
        exact ⟨_, rfl, h⟩
    · wp_walk using AutoSeq1.wpAny_loadPart' hl, iter_tuple hL
      exact ⟨_, rfl, h⟩
section
variable {prog : Program} {w : World} {A : Around} {E : Value → Shared → Prop} {s : Shared}
theorem callEnumT {l : Addr} {items : Array Value} {Q : Value → Shared → Prop} (hL : IsTup s.heap l items)
    (h : ∀ h', IsEnum h' (s.heap.objs.size + 1) s.heap.objs.size 0 .none → IsTupIter h' s.heap.objs.size l 0 → (∀ b o, s.heap.get? b = some o → h'.get? b = some o) → Q (.ref (s.heap.objs.size + 1)) { s with heap := h' }) :
    wpAny (model prog w) A (call (.type "enumerate") [.ref l]) Q E s := by
  obtain ⟨⟨c, dct, dt, sl⟩, hl, hc, n, hd⟩ := hL
  replace hc : c = .type "tuple" := hc
  replace hd : dt = .seq items n := hd
  subst hc hd
  refine callType_new F.called_enumerate (by decide) (F.typeCall_enumerate_1 _) (F.newCall_enumerate_1 _) (fun obj => F.args_object_init_2 obj _) F.entry_enumerate_new
    (meetsEnumT l items n dct sl) ⟨hl, ?_⟩
  have hz : (s.heap.push { cls := .type "tuple_iterator", data := .fields #[.ref l, .int 0 0] }).objs.size = s.heap.objs.size + 1 := Heap.size_push ..
  show _ ∧ _
  rw [hz]
  have he : IsEnum ((s.heap.push { cls := .type "tuple_iterator", data := .fields #[.ref l, .int 0 0] }).push
      { cls := .type "enumerate", data := .fields #[.none, .bool false, .ref s.heap.objs.size, rawInt 0, .none, .none] }) (s.heap.objs.size + 1) s.heap.objs.size 0 .none := by
    have := Heap.get?_push_size (s.heap.push { cls := .type "tuple_iterator", data := .fields #[.ref l, .int 0 0] })
      (o := { cls := .type "enumerate", data := .fields #[.none, .bool false, .ref s.heap.objs.size, rawInt 0, .none, .none] }) rfl
    rw [hz] at this; exact this
  exact ⟨⟨_, he, rfl⟩, h _ he ⟨_, Heap.get?_push_of_some _ (Heap.get?_push_size _ rfl), rfl, rfl⟩ fun b o x => Heap.get?_push_of_some _ (Heap.get?_push_of_some _ x)⟩
variable {h₀ : Heap} {L : Addr} {m : Str → Option Value} {env : Env}
structure Stop (P : Prop) : Prop where
  go : P
/-- a comprehension over (place, item) of a made tuple whose element makes nothing that stays -/
theorem enumComp {elt : PySem.Expr} {a b : Str} {pa pb tp : Pos} {kk : Nat} {scope : Scope} {cl : List (Str × Addr)} {pos : Pos} {Q : Value → Shared → Prop} (R : Nat → Value → Prop) (F₀ : Fr h₀ L s.heap m)
    (hh : A.handled = none) (hclos : closureFor scope env = pure cl) (hcell : ∀ y ∈ scope.names, y.2 ≠ .cell) (hkind : scope.kind = .function)
    (hnames : ∀ y ∈ scope.names, y.2 = .local → scope.names.lookup y.1 = some .local) (hxa : scope.names.lookup a = some .local) (hxb : scope.names.lookup b = some .local) (hab : ¬ a = b) {iter : PySem.Expr}
    (h : wpAny (model prog w) A (eval iter env) (fun xv s₁ => ∃ T items nT news e it, xv = .ref e ∧ IsEnum s₁.heap e it 0 .none ∧ IsTupIter s₁.heap it T 0 ∧ @LT.lt Nat _ it e ∧ (∀ p ∈ (T, ({ cls := .type "tuple", data := .seq items nT } : Obj)) :: news, @LT.lt Nat _ p.1 it) ∧ @LT.lt Nat _ L it ∧ items.size ≤ sizeLine ∧
        Fr h₀ L s₁.heap m ∧ News h₀ L s₁.heap ((T, ({ cls := .type "tuple", data := .seq items nT } : Obj)) :: news) ∧
        (∀ i x t C oC m₂ h tk own (E' : Value → Shared → Prop), items[i]? = some x → NsObj oC m₂ → m₂ a = some (.int (i : Nat) t) → m₂ b = some x → Fr h₀ L h m → News h₀ L h ((C, oC) :: (own ++ (T, ({ cls := .type "tuple", data := .seq items nT } : Obj)) :: news)) →
          wpAny (model prog w) A (eval elt (compEnvC scope cl C env)) (fun y s' => Stop (R i y ∧ ∃ h' tk', s' = { s₁ with heap := h', toks := tk' } ∧ Fr h₀ L h' m ∧ News h₀ L h' ((C, oC) :: (own ++ (T, ({ cls := .type "tuple", data := .seq items nT } : Obj)) :: news)))) E' { s₁ with heap := h, toks := tk }) ∧
        ∀ D ys h tk, ys.length = items.size → (∀ i y, ys[i]? = some y → R i y) → Fr h₀ L h m → News h₀ L h ((D, lst ys) :: (T, ({ cls := .type "tuple", data := .seq items nT } : Obj)) :: news) → (∀ p ∈ (T, ({ cls := .type "tuple", data := .seq items nT } : Obj)) :: news, @LT.lt Nat _ p.1 D) → Q (.ref D) { s₁ with heap := h, toks := tk }) E s)
    (hs : ∀ x, foldedSetIterable iter env x = pure x := by intro _; rfl) :
    wpAny (model prog w) A (eval (.ListComp elt [⟨.Tuple [.Name a pa, .Name b pb] kk tp, iter, [], 0⟩] scope pos) env) Q E s := by
  rw [eval_ListComp]
  refine wpAny_comprehension_free (use := none) rfl hs hclos hkind hnames (wpAny_mono h (fun xv s₂ h₁ => ?_) fun _ _ e => e)
  obtain ⟨T, items, nT, news, e, it, h₁⟩ := h₁
  generalize hoT : ({ cls := .type "tuple", data := .seq items nT } : Obj) = oT at h₁
  obtain ⟨rfl, hE, hI, hie, hbel, hLi, hsz, F, N, step, fin⟩ := h₁
  refine wpAny_pyIter_enum hE ?_
  refine wpAny_newObj_type (wpAny_newFunctionEnv hcell (by intro y hy; simp at hy) (fun h₁ hns₁ hsb₁ => ?_) hkind)
  dsimp only at hns₁ hsb₁ ⊢
  generalize hH2 : s₂.heap.push { cls := .type "list", dict := none, data := .seq ([] : List Value).toArray } = H2 at hns₁ hsb₁ ⊢
  have hC : H2.objs.size = s₂.heap.objs.size + 1 := by rw [← hH2, Heap.size_push]
  have helt : e < s₂.heap.objs.size := Heap.lt_size hE
  have lt3 : ∀ x : Nat, x < s₂.heap.objs.size → x ≠ H2.objs.size ∧ x ≠ s₂.heap.objs.size := fun x hx => ⟨by rw [hC]; exact Nat.ne_of_lt (Nat.lt_succ_of_lt hx), Nat.ne_of_lt hx⟩
  have hDC : s₂.heap.objs.size ≠ H2.objs.size := by rw [hC]; exact Nat.ne_of_lt (Nat.lt_succ_self _)
  have hilt : it < s₂.heap.objs.size := Nat.lt_trans hie helt
  have hLlt : L < s₂.heap.objs.size := Nat.lt_trans hLi hilt
  have old : ∀ b o, s₂.heap.get? b = some o → h₁.get? b = some o := fun b o x => hsb₁.extBut b o (lt3 b (Heap.lt_size x)).1 (Heap.get?_push_of_some _ (hH2 ▸ Heap.get?_push_of_some _ x))
  have hacc : h₁.get? s₂.heap.objs.size = some (lst []) := hsb₁.extBut _ _ hDC (Heap.get?_push_of_some _ (hH2 ▸ Heap.get?_push_size _ rfl))
  have fresh₀ : ∀ x : Nat, L < x → h₀.get? x = none := fun x hx => Heap.get?_none_of_le (Nat.le_trans F.above (Nat.le_of_lt hx))
  have nLe : L ≠ e := Nat.ne_of_lt (Nat.lt_trans hLi hie)
  have nLi : L ≠ it := Nat.ne_of_lt hLi
  have nLD : L ≠ s₂.heap.objs.size := Nat.ne_of_lt hLlt
  have nLC : L ≠ H2.objs.size := (lt3 L hLlt).1
  have W := KTurns.ofWalksU (elts := [.Name a pa, .Name b pb]) (k := kk) (pos := tp) (WalksT.enumerateD (drawsTup (prog := prog) (w := w) (A := A.in1) hh it T (Nat.ne_of_lt (hbel _ List.mem_cons_self)) items) e (Nat.ne_of_gt hie) (by simp; exact ⟨Nat.ne_of_gt hie, Nat.ne_of_gt (Nat.lt_trans (hbel _ List.mem_cons_self) hie)⟩) (by simp)).toU
  have hTup : ∀ h', News h₀ L h' ((T, oT) :: news) → IsTup h' T items := fun h' N' => ⟨oT, (N' _ List.mem_cons_self).1, by rw [← hoT], nT, by rw [← hoT]⟩
  have off4 : ∀ p ∈ (T, oT) :: news, p.1 ≠ e ∧ p.1 ≠ it ∧ p.1 ≠ H2.objs.size ∧ p.1 ≠ s₂.heap.objs.size := fun p hp => by
    have l := hbel p hp
    have l2 : p.1 < s₂.heap.objs.size := Nat.lt_trans l hilt
    exact ⟨Nat.ne_of_lt (Nat.lt_trans l hie), Nat.ne_of_lt l, (lt3 _ l2).1, (lt3 _ l2).2⟩
  have loop : ∀ s₃ : Shared, s₃ = { s₂ with heap := h₁, toks := s₂.toks + ([] : List (Str × Value)).length } →
      codeAny (model prog w) A (.compLoop (.ListComp elt [⟨.Tuple [.Name a pa, .Name b pb] kk tp, iter, [], 0⟩] scope pos) 0 (.ref e) (.ref s₂.heap.objs.size) (compEnvC scope cl H2.objs.size env))
        (compPost (model prog w) A E none Q (.ref s₂.heap.objs.size) H2.objs.size) s₃ := by
    rintro s₃ rfl
    refine kcp_loop
      (fun k s' => ∃ h' tk i ys m', s' = { s₂ with heap := h', toks := tk } ∧ i ≤ items.size ∧ k = items.size + 1 - i ∧ ys.length = i ∧ (∀ j y, ys[j]? = some y → R j y) ∧ (∃ old, IsEnum h' e it i old) ∧ IsTupIter h' it T i ∧ Fr h₀ L h' m ∧ h'.Ns H2.objs.size m' ∧
        News h₀ L h' ((s₂.heap.objs.size, lst ys) :: (T, oT) :: news)) ?_ (items.size + 1)
      ⟨h₁, _, 0, [], _, rfl, Nat.zero_le _, rfl, rfl, by simp, ⟨_, old _ _ hE⟩, (let ⟨o, x, r⟩ := hI; ⟨o, old _ _ x, r⟩), F.keeps old, hns₁, fun p hp => ?_⟩
    · rintro k s' ⟨h', tk, i, ys, m', rfl, hi, rfl, hyl, hR, hE', hI', F', hn', N'⟩
      have NT : News h₀ L h' ((T, oT) :: news) := fun p hp => N' p (List.mem_cons_of_mem _ hp)
      by_cases hlt : i < items.size
      · refine W.item i _ _ _ hlt ⟨hE', hI', hTup _ NT⟩ fun v h₂ tk₂ hMd hk₂ => ?_
        refine W.go i v _ _ _ hMd fun h₃ hP hst₃ hk₃ => ?_
        obtain ⟨T', vals, rfl, ⟨t, x, hx, rfl⟩, hT'⟩ := hP
        have up₃ : ∀ c o, c ≠ e → c ≠ it → h'.get? c = some o → h₃.get? c = some o := fun c o h1 h2 x => hk₃ c o (by simp [h1, h2]) (hk₂ c o (by simp [h1, h2]) x)
        have nCe : H2.objs.size ≠ e := Ne.symm (lt3 e helt).1
        have nCi : H2.objs.size ≠ it := Ne.symm (lt3 it hilt).1
        refine kcp_assign (env := compEnvC scope cl H2.objs.size env) hh hT' (lookup_relabel_local hxa) (lookup_relabel_local hxb) (by simp [compEnvC, relabel, hkind]) (hn'.at' fun o x => up₃ _ o nCe nCi x) fun h₄ tk₄ hn₄ hs₄ => ?_
        have up : ∀ c o, c ≠ e → c ≠ it → c ≠ H2.objs.size → h'.get? c = some o → h₄.get? c = some o := fun c o h1 h2 h3 x => hs₄ c o h3 (up₃ c o h1 h2 x)
        obtain ⟨⟨old₃, hE₃⟩, ⟨oi, hoi, hoic, hoid⟩, _⟩ := hst₃
        have hE₄ := hs₄ e _ (Ne.symm nCe) hE₃
        have hI₄ := hs₄ it _ (Ne.symm nCi) hoi
        obtain ⟨oC, heC, hoC⟩ := ns_obj hn₄
        have F₄ : Fr h₀ L h₄ m := ⟨F'.ns.at' fun o x => up _ o nLe nLi nLC x, fun c o x => up c o (fun q => by rw [q, fresh₀ e (Nat.lt_trans hLi hie)] at x; cases x) (fun q => by rw [q, fresh₀ it hLi] at x; cases x) (fun q => by rw [q, fresh₀ _ (Nat.lt_of_lt_of_le hLlt (by rw [hC]; omega))] at x; cases x) (F'.keep c o x), F'.above⟩
        have N₄ : News h₀ L h₄ ((H2.objs.size, oC) :: ([(e, _), (it, oi), (s₂.heap.objs.size, lst ys)] ++ (T, oT) :: news)) := fun q hq => by
          rcases List.mem_cons.mp hq with rfl | hq
          · exact ⟨heC, Ne.symm nLC, fresh₀ _ (Nat.lt_of_lt_of_le hLlt (by rw [hC]; omega))⟩
          · rcases List.mem_cons.mp hq with rfl | hq
            · exact ⟨hE₄, Ne.symm nLe, fresh₀ _ (Nat.lt_trans hLi hie)⟩
            · rcases List.mem_cons.mp hq with rfl | hq
              · exact ⟨hI₄, Ne.symm nLi, fresh₀ _ hLi⟩
              · have z := N' q hq
                refine ⟨?_, z.2⟩
                rcases List.mem_cons.mp hq with rfl | hq
                · exact up _ _ (Ne.symm (lt3 e helt).2) (Ne.symm (lt3 it hilt).2) hDC z.1
                · have o4 := off4 q hq
                  exact up _ _ o4.1 o4.2.1 o4.2.2.1 z.1
        refine wpAny_mono (step i x t H2.objs.size oC _ h₄ _ _ _ hx hoC (by simp [hab]) (by simp) F₄ N₄) (fun y s₅ h₅ => ?_) fun _ _ x => x
        obtain ⟨hRy, h₅, tk₅, rfl, F₅, N₅⟩ := h₅.go
        have zC := (N₅ _ List.mem_cons_self).1
        have zE := (N₅ _ (List.mem_cons_of_mem _ List.mem_cons_self)).1
        have zI := (N₅ _ (List.mem_cons_of_mem _ (List.mem_cons_of_mem _ List.mem_cons_self))).1
        have zD := (N₅ _ (List.mem_cons_of_mem _ (List.mem_cons_of_mem _ (List.mem_cons_of_mem _ List.mem_cons_self)))).1
        refine append_at (hsz := by show ys.toArray.size ≤ sizeLine; rw [List.size_toArray, hyl]; exact Nat.le_trans hi hsz) zD fun h₆ hs₆ hD₆ => ?_
        refine ⟨items.size + 1 - (i + 1), by omega, h₆, tk₅, i + 1, ys ++ [y], _, rfl, hlt, rfl, by rw [List.length_append, List.length_singleton, hyl], ?_, ⟨_, hs₆.extBut _ _ (lt3 e helt).2 zE⟩, ⟨oi, hs₆.extBut _ _ (lt3 it hilt).2 zI, hoic, hoid⟩,
          F₅.change hs₆ (Ne.symm nLD) (fresh₀ _ hLlt), (hoC.ns zC).sameBut hs₆ (Ne.symm hDC), fun q hq => ?_⟩
        · intro j z hz
          rw [List.getElem?_append] at hz
          split at hz
          · exact hR j z hz
          · rename_i hj
            have hj' : j = i := by
              rcases Nat.lt_or_ge (j - ys.length) 1 with h' | h'
              · omega
              · rw [List.getElem?_eq_none (by simpa using h')] at hz; cases hz
            subst hj'
            rw [hyl, Nat.sub_self] at hz
            cases hz
            exact hRy
        · rcases List.mem_cons.mp hq with rfl | hq
          · exact ⟨hD₆.trans (congrArg some (lst_snoc ys y)), Ne.symm nLD, fresh₀ _ hLlt⟩
          · have z := N₅ q (List.mem_cons_of_mem _ (List.mem_cons_of_mem _ (List.mem_cons_of_mem _ (List.mem_cons_of_mem _ hq))))
            exact ⟨hs₆.extBut _ _ (off4 q hq).2.2.2 z.1, z.2⟩
      · have hin : i = items.size := Nat.le_antisymm hi (Nat.not_lt.mp hlt)
        subst hin
        refine W.done _ _ _ ⟨hE', hI', hTup _ NT⟩ fun h₂ tk₂ hk₂ => ?_
        have up : ∀ c o, c ≠ e → c ≠ it → h'.get? c = some o → h₂.get? c = some o := fun c o h1 h2 x => hk₂ c o (by simp [h1, h2]) x
        have F₂ : Fr h₀ L h₂ m := ⟨F'.ns.at' fun o x => up _ o nLe nLi x, fun c o x => up c o (fun q => by rw [q, fresh₀ e (Nat.lt_trans hLi hie)] at x; cases x) (fun q => by rw [q, fresh₀ it hLi] at x; cases x) (F'.keep c o x), F'.above⟩
        refine ⟨_, hn'.at' fun o x => up _ o (Ne.symm (lt3 e helt).1) (Ne.symm (lt3 it hilt).1) x, fun h'' hs'' => fin _ ys h'' _ hyl hR (F₂.change hs'' (Ne.symm nLC) (fresh₀ _ (Nat.lt_of_lt_of_le hLlt (by rw [hC]; omega)))) (fun p hp => ?_) (fun p hp => Nat.lt_trans (hbel p hp) hilt)⟩
        have z := N' p hp
        refine ⟨hs''.extBut _ _ ?_ ?_, z.2⟩
        · rcases List.mem_cons.mp hp with rfl | hp
          · exact hDC
          · exact (off4 p hp).2.2.1
        · rcases List.mem_cons.mp hp with rfl | hp
          · exact up _ _ (Ne.symm (lt3 e helt).2) (Ne.symm (lt3 it hilt).2) z.1
          · exact up _ _ (off4 p hp).1 (off4 p hp).2.1 z.1
    · rcases List.mem_cons.mp hp with rfl | hp
      · exact ⟨hacc, Ne.symm nLD, fresh₀ _ hLlt⟩
      · exact ⟨old _ _ (N p hp).1, (N p hp).2⟩
  exact codeAny_compStart_list (loop _ rfl) (wpAny_pyIter_enum (old _ _ hE) (loop _ rfl))
end
end Mine

end
section
open PySem PySem.W PyProof.Rows PySem.Calls PySem.Spec
namespace Mine
open LCg
section
variable {prog : Program} {w : World} {A : Around} {E : Value → Shared → Prop} {s : Shared} {h₀ : Heap} {L : Addr} {m : Str → Option Value} {env : Env}
def SrcAtT (ax : Addr) (its : Array Value) (news : List (Addr × Obj)) : Prop := ∃ o, (ax, o) ∈ news ∧ o.cls = .type "tuple" ∧ ∃ n, o.data = .seq its n
theorem SrcAtT.tup {h : Heap} {ax : Addr} {its : Array Value} {news : List (Addr × Obj)} (x : SrcAtT ax its news) (N : News h₀ L h news) : h.IsTuple ax its := by
  obtain ⟨o, hm, r⟩ := x; exact ⟨o, (N _ hm).1, r⟩
theorem tup_st {ax I : Addr} {its : Array Value} : ∀ i (h h' : Heap) (o : Obj) (nw : List (Addr × Obj)), (h.IsTupleIter I ax i ∧ h.IsTuple ax its) → h.get? I = some o → h'.get? I = some o → (∀ b o, h₀.get? b = some o → h'.get? b = some o) → News h₀ L h' nw → SrcAtT ax its nw → (h'.IsTupleIter I ax i ∧ h'.IsTuple ax its) :=
  fun i h h' o nw st e e' _ N S => ⟨by obtain ⟨o', q, r⟩ := st.1; rw [e] at q; cases q; exact ⟨o, e', r⟩, S.tup N⟩
def SrcT (prog : Program) (w : World) (A : Around) (h₀ : Heap) (L : Addr) (m : Str → Option Value) (env : Env) (elt : PySem.Expr) (x : Str) (scope : Scope) (cl : List (Str × Addr)) (Fin : Shared → List Value → List (Addr × Obj) → Prop) (xv : Value) (s₁ : Shared) : Prop :=
  ∃ ax its news, xv = .ref ax ∧ A.handled = none ∧ Fr h₀ L s₁.heap m ∧ News h₀ L s₁.heap news ∧ SrcAtT ax its news ∧ its.size ≤ sizeLine ∧
      ∀ g, CompRest prog w A h₀ L m env elt x scope cl { s₁ with heap := g } (SrcAtT ax its) (fun i v => its[i]? = some v) (Fin { s₁ with heap := g }) its.size 0 [] news
theorem SrcT.made {elt : PySem.Expr} {x : Str} {scope : Scope} {cl : List (Str × Addr)} {Fin : Shared → List Value → List (Addr × Obj) → Prop} {ax : Addr} {its : Array Value} {k : Nat} {news : List (Addr × Obj)} {s₁ : Shared}
    (hh : A.handled = none) (F : Fr h₀ L s₁.heap m) (N : News h₀ L s₁.heap news) (hm : (ax, ({ cls := .type "tuple", data := .seq its k } : Obj)) ∈ news) (hsz : its.size ≤ sizeLine)
    (h : ∀ g, CompRest prog w A h₀ L m env elt x scope cl { s₁ with heap := g } (SrcAtT ax its) (fun i v => its[i]? = some v) (Fin { s₁ with heap := g }) its.size 0 [] news) :
    SrcT prog w A h₀ L m env elt x scope cl Fin (.ref ax) s₁ := ⟨ax, its, news, rfl, hh, F, N, ⟨_, hm, rfl, _, rfl⟩, hsz, h⟩
/-- a comprehension over a made tuple -/
theorem listComp_T {elt iter : PySem.Expr} {x : Str} {px : Pos} {scope : Scope} {cl : List (Str × Addr)} {pos : Pos} {Q : Value → Shared → Prop} (F₀ : Fr h₀ L s.heap m)
    (hclos : closureFor scope env = pure cl) (hcell : ∀ y ∈ scope.names, y.2 ≠ .cell) (hkind : scope.kind = .function)
    (hnames : ∀ y ∈ scope.names, y.2 = .local → scope.names.lookup y.1 = some .local) (hx : scope.names.lookup x = some .local)
    (h : wpAny (model prog w) A (eval iter env) (SrcT prog w A h₀ L m env elt x scope cl (fun s₂ => FinE h₀ L m s₂ Q)) E s)
    (hs : ∀ x, foldedSetIterable iter env x = pure x := by intro _; rfl) :
    wpAny (model prog w) A (eval (.ListComp elt [⟨.Name x px, iter, [], 0⟩] scope pos) env) Q E s := by
  rw [eval_ListComp]
  refine wpAny_comprehension_free (use := none) rfl hs hclos hkind hnames (wpAny_mono h (fun xv s₁ h₁ => ?_) fun _ _ e => e)
  obtain ⟨ax, its, news, rfl, hh, F, N, S, hsz, R⟩ := h₁
  have hl := S.tup N
  have hlt : ax < s₁.heap.objs.size := by obtain ⟨_, e, _⟩ := hl; exact Heap.lt_size e
  refine wpAny_pyIter_tuple hl ?_
  have up : ∀ b o, s₁.heap.get? b = some o → (s₁.heap.push { cls := .type "tuple_iterator", data := .fields #[.ref ax, .int 0 0] }).get? b = some o := fun b o e => Heap.get?_push_of_some _ e
  refine block_U (Walks.tuple hh s₁.heap.objs.size ax (Nat.ne_of_lt hlt) its) hsz (fun i h st => by obtain ⟨o, e, _⟩ := st.1; exact ⟨o, e⟩) tup_st hcell hkind hx ⟨⟨_, Heap.get?_push_size _ rfl, rfl, rfl⟩, (let ⟨o, e, r⟩ := hl; ⟨o, up _ _ e, r⟩)⟩ (fun b hb => ?_)
    (F.keeps up) (N.grown up) (Nat.ne_of_lt F.ns.lt) (next_is_new F) (fun p hp => Nat.ne_of_lt (Heap.lt_size (N p hp).1)) S (R _) ?_
  · show b < (s₁.heap.push _).objs.size
    rw [Heap.size_push]
    rcases List.mem_cons.mp hb with rfl | hb
    · exact Nat.lt_succ_self _
    · rw [List.mem_singleton.mp hb]; exact Nat.lt_succ_of_lt hlt
  · intro D C h tk m' ys news' F' N' o1 hn hC₀ hD₀ hCL hDL hCD offC fin
    refine ⟨m', hn, fun h'' hs'' => fin D h'' tk (F'.change hs'' hCL hC₀) (fun p hp => ?_) o1⟩
    refine ⟨hs''.extBut _ _ ?_ (N' p hp).1, (N' p hp).2⟩
    rcases List.mem_cons.mp hp with rfl | hp
    · exact Ne.symm hCD
    · exact offC p hp
/-- all turns at once -/
theorem rest_inv {elt : PySem.Expr} {x : Str} {scope : Scope} {cl : List (Str × Addr)} {S : List (Addr × Obj) → Prop} {P : Nat → Value → Prop} {Fin : List Value → List (Addr × Obj) → Prop} {n : Nat} {news : List (Addr × Obj)}
    (J : Nat → List Value → List (Addr × Obj) → Prop) (j0 : J 0 [] news)
    (step : ∀ i ys news v I oI C oC D m₂ h tk (E' : Value → Shared → Prop), i < n → ys.length = i → J i ys news → P i v → NsObj oC m₂ → m₂ x = some v → Fr h₀ L h m → News h₀ L h ((I, oI) :: (C, oC) :: (D, lst ys) :: news) → Off3 I C D news → ((@Ne Nat I C) ∧ (@Ne Nat I D) ∧ (@Ne Nat C D)) →
      wpAny (model prog w) A (eval elt (compEnvC scope cl C env)) (fun y s₂ => Stop (CompEnd h₀ L m { s with heap := h, toks := tk } I oI C oC D (lst ys) S (fun y news' => J (i + 1) (ys ++ [y]) news') y s₂)) E' { s with heap := h, toks := tk })
    (fin : ∀ ys news', ys.length = n → J n ys news' → Fin ys news') : CompRest prog w A h₀ L m env elt x scope cl s S P Fin n 0 [] news := by
  have key : ∀ k i ys news, i + k = n → ys.length = i → J i ys news → CompRest prog w A h₀ L m env elt x scope cl s S P Fin k i ys news := by
    intro k
    induction k with
    | zero => intro i ys news hi hy hJ; exact CompRest.zero (fin ys news (by omega) (by rw [show n = i by omega]; exact hJ))
    | succ k ih =>
      intro i ys news hi hy hJ
      refine CompRest.succ fun v I oI C oC D m₂ h tk E' hv hC hx F N off ne => ?_
      refine wpAny_mono (step i ys news v I oI C oC D m₂ h tk E' (by omega) hy hJ hv hC hx F N off ne) (fun y s₂ hq => ?_) fun _ _ e => e
      obtain ⟨h', tk', news', rfl, F', N', off', hS, hJ'⟩ := hq.go
      exact ⟨h', tk', news', rfl, F', N', off', hS, ih (i + 1) (ys ++ [y]) news' (by omega) (by simp [hy]) hJ'⟩
  exact key n 0 [] news (by omega) rfl j0
end
theorem ne_above {D : Addr} {news : List (Addr × Obj)} {c : Addr} {o : Obj} (h : ∀ p ∈ news, p.1 < D) (hm : (c, o) ∈ news) : @Ne Nat D c := Nat.ne_of_gt (h _ hm)
theorem ne_below {D : Addr} {news : List (Addr × Obj)} {c : Addr} {o : Obj} (h : ∀ p ∈ news, p.1 < D) (hm : (c, o) ∈ news) : @Ne Nat c D := Nat.ne_of_lt (h _ hm)
theorem off1_mem {D : Addr} {l : List (Addr × Obj)} (x : Off1 D l) : ∀ p ∈ l, @Ne Nat p.1 D := by
  induction l with
  | nil => intro p h; cases h
  | cons a l ih =>
    intro p h
    rcases List.mem_cons.mp h with rfl | h
    · exact x.1
    · exact ih x.2 p h
theorem ne_off1 {D : Addr} {news : List (Addr × Obj)} {c : Addr} {o : Obj} (h : Off1 D news) (hm : (c, o) ∈ news) : @Ne Nat c D := off1_mem h _ hm
theorem ne_off1' {D : Addr} {news : List (Addr × Obj)} {c : Addr} {o : Obj} (h : Off1 D news) (hm : (c, o) ∈ news) : @Ne Nat D c := Ne.symm (off1_mem h _ hm)
end Mine

end
section
open PySem PySem.W PyProof.Rows PySem.Calls PySem.Spec
namespace Mine
open LCg
section
variable {prog : Program} {w : World} {A : Around} {E : Value → Shared → Prop} {s : Shared} {h₀ : Heap} {L : Addr} {m : Str → Option Value} {env : Env}
abbrev dictO : Obj := { cls := .type "dict", data := .dict #[] }
abbrev cellO : Obj := { cls := .type "cell", data := .cell none }
theorem newEnv_K {M : Model} {scope : Scope} {globals : Addr} {cl : List (Str × Addr)} {qual : Str} {x : Str} {Q : Env → Shared → Prop}
    (hcf : ∀ n, cellsFrom n scope.names cl = (x, n) :: cl) (hpc : ∀ h, pushCells h scope.names = h.push cellO)
    (hQ : Q { scope, locals := s.heap.objs.size, globals, cells := (x, s.heap.objs.size + 1) :: cl, qual, func := none, code := env.code, frame := env.frame, builtins := env.builtins } { s with heap := (s.heap.push dictO).push cellO }) :
    wpAny M A (newFunctionEnv scope globals cl [] qual none .none (some env)) Q E s := by
  simp only [newFunctionEnv, Option.isSome_some, if_true]
  refine wpAny_bind (wpAny_alloc ?_)
  refine wpAny_bind (wpAny_layCells _ (fun name kind cells => by cases kind == NameKind.cell <;> simp) _ _ _ _ ?_)
  rw [hcf, hpc]
  rw [show ({ s with heap := s.heap.push dictO } : Shared).heap.objs.size = s.heap.objs.size + 1 from Heap.size_push ..]
  rw [List.forIn_nil]
  exact wpAny_bind (wpAny_pure (wpAny_pure hQ))
def CompEndK (h₀ : Heap) (L : Addr) (m : Str → Option Value) (s₁ : Shared) (I : Addr) (oI : Obj) (C : Addr) (oC : Obj) (K : Addr) (oK : Obj) (D : Addr) (oD : Obj) (S : List (Addr × Obj) → Prop) (rest : Value → List (Addr × Obj) → Prop) (y : Value) (s₂ : Shared) : Prop :=
  ∃ h' tk news', s₂ = { s₁ with heap := h', toks := tk } ∧ Fr h₀ L h' m ∧ News h₀ L h' ((I, oI) :: (C, oC) :: (K, oK) :: (D, oD) :: news') ∧ Off3 I C D news' ∧ Off1 K news' ∧ S news' ∧ rest y news'
def CompRestK (prog : Program) (w : World) (A : Around) (h₀ : Heap) (L : Addr) (m : Str → Option Value) (env : Env) (elt : PySem.Expr) (x : Str) (scope : Scope) (cl : List (Str × Addr)) (s : Shared) (S : List (Addr × Obj) → Prop) (P : Nat → Value → Prop)
    (Fin : List Value → List (Addr × Obj) → Prop) : Nat → Nat → List Value → List (Addr × Obj) → Prop
  | 0, _, ys, news => Fin ys news
  | k + 1, i, ys, news => ∀ v I oI C oC K oK D h tk (E' : Value → Shared → Prop), P i v → NsObj oC (fun _ => none) → oK.data = .cell (some v) → Fr h₀ L h m → News h₀ L h ((I, oI) :: (C, oC) :: (K, oK) :: (D, lst ys) :: news) → Off3 I C D news → Off1 K news →
      ((@Ne Nat I C) ∧ (@Ne Nat I D) ∧ (@Ne Nat I K) ∧ (@Ne Nat C D) ∧ (@Ne Nat C K) ∧ (@Ne Nat D K)) →
      wpAny (model prog w) A (eval elt (compEnvC scope ((x, K) :: cl) C env)) (CompEndK h₀ L m { s with heap := h, toks := tk } I oI C oC K oK D (lst ys) S (fun y news' => CompRestK prog w A h₀ L m env elt x scope cl s S P Fin k (i + 1) (ys ++ [y]) news')) E' { s with heap := h, toks := tk }
theorem off1_of {D : Addr} {l : List (Addr × Obj)} (h : ∀ p ∈ l, p.1 ≠ D) : Off1 D l := by
  induction l with
  | nil => exact trivial
  | cons a l ih => exact ⟨h _ List.mem_cons_self, ih fun p hp => h p (List.mem_cons_of_mem _ hp)⟩
theorem block_K {elt iter : PySem.Expr} {x : Str} {px : Pos} {scope : Scope} {cl : List (Str × Addr)} {pos : Pos} {s₂ : Shared} {I : Addr} {fp : List Addr} {n : Nat} {P : Nat → Value → Prop} {St : Nat → Heap → Prop} {S : List (Addr × Obj) → Prop} {news : List (Addr × Obj)}
    {Fin : List Value → List (Addr × Obj) → Prop} {RR : Value → Addr → Result → Shared → Prop}
    (W : Walks prog w A I fp [I] n P St) (hsz : n ≤ sizeLine) (hIo : ∀ i h, St i h → ∃ o, h.get? I = some o)
    (hSt : ∀ i h h' o nw, St i h → h.get? I = some o → h'.get? I = some o → (∀ b o, h₀.get? b = some o → h'.get? b = some o) → News h₀ L h' nw → S nw → St i h')
    (hcf : ∀ n, cellsFrom n scope.names cl = (x, n) :: cl) (hpc : ∀ h, pushCells h scope.names = h.push cellO) (hxk : ∀ K C, (compEnvC scope ((x, K) :: cl) C env).kindOf x = some .cell) (hxc : ∀ K : Addr, ((x, K) :: cl).lookup x = some K)
    (hkind : scope.kind = .function) (hst : St 0 s₂.heap) (hfp : ∀ b ∈ fp, b < s₂.heap.objs.size)
    (F : Fr h₀ L s₂.heap m) (N : News h₀ L s₂.heap news) (hIL : L ≠ I) (hI₀ : h₀.get? I = none) (off : ∀ p ∈ news, p.1 ≠ I) (hS : S news)
    (R : CompRestK prog w A h₀ L m env elt x scope cl s₂ S P Fin n 0 [] news)
    (hRR : ∀ D C h tk m' ys news', Fr h₀ L h m → News h₀ L h ((D, lst ys) :: news') → Off1 D news' → h.Ns C m' → h₀.get? C = none → h₀.get? D = none → C ≠ L → D ≠ L → C ≠ D → (∀ p ∈ news', p.1 ≠ C) → Fin ys news' → RR (.ref D) C (.ok .next) { s₂ with heap := h, toks := tk }) :
    wpAny (model prog w) A (newList []) (fun acc s₃ => wpAny (model prog w) A (newFunctionEnv scope env.globals cl [] env.qual none .none (some env)) (fun cenv s₄ =>
      codeAny (model prog w) A (.compStart (.ListComp elt [⟨.Name x px, iter, [], 0⟩] scope pos) 0 (.ref I) acc { cenv with scope := relabel scope env }) (RR acc cenv.locals) s₄) E s₃) E s₂ := by
  refine wpAny_newObj_type (newEnv_K hcf hpc ?_)
  dsimp only
  generalize hH2 : s₂.heap.push { cls := .type "list", dict := none, data := .seq ([] : List Value).toArray } = H2
  have hC : H2.objs.size = s₂.heap.objs.size + 1 := by rw [← hH2, Heap.size_push]
  generalize hH3 : H2.push dictO = H3
  have hK : H3.objs.size = H2.objs.size + 1 := by rw [← hH3, Heap.size_push]
  rw [← hK]
  generalize hH4 : H3.push cellO = h₁
  have hDC : s₂.heap.objs.size ≠ H2.objs.size := by rw [hC]; exact Nat.ne_of_lt (Nat.lt_succ_self _)
  have hDK : s₂.heap.objs.size ≠ H3.objs.size := by rw [hK, hC]; omega
  have hCK : H2.objs.size ≠ H3.objs.size := by rw [hK]; omega
  have below : ∀ b, b < s₂.heap.objs.size → b ≠ H2.objs.size ∧ b ≠ s₂.heap.objs.size ∧ b ≠ H3.objs.size := fun b hb => ⟨by rw [hC]; exact Nat.ne_of_lt (Nat.lt_succ_of_lt hb), Nat.ne_of_lt hb, by rw [hK, hC]; exact Nat.ne_of_lt (Nat.lt_succ_of_lt (Nat.lt_succ_of_lt hb))⟩
  have hDf : s₂.heap.objs.size ∉ fp := fun hm => Nat.lt_irrefl _ (hfp _ hm)
  have hCf : H2.objs.size ∉ fp := fun hm => (below _ (hfp _ hm)).1 rfl
  have hKf : H3.objs.size ∉ fp := fun hm => (below _ (hfp _ hm)).2.2 rfl
  have hIf : I ∈ fp := W.sub I (List.mem_singleton.mpr rfl)
  have hIlt : I < s₂.heap.objs.size := hfp I hIf
  have up2 : ∀ b o, H2.get? b = some o → h₁.get? b = some o := fun b o e => hH4 ▸ Heap.get?_push_of_some _ (hH3 ▸ Heap.get?_push_of_some _ e)
  have old : ∀ b o, s₂.heap.get? b = some o → h₁.get? b = some o := fun b o e => up2 b o (hH2 ▸ Heap.get?_push_of_some _ e)
  have hacc : h₁.get? s₂.heap.objs.size = some (lst []) := up2 _ _ (hH2 ▸ Heap.get?_push_size _ rfl)
  have hns₁ : h₁.Ns H2.objs.size (fun _ => none) := (hH3 ▸ Heap.Ns.new H2 (.type "dict") : H3.Ns H2.objs.size fun _ => none).at' fun o e => hH4 ▸ Heap.get?_push_of_some _ e
  have hcell₁ : h₁.get? H3.objs.size = some cellO := hH4 ▸ Heap.get?_push_size _ rfl
  have hst₁ : St 0 h₁ := W.frame _ _ _ hst fun b _ o e => old b o e
  have fresh : ∀ a, s₂.heap.objs.size ≤ a → s₂.heap.get? a = none := fun a ha => by
    cases e : s₂.heap.get? a with
    | none => rfl
    | some o' => exact absurd (Heap.lt_size e) (Nat.not_lt.mpr ha)
  have fresh₀ : ∀ a, s₂.heap.objs.size ≤ a → h₀.get? a = none := fun a ha => by
    cases e : h₀.get? a with
    | none => rfl
    | some o' => have := F.keep a o' e; rw [fresh a ha] at this; cases this
  have hD₀ : h₀.get? s₂.heap.objs.size = none := fresh₀ _ (Nat.le_refl _)
  have hC₀ : h₀.get? H2.objs.size = none := fresh₀ _ (by rw [hC]; exact Nat.le_succ _)
  have hK₀ : h₀.get? H3.objs.size = none := fresh₀ _ (by rw [hK, hC]; exact Nat.le_succ_of_le (Nat.le_succ _))
  have hLlt : L < s₂.heap.objs.size := F.ns.lt
  have hDL : s₂.heap.objs.size ≠ L := Ne.symm (below L hLlt).2.1
  have hCL : H2.objs.size ≠ L := Ne.symm (below L hLlt).1
  have hKL : H3.objs.size ≠ L := Ne.symm (below L hLlt).2.2
  have hCI : I ≠ H2.objs.size := (below I hIlt).1
  have hDI : I ≠ s₂.heap.objs.size := (below I hIlt).2.1
  have hKI : I ≠ H3.objs.size := (below I hIlt).2.2
  have off₀ : Off3 I H2.objs.size s₂.heap.objs.size news := Off3.of fun p hp => ⟨off p hp, (below _ (Heap.lt_size (N p hp).1)).1, (below _ (Heap.lt_size (N p hp).1)).2.1⟩
  have offK₀ : Off1 H3.objs.size news := off1_of fun p hp => (below _ (Heap.lt_size (N p hp).1)).2.2
  have loop : ∀ s₃ : Shared, (∃ tk₀, s₃ = { s₂ with heap := h₁, toks := tk₀ }) →
      codeAny (model prog w) A (.compLoop (.ListComp elt [⟨.Name x px, iter, [], 0⟩] scope pos) 0 (.ref I) (.ref s₂.heap.objs.size) (compEnvC scope ((x, H3.objs.size) :: cl) H2.objs.size env))
        (RR (.ref s₂.heap.objs.size) H2.objs.size) s₃ := by
    rintro s₃ ⟨tk₀, rfl⟩
    refine codeAny_compLoop_tests
      (fun k s' => ∃ h' tk i ys news', s' = { s₂ with heap := h', toks := tk } ∧ i ≤ n ∧ k = n + 1 - i ∧ ys.length = i ∧ St i h' ∧ Fr h₀ L h' m ∧ h'.Ns H2.objs.size (fun _ => none) ∧ (∃ v₀, h'.IsCell H3.objs.size v₀) ∧ News h₀ L h' ((s₂.heap.objs.size, lst ys) :: news') ∧
        Off3 I H2.objs.size s₂.heap.objs.size news' ∧ Off1 H3.objs.size news' ∧ S news' ∧ CompRestK prog w A h₀ L m env elt x scope cl s₂ S P Fin (n - i) i ys news') ?_ (n + 1)
      ⟨h₁, _, 0, [], news, rfl, Nat.zero_le _, rfl, rfl, hst₁, F.keeps old, hns₁, ⟨_, _, hcell₁, rfl⟩, fun p hp => ?_, off₀, offK₀, hS, R⟩
    · rintro k s' ⟨h', tk, i, ys, news', rfl, hi, rfl, hyl, hst', F', hn', ⟨v₀, hk'⟩, N', off', offK', hS', R'⟩
      by_cases hlt : i < n
      · obtain ⟨j, hj⟩ : ∃ j, n - i = j + 1 := ⟨n - i - 1, by omega⟩
        rw [hj] at R'
        refine W.item i _ _ _ hlt hst' fun v h₂ tk₂ hPv hst₂ hk₂ => ?_
        have hkc₂ : h₂.IsCell H3.objs.size v₀ := by obtain ⟨o, e, d⟩ := hk'; exact ⟨o, hk₂ _ o (by simpa using Ne.symm hKI) e, d⟩
        refine wpAny_assign_Name (wpAny_storeName_cell (by simp [compEnvC, relabel, hkind]) (hxk _ _) (hxc _) hkc₂ fun h₃ hc₃ hs₃ => ?_)
        refine wpAny_tests_nil ?_
        simp only [if_true]
        have hst₃ : St (i + 1) h₃ := W.frame _ _ _ hst₂ fun b hb o e => hs₃.extBut b o (fun q => hKf (by have q' : b = H3.objs.size := q; rw [← q']; exact hb)) e
        obtain ⟨oI, heI⟩ := hIo _ _ hst₃
        have hn₃ : h₃.Ns H2.objs.size (fun _ => none) := (hn'.at' fun o e => hk₂ _ o (by simpa using Ne.symm hCI) e).sameBut hs₃ hCK
        obtain ⟨oC, heC, hoC⟩ := ns_obj hn₃
        obtain ⟨oK, heK, hoK⟩ := hc₃
        have F₃ : Fr h₀ L h₃ m := (fr_but F' hk₂ hIL hI₀).change hs₃ hKL hK₀
        have off3 := off'.mem
        have offk := off1_mem offK'
        have N₂ : News h₀ L h₂ ((s₂.heap.objs.size, lst ys) :: news') := news_but N' hk₂ fun p hp => by
          rcases List.mem_cons.mp hp with rfl | hp
          · exact Ne.symm hDI
          · exact (off3 p hp).1
        have N₃ : News h₀ L h₃ ((I, oI) :: (H2.objs.size, oC) :: (H3.objs.size, oK) :: (s₂.heap.objs.size, lst ys) :: news') := fun p hp => by
          rcases List.mem_cons.mp hp with rfl | hp
          · exact ⟨heI, Ne.symm hIL, hI₀⟩
          · rcases List.mem_cons.mp hp with rfl | hp
            · exact ⟨heC, hCL, hC₀⟩
            · rcases List.mem_cons.mp hp with rfl | hp
              · exact ⟨heK, hKL, hK₀⟩
              · have z := N₂ p hp
                refine ⟨hs₃.extBut _ _ ?_ z.1, z.2⟩
                rcases List.mem_cons.mp hp with rfl | hp
                · exact hDK
                · exact offk p hp
        refine wpAny_mono (R' v I oI H2.objs.size oC H3.objs.size oK s₂.heap.objs.size h₃ _ _ hPv hoC hoK F₃ N₃ off' offK' ⟨hCI, hDI, hKI, Ne.symm hDC, hCK, hDK⟩) (fun y s₄ h₄ => ?_) fun _ _ e => e
        obtain ⟨h₄, tk₄, news₄, rfl, F₄, N₄, off₄, offK₄, hS₄, R₄⟩ := h₄
        have zI := (N₄ (I, oI) List.mem_cons_self).1
        have zC := (N₄ (H2.objs.size, oC) (List.mem_cons_of_mem _ List.mem_cons_self)).1
        have zK := (N₄ (H3.objs.size, oK) (List.mem_cons_of_mem _ (List.mem_cons_of_mem _ List.mem_cons_self))).1
        have zD := (N₄ (s₂.heap.objs.size, lst ys) (List.mem_cons_of_mem _ (List.mem_cons_of_mem _ (List.mem_cons_of_mem _ List.mem_cons_self)))).1
        have N₄' : News h₀ L h₄ news₄ := fun p hp => N₄ p (List.mem_cons_of_mem _ (List.mem_cons_of_mem _ (List.mem_cons_of_mem _ (List.mem_cons_of_mem _ hp))))
        have hst₄ : St (i + 1) h₄ := hSt _ _ _ _ _ hst₃ heI zI F₄.keep N₄' hS₄
        refine append_at (hsz := by show ys.toArray.size ≤ sizeLine; rw [List.size_toArray, hyl]; exact Nat.le_trans hi hsz) zD fun h₅ hs₅ hD₅ => ?_
        have off4 := off₄.mem
        refine ⟨n + 1 - (i + 1), by omega, h₅, tk₄, i + 1, ys ++ [y], news₄, rfl, hlt, rfl, by rw [List.length_append, List.length_singleton, hyl], W.frame _ _ _ hst₄ fun b hb o e => hs₅.extBut b o (fun q => hDf (q ▸ hb)) e, F₄.change hs₅ hDL hD₀,
          (hoC.ns zC).sameBut hs₅ (Ne.symm hDC), ⟨_, oK, hs₅.extBut _ _ (Ne.symm hDK) zK, hoK⟩, fun p hp => ?_, off₄, offK₄, hS₄, ?_⟩
        · rcases List.mem_cons.mp hp with rfl | hp
          · exact ⟨hD₅.trans (congrArg some (lst_snoc ys y)), hDL, hD₀⟩
          · exact ⟨hs₅.extBut _ _ (off4 p hp).2.2 (N₄' p hp).1, (N₄' p hp).2⟩
        · rw [show n - (i + 1) = j by omega]
          exact R₄
      · obtain rfl : i = n := Nat.le_antisymm hi (Nat.not_lt.mp hlt)
        rw [Nat.sub_self] at R'
        refine W.done _ _ _ hst' fun h₂ tk₂ hk₂ => ?_
        have off3 := off'.mem
        exact hRR _ _ h₂ tk₂ _ ys news' (fr_but F' hk₂ hIL hI₀) (news_but N' hk₂ fun p hp => by
          rcases List.mem_cons.mp hp with rfl | hp
          · exact Ne.symm hDI
          · exact (off3 p hp).1) off'.one (hn'.at' fun o e => hk₂ _ o (by simpa using Ne.symm hCI) e) hC₀ hD₀ hCL hDL (Ne.symm hDC) (fun p hp => (off3 p hp).2.1) R'
    · rcases List.mem_cons.mp hp with rfl | hp
      · exact ⟨hacc, hDL, hD₀⟩
      · exact ⟨old _ _ (N p hp).1, (N p hp).2⟩
  exact codeAny_compStart_list (loop _ ⟨_, rfl⟩) (W.self 0 _ _ _ hst₁ (loop _ ⟨_, rfl⟩))
def SrcK (prog : Program) (w : World) (A : Around) (h₀ : Heap) (L : Addr) (m : Str → Option Value) (env : Env) (elt : PySem.Expr) (x : Str) (scope : Scope) (cl : List (Str × Addr)) (Fin : Shared → List Value → List (Addr × Obj) → Prop) (xv : Value) (s₁ : Shared) : Prop :=
  (∃ ax its news, xv = .ref ax ∧ A.handled = none ∧ Fr h₀ L s₁.heap m ∧ News h₀ L s₁.heap news ∧ SrcAt h₀ ax its news ∧ its.size ≤ sizeLine ∧
    ∀ g, CompRestK prog w A h₀ L m env elt x scope cl { s₁ with heap := g } (SrcAt h₀ ax its) (fun i v => its[i]? = some v) (Fin { s₁ with heap := g }) its.size 0 [] news) ∨
  (∃ r a b t u v n news, xv = .ref r ∧ A.handled = none ∧ Fr h₀ L s₁.heap m ∧ News h₀ L s₁.heap news ∧ IsRange s₁.heap r a b 1 t u v ∧ Builtin.Range.small a b 1 = true ∧ Builtin.Range.rangeSize a b 1 = ((n : Nat) : Int) ∧ n ≤ sizeLine ∧
    ∀ g, CompRestK prog w A h₀ L m env elt x scope cl { s₁ with heap := g } (fun _ => True) (fun i v => ∃ t, v = .int (a + (i : Int)) t) (Fin { s₁ with heap := g }) n 0 [] news)
theorem SrcK.list {elt : PySem.Expr} {x : Str} {scope : Scope} {cl : List (Str × Addr)} {Fin : Shared → List Value → List (Addr × Obj) → Prop} {ax : Addr} {its : Array Value} {k : Nat} {news : List (Addr × Obj)} {s₁ : Shared}
    (hh : A.handled = none) (F : Fr h₀ L s₁.heap m) (N : News h₀ L s₁.heap news) (hm : (ax, ({ cls := .type "list", data := .seq its k } : Obj)) ∈ news) (hsz : its.size ≤ sizeLine) (n : Nat) (hn : its.size = n)
    (h : ∀ g, CompRestK prog w A h₀ L m env elt x scope cl { s₁ with heap := g } (SrcAt h₀ ax its) (fun i v => its[i]? = some v) (Fin { s₁ with heap := g }) n 0 [] news) :
    SrcK prog w A h₀ L m env elt x scope cl Fin (.ref ax) s₁ := .inl ⟨ax, its, news, rfl, hh, F, N, .inr ⟨_, hm, rfl, _, rfl⟩, hsz, by subst hn; exact h⟩
theorem SrcK.range {elt : PySem.Expr} {x : Str} {scope : Scope} {cl : List (Str × Addr)} {Fin : Shared → List Value → List (Addr × Obj) → Prop} {r : Addr} {a b : Int} {t u v : Tok} {n : Nat} {news : List (Addr × Obj)} {s₁ : Shared}
    (hh : A.handled = none) (F : Fr h₀ L s₁.heap m) (N : News h₀ L s₁.heap news) (hr : IsRange s₁.heap r a b 1 t u v) (hsm : Builtin.Range.small a b 1 = true) (hn : Builtin.Range.rangeSize a b 1 = ((n : Nat) : Int)) (hsz : n ≤ sizeLine)
    (h : ∀ g, CompRestK prog w A h₀ L m env elt x scope cl { s₁ with heap := g } (fun _ => True) (fun i v => ∃ t, v = .int (a + (i : Int)) t) (Fin { s₁ with heap := g }) n 0 [] news) :
    SrcK prog w A h₀ L m env elt x scope cl Fin (.ref r) s₁ := .inr ⟨r, a, b, t, u, v, n, news, rfl, hh, F, N, hr, hsm, hn, hsz, h⟩
theorem CompRestK.succ {elt : PySem.Expr} {x : Str} {scope : Scope} {cl : List (Str × Addr)} {S : List (Addr × Obj) → Prop} {P : Nat → Value → Prop} {Fin : List Value → List (Addr × Obj) → Prop} {k i : Nat} {ys : List Value} {news : List (Addr × Obj)}
    (h : ∀ v I oI C oC K oK D h tk (E' : Value → Shared → Prop), P i v → NsObj oC (fun _ => none) → oK.data = .cell (some v) → Fr h₀ L h m → News h₀ L h ((I, oI) :: (C, oC) :: (K, oK) :: (D, lst ys) :: news) → Off3 I C D news → Off1 K news →
      ((@Ne Nat I C) ∧ (@Ne Nat I D) ∧ (@Ne Nat I K) ∧ (@Ne Nat C D) ∧ (@Ne Nat C K) ∧ (@Ne Nat D K)) →
      wpAny (model prog w) A (eval elt (compEnvC scope ((x, K) :: cl) C env)) (CompEndK h₀ L m { s with heap := h, toks := tk } I oI C oC K oK D (lst ys) S (fun y news' => CompRestK prog w A h₀ L m env elt x scope cl s S P Fin k (i + 1) (ys ++ [y]) news')) E' { s with heap := h, toks := tk }) :
    CompRestK prog w A h₀ L m env elt x scope cl s S P Fin (k + 1) i ys news := h
theorem CompRestK.zero {elt : PySem.Expr} {x : Str} {scope : Scope} {cl : List (Str × Addr)} {S : List (Addr × Obj) → Prop} {P : Nat → Value → Prop} {Fin : List Value → List (Addr × Obj) → Prop} {i : Nat} {ys : List Value} {news : List (Addr × Obj)} (h : Fin ys news) :
    CompRestK prog w A h₀ L m env elt x scope cl s S P Fin 0 i ys news := h
/-- a turn's end: the value is an object of the ledger, that alone is kept -/
theorem CompEnd.keep1 {I C D D2 : Addr} {s₁ : Shared} {oI oC oD o2 : Obj} {S : List (Addr × Obj) → Prop} {rest : Value → List (Addr × Obj) → Prop} {h' : Heap} {tk : Nat} {all news : List (Addr × Obj)}
    (F : Fr h₀ L h' m) (N : News h₀ L h' all) (off : Off3 I C D news) (sub : ∀ p ∈ (I, oI) :: (C, oC) :: (D, oD) :: news, p ∈ all) (h2 : (D2, o2) ∈ all) (n1 : @Ne Nat D2 I) (n2 : @Ne Nat D2 C) (n3 : @Ne Nat D2 D) (hS : S ((D2, o2) :: news)) (r : rest (.ref D2) ((D2, o2) :: news)) :
    CompEnd h₀ L m s₁ I oI C oC D oD S rest (.ref D2) { s₁ with heap := h', toks := tk } := by
  refine ⟨h', tk, (D2, o2) :: news, rfl, F, fun p hp => N p ?_, ⟨⟨n1, n2, n3⟩, off⟩, hS, r⟩
  rcases List.mem_cons.mp hp with rfl | hp
  · exact sub _ List.mem_cons_self
  · rcases List.mem_cons.mp hp with rfl | hp
    · exact sub _ (List.mem_cons_of_mem _ List.mem_cons_self)
    · rcases List.mem_cons.mp hp with rfl | hp
      · exact sub _ (List.mem_cons_of_mem _ (List.mem_cons_of_mem _ List.mem_cons_self))
      · rcases List.mem_cons.mp hp with rfl | hp
        · exact h2
        · exact sub _ (List.mem_cons_of_mem _ (List.mem_cons_of_mem _ (List.mem_cons_of_mem _ hp)))
theorem CompEnd.keep0 {I C D : Addr} {s₁ : Shared} {oI oC oD : Obj} {y : Value} {S : List (Addr × Obj) → Prop} {rest : Value → List (Addr × Obj) → Prop} {h' : Heap} {tk : Nat} {all news : List (Addr × Obj)}
    (F : Fr h₀ L h' m) (N : News h₀ L h' all) (off : Off3 I C D news) (sub : ∀ p ∈ (I, oI) :: (C, oC) :: (D, oD) :: news, p ∈ all) (hS : S news) (r : rest y news) :
    CompEnd h₀ L m s₁ I oI C oC D oD S rest y { s₁ with heap := h', toks := tk } := ⟨h', tk, _, rfl, F, fun p hp => N p (sub p hp), off, hS, r⟩
theorem CompEndK.keep1 {I C D K D2 : Addr} {s₁ : Shared} {oI oC oD oK o2 : Obj} {S : List (Addr × Obj) → Prop} {rest : Value → List (Addr × Obj) → Prop} {h' : Heap} {tk : Nat} {all news : List (Addr × Obj)}
    (F : Fr h₀ L h' m) (N : News h₀ L h' all) (off : Off3 I C D news) (offK : Off1 K news) (sub : ∀ p ∈ (I, oI) :: (C, oC) :: (K, oK) :: (D, oD) :: news, p ∈ all) (h2 : (D2, o2) ∈ all) (n1 : @Ne Nat D2 I) (n2 : @Ne Nat D2 C) (n3 : @Ne Nat D2 D) (n4 : @Ne Nat D2 K) (hS : S ((D2, o2) :: news)) (r : rest (.ref D2) ((D2, o2) :: news)) :
    CompEndK h₀ L m s₁ I oI C oC K oK D oD S rest (.ref D2) { s₁ with heap := h', toks := tk } := by
  refine ⟨h', tk, (D2, o2) :: news, rfl, F, fun p hp => N p ?_, ⟨⟨n1, n2, n3⟩, off⟩, ⟨n4, offK⟩, hS, r⟩
  rcases List.mem_cons.mp hp with rfl | hp
  · exact sub _ List.mem_cons_self
  · rcases List.mem_cons.mp hp with rfl | hp
    · exact sub _ (List.mem_cons_of_mem _ List.mem_cons_self)
    · rcases List.mem_cons.mp hp with rfl | hp
      · exact sub _ (List.mem_cons_of_mem _ (List.mem_cons_of_mem _ List.mem_cons_self))
      · rcases List.mem_cons.mp hp with rfl | hp
        · exact sub _ (List.mem_cons_of_mem _ (List.mem_cons_of_mem _ (List.mem_cons_of_mem _ List.mem_cons_self)))
        · rcases List.mem_cons.mp hp with rfl | hp
          · exact h2
          · exact sub _ (List.mem_cons_of_mem _ (List.mem_cons_of_mem _ (List.mem_cons_of_mem _ (List.mem_cons_of_mem _ hp))))
theorem sub_self {l : List (Addr × Obj)} : ∀ p ∈ l, p ∈ l := fun _ h => h
theorem sub_tail {a : Addr × Obj} {l all : List (Addr × Obj)} (h : ∀ p ∈ l, p ∈ all) : ∀ p ∈ l, p ∈ a :: all := fun p hp => List.mem_cons_of_mem _ (h p hp)
theorem my_item {value slice : PySem.Expr} {l : Addr} {items : List Value} {c : Nat} {k : Int} {u : Tok} {x : Value} {news : List (Addr × Obj)} {Q : Value → Shared → Prop} (N : News h₀ L s.heap news) (hm : (l, ({ cls := .type "list", data := .seq items.toArray c } : Obj)) ∈ news)
    (hk : (decide (0 ≤ k) && decide (k < 64)) = true) (hx : items[k.toNat]? = some x) (h : Q x s)
    (hs : subscripted slice false (.ref l) (.int k u) = operate [.ref l, .int k u] (getItem (.ref l) (.int k u)) := by with_unfolding_all rfl) :
    wpAny (model prog w) A (subscriptTail value slice (.ref l) (.int k u)) Q E s := by
  simp only [Bool.and_eq_true, decide_eq_true_eq] at hk
  exact item_listR (News.isList N hm) hk.1 (by have := hk.2; omega) (by simpa using hx) h hs
/-- a for over a range, turn by turn, its name a local or a cell -/
def ForEnd (h₀ : Heap) (L : Addr) (s₁ : Shared) (I : Addr) (it : Obj) (rest : (Str → Option Value) → List (Addr × Obj) → Prop) (s₂ : Shared) : Prop :=
  ∃ h' tk m' news', s₂ = { s₁ with heap := h', toks := tk } ∧ Fr h₀ L h' m' ∧ News h₀ L h' ((I, it) :: news') ∧ (∀ p ∈ news', p.1 ≠ I) ∧ rest m' news'
def ForPost (h₀ : Heap) (L : Addr) (s₁ : Shared) (I : Addr) (it : Obj) (rest : (Str → Option Value) → List (Addr × Obj) → Prop) (Q : Flow → Shared → Prop) (f : Flow) (s₂ : Shared) : Prop :=
  match f with
  | .ret v => Q (.ret v) s₂
  | .brk => Q .next s₂
  | _ => ForEnd h₀ L s₁ I it rest s₂
def ItOK (it : Obj) : Prop := ∀ vs q t, it.data = .fields vs → vs[1]? = some (.str q t) → False
def ForRest (prog : Program) (w : World) (A : Around) (E : Value → Shared → Prop) (h₀ : Heap) (env : Env) (target : PySem.Expr) (body : List Stmt) (Q : Flow → Shared → Prop) (s : Shared) (I : Addr) (a : Int) : Nat → Nat → (Str → Option Value) → List (Addr × Obj) → Prop
  | 0, _, m, news => ∀ h tk, Fr h₀ env.locals h m → News h₀ env.locals h news → Q .next { s with heap := h, toks := tk }
  | k + 1, i, m, news => ∀ t h tk it, ItOK it → Fr h₀ env.locals h m → News h₀ env.locals h ((I, it) :: news) → (∀ p ∈ news, p.1 ≠ I) →
      wpAny (model prog w) A (assign target env (.int (a + (i : Int)) t)) (fun _ s₂ => wpAny (model prog w) A (execs body env) (ForPost h₀ env.locals { s with heap := h, toks := tk } I it (ForRest prog w A E h₀ env target body Q s I a k (i + 1)) Q) E s₂) E { s with heap := h, toks := tk }
theorem ForRest.succ {target : PySem.Expr} {body : List Stmt} {Q : Flow → Shared → Prop} {I : Addr} {a : Int} {k i : Nat} {m : Str → Option Value} {news : List (Addr × Obj)} (j : Int) (hj : a + (i : Int) = j)
    (h : ∀ t h tk it, ItOK it → Fr h₀ env.locals h m → News h₀ env.locals h ((I, it) :: news) → (∀ p ∈ news, p.1 ≠ I) →
      wpAny (model prog w) A (assign target env (.int j t)) (fun _ s₂ => wpAny (model prog w) A (execs body env) (ForPost h₀ env.locals { s with heap := h, toks := tk } I it (ForRest prog w A E h₀ env target body Q s I a k (i + 1)) Q) E s₂) E { s with heap := h, toks := tk }) :
    ForRest prog w A E h₀ env target body Q s I a (k + 1) i m news := by
  subst hj; exact h
theorem ForRest.zero {target : PySem.Expr} {body : List Stmt} {Q : Flow → Shared → Prop} {I : Addr} {a : Int} {i : Nat} {m : Str → Option Value} {news : List (Addr × Obj)}
    (h : ∀ h tk, Fr h₀ env.locals h m → News h₀ env.locals h news → Q .next { s with heap := h, toks := tk }) : ForRest prog w A E h₀ env target body Q s I a 0 i m news := h
theorem forRange {target iter : PySem.Expr} {body : List Stmt} {pos : Pos} {m : Str → Option Value} {Q : Flow → Shared → Prop} (n : Nat) (a b : Int) (hh : A.handled = none) (hgo : ∀ it v (s : Shared) (Q : Unit → Shared → Prop) (E : Value → Shared → Prop), Q () s → wpAny (model prog w) A (letOwnedTupleGo target it v) Q E s)
    (h : wpAny (model prog w) A (eval iter env) (fun xv s₁ => Stop (∃ r t u v m news, xv = .ref r ∧ IsRange s₁.heap r a b 1 t u v ∧ Builtin.Range.small a b 1 = true ∧ Builtin.Range.rangeSize a b 1 = (n : Int) ∧ Fr h₀ env.locals s₁.heap m ∧ News h₀ env.locals s₁.heap news ∧
      ∀ g I, (∀ p ∈ news, p.1 < I) → ForRest prog w A E h₀ env target body Q { s₁ with heap := g } I a n 0 m news)) E s)
    (hs : ∀ x, foldedSetIterable iter env x = pure x := by intro _; rfl)
    (hE : PassesOwn (model prog w) A env E := by passes_own) (F₀ : Fr h₀ env.locals s.heap m) :
    wpAny (model prog w) A (exec (.For target iter body [] pos) env) Q E s := by
  refine For_turns (h₀ := h₀) F₀ (wpAny_mono h (fun xv s₁ h₁ => ?_) fun _ _ e => e) hs hE
  obtain ⟨r, t, u, v, m, news, rfl, hr, hsm, hn, F, N, rest⟩ := h₁.go
  refine wpAny_pyIter_range hr hsm ?_
  have W := KTurns.ofWalks (target := target) (LCg.range_walks (prog := prog) (w := w) (I := s₁.heap.objs.size) hh a n) (fun i v s Q E _ hQ => hgo _ _ s Q E hQ)
  have hnew := next_is_new F
  have hLI : env.locals ≠ s₁.heap.objs.size := Nat.ne_of_lt F.ns.lt
  refine ⟨_, _, _, n, _, _, _, m, news, fun i m₁ news₁ => ForRest prog w A E h₀ env target body Q { s₁ with heap := s₁.heap.push { cls := .type "range_iterator", data := .fields #[rawInt a, rawInt (Builtin.Range.rangeSize a b 1), rawInt 1] } } s₁.heap.objs.size a (n - i) i m₁ news₁, rfl, W, ?_, ?_, ?_, (by show IsRangeIter _ _ _ _ _; rw [hn]; simpa using Heap.get?_push_size _ rfl), F.push _, (fun p hp => ⟨Heap.get?_push_of_some _ (N p hp).1, (N p hp).2⟩), rest _ _ (fun p hp => Heap.lt_size (N p hp).1), ?_, ?_⟩
  · intro hm
    exact hLI (List.mem_singleton.mp hm)
  · intro b hb
    rw [List.mem_singleton.mp hb]
    exact hnew
  · intro p hp hI
    exact absurd (Heap.lt_size (N p hp).1) ((List.mem_singleton.mp hI) ▸ Nat.lt_irrefl _)
  · rintro i v m₁ news₁ h₁ tk₁ own hin ⟨t', rfl⟩ hJ hoff hown hget hall hst F₁ N₁
    obtain ⟨j, hj⟩ : ∃ j, n - i = j + 1 := ⟨n - i - 1, by omega⟩
    have hj' : n - (i + 1) = j := by omega
    replace hJ : ForRest prog w A E h₀ env target body Q _ s₁.heap.objs.size a (n - i) i m₁ news₁ := hJ
    rw [hj] at hJ
    obtain ⟨it, hst', hok⟩ : ∃ it, h₁.get? s₁.heap.objs.size = some it ∧ ItOK it := ⟨_, hst, fun vs q t e e1 => by cases e; simp [rawInt] at e1⟩
    have N₂ := fun (p : Addr × Obj) (hp : p ∈ (s₁.heap.objs.size, it) :: news₁) => (show h₁.get? p.1 = some p.2 ∧ p.1 ≠ env.locals ∧ h₀.get? p.1 = none from by
      rcases List.mem_cons.mp hp with rfl | hp
      · exact ⟨hst', Ne.symm hLI, hnew⟩
      · exact N₁ p (List.mem_append_right _ hp))
    have ownAt : ∀ p ∈ own, (s₁.heap.objs.size, it) = p := fun p hp => by
      have e1 := List.mem_singleton.mp (hown p hp)
      have e2 := hget p hp
      rw [e1, hst'] at e2
      obtain ⟨p1, p2⟩ := p
      cases e1; cases e2; rfl
    refine wpAny_mono (hJ t' h₁ tk₁ it hok F₁ N₂ fun p hp hI => hoff p hp (by rw [hI]; exact List.mem_singleton.mpr rfl)) (fun _ s₂ h₂ => wpAny_mono h₂ (fun f s₃ h₃ => ?_) fun _ _ e => e) fun _ _ e => e
    cases f with
    | ret v => exact h₃
    | brk => exact h₃
    | cont =>
      obtain ⟨h₃', tk₃, m₂, news₂, rfl, F₃, N₃, ha₃, hJ₃⟩ := h₃
      refine ⟨rfl, h₃', tk₃, m₂, news₂, rfl, F₃, fun p hp => ?_, fun p hp hI => ha₃ p hp (List.mem_singleton.mp hI), by show ForRest prog w A E h₀ env target body Q _ s₁.heap.objs.size a (n - (i + 1)) (i + 1) m₂ news₂; rw [hj']; exact hJ₃⟩
      rcases List.mem_append.mp hp with hp | hp
      · exact ⟨(ownAt p hp) ▸ (N₃ _ List.mem_cons_self).1, (List.mem_singleton.mp (hown p hp)) ▸ Ne.symm hLI, (List.mem_singleton.mp (hown p hp)) ▸ hnew⟩
      · exact N₃ p (List.mem_cons_of_mem _ hp)
    | next =>
      obtain ⟨h₃', tk₃, m₂, news₂, rfl, F₃, N₃, ha₃, hJ₃⟩ := h₃
      refine ⟨rfl, h₃', tk₃, m₂, news₂, rfl, F₃, fun p hp => ?_, fun p hp hI => ha₃ p hp (List.mem_singleton.mp hI), by show ForRest prog w A E h₀ env target body Q _ s₁.heap.objs.size a (n - (i + 1)) (i + 1) m₂ news₂; rw [hj']; exact hJ₃⟩
      rcases List.mem_append.mp hp with hp | hp
      · exact ⟨(ownAt p hp) ▸ (N₃ _ List.mem_cons_self).1, (List.mem_singleton.mp (hown p hp)) ▸ Ne.symm hLI, (List.mem_singleton.mp (hown p hp)) ▸ hnew⟩
      · exact N₃ p (List.mem_cons_of_mem _ hp)
  · intro h' tk m' news' F' N' hoff hJ
    replace hJ : ForRest prog w A E h₀ env target body Q _ s₁.heap.objs.size a (n - n) n m' news' := hJ
    rw [Nat.sub_self] at hJ
    exact hJ h' tk F' N'
theorem Assign_ListComp_K {elt iter : PySem.Expr} {x y : Str} {px py : Pos} {scope : Scope} {cl : List (Str × Addr)} {pos spos : Pos} {Q : Flow → Shared → Prop} (F₀ : Fr h₀ L s.heap m) (hLe : env.locals = L)
    (hsw : swapsWith (.ListComp elt [⟨.Name x px, iter, [], 0⟩] scope pos) (some (.Name y py)) spos.line env = pure true)
    (hclos : closureFor scope env = pure cl) (hcf : ∀ n, cellsFrom n scope.names cl = (x, n) :: cl) (hpc : ∀ h, pushCells h scope.names = h.push cellO) (hxk : ∀ K C, (compEnvC scope ((x, K) :: cl) C env).kindOf x = some .cell) (hxc : ∀ K : Addr, ((x, K) :: cl).lookup x = some K) (hkind : scope.kind = .function)
    (hnames : ∀ z ∈ scope.names, z.2 = .local → scope.names.lookup z.1 = some .local)
    (hy : env.kindOf y = some .local) (hp : (env.scope.kind == .class || (env.scope.kind == .module && env.locals != env.globals)) = false)
    (h : wpAny (model prog w) A (eval iter env) (SrcK prog w A h₀ L m env elt x scope cl (fun s₂ => FinA h₀ L m s₂ y Q)) E s)
    (hs : ∀ x, foldedSetIterable iter env x = pure x := by intro _; rfl) :
    wpAny (model prog w) A (exec (.Assign [.Name y py] (.ListComp elt [⟨.Name x px, iter, [], 0⟩] scope pos) spos) env) Q E s := by
  subst hLe
  rw [exec_Assign_Name_used _ _ _ _ hsw]
  refine wpAny_bind (wpAny_standAt (wpAny_bind ?_))
  show wpAny _ A (do let _ ← comprehension (.ListComp elt [⟨.Name x px, iter, [], 0⟩] scope pos) scope env _ (newList []) false (eval iter env) (some (assign (.Name y py) env))) _ _ s
  refine wpAny_bind (wpAny_mono (wpAny_comprehension_free (use := some (assign (.Name y py) env)) (Q := fun _ s' => Q .next s') rfl hs hclos hkind hnames
    (wpAny_mono h (fun xv s₁ h₁ => ?_) fun _ _ e => e)) (fun _ s' hq => wpAny_pure (wpAny_pure hq)) fun _ _ e => e)
  rcases h₁ with ⟨ax, its, news, rfl, hh, F, N, S, hsz, R⟩ | ⟨r, a, b, t, u, v, n, news, rfl, hh, F, N, hr, hsm, hn, hsz, R⟩
  · have hl := S.list F.keep N
    have hlt : ax < s₁.heap.objs.size := by obtain ⟨_, e, _⟩ := hl; exact Heap.lt_size e
    refine wpAny_pyIter_list hl ?_
    have up : ∀ b o, s₁.heap.get? b = some o → (s₁.heap.push { cls := .type "list_iterator", data := .fields #[.ref ax, .int 0 0] }).get? b = some o := fun b o e => Heap.get?_push_of_some _ e
    refine block_K (Walks.list hh s₁.heap.objs.size ax (Nat.ne_of_lt hlt) its) hsz (fun i h st => by obtain ⟨o, e, _⟩ := st.1; exact ⟨o, e⟩) list_st hcf hpc hxk hxc hkind ⟨⟨_, Heap.get?_push_size _ rfl, rfl, rfl⟩, hl.push _⟩ (fun b hb => ?_)
      (F.keeps up) (N.grown up) (Nat.ne_of_lt F.ns.lt) (next_is_new F) (fun p hp => Nat.ne_of_lt (Heap.lt_size (N p hp).1)) S (R _) ?_
    · show b < (s₁.heap.push _).objs.size
      rw [Heap.size_push]
      rcases List.mem_cons.mp hb with rfl | hb
      · exact Nat.lt_succ_self _
      · rw [List.mem_singleton.mp hb]; exact Nat.lt_succ_of_lt hlt
    · intro D C h' tk m' ys news' F' N' o1 hn hC₀ hD₀ hCL hDL hCD offC fin
      show wpAny _ A (assign (.Name y py) env (.ref D)) _ _ _
      refine wpAny_assign_Name (wpAny_storeName_local hy F'.ns (fun h₂ hn₂ hs₂ => ?_) hp)
      have hL₀ : h₀.get? env.locals = none := Heap.get?_none_of_le F'.above
      have F₂ : Fr h₀ env.locals h₂ (fun z => if z = y then some (.ref D) else m z) := ⟨hn₂, fun b o e => hs₂.extBut b o (fun q => by rw [q, hL₀] at e; cases e) (F'.keep b o e), F'.above⟩
      refine ⟨m', hn.sameBut hs₂ hCL, fun h'' hs'' => fin D h'' _ (F₂.change hs'' hCL hC₀) (fun p hp => ?_) o1⟩
      have z : h₂.get? p.1 = some p.2 := hs₂.extBut _ _ (N' p hp).2.1 (N' p hp).1
      refine ⟨hs''.extBut _ _ ?_ z, (N' p hp).2⟩
      rcases List.mem_cons.mp hp with rfl | hp
      · exact Ne.symm hCD
      · exact offC p hp
  · refine wpAny_pyIter_range hr hsm ?_
    refine block_K (range_walks hh a n) hsz (fun i h st => ⟨_, st⟩) range_st hcf hpc hxk hxc hkind (by show IsRangeIter _ _ _ _ _; rw [hn]; simpa using Heap.get?_push_size _ rfl) (fun b hb => ?_)
      (F.keeps fun _ _ e => Heap.get?_push_of_some _ e) (N.grown fun _ _ e => Heap.get?_push_of_some _ e) (Nat.ne_of_lt F.ns.lt) (next_is_new F) (fun p hp => Nat.ne_of_lt (Heap.lt_size (N p hp).1)) trivial (R _) ?_
    · rw [List.mem_singleton.mp hb]
      show s₁.heap.objs.size < (s₁.heap.push _).objs.size
      rw [Heap.size_push]; exact Nat.lt_succ_self _
    · intro D C h' tk m' ys news' F' N' o1 hn hC₀ hD₀ hCL hDL hCD offC fin
      show wpAny _ A (assign (.Name y py) env (.ref D)) _ _ _
      refine wpAny_assign_Name (wpAny_storeName_local hy F'.ns (fun h₂ hn₂ hs₂ => ?_) hp)
      have hL₀ : h₀.get? env.locals = none := Heap.get?_none_of_le F'.above
      have F₂ : Fr h₀ env.locals h₂ (fun z => if z = y then some (.ref D) else m z) := ⟨hn₂, fun b o e => hs₂.extBut b o (fun q => by rw [q, hL₀] at e; cases e) (F'.keep b o e), F'.above⟩
      refine ⟨m', hn.sameBut hs₂ hCL, fun h'' hs'' => fin D h'' _ (F₂.change hs'' hCL hC₀) (fun p hp => ?_) o1⟩
      have z : h₂.get? p.1 = some p.2 := hs₂.extBut _ _ (N' p hp).2.1 (N' p hp).1
      refine ⟨hs''.extBut _ _ ?_ z, (N' p hp).2⟩
      rcases List.mem_cons.mp hp with rfl | hp
      · exact Ne.symm hCD
      · exact offC p hp
end
end Mine

end
section
open PySem PySem.W PyProof.Rows PySem.Calls PySem.Spec
namespace Mine
open LCg
section
variable {prog : Program} {w : World} {A : Around} {E : Value → Shared → Prop} {s : Shared} {h₀ : Heap} {L : Addr} {m : Str → Option Value} {env : Env}
/-- an object that is a code record or a table, by its data -/
theorem tabs_off {tb : List (Addr × Obj)} (T : Tabs tb) {p : Addr × Obj} (hp : p ∈ tb) : (p.1 = 30 ∨ p.1 = 37) ∨ ∃ vs q t, p.2.data = .fields vs ∧ vs[1]? = some (.str q t) := by
  obtain ⟨t1, t2, rfl, h1, h2⟩ := T
  have key : ∀ {P : Addr} {line col : Nat} {q : Str} {tb : List (Addr × Obj)}, Tab1 P line col q tb → ∀ p ∈ tb, p.1 = P ∨ ∃ vs q t, p.2.data = .fields vs ∧ vs[1]? = some (.str q t) := by
    intro P line col q tb h p hp
    rcases h with rfl | ⟨c', oc, vs, t, rfl, hd, hv, _⟩
    · rw [List.mem_singleton.mp hp]; exact .inl rfl
    · rcases List.mem_cons.mp hp with rfl | hp
      · exact .inl rfl
      · rw [List.mem_singleton.mp hp]; exact .inr ⟨vs, q, t, hd, hv⟩
  rcases List.mem_append.mp hp with hp | hp
  · rcases key h2 p hp with h | h
    · exact .inl (.inr h)
    · exact .inr h
  · rcases key h1 p hp with h | h
    · exact .inl (.inl h)
    · exact .inr h
def CompEndT (h₀ : Heap) (L : Addr) (m : Str → Option Value) (s₁ : Shared) (I : Addr) (oI : Obj) (C : Addr) (oC : Obj) (D : Addr) (oD : Obj) (S : List (Addr × Obj) → Prop) (rest : Value → List (Addr × Obj) → Prop) (y : Value) (s₂ : Shared) : Prop :=
  ∃ h' tk news' tb', s₂ = { s₁ with heap := h', toks := tk } ∧ Tabs tb' ∧ Fr h₀ L h' m ∧ News h₀ L h' ((I, oI) :: (C, oC) :: (D, oD) :: (news' ++ tb')) ∧ Off3 I C D news' ∧ S news' ∧ rest y news'
def CompRestT (prog : Program) (w : World) (A : Around) (h₀ : Heap) (L : Addr) (m : Str → Option Value) (env : Env) (elt : PySem.Expr) (x : Str) (scope : Scope) (cl : List (Str × Addr)) (s : Shared) (S : List (Addr × Obj) → Prop) (P : Nat → Value → Prop)
    (Fin : List Value → List (Addr × Obj) → Prop) : Nat → Nat → List Value → List (Addr × Obj) → Prop
  | 0, _, ys, news => Fin ys news
  | k + 1, i, ys, news => ∀ v I oI C oC D m₂ h tk tb (E' : Value → Shared → Prop), P i v → NsObj oC m₂ → m₂ x = some v → Tabs tb → Fr h₀ L h m → News h₀ L h ((I, oI) :: (C, oC) :: (D, lst ys) :: (news ++ tb)) → Off3 I C D news → ((@Ne Nat I C) ∧ (@Ne Nat I D) ∧ (@Ne Nat C D)) → ((@LT.lt Nat _ 50 I) ∧ (@LT.lt Nat _ 50 C) ∧ (@LT.lt Nat _ 50 D)) →
      wpAny (model prog w) A (eval elt (compEnvC scope cl C env)) (CompEndT h₀ L m { s with heap := h, toks := tk } I oI C oC D (lst ys) S (fun y news' => CompRestT prog w A h₀ L m env elt x scope cl s S P Fin k (i + 1) (ys ++ [y]) news')) E' { s with heap := h, toks := tk }
theorem block_T {elt iter : PySem.Expr} {x : Str} {px : Pos} {scope : Scope} {cl : List (Str × Addr)} {pos : Pos} {s₂ : Shared} {I : Addr} {fp : List Addr} {n : Nat} {P : Nat → Value → Prop} {St : Nat → Heap → Prop} {S : List (Addr × Obj) → Prop} {news tb₀ : List (Addr × Obj)}
    {Fin : List Value → List (Addr × Obj) → Prop} {RR : Value → Addr → Result → Shared → Prop}
    (W : Walks prog w A I fp [I] n P St) (hsz : n ≤ sizeLine) (hIo : ∀ i h, St i h → ∃ o, h.get? I = some o)
    (hSt : ∀ i h h' o nw, St i h → h.get? I = some o → h'.get? I = some o → (∀ b o, h₀.get? b = some o → h'.get? b = some o) → News h₀ L h' nw → S nw → St i h')
    (hcell : ∀ y ∈ scope.names, y.2 ≠ .cell) (hkind : scope.kind = .function) (hx : scope.names.lookup x = some .local) (hst : St 0 s₂.heap) (hfp : ∀ b ∈ fp, b < s₂.heap.objs.size)
    (F : Fr h₀ L s₂.heap m) (N : News h₀ L s₂.heap (news ++ tb₀)) (hT₀ : Tabs tb₀) (hL50 : @LT.lt Nat _ 50 L) (hLI : @LT.lt Nat _ L I) (hIt : ∀ i h vs q t o, St i h → h.get? I = some o → o.data = .fields vs → vs[1]? = some (.str q t) → False) (hIL : L ≠ I) (hI₀ : h₀.get? I = none) (off : ∀ p ∈ news, p.1 ≠ I) (hS : S news)
    (R : CompRestT prog w A h₀ L m env elt x scope cl s₂ S P Fin n 0 [] news)
    (hRR : ∀ D C h tk m' ys news' tb', Tabs tb' → Fr h₀ L h m → News h₀ L h ((D, lst ys) :: (news' ++ tb')) → Off1 D news' → h.Ns C m' → h₀.get? C = none → h₀.get? D = none → C ≠ L → D ≠ L → C ≠ D → (∀ p ∈ news' ++ tb', p.1 ≠ C) → Fin ys news' → RR (.ref D) C (.ok .next) { s₂ with heap := h, toks := tk }) :
    wpAny (model prog w) A (newList []) (fun acc s₃ => wpAny (model prog w) A (newFunctionEnv scope env.globals cl [] env.qual none .none (some env)) (fun cenv s₄ =>
      codeAny (model prog w) A (.compStart (.ListComp elt [⟨.Name x px, iter, [], 0⟩] scope pos) 0 (.ref I) acc { cenv with scope := relabel scope env }) (RR acc cenv.locals) s₄) E s₃) E s₂ := by
  refine wpAny_newObj_type (wpAny_newFunctionEnv hcell (by intro y hy; simp at hy) (fun h₁ hns₁ hsb₁ => ?_) hkind)
  dsimp only at hns₁ hsb₁ ⊢
  generalize hH2 : s₂.heap.push { cls := .type "list", dict := none, data := .seq ([] : List Value).toArray } = H2 at hns₁ hsb₁ ⊢
  have hC : H2.objs.size = s₂.heap.objs.size + 1 := by rw [← hH2, Heap.size_push]
  have hDC : s₂.heap.objs.size ≠ H2.objs.size := by rw [hC]; exact Nat.ne_of_lt (Nat.lt_succ_self _)
  have below : ∀ b, b < s₂.heap.objs.size → b ≠ H2.objs.size ∧ b ≠ s₂.heap.objs.size := fun b hb => ⟨by rw [hC]; exact Nat.ne_of_lt (Nat.lt_succ_of_lt hb), Nat.ne_of_lt hb⟩
  have hDf : s₂.heap.objs.size ∉ fp := fun hm => Nat.lt_irrefl _ (hfp _ hm)
  have hCf : H2.objs.size ∉ fp := fun hm => by have := hfp _ hm; rw [hC] at this; exact Nat.lt_irrefl _ (Nat.lt_of_succ_lt this)
  have hIf : I ∈ fp := W.sub I (List.mem_singleton.mpr rfl)
  have hIlt : I < s₂.heap.objs.size := hfp I hIf
  have old : ∀ b o, s₂.heap.get? b = some o → h₁.get? b = some o := fun b o e => hsb₁.extBut b o (below b (Heap.lt_size e)).1 (Heap.get?_push_of_some _ (hH2 ▸ Heap.get?_push_of_some _ e))
  have hacc : h₁.get? s₂.heap.objs.size = some (lst []) := hsb₁.extBut _ _ hDC (Heap.get?_push_of_some _ (hH2 ▸ Heap.get?_push_size _ rfl))
  have hst₁ : St 0 h₁ := W.frame _ _ _ hst fun b _ o e => old b o e
  have fresh : ∀ a, s₂.heap.objs.size ≤ a → s₂.heap.get? a = none := fun a ha => by
    cases e : s₂.heap.get? a with
    | none => rfl
    | some o' => exact absurd (Heap.lt_size e) (Nat.not_lt.mpr ha)
  have fresh₀ : ∀ a, s₂.heap.objs.size ≤ a → h₀.get? a = none := fun a ha => by
    cases e : h₀.get? a with
    | none => rfl
    | some o' => have := F.keep a o' e; rw [fresh a ha] at this; cases this
  have hD₀ : h₀.get? s₂.heap.objs.size = none := fresh₀ _ (Nat.le_refl _)
  have hC₀ : h₀.get? H2.objs.size = none := fresh₀ _ (by rw [hC]; exact Nat.le_succ _)
  have hLlt : L < s₂.heap.objs.size := F.ns.lt
  have hDL : s₂.heap.objs.size ≠ L := Ne.symm (below L hLlt).2
  have hCL : H2.objs.size ≠ L := Ne.symm (below L hLlt).1
  have hCI : I ≠ H2.objs.size := (below I hIlt).1
  have hDI : I ≠ s₂.heap.objs.size := (below I hIlt).2
  have off₀ : Off3 I H2.objs.size s₂.heap.objs.size news := Off3.of fun p hp => ⟨off p hp, (below _ (Heap.lt_size (N p (List.mem_append_left _ hp)).1)).1, (below _ (Heap.lt_size (N p (List.mem_append_left _ hp)).1)).2⟩
  have h50D : @LT.lt Nat _ 50 s₂.heap.objs.size := Nat.lt_trans hL50 hLlt
  have h50C : @LT.lt Nat _ 50 H2.objs.size := by rw [hC]; exact Nat.lt_succ_of_lt h50D
  have h50I : @LT.lt Nat _ 50 I := Nat.lt_trans hL50 hLI
  have low : ∀ {x : Nat}, 50 < x → ∀ {y : Nat}, (y = 30 ∨ y = 37) → y ≠ x := fun hx hy => by omega
  have offT : ∀ {tb : List (Addr × Obj)}, Tabs tb → ∀ {p}, p ∈ tb → ∀ i (h : Heap), St i h → h.get? p.1 = some p.2 → p.1 ≠ I := fun {_} T {p} hp i h st e q => by
    rcases tabs_off T hp with h' | ⟨vs, qq, t, hd, hv⟩
    · exact low h50I h' q
    · exact hIt i h vs qq t p.2 st (q ▸ e) hd hv
  have offTC : ∀ {tb : List (Addr × Obj)}, Tabs tb → ∀ {p}, p ∈ tb → ∀ {h : Heap} {mm}, h.Ns H2.objs.size mm → h.get? p.1 = some p.2 → p.1 ≠ H2.objs.size := fun {_} T {p} hp {h} {mm} hn e q => by
    rcases tabs_off T hp with h' | ⟨vs, qq, t, hd, hv⟩
    · exact low h50C h' q
    · obtain ⟨o, e2, es, ep, hdd, _⟩ := ns_obj hn
      rw [← q, e] at e2
      cases e2
      rw [hdd] at hd; cases hd
  have offTD : ∀ {tb : List (Addr × Obj)}, Tabs tb → ∀ {p}, p ∈ tb → ∀ {h : Heap} {ys}, h.get? s₂.heap.objs.size = some (lst ys) → h.get? p.1 = some p.2 → p.1 ≠ s₂.heap.objs.size := fun {_} T {p} hp {h} {ys} hl e q => by
    rcases tabs_off T hp with h' | ⟨vs, qq, t, hd, hv⟩
    · exact low h50D h' q
    · rw [← q, e] at hl
      rw [Option.some.inj hl] at hd
      cases hd
  have loop : ∀ s₃ : Shared, s₃ = { s₂ with heap := h₁, toks := s₂.toks + ([] : List (Str × Value)).length } →
      codeAny (model prog w) A (.compLoop (.ListComp elt [⟨.Name x px, iter, [], 0⟩] scope pos) 0 (.ref I) (.ref s₂.heap.objs.size) (compEnvC scope cl H2.objs.size env))
        (RR (.ref s₂.heap.objs.size) H2.objs.size) s₃ := by
    rintro s₃ rfl
    refine codeAny_compLoop_tests
      (fun k s' => ∃ h' tk i ys m' news' tb', s' = { s₂ with heap := h', toks := tk } ∧ i ≤ n ∧ k = n + 1 - i ∧ ys.length = i ∧ St i h' ∧ Tabs tb' ∧ Fr h₀ L h' m ∧ h'.Ns H2.objs.size m' ∧ News h₀ L h' ((s₂.heap.objs.size, lst ys) :: (news' ++ tb')) ∧
        Off3 I H2.objs.size s₂.heap.objs.size news' ∧ S news' ∧ CompRestT prog w A h₀ L m env elt x scope cl s₂ S P Fin (n - i) i ys news') ?_ (n + 1)
      ⟨h₁, _, 0, [], _, news, tb₀, rfl, Nat.zero_le _, rfl, rfl, hst₁, hT₀, F.keeps old, hns₁, fun p hp => ?_, off₀, hS, R⟩
    · rintro k s' ⟨h', tk, i, ys, m', news', tb', rfl, hi, rfl, hyl, hst', hT', F', hn', N', off', hS', R'⟩
      have offI' : ∀ p ∈ news' ++ tb', p.1 ≠ I := fun p hp => by
        rcases List.mem_append.mp hp with hp1 | hp1
        · exact (off'.mem p hp1).1
        · exact offT hT' hp1 _ _ hst' (N' p (List.mem_cons_of_mem _ hp)).1
      have offC' : ∀ p ∈ news' ++ tb', p.1 ≠ H2.objs.size := fun p hp => by
        rcases List.mem_append.mp hp with hp1 | hp1
        · exact (off'.mem p hp1).2.1
        · exact offTC hT' hp1 hn' (N' p (List.mem_cons_of_mem _ hp)).1
      by_cases hlt : i < n
      · obtain ⟨j, hj⟩ : ∃ j, n - i = j + 1 := ⟨n - i - 1, by omega⟩
        rw [hj] at R'
        refine W.item i _ _ _ hlt hst' fun v h₂ tk₂ hPv hst₂ hk₂ => ?_
        refine wpAny_assign_Name (wpAny_storeName_local (lookup_relabel_local hx) (hn'.at' fun o e => hk₂ _ o (by simpa using Ne.symm hCI) e) (fun h₃ hn₃ hs₃ => ?_) (by simp [compEnvC, relabel, hkind]))
        refine wpAny_tests_nil ?_
        simp only [if_true]
        have hst₃ : St (i + 1) h₃ := W.frame _ _ _ hst₂ fun b hb o e => hs₃.extBut b o (fun q => hCf (by have q' : b = H2.objs.size := q; rw [← q']; exact hb)) e
        obtain ⟨oI, heI⟩ := hIo _ _ hst₃
        obtain ⟨oC, heC, hoC⟩ := ns_obj hn₃
        have F₃ : Fr h₀ L h₃ m := (fr_but F' hk₂ hIL hI₀).change hs₃ hCL hC₀
        have off3 := off'.mem
        have N₂ : News h₀ L h₂ ((s₂.heap.objs.size, lst ys) :: (news' ++ tb')) := news_but N' hk₂ fun p hp => by
          rcases List.mem_cons.mp hp with rfl | hp
          · exact Ne.symm hDI
          · exact offI' p hp
        have N₃ : News h₀ L h₃ ((I, oI) :: (H2.objs.size, oC) :: (s₂.heap.objs.size, lst ys) :: (news' ++ tb')) := fun p hp => by
          rcases List.mem_cons.mp hp with rfl | hp
          · exact ⟨heI, Ne.symm hIL, hI₀⟩
          · rcases List.mem_cons.mp hp with rfl | hp
            · exact ⟨heC, hCL, hC₀⟩
            · have z := N₂ p hp
              refine ⟨hs₃.extBut _ _ ?_ z.1, z.2⟩
              rcases List.mem_cons.mp hp with rfl | hp
              · exact hDC
              · exact offC' p hp
        refine wpAny_mono (R' v I oI H2.objs.size oC s₂.heap.objs.size _ h₃ _ tb' _ hPv hoC (by simp) hT' F₃ N₃ off' ⟨hCI, hDI, Ne.symm hDC⟩ ⟨h50I, h50C, h50D⟩) (fun y s₄ h₄ => ?_) fun _ _ e => e
        obtain ⟨h₄, tk₄, news₄, tb₄, rfl, hT₄, F₄, N₄, off₄, hS₄, R₄⟩ := h₄
        have zI := (N₄ (I, oI) List.mem_cons_self).1
        have zC := (N₄ (H2.objs.size, oC) (List.mem_cons_of_mem _ List.mem_cons_self)).1
        have zD := (N₄ (s₂.heap.objs.size, lst ys) (List.mem_cons_of_mem _ (List.mem_cons_of_mem _ List.mem_cons_self))).1
        have N₄' : News h₀ L h₄ (news₄ ++ tb₄) := fun p hp => N₄ p (List.mem_cons_of_mem _ (List.mem_cons_of_mem _ (List.mem_cons_of_mem _ hp)))
        have hst₄ : St (i + 1) h₄ := hSt _ _ _ _ _ hst₃ heI zI F₄.keep (fun p hp => N₄' p (List.mem_append_left _ hp)) hS₄
        refine append_at (hsz := by show ys.toArray.size ≤ sizeLine; rw [List.size_toArray, hyl]; exact Nat.le_trans hi hsz) zD fun h₅ hs₅ hD₅ => ?_
        have off4 := off₄.mem
        refine ⟨n + 1 - (i + 1), by omega, h₅, tk₄, i + 1, ys ++ [y], _, news₄, tb₄, rfl, hlt, rfl, by rw [List.length_append, List.length_singleton, hyl], W.frame _ _ _ hst₄ fun b hb o e => hs₅.extBut b o (fun q => hDf (q ▸ hb)) e, hT₄, F₄.change hs₅ hDL hD₀,
          (hoC.ns zC).sameBut hs₅ (Ne.symm hDC), fun p hp => ?_, off₄, hS₄, ?_⟩
        · rcases List.mem_cons.mp hp with rfl | hp
          · exact ⟨hD₅.trans (congrArg some (lst_snoc ys y)), hDL, hD₀⟩
          · refine ⟨hs₅.extBut _ _ ?_ (N₄' p hp).1, (N₄' p hp).2⟩
            rcases List.mem_append.mp hp with hp1 | hp1
            · exact (off4 p hp1).2.2
            · exact offTD hT₄ hp1 zD (N₄' p hp).1
        · rw [show n - (i + 1) = j by omega]
          exact R₄
      · obtain rfl : i = n := Nat.le_antisymm hi (Nat.not_lt.mp hlt)
        rw [Nat.sub_self] at R'
        refine W.done _ _ _ hst' fun h₂ tk₂ hk₂ => ?_
        have off3 := off'.mem
        exact hRR _ _ h₂ tk₂ _ ys news' tb' hT' (fr_but F' hk₂ hIL hI₀) (news_but N' hk₂ fun p hp => by
          rcases List.mem_cons.mp hp with rfl | hp
          · exact Ne.symm hDI
          · exact offI' p hp) off'.one (hn'.at' fun o e => hk₂ _ o (by simpa using Ne.symm hCI) e) hC₀ hD₀ hCL hDL (Ne.symm hDC) offC' R'
    · rcases List.mem_cons.mp hp with rfl | hp
      · exact ⟨hacc, hDL, hD₀⟩
      · exact ⟨old _ _ (N p hp).1, (N p hp).2⟩
  exact codeAny_compStart_list (loop _ rfl) (W.self 0 _ _ _ hst₁ (loop _ rfl))

end
end Mine

end
section
open PySem PySem.W PyProof.Rows PySem.Calls PySem.Spec
namespace Mine
open LCg
abbrev Led := List (Addr × Obj)
/-- lists and tuples alone -/
def Seqs (l : Led) : Prop := ∀ p ∈ l, ∃ a n, p.2.data = .seq a n
/-- new objects at places of their own -/
def Apart (l objs : Led) : Prop := ∀ q ∈ objs, ∀ p ∈ l, @Ne Nat p.1 q.1
theorem Seqs.nil : Seqs [] := fun _ h => nomatch h
theorem Seqs.cons {p : Addr × Obj} {l : Led} (h : ∃ a n, p.2.data = .seq a n) (k : Seqs l) : Seqs (p :: l) := fun q hq => by
  rcases List.mem_cons.mp hq with rfl | hq
  · exact h
  · exact k q hq
theorem Seqs.app {l k : Led} (h : Seqs l) (g : Seqs k) : Seqs (l ++ k) := fun q hq => (List.mem_append.mp hq).elim (h q) (g q)
theorem Apart.nil {l : Led} : Apart l [] := fun _ h => nomatch h
theorem Apart.cons {l objs : Led} {q : Addr × Obj} (h : ∀ p ∈ l, @Ne Nat p.1 q.1) (k : Apart l objs) : Apart l (q :: objs) := fun r hr => by
  rcases List.mem_cons.mp hr with rfl | hr
  · exact h
  · exact k r hr
theorem Apart.sub {l l' objs : Led} (h : Apart l objs) (s : ∀ p ∈ l', p ∈ l) : Apart l' objs := fun q hq p hp => h q hq p (s p hp)
theorem Apart.app {l o1 o2 : Led} (h : Apart l o1) (k : Apart l o2) : Apart l (o1 ++ o2) := fun q hq => (List.mem_append.mp hq).elim (h q) (k q)
theorem tab1_head {P : Addr} {line col : Nat} {q : Str} {tb : Led} (h : Tab1 P line col q tb) : ∃ ps, (P, tabObj ps) ∈ tb := by
  rcases h with rfl | ⟨c', oc, vs, t, rfl, _⟩
  · exact ⟨_, List.mem_cons_self⟩
  · exact ⟨_, List.mem_cons_self⟩
/-- an object that is no record stands at no table's place -/
theorem off_tab {h₀ h : Heap} {L : Addr} {led tb : Led} (T : Tabs tb) (N : News h₀ L h led) (s : ∀ p ∈ tb, p ∈ led) {p : Addr × Obj} (hp : p ∈ led) (hd : ∀ vs, p.2.data ≠ .fields vs) : (@Ne Nat p.1 30) ∧ (@Ne Nat p.1 37) := by
  obtain ⟨t1, t2, rfl, h1, h2⟩ := T
  have key : ∀ {P : Addr} {ps : Array Value}, (P, tabObj ps) ∈ t2 ++ t1 → p.1 ≠ P := fun {P ps} hm q => by
    have a := (N _ hp).1
    have b := (N _ (s _ hm)).1
    rw [q, b] at a
    exact hd ps (by rw [← Option.some.inj a])
  obtain ⟨p1, m1⟩ := tab1_head h1
  obtain ⟨p2, m2⟩ := tab1_head h2
  exact ⟨key (List.mem_append_right _ m1), key (List.mem_append_left _ m2)⟩
theorem seq_noRec {p : Addr × Obj} (h : ∃ a n, p.2.data = .seq a n) : ∀ vs, p.2.data ≠ .fields vs := fun vs e => by
  obtain ⟨a, n, h⟩ := h
  rw [h] at e; cases e
theorem seqs_over {h₀ h : Heap} {L : Addr} {led tb objs : Led} (S : Seqs objs) (T : Tabs tb) (N : News h₀ L h led) (s : ∀ p ∈ tb, p ∈ led) (so : ∀ p ∈ objs, p ∈ led) : Over objs := fun p hp => off_tab T N s (so p hp) (seq_noRec (S p hp))
/-- no list stands at a cell's place -/
theorem seqs_cell {h₀ h : Heap} {L : Addr} {led objs : Led} {c : Addr} {o : Obj} {v : Option Value} (S : Seqs objs) (N : News h₀ L h led) (hm : (c, o) ∈ led) (hd : o.data = .cell v) (so : ∀ p ∈ objs, p ∈ led) : ∀ p ∈ objs, p.1 ≠ c := fun p hp q => by
  have a := (N _ (so p hp)).1
  have b := (N _ hm).1
  rw [q, b] at a
  obtain ⟨x, n, h⟩ := S p hp
  rw [← Option.some.inj a, hd] at h
  cases h
/-- a table or its record is no cell -/
theorem tabs_cell {h₀ h : Heap} {L : Addr} {led tb : Led} {c : Addr} {o : Obj} {v : Option Value} (T : Tabs tb) (N : News h₀ L h led) (hm : (c, o) ∈ led) (hd : o.data = .cell v) (so : ∀ p ∈ tb, p ∈ led) (l50 : @LT.lt Nat _ 50 c) : ∀ p ∈ tb, p.1 ≠ c := fun p hp q => by
  rcases tabs_off T hp with h | ⟨vs, qq, t, hdd, _⟩
  · rcases h with h | h <;> (rw [q] at h; subst h; exact absurd l50 (by decide))
  · have a := (N _ (so p hp)).1
    have b := (N _ hm).1
    rw [q, b] at a
    rw [← Option.some.inj a, hd] at hdd
    cases hdd
theorem over50 {x : Nat} (h : 50 < x) : (@Ne Nat x 30) ∧ (@Ne Nat x 37) := by omega
theorem srcAt_mono {h₀ : Heap} {ax : Addr} {its : Array Value} {l l' : Led} (x : SrcAt h₀ ax its l) (s : ∀ p ∈ l, p ∈ l') : SrcAt h₀ ax its l' := by
  rcases x with x | ⟨o, hm, r⟩
  · exact .inl x
  · exact .inr ⟨o, s _ hm, r⟩
/-- the end of an element: some new objects stay, all others of the ledger as before -/
def DatEnd (h₀ : Heap) (L : Addr) (m : Str → Option Value) (s₁ : Shared) (pre mid : Led) (TB : Led → Prop) (d : Dat) (y : Value) (s₂ : Shared) : Prop :=
  ∃ h' tk objs tb led, s₂ = { s₁ with heap := h', toks := tk } ∧ TB tb ∧ Fr h₀ L h' m ∧ News h₀ L h' led ∧ (∀ p ∈ pre, p ∈ led) ∧ (∀ p ∈ objs, p ∈ led) ∧ (∀ p ∈ tb, p ∈ led) ∧ Apart pre objs ∧ Seqs objs ∧ DatIn (objs ++ mid) y d
theorem DatEnd.intro {h₀ : Heap} {L : Addr} {m : Str → Option Value} {s₁ : Shared} {pre mid : Led} {TB : Led → Prop} {d : Dat} {y : Value} {h' : Heap} {tk : Nat} (objs tb : Led) {led : Led}
    (F : Fr h₀ L h' m) (N : News h₀ L h' led) (T : TB tb) (s1 : ∀ p ∈ pre, p ∈ led) (s2 : ∀ p ∈ objs, p ∈ led) (s3 : ∀ p ∈ tb, p ∈ led) (a : Apart pre objs) (c : Seqs objs) (hd : DatIn (objs ++ mid) y d) :
    DatEnd h₀ L m s₁ pre mid TB d y { s₁ with heap := h', toks := tk } := ⟨h', tk, objs, tb, led, rfl, T, F, N, s1, s2, s3, a, c, hd⟩
abbrev NoTab (tb : Led) : Prop := tb = []
theorem above_off {pre objs : Led} (a : Apart pre objs) {c : Addr} {o : Obj} (hm : (c, o) ∈ pre) : ∀ p ∈ objs, p.1 ≠ c := fun p hp => Ne.symm (a p hp _ hm)
section
variable {prog : Program} {w : World} {A : Around} {E : Value → Shared → Prop} {s : Shared} {h₀ : Heap} {L : Addr} {m : Str → Option Value} {env : Env}
theorem range_snoc {f : Nat → Dat} {i : Nat} : (List.range (i + 1)).map f = (List.range i).map f ++ [f i] := by rw [List.range_succ, List.map_append]; rfl
/-- all turns of a comprehension at once: the elements' data -/
theorem rest_data {elt : PySem.Expr} {x : Str} {scope : Scope} {cl : List (Str × Addr)} {S : Led → Prop} {P : Nat → Value → Prop} {Fin : List Value → Led → Prop} {n : Nat} {mid₀ : Led} (base : Led) (f : Nat → Dat) (hS : ∀ objs : Led, S (objs ++ mid₀))
    (step : ∀ i objs led v C oC m₂ h tk (E' : Value → Shared → Prop), i < n → P i v → NsObj oC m₂ → m₂ x = some v → Fr h₀ L h m → News h₀ L h ((C, oC) :: led) → (∀ p ∈ objs ++ mid₀, p ∈ led) →
      wpAny (model prog w) A (eval elt (compEnvC scope cl C env)) (fun y s₂ => Stop (DatEnd h₀ L m { s with heap := h, toks := tk } ((C, oC) :: led) (objs ++ base) NoTab (f i) y s₂)) E' { s with heap := h, toks := tk })
    (fin : ∀ ys objs, ys.length = n → Seqs objs → Apart mid₀ objs → DatAll (objs ++ base) ys ((List.range n).map f) → Fin ys (objs ++ mid₀)) : CompRest prog w A h₀ L m env elt x scope cl s S P Fin n 0 [] mid₀ := by
  refine (rest_inv (fun i ys news => ∃ objs, news = objs ++ mid₀ ∧ Seqs objs ∧ Apart mid₀ objs ∧ DatAll (objs ++ base) ys ((List.range i).map f)) ⟨[], rfl, .nil, .nil, .nil⟩ ?_ ?_)
  · rintro i ys _ v I oI C oC D m₂ h tk E' hi hl ⟨objs, rfl, hc, ha, hd⟩ hP hC hx F N off ne
    have hsub : ∀ p ∈ (C, oC) :: ((I, oI) :: (D, lst ys) :: (objs ++ mid₀)), p ∈ (I, oI) :: (C, oC) :: (D, lst ys) :: (objs ++ mid₀) := fun p hp => by
      simp only [List.mem_cons] at hp ⊢
      rcases hp with h | h | h
      · exact .inr (.inl h)
      · exact .inl h
      · exact .inr (.inr h)
    refine wpAny_mono (step i objs ((I, oI) :: (D, lst ys) :: (objs ++ mid₀)) v C oC m₂ h tk E' hi hP hC hx F (fun p hp => N p (hsub p hp)) (fun p hp => List.mem_cons_of_mem _ (List.mem_cons_of_mem _ hp))) (fun y s₂ hq => ?_) fun _ _ e => e
    obtain ⟨h', tk', objs', tb, led', rfl, T, F', N', s1, s2, s3, ab, nc, dd⟩ := hq.go
    refine ⟨h', tk', objs' ++ (objs ++ mid₀), rfl, F', fun p hp => N' p ?_, Off3.of fun p hp => ?_, by rw [← List.append_assoc]; exact hS _, objs' ++ objs, by rw [List.append_assoc], nc.app hc, (ab.sub fun p hp => List.mem_cons_of_mem _ (List.mem_cons_of_mem _ (List.mem_cons_of_mem _ (List.mem_append_right _ hp)))).app ha, ?_⟩
    · simp only [List.mem_cons, List.mem_append] at hp
      rcases hp with h | h | h | h | h
      · exact s1 _ (by simp [h])
      · exact s1 _ (by simp [h])
      · exact s1 _ (by simp [h])
      · exact s2 _ h
      · exact s1 _ (by simp [h])
    · rcases List.mem_append.mp hp with hp | hp
      · exact ⟨above_off ab (o := oI) (by simp) p hp, above_off ab (o := oC) (by simp) p hp, above_off ab (o := lst ys) (by simp) p hp⟩
      · exact off.mem p hp
    · rw [range_snoc, List.append_assoc]
      exact (hd.mono fun p hp => List.mem_append_right _ hp).append (.one dd)
  · rintro ys _ hl ⟨objs, rfl, hc, ha, hd⟩
    exact fin ys objs hl hc ha hd
theorem restK_data {elt : PySem.Expr} {x : Str} {scope : Scope} {cl : List (Str × Addr)} {S : Led → Prop} {P : Nat → Value → Prop} {Fin : List Value → Led → Prop} {n : Nat} {mid₀ : Led} (base : Led) (f : Nat → Dat) (hS : ∀ objs : Led, S (objs ++ mid₀))
    (step : ∀ i objs led v C oC K oK h tk (E' : Value → Shared → Prop), i < n → P i v → NsObj oC (fun _ => none) → oK.data = .cell (some v) → Fr h₀ L h m → News h₀ L h ((C, oC) :: (K, oK) :: led) → (∀ p ∈ objs ++ mid₀, p ∈ led) →
      wpAny (model prog w) A (eval elt (compEnvC scope ((x, K) :: cl) C env)) (fun y s₂ => Stop (DatEnd h₀ L m { s with heap := h, toks := tk } ((C, oC) :: (K, oK) :: led) (objs ++ base) NoTab (f i) y s₂)) E' { s with heap := h, toks := tk })
    (fin : ∀ ys objs, ys.length = n → Seqs objs → Apart mid₀ objs → DatAll (objs ++ base) ys ((List.range n).map f) → Fin ys (objs ++ mid₀)) : CompRestK prog w A h₀ L m env elt x scope cl s S P Fin n 0 [] mid₀ := by
  have key : ∀ k i ys objs, i + k = n → ys.length = i → Seqs objs → Apart mid₀ objs → DatAll (objs ++ base) ys ((List.range i).map f) → CompRestK prog w A h₀ L m env elt x scope cl s S P Fin k i ys (objs ++ mid₀) := by
    intro k
    induction k with
    | zero =>
      intro i ys objs hi hy hc ha hd
      have e : n = i := by omega
      subst e
      exact fin ys objs hy hc ha hd
    | succ k ih =>
      intro i ys objs hi hy hc ha hd
      intro v I oI C oC K oK D h tk E' hP hC hK F N off offK ne
      have hsub : ∀ p ∈ (C, oC) :: (K, oK) :: ((I, oI) :: (D, lst ys) :: (objs ++ mid₀)), p ∈ (I, oI) :: (C, oC) :: (K, oK) :: (D, lst ys) :: (objs ++ mid₀) := fun p hp => by
        simp only [List.mem_cons] at hp ⊢
        rcases hp with h | h | h | h
        · exact .inr (.inl h)
        · exact .inr (.inr (.inl h))
        · exact .inl h
        · exact .inr (.inr (.inr h))
      refine wpAny_mono (step i objs ((I, oI) :: (D, lst ys) :: (objs ++ mid₀)) v C oC K oK h tk E' (by omega) hP hC hK F (fun p hp => N p (hsub p hp)) (fun p hp => List.mem_cons_of_mem _ (List.mem_cons_of_mem _ hp))) (fun y s₂ hq => ?_) fun _ _ e => e
      obtain ⟨h', tk', objs', tb, led', rfl, T, F', N', s1, s2, s3, ab, nc, dd⟩ := hq.go
      refine ⟨h', tk', objs' ++ (objs ++ mid₀), rfl, F', fun p hp => N' p ?_, Off3.of fun p hp => ?_, off1_of fun p hp => ?_, by rw [← List.append_assoc]; exact hS _, ?_⟩
      · simp only [List.mem_cons, List.mem_append] at hp
        rcases hp with h | h | h | h | h | h
        · exact s1 _ (by simp [h])
        · exact s1 _ (by simp [h])
        · exact s1 _ (by simp [h])
        · exact s1 _ (by simp [h])
        · exact s2 _ h
        · exact s1 _ (by simp [h])
      · rcases List.mem_append.mp hp with hp | hp
        · exact ⟨above_off ab (o := oI) (by simp) p hp, above_off ab (o := oC) (by simp) p hp, above_off ab (o := lst ys) (by simp) p hp⟩
        · exact off.mem p hp
      · rcases List.mem_append.mp hp with hp | hp
        · exact above_off ab (o := oK) (by simp) p hp
        · exact off1_mem offK p hp
      · rw [← List.append_assoc]
        refine ih (i + 1) (ys ++ [y]) (objs' ++ objs) (by omega) (by simp [hy]) (nc.app hc) ((ab.sub fun p hp => List.mem_cons_of_mem _ (List.mem_cons_of_mem _ (List.mem_cons_of_mem _ (List.mem_cons_of_mem _ (List.mem_append_right _ hp))))).app ha) ?_
        rw [range_snoc, List.append_assoc]
        exact (hd.mono fun p hp => List.mem_append_right _ hp).append (.one dd)
  exact key n 0 [] [] (by omega) rfl .nil .nil .nil
theorem restT_data {elt : PySem.Expr} {x : Str} {scope : Scope} {cl : List (Str × Addr)} {S : Led → Prop} {P : Nat → Value → Prop} {Fin : List Value → Led → Prop} {n : Nat} {mid₀ : Led} (base : Led) (f : Nat → Dat) (hS : ∀ objs : Led, S (objs ++ mid₀)) (hov : Over mid₀)
    (step : ∀ i objs led v C oC m₂ h tk tb (E' : Value → Shared → Prop), i < n → P i v → NsObj oC m₂ → m₂ x = some v → Tabs tb → Over ((C, oC) :: led) → Fr h₀ L h m → News h₀ L h (((C, oC) :: led) ++ tb) → (∀ p ∈ objs ++ mid₀, p ∈ led) →
      wpAny (model prog w) A (eval elt (compEnvC scope cl C env)) (fun y s₂ => Stop (DatEnd h₀ L m { s with heap := h, toks := tk } ((C, oC) :: led) (objs ++ base) Tabs (f i) y s₂)) E' { s with heap := h, toks := tk })
    (fin : ∀ ys objs, ys.length = n → Seqs objs → Apart mid₀ objs → DatAll (objs ++ base) ys ((List.range n).map f) → Fin ys (objs ++ mid₀)) : CompRestT prog w A h₀ L m env elt x scope cl s S P Fin n 0 [] mid₀ := by
  have key : ∀ k i ys objs, i + k = n → ys.length = i → Seqs objs → Apart mid₀ objs → DatAll (objs ++ base) ys ((List.range i).map f) → CompRestT prog w A h₀ L m env elt x scope cl s S P Fin k i ys (objs ++ mid₀) := by
    intro k
    induction k with
    | zero =>
      intro i ys objs hi hy hc ha hd
      have e : n = i := by omega
      subst e
      exact fin ys objs hy hc ha hd
    | succ k ih =>
      intro i ys objs hi hy hc ha hd
      intro v I oI C oC D m₂ h tk tb E' hP hC hx hT F N off ne l50
      have hsub : ∀ p ∈ ((C, oC) :: ((I, oI) :: (D, lst ys) :: (objs ++ mid₀))) ++ tb, p ∈ (I, oI) :: (C, oC) :: (D, lst ys) :: (objs ++ mid₀ ++ tb) := fun p hp => by
        simp only [List.mem_cons, List.mem_append] at hp ⊢
        rcases hp with (h | h | h | h) | h
        · exact .inr (.inl h)
        · exact .inl h
        · exact .inr (.inr (.inl h))
        · exact .inr (.inr (.inr (.inl h)))
        · exact .inr (.inr (.inr (.inr h)))
      have hover : Over ((C, oC) :: ((I, oI) :: (D, lst ys) :: (objs ++ mid₀))) := fun p hp => by
        simp only [List.mem_cons, List.mem_append] at hp
        rcases hp with h | h | h | h | h
        · rw [h]; exact over50 l50.2.1
        · rw [h]; exact over50 l50.1
        · rw [h]; exact over50 l50.2.2
        · exact seqs_over hc hT N (fun p hp => List.mem_cons_of_mem _ (List.mem_cons_of_mem _ (List.mem_cons_of_mem _ (List.mem_append_right _ hp)))) (fun p hp => List.mem_cons_of_mem _ (List.mem_cons_of_mem _ (List.mem_cons_of_mem _ (List.mem_append_left _ (List.mem_append_left _ hp))))) p h
        · exact hov p h
      refine wpAny_mono (step i objs ((I, oI) :: (D, lst ys) :: (objs ++ mid₀)) v C oC m₂ h tk tb E' (by omega) hP hC hx hT hover F (fun p hp => N p (hsub p hp)) (fun p hp => List.mem_cons_of_mem _ (List.mem_cons_of_mem _ hp))) (fun y s₂ hq => ?_) fun _ _ e => e
      obtain ⟨h', tk', objs', tb', led', rfl, T, F', N', s1, s2, s3, ab, nc, dd⟩ := hq.go
      refine ⟨h', tk', objs' ++ (objs ++ mid₀), tb', rfl, T, F', fun p hp => N' p ?_, Off3.of fun p hp => ?_, by rw [← List.append_assoc]; exact hS _, ?_⟩
      · simp only [List.mem_cons, List.mem_append] at hp
        rcases hp with h | h | h | (h | h | h) | h
        · exact s1 _ (by simp [h])
        · exact s1 _ (by simp [h])
        · exact s1 _ (by simp [h])
        · exact s2 _ h
        · exact s1 _ (by simp [h])
        · exact s1 _ (by simp [h])
        · exact s3 _ h
      · rcases List.mem_append.mp hp with hp | hp
        · exact ⟨above_off ab (o := oI) (by simp) p hp, above_off ab (o := oC) (by simp) p hp, above_off ab (o := lst ys) (by simp) p hp⟩
        · exact off.mem p hp
      · rw [← List.append_assoc]
        refine ih (i + 1) (ys ++ [y]) (objs' ++ objs) (by omega) (by simp [hy]) (nc.app hc) ((ab.sub fun p hp => List.mem_cons_of_mem _ (List.mem_cons_of_mem _ (List.mem_cons_of_mem _ (List.mem_append_right _ hp)))).app ha) ?_
        rw [range_snoc, List.append_assoc]
        exact (hd.mono fun p hp => List.mem_append_right _ hp).append (.one dd)
  exact key n 0 [] [] (by omega) rfl .nil .nil .nil
end
end Mine

end
section
open PySem PySem.W PyProof.Rows PySem.Calls PySem.Spec
namespace Mine
open LCg
section
variable {prog : Program} {w : World} {A : Around} {E : Value → Shared → Prop} {s : Shared} {h₀ : Heap} {L : Addr} {m : Str → Option Value} {env : Env}
def FinET (h₀ : Heap) (L : Addr) (m : Str → Option Value) (s : Shared) (Q : Value → Shared → Prop) (ys : List Value) (news : Led) : Prop :=
  ∀ D h tk tb, Tabs tb → Fr h₀ L h m → News h₀ L h ((D, lst ys) :: (news ++ tb)) → Off1 D news → Q (.ref D) { s with heap := h, toks := tk }
def FinAT (h₀ : Heap) (L : Addr) (m : Str → Option Value) (s : Shared) (y : Str) (Q : Flow → Shared → Prop) (ys : List Value) (news : Led) : Prop :=
  ∀ D h tk tb, Tabs tb → Fr h₀ L h (fun z => if z = y then some (.ref D) else m z) → News h₀ L h ((D, lst ys) :: (news ++ tb)) → Off1 D news → Q .next { s with heap := h, toks := tk }
def SrcTT (prog : Program) (w : World) (A : Around) (h₀ : Heap) (L : Addr) (m : Str → Option Value) (env : Env) (elt : PySem.Expr) (x : Str) (scope : Scope) (cl : List (Str × Addr)) (Fin : Shared → List Value → Led → Prop) (xv : Value) (s₁ : Shared) : Prop :=
  ∃ ax its news tb, xv = .ref ax ∧ A.handled = none ∧ Fr h₀ L s₁.heap m ∧ News h₀ L s₁.heap (news ++ tb) ∧ Tabs tb ∧ @LT.lt Nat _ 50 L ∧ SrcAt h₀ ax its news ∧ its.size ≤ sizeLine ∧
    ∀ g, CompRestT prog w A h₀ L m env elt x scope cl { s₁ with heap := g } (SrcAt h₀ ax its) (fun i v => its[i]? = some v) (Fin { s₁ with heap := g }) its.size 0 [] news
theorem news_app {h : Heap} {l k : Led} (N : News h₀ L h (l ++ k)) : News h₀ L h l := fun p hp => N p (List.mem_append_left _ hp)
theorem iter_noStr {I ax : Addr} {i : Nat} {h : Heap} {its : Array Value} (st : h.IsListIter I ax i ∧ h.IsList ax its) {vs : Array Value} {q : Str} {t : Tok} {o : Obj} (e : h.get? I = some o) (d : o.data = .fields vs) (v : vs[1]? = some (.str q t)) : False := by
  obtain ⟨o', e', c, dd⟩ := st.1
  rw [e] at e'
  cases e'
  rw [d] at dd
  cases dd
  simp [rawInt] at v
theorem listComp_TT {elt iter : PySem.Expr} {x : Str} {px : Pos} {scope : Scope} {cl : List (Str × Addr)} {pos : Pos} {Q : Value → Shared → Prop}
    (hclos : closureFor scope env = pure cl) (hcell : ∀ y ∈ scope.names, y.2 ≠ .cell) (hkind : scope.kind = .function)
    (hnames : ∀ y ∈ scope.names, y.2 = .local → scope.names.lookup y.1 = some .local) (hx : scope.names.lookup x = some .local)
    (h : wpAny (model prog w) A (eval iter env) (SrcTT prog w A h₀ L m env elt x scope cl (fun s₂ => FinET h₀ L m s₂ Q)) E s)
    (hs : ∀ x, foldedSetIterable iter env x = pure x := by intro _; rfl) :
    wpAny (model prog w) A (eval (.ListComp elt [⟨.Name x px, iter, [], 0⟩] scope pos) env) Q E s := by
  rw [eval_ListComp]
  refine wpAny_comprehension_free (use := none) rfl hs hclos hkind hnames (wpAny_mono h (fun xv s₁ h₁ => ?_) fun _ _ e => e)
  obtain ⟨ax, its, news, tb, rfl, hh, F, N, T, l50, S, hsz, R⟩ := h₁
  have hl := S.list F.keep (news_app N)
  have hlt : ax < s₁.heap.objs.size := by obtain ⟨_, e, _⟩ := hl; exact Heap.lt_size e
  refine wpAny_pyIter_list hl ?_
  have up : ∀ b o, s₁.heap.get? b = some o → (s₁.heap.push { cls := .type "list_iterator", data := .fields #[.ref ax, .int 0 0] }).get? b = some o := fun b o e => Heap.get?_push_of_some _ e
  refine block_T (Walks.list hh s₁.heap.objs.size ax (Nat.ne_of_lt hlt) its) hsz (fun i h st => by obtain ⟨o, e, _⟩ := st.1; exact ⟨o, e⟩) list_st hcell hkind hx ⟨⟨_, Heap.get?_push_size _ rfl, rfl, rfl⟩, hl.push _⟩ (fun b hb => ?_)
    (F.keeps up) (N.grown up) T l50 F.ns.lt (fun i h vs q t o st e d v => iter_noStr st e d v) (Nat.ne_of_lt F.ns.lt) (next_is_new F) (fun p hp => Nat.ne_of_lt (Heap.lt_size (N p (List.mem_append_left _ hp)).1)) S (R _) ?_
  · show b < (s₁.heap.push _).objs.size
    rw [Heap.size_push]
    rcases List.mem_cons.mp hb with rfl | hb
    · exact Nat.lt_succ_self _
    · rw [List.mem_singleton.mp hb]; exact Nat.lt_succ_of_lt hlt
  · intro D C h tk m' ys news' tb' T' F' N' o1 hn hC₀ hD₀ hCL hDL hCD offC fin
    refine ⟨m', hn, fun h'' hs'' => fin D h'' tk tb' T' (F'.change hs'' hCL hC₀) (fun p hp => ?_) o1⟩
    refine ⟨hs''.extBut _ _ ?_ (N' p hp).1, (N' p hp).2⟩
    rcases List.mem_cons.mp hp with rfl | hp
    · exact Ne.symm hCD
    · exact offC p hp
theorem Assign_ListComp_TT {elt iter : PySem.Expr} {x y : Str} {px py : Pos} {scope : Scope} {cl : List (Str × Addr)} {pos spos : Pos} {Q : Flow → Shared → Prop} (hLe : env.locals = L)
    (hsw : swapsWith (.ListComp elt [⟨.Name x px, iter, [], 0⟩] scope pos) (some (.Name y py)) spos.line env = pure true)
    (hclos : closureFor scope env = pure cl) (hcell : ∀ z ∈ scope.names, z.2 ≠ .cell) (hkind : scope.kind = .function)
    (hnames : ∀ z ∈ scope.names, z.2 = .local → scope.names.lookup z.1 = some .local) (hx : scope.names.lookup x = some .local)
    (hy : env.kindOf y = some .local) (hp : (env.scope.kind == .class || (env.scope.kind == .module && env.locals != env.globals)) = false)
    (h : wpAny (model prog w) A (eval iter env) (SrcTT prog w A h₀ L m env elt x scope cl (fun s₂ => FinAT h₀ L m s₂ y Q)) E s)
    (hs : ∀ x, foldedSetIterable iter env x = pure x := by intro _; rfl) :
    wpAny (model prog w) A (exec (.Assign [.Name y py] (.ListComp elt [⟨.Name x px, iter, [], 0⟩] scope pos) spos) env) Q E s := by
  subst hLe
  rw [exec_Assign_Name_used _ _ _ _ hsw]
  refine wpAny_bind (wpAny_standAt (wpAny_bind ?_))
  show wpAny _ A (do let _ ← comprehension (.ListComp elt [⟨.Name x px, iter, [], 0⟩] scope pos) scope env _ (newList []) false (eval iter env) (some (assign (.Name y py) env))) _ _ s
  refine wpAny_bind (wpAny_mono (wpAny_comprehension_free (use := some (assign (.Name y py) env)) (Q := fun _ s' => Q .next s') rfl hs hclos hkind hnames
    (wpAny_mono h (fun xv s₁ h₁ => ?_) fun _ _ e => e)) (fun _ s' hq => wpAny_pure (wpAny_pure hq)) fun _ _ e => e)
  obtain ⟨ax, its, news, tb, rfl, hh, F, N, T, l50, S, hsz, R⟩ := h₁
  have hl := S.list F.keep (news_app N)
  have hlt : ax < s₁.heap.objs.size := by obtain ⟨_, e, _⟩ := hl; exact Heap.lt_size e
  refine wpAny_pyIter_list hl ?_
  have up : ∀ b o, s₁.heap.get? b = some o → (s₁.heap.push { cls := .type "list_iterator", data := .fields #[.ref ax, .int 0 0] }).get? b = some o := fun b o e => Heap.get?_push_of_some _ e
  refine block_T (Walks.list hh s₁.heap.objs.size ax (Nat.ne_of_lt hlt) its) hsz (fun i h st => by obtain ⟨o, e, _⟩ := st.1; exact ⟨o, e⟩) list_st hcell hkind hx ⟨⟨_, Heap.get?_push_size _ rfl, rfl, rfl⟩, hl.push _⟩ (fun b hb => ?_)
    (F.keeps up) (N.grown up) T l50 F.ns.lt (fun i h vs q t o st e d v => iter_noStr st e d v) (Nat.ne_of_lt F.ns.lt) (next_is_new F) (fun p hp => Nat.ne_of_lt (Heap.lt_size (N p (List.mem_append_left _ hp)).1)) S (R _) ?_
  · show b < (s₁.heap.push _).objs.size
    rw [Heap.size_push]
    rcases List.mem_cons.mp hb with rfl | hb
    · exact Nat.lt_succ_self _
    · rw [List.mem_singleton.mp hb]; exact Nat.lt_succ_of_lt hlt
  · intro D C h' tk m' ys news' tb' T' F' N' o1 hn hC₀ hD₀ hCL hDL hCD offC fin
    show wpAny _ A (assign (.Name y py) env (.ref D)) _ _ _
    refine wpAny_assign_Name (wpAny_storeName_local hy F'.ns (fun h₂ hn₂ hs₂ => ?_) hp)
    have hL₀ : h₀.get? env.locals = none := Heap.get?_none_of_le F'.above
    have F₂ : Fr h₀ env.locals h₂ (fun z => if z = y then some (.ref D) else m z) := ⟨hn₂, fun b o e => hs₂.extBut b o (fun q => by rw [q, hL₀] at e; cases e) (F'.keep b o e), F'.above⟩
    refine ⟨m', hn.sameBut hs₂ hCL, fun h'' hs'' => fin D h'' _ tb' T' (F₂.change hs'' hCL hC₀) (fun p hp => ?_) o1⟩
    have z : h₂.get? p.1 = some p.2 := hs₂.extBut _ _ (N' p hp).2.1 (N' p hp).1
    refine ⟨hs''.extBut _ _ ?_ z, (N' p hp).2⟩
    rcases List.mem_cons.mp hp with rfl | hp
    · exact Ne.symm hCD
    · exact offC p hp
/-- a for over a range, all turns by one invariant -/
theorem for_inv {target : PySem.Expr} {body : List Stmt} {Q : Flow → Shared → Prop} {I : Addr} {n : Nat} {m₀ : Str → Option Value} {news₀ : Led} (J : Nat → (Str → Option Value) → Led → Prop) (j0 : J 0 m₀ news₀)
    (step : ∀ i m news t h tk it, i < n → ItOK it → J i m news → Fr h₀ env.locals h m → News h₀ env.locals h ((I, it) :: news) → (∀ p ∈ news, p.1 ≠ I) →
      wpAny (model prog w) A (assign target env (.int (i : Nat) t)) (fun _ s₂ => wpAny (model prog w) A (execs body env) (ForPost h₀ env.locals { s with heap := h, toks := tk } I it (fun m' news' => J (i + 1) m' news') Q) E s₂) E { s with heap := h, toks := tk })
    (fin : ∀ m news h tk, J n m news → Fr h₀ env.locals h m → News h₀ env.locals h news → Q .next { s with heap := h, toks := tk }) :
    ForRest prog w A E h₀ env target body Q s I 0 n 0 m₀ news₀ := by
  have key : ∀ k i m news, i + k = n → J i m news → ForRest prog w A E h₀ env target body Q s I 0 k i m news := by
    intro k
    induction k with
    | zero =>
      intro i m news hi hJ
      have e : n = i := by omega
      subst e
      exact fun h tk F N => fin m news h tk hJ F N
    | succ k ih =>
      intro i m news hi hJ
      refine ForRest.succ (i : Int) (by omega) fun t h tk it hok F N off => ?_
      refine wpAny_mono (step i m news t h tk it (by omega) hok hJ F N off) (fun _ s₂ hq => wpAny_mono hq (fun f s₃ hp => ?_) fun _ _ e => e) fun _ _ e => e
      cases f with
      | ret v => exact hp
      | brk => exact hp
      | cont =>
        obtain ⟨h', tk', m', n', e, F', N', o', hj⟩ := hp
        exact ⟨h', tk', m', n', e, F', N', o', ih (i + 1) m' n' (by omega) hj⟩
      | next =>
        obtain ⟨h', tk', m', n', e, F', N', o', hj⟩ := hp
        exact ⟨h', tk', m', n', e, F', N', o', ih (i + 1) m' n' (by omega) hj⟩
  exact key n 0 m₀ news₀ (by omega) j0
end
end Mine

end
section
open PySem PySem.W PyProof.Rows PySem.Calls PySem.Spec
namespace Mine
open LCg
/-! minors -/
def minorV (sq : List (List Int)) : List Int → List Int → Int
  | [], _ => 1
  | r :: rs, cs => ((List.range cs.length).map fun k => (1 - 2 * ((k : Nat) : Int).fmod 2) * ((sq.getD r.toNat []).getD (cs.getD k 0).toNat 0) * minorV sq rs (cs.take k ++ cs.drop (k + 1))).sum
abbrev rowD (r : List Int) : Dat := .list (r.map Dat.int)
theorem ints_of_dat {news : Led} : ∀ {vs : List Value} {ns : List Int}, DatAll news vs (ns.map Dat.int) → IntsAre vs ns
  | [], [], _ => .nil
  | [], _ :: _, h => by cases h
  | _ :: _, [], h => by cases h
  | _ :: _, _ :: _, h => by
    cases h with
    | cons h r => cases h; exact .cons _ _ (ints_of_dat r)
theorem dat_of_ints {news : Led} : ∀ {vs : List Value} {ns : List Int}, IntsAre vs ns → DatAll news vs (ns.map Dat.int)
  | _, _, .nil => .nil
  | _, _, .cons _ _ r => .cons (.int _ _) (dat_of_ints r)
theorem dat_list {news : Led} {v : Value} {ds : List Dat} (h : DatIn news v (.list ds)) : ∃ a vs n, v = .ref a ∧ (a, listOf vs.toArray n) ∈ news ∧ DatAll news vs ds := by
  cases h with
  | list hm r => exact ⟨_, _, _, rfl, hm, r⟩
theorem dat_tuple {news : Led} {v : Value} {ds : List Dat} (h : DatIn news v (.tuple ds)) : ∃ a vs n, v = .ref a ∧ (a, ({ cls := .type "tuple", data := .seq vs.toArray n } : Obj)) ∈ news ∧ DatAll news vs ds := by
  cases h with
  | tuple hm r => exact ⟨_, _, _, rfl, hm, r⟩
section
variable {prog : Program} {w : World} {A : Around} {E : Value → Shared → Prop} {s : Shared} {h₀ : Heap} {L : Addr} {news led : Led}
theorem my_itemI {value slice : PySem.Expr} {l : Addr} {vs : List Value} {ns : List Int} {c : Nat} {k : Int} {u : Tok} {Q : Value → Shared → Prop} (N : News h₀ L s.heap news) (hm : (l, listOf vs.toArray c) ∈ news) (hi : IntsAre vs ns)
    (h0 : 0 ≤ k) (h1 : k < (ns.length : Int)) (hz : k < 64) (h : ∀ t, Q (.int (ns.getD k.toNat 0) t) s)
    (hs : subscripted slice false (.ref l) (.int k u) = operate [.ref l, .int k u] (getItem (.ref l) (.int k u)) := by with_unfolding_all rfl) :
    wpAny (model prog w) A (subscriptTail value slice (.ref l) (.int k u)) Q E s := by
  refine kd_item N hm (dat_of_ints (news := news) hi) h0 (by simpa using h1) (by omega) (fun v d hk _ hD => ?_) hs
  rw [List.getElem?_map] at hk
  have hlt : k.toNat < ns.length := by omega
  rw [List.getElem?_eq_getElem hlt] at hk
  cases hk
  cases hD
  have := h (by assumption)
  rwa [List.getD_eq_getElem?_getD, List.getElem?_eq_getElem hlt] at this
theorem my_itemR {value slice : PySem.Expr} {l : Addr} {M : List (List Int)} {k : Int} {u : Tok} {Q : Value → Shared → Prop} (N : News h₀ L s.heap news) (hd : DatIn led (.ref l) (.list (M.map rowD))) (hl : ∀ p ∈ led, p ∈ news)
    (h0 : 0 ≤ k) (h1 : k < (M.length : Int)) (hz : k < 64) (h : ∀ a vs c, (a, listOf vs.toArray c) ∈ led → IntsAre vs (M.getD k.toNat []) → Q (.ref a) s)
    (hs : subscripted slice false (.ref l) (.int k u) = operate [.ref l, .int k u] (getItem (.ref l) (.int k u)) := by with_unfolding_all rfl) :
    wpAny (model prog w) A (subscriptTail value slice (.ref l) (.int k u)) Q E s := by
  obtain ⟨a, vs, n, e, hm, hd⟩ := dat_list hd
  cases e
  refine kd_item N (hl _ hm) hd h0 (by simpa using h1) (by omega) (fun v d hk _ hD => ?_) hs
  rw [List.getElem?_map] at hk
  have hlt : k.toNat < M.length := by omega
  rw [List.getElem?_eq_getElem hlt] at hk
  cases hk
  obtain ⟨a', vs', n', rfl, hm', hd'⟩ := dat_list hD
  have := h a' vs' n' hm'
  rw [List.getD_eq_getElem?_getD, List.getElem?_eq_getElem hlt] at this
  exact this (ints_of_dat hd')
theorem my_lenI {l : Addr} {vs : List Value} {c n : Nat} {Q : Value → Shared → Prop} (N : News h₀ L s.heap news) (hm : (l, listOf vs.toArray c) ∈ news) (hn : vs.length = n) (hz : n < 1000)
    (h : Q (.int (n : Int) (s.toks + 1)) { s with toks := s.toks + 1 + 1 }) : wpAny (model prog w) A (call (.builtin "len") [.ref l]) Q E s := by
  have hl : s.heap.IsList l vs.toArray := ⟨_, (N _ hm).1, rfl, c, rfl⟩
  have e : vs.toArray.size = n := by rw [List.size_toArray, hn]
  exact len_list hl (by rw [e]; omega) (by rw [e]; exact h)
end
theorem rsize : ∀ a : Fin 5, ∀ b : Fin 5, a.val ≤ b.val → Builtin.Range.small (a.val : Nat) (b.val : Nat) 1 = true ∧ Builtin.Range.rangeSize (a.val : Nat) (b.val : Nat) 1 = ((b.val - a.val : Nat) : Int) := by decide
theorem rsize' {a b : Nat} (h : a ≤ b) (hb : b < 5) : Builtin.Range.small (a : Int) (b : Int) 1 = true ∧ Builtin.Range.rangeSize (a : Int) (b : Int) 1 = ((b - a : Nat) : Int) := rsize ⟨a, by omega⟩ ⟨b, hb⟩ h
end Mine

end
section
open PySem PySem.W PyProof.Rows PySem.Calls PySem.Spec
namespace Mine
open LCg
def CtMin (w : World) (sqM : List (List Int)) (rows cols : List Int) (dd uu : Nat) : Prop :=
  ∀ (p : Program) (loose : List Str) (mean : ExcName → Option Value) (mg mb : Str → Option Value)
    (dp un : Nat) (gd : Option (List Code)) (cn : Str) (cs : Scope) (a : Addr) (ccd : Value) (cl : List (Str × Addr)) (outer : List Env) (A₀ : Around) (base h₀ : Heap) (L : Addr) (m : Str → Option Value) (news : List (Addr × Obj)) (s : Shared)
    (Q E : Value → Shared → Prop) (sqA rA cA : Addr) (ri ci : List Value) (nr nc : Nat),
    Below A₀ base outer h₀ → Fr h₀ L s.heap m → (_root_.hd.heap_39 w.params).In h₀ → News h₀ L s.heap news → Top p loose mean mg mb h₀ → cs.kind = .function →
    DatIn news (.ref sqA) (.list (sqM.map rowD)) → (rA, listOf ri.toArray nr) ∈ news → IntsAre ri rows → (cA, listOf ci.toArray nc) ∈ news → IntsAre ci cols →
    dp + dd < recursionLimit → un + uu < cLine →
    (∀ t h' tk', Fr h₀ L h' m → News h₀ L h' news → Q (.int (minorV sqM rows cols) t) { s with heap := h', toks := tk' }) →
    wpAny (model PySem.Challenge.rw_ta0142_02.row.prog w) (ktrTop dp un gd cn cs L a ccd cl outer) (call (.ref 61) [.ref sqA, .ref rA, .ref cA]) Q E s
theorem min_use {w : World} {sqM : List (List Int)} {rows cols : List Int} {dd uu : Nat} (C : CtMin w sqM rows cols dd uu) {p : Program} {loose : List Str} {mean : ExcName → Option Value} {mg mb : Str → Option Value}
    {dp un : Nat} {gd : Option (List Code)} {cn : Str} {cs : Scope} {a : Addr} {ccd : Value} {cl : List (Str × Addr)} {outer : List Env} {A₀ : Around} {base h₀ : Heap} {L : Addr} {m : Str → Option Value} {news : List (Addr × Obj)} {s : Shared}
    {Q E : Value → Shared → Prop} {sqA rA cA : Addr} {ri ci : List Value} {nr nc : Nat}
    (B : Below A₀ base outer h₀) (F : Fr h₀ L s.heap m) (X : (_root_.hd.heap_39 w.params).In h₀) (N : News h₀ L s.heap news) (T : Top p loose mean mg mb h₀) (hk : cs.kind = .function)
    (hS : DatIn news (.ref sqA) (.list (sqM.map rowD))) (hR : (rA, listOf ri.toArray nr) ∈ news) (hRi : IntsAre ri rows) (hC : (cA, listOf ci.toArray nc) ∈ news) (hCi : IntsAre ci cols)
    (hd : dp + dd < recursionLimit) (hu : un + uu < cLine)
    (ret : ∀ t h' tk', Fr h₀ L h' m → News h₀ L h' news → Q (.int (minorV sqM rows cols) t) { s with heap := h', toks := tk' }) :
    wpAny (model PySem.Challenge.rw_ta0142_02.row.prog w) (ktrTop dp un gd cn cs L a ccd cl outer) (call (.ref 61) [.ref sqA, .ref rA, .ref cA]) Q E s :=
  C _ _ _ _ _ _ _ _ _ _ _ _ _ _ _ _ _ _ _ _ _ _ _ _ _ _ _ _ _ _ B F X N T hk hS hR hRi hC hCi hd hu ret
local macro_rules | `(tactic| k_mem) => `(tactic| first | exact List.mem_cons_self | with_reducible assumption | (refine' List.mem_cons_of_mem _ ?_; k_mem))
local macro_rules | `(tactic| k_lt $h:ident) => `(tactic| skip)
local macro_rules | `(tactic| lcg_sub) => `(tactic| repeat (first | (with_reducible exact sub_self) | refine sub_tail ?_))
theorem sgn_sz (i : Nat) : Sz (1 - 2 * ((i : Nat) : Int).fmod 2) 1 := by
  unfold Sz
  rw [Int.fmod_eq_emod_of_nonneg _ (by decide)]
  omega
theorem ent_sz {sqM : List (List Int)} (h : ∀ row ∈ sqM, ∀ x ∈ row, Sz x 1100000) (i j : Nat) : Sz ((sqM.getD i []).getD j 0) 1100000 := by
  have z : Sz 0 1100000 := Sz.mono (k := 0) (by unfold Sz; decide) (by decide)
  have e : sqM.getD i [] ∈ sqM ∨ sqM.getD i [] = [] := by
    rw [List.getD_eq_getElem?_getD]
    by_cases h2 : i < sqM.length
    · rw [List.getElem?_eq_getElem h2]; exact .inl (List.getElem_mem _)
    · rw [List.getElem?_eq_none (by omega)]; exact .inr rfl
  rcases e with e | e
  · generalize sqM.getD i [] = row at *
    rw [List.getD_eq_getElem?_getD]
    by_cases h1 : j < row.length
    · rw [List.getElem?_eq_getElem h1]; exact h _ e _ (List.getElem_mem _)
    · rw [List.getElem?_eq_none (by omega)]; exact z
  · rw [e]; exact z
theorem minor_sz {sqM : List (List Int)} (h : ∀ row ∈ sqM, ∀ x ∈ row, Sz x 1100000) : ∀ (rows cols : List Int), cols.length ≤ 4 → Sz (minorV sqM rows cols) (rows.length * 1100010 + 1) := by
  intro rows
  induction rows with
  | nil => intro cols _; unfold minorV; exact sz_one (by simp)
  | cons r rs ih =>
    intro cols hc
    unfold minorV
    have term : ∀ k, Sz ((1 - 2 * ((k : Nat) : Int).fmod 2) * ((sqM.getD r.toNat []).getD (cols.getD k 0).toNat 0) * minorV sqM rs (cols.take k ++ cols.drop (k + 1))) (1 + 1100000 + (rs.length * 1100010 + 1)) := by
      intro k
      refine ((sgn_sz k).mul ?_).mul (ih _ (by simp; omega))
      exact ent_sz h _ _
    have all : ∀ (n : Nat) (g : Nat → Int) (K : Nat), (∀ k, Sz (g k) K) → Sz (((List.range n).map g).sum) (K + n) := by
      intro n g K hg
      induction n with
      | zero => exact Sz.mono (k := 0) (show Sz 0 0 by unfold Sz; decide) (by omega)
      | succ n ihn =>
        rw [List.range_succ, List.map_append, List.sum_append, List.map_singleton, List.sum_singleton]
        refine (ihn.add (hg n)).mono ?_
        omega
    refine (all _ _ _ term).mono ?_
    rw [List.length_cons]
    omega
set_option maxHeartbeats 8000000 in
theorem min_step (w : World) (sqM : List (List Int)) (r : Int) (rs cols : List Int) (dd uu : Nat) (hsq : sqM.length = 4) (hrow : ∀ row ∈ sqM, row.length = 4) (hr : 0 ≤ r ∧ r < 4) (hc4 : cols.length ≤ 4) (hcs : ∀ c ∈ cols, 0 ≤ c ∧ c < 4) (hz : ∀ row ∈ sqM, ∀ x ∈ row, Sz x 1100000) (hrl : rs.length < 10)
    (IH : ∀ k, k < cols.length → CtMin w sqM rs (cols.take k ++ cols.drop (k + 1)) dd uu) : CtMin w sqM (r :: rs) cols (dd + 4) (uu + 100) := by
  unfold CtMin
  k_fill
  k_with_none
  k_with "call builtin:len" => ((k_extra "mylen"))
  k_with "compareOp Eq ref ref" => ((k_here; k_extra "myeq"))
  k_with "eval ListComp" => ((k_extra "mycomp"))
  k_with "subscriptTail Name Constant ref int" => ((k_here; k_extra "it0"))
  k_with "subscriptTail Name Subscript ref int" => ((k_here; k_extra "sqr"))
  k_with "subscriptTail Name Name ref int" => ((k_here; k_extra "colk"))
  k_with "subscriptTail Subscript" => ((k_here; k_extra "elem"))
  k_with "subscriptTail Name Slice ref ref" => ((k_here; k_extra "mysl"))
  k_with "binaryOp Add ref ref" => ((k_here; k_extra "myadd"))
  k_with "binaryOp Mult int int" => ((k_extra "mymul"))
  k_with "LeaveK" => ((refine Stop.go ?_))
  k_with "call builtin:sum" => ((k_here; k_extra "mysum"))
  k_with "call ref" => ((k_here; k_extra "mycall"))
  k_with "CompSrc" => ((refine Stop.go ?_))
  intro p loose mean mg mb dp un gd cn cs ad ccd cl outer A₀ base h₀ L m news s Q E sqA rA cA ri ci nr nc B F X N T hk hS hR hRi hC hCi hroom hunits hret
  refine wpAny_call ?_
  refine' code_defC ?k1 ?k2 ?k3 ?k4 ?k5 ?kA ?kF ?kK ?k6 ?k7 ?k8 ?k9 ?kB ?kD ?_ ?c2 ?c3 ?c4; (case kA => exact rfl); (case kF => exact rfl); (case kK => assumption); (case k1 => k_asm); (case k2 => k_asm); (case k3 => k_asm); (case k4 => k_asm); (case k5 => k_asm); (case k6 => k_is); (case k7 => k_is); (case k8 => ktr_room); (case k9 => first | exact BindsTo.of_eq rfl | exact binds_K (by k_in) rfl (by k_is) rfl rfl rfl | fail "k_enter: no rule for these arguments"); (case kB => exact rfl); (case kD => decide +kernel); (case c2 => exact rfl); (case c3 => exact rfl); (case c4 => exact rfl); k_whole; intro g' L' h' tk' cells' FG' F' N' Y' B' X' T' l1
  k_cells Y'; (try simp only [List.cons_append, List.nil_append] at N'); (try dsimp only); (try k_lift B'); (try k_fold)
  clear F N X B T l1
  rename_i oc orr osq d1 d2 d3
  replace F' := (show Fr g' L' h' (fun _ => none) from F')
  replace d1 := (show oc.data = .cell (some (.ref cA)) from d1)
  replace d2 := (show orr.data = .cell (some (.ref rA)) from d2)
  replace d3 := (show osq.data = .cell (some (.ref sqA)) from d3)
  have kCi : Stop (IntsAre ci cols) := ⟨hCi⟩
  have kRi : Stop (IntsAre ri (r :: rs)) := ⟨hRi⟩
  k_with "mylen" => (k_dflt (refine my_lenI (by k_asm) (by k_mem) kCi.go.length (by omega) ?_))
  k_with "myeq" => (k_dflt (refine ke_eq_ints (ys := []) (News.isList (by k_asm) (by k_mem)) (News.isList (by k_asm) (by k_mem)) kRi.go .nil (by ktr_units) ?_); (simp only [reduceCtorEq, decide_false]))
  k_with "mycomp" => (k_dflt (refine LCg.ListComp_U (F₀ := by k_asm) (by rfl) (by decide) (by rfl) (by decide) (by rfl) ?_))
  k_steps
  refine Stop.mk ?_
  have hrs := rsize' (a := 0) (b := cols.length) (by omega) (by omega)
  refine LCg.CompSrc.range (n := cols.length) (by rfl) (a := 0) (by assumption) (by assumption) (by assumption) (by simpa using hrs.1) (by simpa using hrs.2) (by rw [sizeLine_eq]; omega) ?_
  intro gg
  refine rest_data [] (fun k => .int ((1 - 2 * ((k : Nat) : Int).fmod 2) * ((sqM.getD r.toNat []).getD (cols.getD k 0).toNat 0) * minorV sqM rs (cols.take k ++ cols.drop (k + 1)))) (fun _ => trivial) ?step ?fin
  case step =>
    intro i objs led v C oC m₂ h tk E' hi hv hNs hx F N hsub
    obtain ⟨t, rfl⟩ := hv
    have inn : ∀ p ∈ (L' + 1 + 1 + 1, oc) :: (L' + 1 + 1, orr) :: (L' + 1, osq) :: news, p ∈ led := fun p hp => hsub p (List.mem_append_right _ (List.mem_cons_of_mem _ hp))
    have mc := inn _ List.mem_cons_self
    have mr := inn _ (List.mem_cons_of_mem _ List.mem_cons_self)
    have ms := inn _ (List.mem_cons_of_mem _ (List.mem_cons_of_mem _ List.mem_cons_self))
    have inn2 : ∀ p ∈ news, p ∈ led := fun p hp => inn p (List.mem_cons_of_mem _ (List.mem_cons_of_mem _ (List.mem_cons_of_mem _ hp)))
    replace hS := hS.mono inn2
    replace hR := inn2 _ hR
    replace hC := inn2 _ hC
    clear inn inn2 hsub
    rw [Int.zero_add] at hx
    have hlen : (sqM.getD r.toNat []).length = 4 := by
      rw [List.getD_eq_getElem?_getD, List.getElem?_eq_getElem (by omega)]
      exact hrow _ (List.getElem_mem _)
    have hck : 0 ≤ cols.getD i 0 ∧ cols.getD i 0 < 4 := by
      rw [List.getD_eq_getElem?_getD, List.getElem?_eq_getElem hi]
      exact hcs _ (List.getElem_mem _)
    have hze : Sz ((sqM.getD r.toNat []).getD (cols.getD i 0).toNat 0) 1100000 := ent_sz hz _ _
    have hzs := sgn_sz i
    have hzp := hzs.mul hze
    have hzm := minor_sz hz rs (cols.take i ++ cols.drop (i + 1)) (by simp; omega)
    k_with "it0" => (k_dflt (refine my_itemI (by k_asm) (by k_mem) kRi.go (by decide) (by simp only [List.length_cons]; omega) (by decide) ?_); intro t0; (simp only [Int.toNat_zero, List.getD_cons_zero]))
    k_with "sqr" => (k_dflt (refine my_itemR (by k_asm) hS (by lcg_sub) hr.1 (by omega) (by omega) ?_); intro ra rvs rc hra hrvs)
    k_with "colk" => (k_dflt (refine my_itemI (by k_asm) (by k_mem) kCi.go (by omega) (by omega) (by omega) ?_); intro t0; (simp only [Int.toNat_natCast]))
    k_with "elem" => (k_dflt (refine my_itemI (by k_asm) (by k_mem) (by assumption) hck.1 (by omega) (by omega) ?_); intro t0)
    k_with "mysl" => (k_dflt (first
      | (refine kmk_slice_ints (ms := rs) (by k_asm) (by k_asm) (News.isList (by k_asm) (by k_mem)) (IsPart.int _ _) IsPart.none kRi.go (by with_unfolding_all exact kmk_from kRi.go (by decide)) rfl ?_ (by with_unfolding_all rfl) (by kmk_pure) (kmk_sz kRi.go (by rw [sizeLine_eq]; simp only [List.length_cons]; omega)))
      | (refine kmk_slice_ints (ms := cols.take i) (by k_asm) (by k_asm) (News.isList (by k_asm) (by k_mem)) IsPart.none (IsPart.int _ _) kCi.go (by with_unfolding_all exact kmk_upto kCi.go (Int.natCast_nonneg _)) rfl ?_ (by with_unfolding_all rfl) (by kmk_pure) (kmk_sz kCi.go (by rw [sizeLine_eq]; omega)))
      | (refine kmk_slice_ints (ms := cols.drop (i + 1)) (by k_asm) (by k_asm) (News.isList (by k_asm) (by k_mem)) (IsPart.int _ _) IsPart.none kCi.go (by with_unfolding_all exact kmk_from kCi.go (by omega)) rfl ?_ (by with_unfolding_all rfl) (by kmk_pure) (kmk_sz kCi.go (by rw [sizeLine_eq]; omega)))); intro D' ws' h' F' N' l1 hI' hC' hL'; clear hC' hL')
    k_with "myadd" => (k_dflt (refine kmk_add_ints (by k_asm) (by k_asm) (News.isList (by k_asm) (by k_mem)) (News.isList (by k_asm) (by k_mem)) (by assumption) (by assumption) ?_ (by rw [sizeLine_eq, List.length_take, List.length_drop]; omega)); intro D' ws' h' F' N' l1 hI')
    k_with "mycall" => (refine' min_use (IH i hi) ?cB ?cF ?cX ?cN ?cT ?ck ?cS ?cr1 ?cr2 ?cc1 ?cc2 ?cd ?cu ?_; (case cB => k_asm); (case cF => k_asm); (case cX => k_asm); (case cN => k_asm); (case cT => k_asm); (case ck => exact rfl); (case cS => exact hS.mono (by lcg_sub)); (case cr1 => k_mem); (case cr2 => assumption); (case cc1 => k_mem); (case cc2 => assumption); (case cd => ktr_room); (case cu => ktr_units); (intro t9 h9 tk9 F9 N9); (try dsimp only); (try k_fold))
    k_with "mymul" => (first | (with_reducible refine mul_int ?_ (mul_ok hzs hze (by decide))) | (with_reducible refine mul_int ?_ (mul_ok hzp hzm (by omega))))
    k_steps
    exact Stop.mk (DatEnd.intro [] [] (by k_asm) (by k_asm) rfl (by lcg_sub) (fun _ h => nomatch h) (fun _ h => nomatch h) .nil .nil (.int _ _))
  case fin =>
    intro ys objs hl hc ha hd
    replace hd := ints_of_dat (ns := (List.range cols.length).map fun k => (1 - 2 * ((k : Nat) : Int).fmod 2) * ((sqM.getD r.toNat []).getD (cols.getD k 0).toNat 0) * minorV sqM rs (cols.take k ++ cols.drop (k + 1))) (by rw [List.map_map]; exact hd)
    unfold FinE
    intro D h3 tk3 F3 N3 off3
    k_with "mysum" => (k_dflt (refine sumK (by rfl) (by k_asm) (by k_asm) (News.isList (by k_asm) (by k_mem)) hd ?_); intro h' tk' t' F' N')
    k_steps
    refine Stop.mk (leaveK_ (by k_asm) (by k_asm) fun F5 N5 => ?_)
    exact hret _ _ _ F5 fun p hp => N5 p (List.mem_cons_of_mem _ (List.mem_append_right _ (List.mem_cons_of_mem _ (List.mem_cons_of_mem _ (List.mem_cons_of_mem _ (List.mem_cons_of_mem _ hp))))))
end Mine

end
section
open PySem PySem.W PyProof.Rows PySem.Calls PySem.Spec
namespace Mine
open LCg
local macro_rules | `(tactic| k_mem) => `(tactic| first | exact List.mem_cons_self | with_reducible assumption | (refine' List.mem_cons_of_mem _ ?_; k_mem))
local macro_rules | `(tactic| k_lt $h:ident) => `(tactic| skip)
set_option maxHeartbeats 8000000 in
theorem min_zero (w : World) (sqM : List (List Int)) (cols : List Int) : CtMin w sqM [] cols 4 100 := by
  unfold CtMin
  k_fill
  k_with_none
  k_with "compareOp Eq ref ref" => ((k_here; k_extra "myeq"))
  k_with "LeaveK" => ((refine Stop.go ?_))
  intro p loose mean mg mb dp un gd cn cs ad ccd cl outer A₀ base h₀ L m news s Q E sqA rA cA ri ci nr nc B F X N T hk hS hR hRi hC hCi hroom hunits hret
  refine wpAny_call ?_
  refine' code_defC ?k1 ?k2 ?k3 ?k4 ?k5 ?kA ?kF ?kK ?k6 ?k7 ?k8 ?k9 ?kB ?kD ?_ ?c2 ?c3 ?c4; (case kA => exact rfl); (case kF => exact rfl); (case kK => assumption); (case k1 => k_asm); (case k2 => k_asm); (case k3 => k_asm); (case k4 => k_asm); (case k5 => k_asm); (case k6 => k_is); (case k7 => k_is); (case k8 => ktr_room); (case k9 => first | exact BindsTo.of_eq rfl | exact binds_K (by k_in) rfl (by k_is) rfl rfl rfl | fail "k_enter: no rule for these arguments"); (case kB => exact rfl); (case kD => decide +kernel); (case c2 => exact rfl); (case c3 => exact rfl); (case c4 => exact rfl); k_whole; intro g' L' h' tk' cells' FG' F' N' Y' B' X' T' l1
  k_cells Y'; (try simp only [List.cons_append, List.nil_append] at N'); (try dsimp only); (try k_lift B'); (try k_fold)
  clear F N X B T l1
  rename_i oc orr osq d1 d2 d3
  replace F' := (show Fr g' L' h' (fun _ => none) from F')
  replace d1 := (show oc.data = .cell (some (.ref cA)) from d1)
  replace d2 := (show orr.data = .cell (some (.ref rA)) from d2)
  replace d3 := (show osq.data = .cell (some (.ref sqA)) from d3)
  k_with "myeq" => (k_dflt (refine ke_eq_ints (ys := []) (News.isList (by k_asm) (by k_mem)) (News.isList (by k_asm) (by k_mem)) hRi .nil (by ktr_units) ?_); (simp only [decide_true]))
  k_steps
  refine Stop.mk (leaveK_ (by k_asm) (by k_asm) fun F5 N5 => ?_)
  exact hret _ _ _ F5 fun p hp => N5 p (List.mem_cons_of_mem _ (List.mem_cons_of_mem _ (List.mem_cons_of_mem _ (List.mem_cons_of_mem _ hp))))
theorem ctmin_mono {w : World} {sqM : List (List Int)} {rows cols : List Int} {dd uu dd' uu' : Nat} (C : CtMin w sqM rows cols dd uu) (h1 : dd ≤ dd') (h2 : uu ≤ uu') : CtMin w sqM rows cols dd' uu' := by
  unfold CtMin at *
  intro p loose mean mg mb dp un gd cn cs ad ccd cl outer A₀ base h₀ L m news s Q E sqA rA cA ri ci nr nc B F X N T hk hS hR hRi hC hCi hroom hunits hret
  exact C _ _ _ _ _ _ _ _ _ _ _ _ _ _ _ _ _ _ _ _ _ _ _ _ _ _ _ _ _ _ B F X N T hk hS hR hRi hC hCi (by omega) (by omega) hret
theorem min_all (w : World) (sqM : List (List Int)) (hsq : sqM.length = 4) (hrow : ∀ row ∈ sqM, row.length = 4) (hz : ∀ row ∈ sqM, ∀ x ∈ row, Sz x 1100000) :
    ∀ (rows cols : List Int), rows.length ≤ 4 → (∀ r ∈ rows, 0 ≤ r ∧ r < 4) → cols.length ≤ 4 → (∀ c ∈ cols, 0 ≤ c ∧ c < 4) → CtMin w sqM rows cols (4 * rows.length + 4) (100 * rows.length + 100) := by
  intro rows
  induction rows with
  | nil => intro cols _ _ _ _; exact min_zero w sqM cols
  | cons r rs ih =>
    intro cols hl hr hc hcs
    rw [List.length_cons] at hl
    refine ctmin_mono (min_step w sqM r rs cols (4 * rs.length + 4) (100 * rs.length + 100) hsq hrow (hr r List.mem_cons_self) hc hcs hz (by omega) fun k hk => ?_) (by rw [List.length_cons]; omega) (by rw [List.length_cons]; omega)
    refine ih _ (by omega) (fun x hx => hr x (List.mem_cons_of_mem _ hx)) (by rw [List.length_append, List.length_take, List.length_drop]; omega) fun c hc' => ?_
    rcases List.mem_append.mp hc' with h | h
    · exact hcs c (List.mem_of_mem_take h)
    · exact hcs c (List.mem_of_mem_drop h)
theorem min_ct (w : World) (sqM : List (List Int)) (hsq : sqM.length = 4) (hrow : ∀ row ∈ sqM, row.length = 4) (hz : ∀ row ∈ sqM, ∀ x ∈ row, Sz x 1100000) (rows cols : List Int) (hr : rows.length ≤ 4) (hr4 : ∀ r ∈ rows, 0 ≤ r ∧ r < 4) (hc : cols.length ≤ 4) (hc4 : ∀ c ∈ cols, 0 ≤ c ∧ c < 4) : CtMin w sqM rows cols 20 500 :=
  ctmin_mono (min_all w sqM hsq hrow hz rows cols hr hr4 hc hc4) (by omega) (by omega)
end Mine

end
section
open PySem PySem.W PyProof.Rows PySem.Calls PySem.Spec
namespace Mine
/-- what _law_parted gives -/
def CtPart (w : World) (f : Addr) (a b : Int) (it : Tok → Tok → Array Value) (dd uu : Nat) : Prop :=
  ∀ (p : Program) (loose : List Str) (mean : ExcName → Option Value) (mg mb : Str → Option Value)
    (dp un : Nat) (gd : Option (List Code)) (cn : Str) (cs : Scope) (ad : Addr) (ccd : Value) (cl : List (Str × Addr)) (outer : List Env) (A₀ : Around) (base h₀ : Heap) (L : Addr) (m : Str → Option Value) (tb rest : List (Addr × Obj)) (s : Shared)
    (Q E : Value → Shared → Prop) (ta tt : Tok),
    Below A₀ base outer h₀ → CodeHd base 34 30 → CodeHd base 41 37 → Fr h₀ L s.heap m → (_root_.hd.heap_39 w.params).In h₀ → News h₀ L s.heap (rest ++ tb) → Top p loose mean mg mb h₀ → cs.kind = .function →
    Tabs tb → Over rest → dp + dd < recursionLimit → un + uu < cLine →
    (∀ D t1 t2 c h' tk' tb', Tabs tb' → AllLt D rest → Fr h₀ L h' m → News h₀ L h' ((D, ({ cls := .type "tuple", data := .seq (it t1 t2) c } : Obj)) :: (rest ++ tb')) → Q (.ref D) { s with heap := h', toks := tk' }) →
    wpAny (model PySem.Challenge.rw_ta0142_02.row.prog w) (ktrTop dp un gd cn cs L ad ccd cl outer) (call (.ref f) [.int a ta, .int b tt]) Q E s
local macro_rules | `(tactic| k_mem) => `(tactic| first | exact List.mem_cons_self | assumption | (refine' List.mem_cons_of_mem _ ?_; k_mem))
set_option maxHeartbeats 8000000 in
theorem parted_ct (w : World) (a b : Int) (hb : b ≠ 0) (hza : (Builtin.Int.intBits a : Int) ≤ 16777216) (hzb : (Builtin.Int.intBits b : Int) ≤ 16777216) :
    CtPart w 68 a b (fun t1 t2 => #[.int (a.fdiv b) t1, .int (a.fmod b) t2]) 140 1100 := by
  unfold CtPart
  k_fill
  k_with_none
  k_with "call ref" => ((k_here; k_extra "mycall"))
  intro p loose mean mg mb dp un gd cn cs ad ccd cl outer A₀ base h₀ L m tb rest s Q E ta tt B hC1 hC2 F X N T hk htb hover hroom hunits hret
  refine wpAny_call ?_
  k_dflt ktr_enter
  k_with_none
  k_with "call ref" => ((k_here; k_extra "mycall"))
  k_with "mycall" => (refine' cdiv_use (idiv_ct w a b hb hza hzb) ?B hC1 hC2 ?F ?X ?N ?T ?hk htb hover ?hd ?hu ?_; (case B => k_asm); (case F => k_asm); (case X => k_asm); (case N => k_asm); (case T => k_asm); (case hk => exact rfl); (case hd => ktr_room); (case hu => ktr_units); (intro D1 ta' tb' c' h' tk' tbs' htbs' l1 F' N'); (try dsimp only); (try k_fold))
  k_steps
  all_goals exact hret _ _ _ _ _ _ _ htbs' l1 (by k_asm) (by k_asm)
set_option maxHeartbeats 8000000 in
theorem idiv_zero (w : World) (a : Int) : True := trivial
end Mine

end
section
open PySem PySem.W PyProof.Rows PySem.Calls PySem.Spec
namespace Mine
section
variable {prog : Program} {w : World} {A₀ A : Around} {s : Shared} {base h₀ : Heap} {L a : Addr} {m : Str → Option Value} {env : Env} {news : List (Addr × Obj)} {K : Frag} {p : Program} {loose : List Str} {mean : ExcName → Option Value} {mg mb : Str → Option Value}
    {R : Result → Shared → Prop} {name qual : Str} {params : Arguments} {body : List Stmt} {scope : Scope} {dV kV doc pm cdv ct oc : Value} {an od : Option Addr} {osl : Array (Option Value)} {f : Addr} {args : Args} {binds : List (Str × Value)}
theorem code_defSX (B : Below A₀ base [] h₀) (F : Fr h₀ L s.heap m) (X₀ : K.In h₀) (N : News h₀ L s.heap news) (T : Top p loose mean mg mb h₀) (hA : A.frames = some [env]) (hf : env.frame = some L) (hke : env.scope.kind = .function)
    (ho : K.lookup f = some ⟨oc, od, .func (fnOf name qual params body scope dV kV doc pm an cdv ct), osl⟩) (hcd : codeIn K cdv qual = true) (hroom : A.depth < recursionLimit)
    (hbind : BindsTo s (fnOf name qual params body scope dV kV doc pm an cdv ct) args binds) (hloc : ∀ y ∈ binds, scope.names.lookup y.1 = some .local)
    (h : ∀ g L' h₁, Fr h₀ L g m → Fr g L' h₁ (fun y => binds.reverse.lookup y) → News g L' h₁ news → Below A base [env] g → K.In g → Top p loose mean mg mb g → KtsDicts ([env].filterMap (·.frame)) g →
      wpAny (model prog w) (A.deeper (envOf qual scope L' f cdv)) (execs body (envOf qual scope L' f cdv))
        (fun fl s' => LeaveS0 ([env].filterMap (·.frame)) h₀ L m g R (match fl with | .ret v => v | _ => .none) s')
        (fun e s' => wpAny (model prog w) (A.deeper (envOf qual scope L' f cdv)) (leaving (envOf qual scope L' f cdv) e) (fun _ s'' => R (.error e) s'') (fun e' s'' => R (.error e') s'') s')
        { s with heap := h₁, toks := s.toks + binds.length })
    (hco : scope.isCoroutine = false) (hgen : scope.isGenerator = false) (hk : scope.kind = .function)
    (hcell : ∀ x ∈ scope.names, x.2 ≠ .cell) : codeAny (model prog w) A (.call (.ref f) args) R s := by
  have X := X₀.keeps F.keep
  refine codeAny_call_def (fd := fnOf name qual params body scope dV kV doc pm an cdv ct) (body := body) (binds := binds) hroom (X _ _ ho) rfl (T.nolimit.keeps F.keep) (codeRec_of X hcd) rfl hbind hcell hloc (fun h₁ hns hk₁ => ?_) hco hgen hk
  obtain ⟨Fg, B₂, st, _⟩ := groundX (R := R) B F N hA hf hke
  obtain ⟨oL, es, ep, hLg, hLd, hLk, hLf⟩ := id Fg.ns
  have hfm : ∀ b, b ∈ ([env].filterMap (·.frame)) → b = L := fun b hb => by
    simp [hf] at hb; exact hb
  refine wpAny_mono (h _ s.heap.objs.size h₁ Fg ⟨hns, fun b o e => hk₁ b o (of_hideAll _ e), Nat.le_of_eq (hideAll_size _ _)⟩
    (fun p hp => ⟨hk₁ _ _ (N p hp).1, Nat.ne_of_lt (Heap.lt_size (N p hp).1), hideAll_none _ (List.mem_map_of_mem hp)⟩) B₂ (X₀.keeps st) (T.keeps st) (fun b hb => by
      rw [hfm b hb]; exact ⟨oL, es, ep, hLg, hLd⟩)) (fun fl s' hl => ?_) fun _ _ y => y
  obtain ⟨g', L', m', news', T', F', N', k⟩ := hl
  have nL₀ : h₀.get? L = none := kts_self F
  obtain ⟨sl, hs⟩ := T'.up hLg
  refine k ⟨⟨_, es, ep, F'.keep _ _ hs, hLd, hLk, hLf⟩, fun b o e => F'.keep b o (T'.other b o (st b o e) (fun q => by
    rw [hfm b q, nL₀] at e
    cases e)), F.above⟩ fun p hp => ⟨(N' p hp).1, fun q => ?_, ?_⟩
  · have := (N' p hp).2.2; rw [q, hs] at this; cases this
  · cases q : h₀.get? p.1 with
    | none => rfl
    | some o =>
      obtain ⟨sl', hs'⟩ := T'.up (st _ _ q)
      have := (N' p hp).2.2
      rw [hs'] at this
      cases this
end
local macro_rules | `(tactic| k_mem) => `(tactic| first | exact List.mem_cons_self | with_reducible assumption | (refine' List.mem_cons_of_mem _ ?_; k_mem))
set_option maxHeartbeats 8000000 in
theorem parted_zero (w : World) (b : Int) (p : Program) (loose : List Str) (mean : ExcName → Option Value) (mg mb : Str → Option Value)
    (dp un : Nat) (gd : Option (List Code)) (cn : Str) (cs : Scope) (ad : Addr) (ccd : Value) (cl : List (Str × Addr)) (A₀ : Around) (h₀ : Heap) (L : Addr) (m : Str → Option Value) (news : List (Addr × Obj)) (s : Shared)
    (Q E : Value → Shared → Prop) (ta tt : Tok)
    (B : Below A₀ h₀ [] h₀) (F : Fr h₀ L s.heap m) (X : (_root_.hd.heap_39 w.params).In h₀) (N : News h₀ L s.heap news) (T : Top p loose mean mg mb h₀) (hk : cs.kind = .function) (hroom : dp + 140 < recursionLimit) (hunits : un + 1100 < cLine)
    (hret : ∀ D t1 t2 c h' tk', AllLt D news → Fr h₀ L h' m → News h₀ L h' ((D, ({ cls := .type "tuple", data := .seq #[.str (Str.ofString "refused") t1, .int b t2] c } : Obj)) :: news) → Q (.ref D) { s with heap := h', toks := tk' }) :
    wpAny (model PySem.Challenge.rw_ta0142_02.row.prog w) (ktrTop dp un gd cn cs L ad ccd cl []) (call (.ref 68) [.int b ta, .int 0 tt]) Q E s := by
  revert X N T
  k_fill
  k_with_none
  k_with "call ref" => ((k_here; k_extra "mycall"))
  k_with "exec Raise some none" => ((k_here; k_extra "myraise"))
  k_with "leaving ref" => ((refine Stop.go ?_))
  intro X N T
  refine wpAny_call ?_
  k_dflt (refine' code_defSX ?k1 ?k2 ?k3 ?k4 ?k5 ?kA ?kF ?kK ?k6 ?k7 ?k8 ?k9 ?kB ?_ ?c2 ?c3 ?c4 ?c5; (case kA => exact rfl); (case kF => exact rfl); (case kK => assumption); (case k1 => k_asm); (case k2 => k_asm); (case k3 => k_asm); (case k4 => k_asm); (case k5 => k_asm); (case k6 => k_is); (case k7 => k_is); (case k8 => ktr_room); (case k9 => exact BindsTo.of_eq rfl); (case c5 => decide); (case kB => exact locs rfl); (case c2 => exact rfl); (case c3 => exact rfl); (case c4 => exact rfl); k_whole; intro g' L' h' FG' F' N' B' X' T' D'; (try dsimp only); (try k_fold))
  k_with_none
  k_with "call ref" => ((k_here; k_extra "mycall"))
  k_with "exec Raise some none" => ((k_here; k_extra "myraise"))
  k_with "leaving ref" => ((refine Stop.go ?_))
  k_with "mycall" => (refine wpAny_call ?_; k_dflt (refine' code_def ?k1 ?k2 ?k3 ?k4 ?k5 ?kA ?kF ?kK ?k6 ?k7 ?k8 ?k9 ?kB ?_ ?c2 ?c3 ?c4 ?c5; (case kA => exact rfl); (case kF => exact rfl); (case kK => exact rfl); (case k1 => k_asm); (case k2 => k_asm); (case k3 => k_asm); (case k4 => k_asm); (case k5 => k_asm); (case k6 => k_is); (case k7 => k_is); (case k8 => ktr_room); (case k9 => exact BindsTo.of_eq rfl); (case c5 => decide); (case kB => exact locs rfl); (case c2 => exact rfl); (case c3 => exact rfl); (case c4 => exact rfl); k_whole; intro g2 L2 h2 FG2 F2 N2 B2 X2 T2; (try dsimp only); (try k_fold)))
  k_with "myraise" => (k_dflt (refine' Raise_classB ?hh excClass_ZeroDivisionError ?hs ?hx ?_; (case hh => rfl); (case hs => (rw [isSubtype_type]; kernel_rfl)); (case hx => (refine' name_B F2 ?n1 ?n2 ?n3 ?n4 ?n5 ?_; (case n1 => k_asm); (case n2 => k_asm); (case n3 => k_is); (case n4 => exact PyProof.Rows.Boot.«ZeroDivisionError»); (case n5 => decide); exact ⟨rfl, rfl⟩))); intro h3 e3 x3)
  k_steps
  refine Stop.mk ?_
  refine leave_newS B2 x3 F2 N2 fun h4 R4 _ U4 => ?_
  dsimp only
  refine caught_SN0 (T' := "ZeroDivisionError") R4 FG2 B' U4 X T D' .refl ?ex PyProof.Rows.Boot.«ZeroDivisionError» (by decide) PySem.F.isExc_ZeroDivisionError PySem.F.notTuple_ZeroDivisionError (by rw [isSubtype_type]; kernel_rfl) ?_
  case ex => k_is
  intro h5 g5 T5 F5 N5 B5 X5 P5 D5
  clear F2 N2 B2 X2 T2 x3 R4 U4 FG2
  clear F' N' B' X' T'
  (try dsimp only)
  k_steps
  exact hret _ _ _ _ _ _ (allLt_of (by assumption)) (by assumption) (by assumption)
end Mine

end
section
open PySem PySem.W PyProof.Rows PySem.Calls PySem.Spec
namespace Mine
open LCg
def fst' (j : Nat) : List Int := (List.range j).map fun i => ((i : Nat) : Int)
/-- the table of the minors of order j + 1 -/
def Mt (sq : List (List Int)) (j : Nat) : List (List Int) := (List.range (4 - j)).map fun r => (List.range (4 - j)).map fun k => minorV sq (fst' j ++ [((j + r : Nat) : Int)]) (fst' j ++ [((j + k : Nat) : Int)])
def Cn (sq : List (List Int)) (j : Nat) : Int := minorV sq (fst' j) (fst' j)
abbrev intsD (ns : List Int) : Dat := .list (ns.map Dat.int)
/-- the law's state at the head of a turn -/
def LawJ (L lA : Addr) (cells : List Int) (sq : List (List Int)) (i : Nat) (_m : Str → Option Value) (news : Led) : Prop :=
  ∃ o1 o2 o3 o4 o5 o6 o7 o8 R tb cA sA l t v1 v2 v3, news = (L + 1 + 1 + 1 + 1 + 1 + 1 + 1 + 1, o1) :: (L + 1 + 1 + 1 + 1 + 1 + 1 + 1, o2) :: (L + 1 + 1 + 1 + 1 + 1 + 1, o3) :: (L + 1 + 1 + 1 + 1 + 1, o4) :: (L + 1 + 1 + 1 + 1, o5) :: (L + 1 + 1 + 1, o6) :: (L + 1 + 1, o7) :: (L + 1, o8) :: (R ++ tb) ∧
    Tabs tb ∧ Seqs R ∧ Obj.data o1 = .cell v1 ∧ Obj.data o2 = .cell v2 ∧ Obj.data o3 = .cell v3 ∧ Obj.data o4 = .cell (some (.int (Cn sq i) t)) ∧ Obj.data o5 = .cell (some (.ref l)) ∧ Obj.data o6 = .cell (some (.ref sA)) ∧ Obj.data o7 = .cell (some (.ref cA)) ∧ Obj.data o8 = .cell (some (.ref lA)) ∧
    DatIn R (.ref cA) (intsD cells) ∧ DatIn R (.ref sA) (.list (sq.map rowD)) ∧ DatIn R (.ref l) (.list ((Mt sq i).map rowD))
section
variable {prog : Program} {w : World} {A : Around} {E : Value → Shared → Prop} {s : Shared} {h₀ : Heap} {L : Addr} {m : Str → Option Value} {env : Env}
def RetOK (h₀ : Heap) (L : Addr) (s : Shared) (Q : Flow → Shared → Prop) : Prop := ∀ h' tk' m' tb, Fr h₀ L h' m' → News h₀ L h' tb → Tabs tb → Q (.ret (.bool true)) { s with heap := h', toks := tk' }
theorem for_law {target : PySem.Expr} {body : List Stmt} {Q : Flow → Shared → Prop} {I : Addr} {n : Nat} {m₀ : Str → Option Value} {news₀ : Led} (J : Nat → (Str → Option Value) → Led → Prop) (j0 : J 0 m₀ news₀) (hret : RetOK h₀ env.locals s Q)
    (step : ∀ Q' E' i m news t h tk it, RetOK h₀ env.locals s Q' → i < n → ItOK it → J i m news → Fr h₀ env.locals h m → News h₀ env.locals h ((I, it) :: news) → (∀ p ∈ news, p.1 ≠ I) →
      wpAny (model prog w) A (assign target env (.int (i : Nat) t)) (fun _ s₂ => wpAny (model prog w) A (execs body env) (ForPost h₀ env.locals { s with heap := h, toks := tk } I it (fun m' news' => J (i + 1) m' news') Q') E' s₂) E' { s with heap := h, toks := tk })
    (fin : ∀ m news h tk, J n m news → Fr h₀ env.locals h m → News h₀ env.locals h news → Q .next { s with heap := h, toks := tk }) :
    ForRest prog w A E h₀ env target body Q s I 0 n 0 m₀ news₀ :=
  for_inv J j0 (fun i m news t h tk it hi hok hJ F N off => step Q E i m news t h tk it hret hi hok hJ F N off) fin
end
end Mine

end
section
open PySem PySem.W PyProof.Rows PySem.Calls PySem.Spec
namespace Mine
open LCg
theorem off_cell {h₀ h : Heap} {L : Addr} {led R tb : Led} {c : Addr} {o : Obj} {v : Option Value} (N : News h₀ L h led) (hm : (c, o) ∈ led) (hd : o.data = .cell v) (S : Seqs R) (T : Tabs tb) (l50 : @LT.lt Nat _ 50 c) (s : ∀ p ∈ R ++ tb, p ∈ led) : ∀ p ∈ R ++ tb, p.1 ≠ c := fun p hp => by
  rcases List.mem_append.mp hp with h | h
  · exact seqs_cell S N hm hd (fun q hq => s q (List.mem_append_left _ hq)) p h
  · exact tabs_cell T N hm hd (fun q hq => s q (List.mem_append_right _ hq)) l50 p h
section
variable {a0 a1 a2 a3 b0 b1 b2 b3 c0 c1 c2 c3 d0 d1 d2 d3 : Int}
def sqL (a0 a1 a2 a3 b0 b1 b2 b3 c0 c1 c2 c3 d0 d1 d2 d3 : Int) : List (List Int) := [[a0, a1, a2, a3], [b0, b1, b2, b3], [c0, c1, c2, c3], [d0, d1, d2, d3]]
theorem fm0 : ((0 : Nat) : Int).fmod 2 = 0 := rfl
theorem fm1 : ((1 : Nat) : Int).fmod 2 = 1 := rfl
theorem fm2 : ((2 : Nat) : Int).fmod 2 = 0 := rfl
theorem fm3 : ((3 : Nat) : Int).fmod 2 = 1 := rfl
/-- a minor of one row -/
theorem minor1 (sq : List (List Int)) (r x : Int) : minorV sq [r] [x] = (sq.getD r.toNat []).getD x.toNat 0 := by
  simp [minorV, List.range_succ]
theorem minor2 (sq : List (List Int)) (r : Int) (rs : List Int) (x y : Int) : minorV sq (r :: rs) [x, y] = (sq.getD r.toNat []).getD x.toNat 0 * minorV sq rs [y] - (sq.getD r.toNat []).getD y.toNat 0 * minorV sq rs [x] := by
  rw [minorV]
  simp [List.range_succ, Int.neg_mul]
  try omega
theorem minor3 (sq : List (List Int)) (r : Int) (rs : List Int) (x y z : Int) : minorV sq (r :: rs) [x, y, z] = (sq.getD r.toNat []).getD x.toNat 0 * minorV sq rs [y, z] - (sq.getD r.toNat []).getD y.toNat 0 * minorV sq rs [x, z] + (sq.getD r.toNat []).getD z.toNat 0 * minorV sq rs [x, y] := by
  rw [minorV]
  simp [List.range_succ, Int.neg_mul]
  try omega
theorem minor4 (sq : List (List Int)) (r : Int) (rs : List Int) (x y z u : Int) : minorV sq (r :: rs) [x, y, z, u] = (sq.getD r.toNat []).getD x.toNat 0 * minorV sq rs [y, z, u] - (sq.getD r.toNat []).getD y.toNat 0 * minorV sq rs [x, z, u] + (sq.getD r.toNat []).getD z.toNat 0 * minorV sq rs [x, y, u] - (sq.getD r.toNat []).getD u.toNat 0 * minorV sq rs [x, y, z] := by
  rw [minorV]
  simp [List.range_succ, Int.neg_mul]
  try omega
/-- the entry of the table j at r, k -/
def Me (sq : List (List Int)) (j r k : Nat) : Int := minorV sq (fst' j ++ [((j + r : Nat) : Int)]) (fst' j ++ [((j + k : Nat) : Int)])
theorem Mt_eq (sq : List (List Int)) (j : Nat) : Mt sq j = (List.range (4 - j)).map fun r => (List.range (4 - j)).map fun k => Me sq j r k := rfl
theorem Cn_succ (sq : List (List Int)) (j : Nat) : Cn sq (j + 1) = Me sq j 0 0 := by
  unfold Cn Me fst'
  rw [List.range_succ, List.map_append]
  rfl
/-- the entry of the square -/
abbrev En (sq : List (List Int)) (r k : Nat) : Int := (sq.getD r []).getD k 0
theorem toN (n : Nat) : ((n : Nat) : Int).toNat = n := Int.toNat_natCast n
theorem me0 (sq : List (List Int)) (r k : Nat) : Me sq 0 r k = En sq r k := by
  simp only [Me, fst', List.range_zero, List.map_nil, List.nil_append, minor1, Nat.zero_add, toN]
theorem me1 (sq : List (List Int)) (r k : Nat) : Me sq 1 r k = En sq 0 0 * En sq (1 + r) (1 + k) - En sq 0 (1 + k) * En sq (1 + r) 0 := by
  simp only [Me, fst', List.range_succ, List.range_zero, List.map_append, List.map_nil, List.map_cons, List.nil_append, List.cons_append, minor1, minor2, toN]
theorem me2 (sq : List (List Int)) (r k : Nat) : Me sq 2 r k = En sq 0 0 * (En sq 1 1 * En sq (2 + r) (2 + k) - En sq 1 (2 + k) * En sq (2 + r) 1) - En sq 0 1 * (En sq 1 0 * En sq (2 + r) (2 + k) - En sq 1 (2 + k) * En sq (2 + r) 0) + En sq 0 (2 + k) * (En sq 1 0 * En sq (2 + r) 1 - En sq 1 1 * En sq (2 + r) 0) := by
  simp only [Me, fst', List.range_succ, List.range_zero, List.map_append, List.map_nil, List.map_cons, List.nil_append, List.cons_append, minor1, minor2, minor3, toN]
theorem me3 (sq : List (List Int)) (r k : Nat) : Me sq 3 r k = En sq 0 0 * (En sq 1 1 * (En sq 2 2 * En sq (3 + r) (3 + k) - En sq 2 (3 + k) * En sq (3 + r) 2) - En sq 1 2 * (En sq 2 1 * En sq (3 + r) (3 + k) - En sq 2 (3 + k) * En sq (3 + r) 1) + En sq 1 (3 + k) * (En sq 2 1 * En sq (3 + r) 2 - En sq 2 2 * En sq (3 + r) 1))
    - En sq 0 1 * (En sq 1 0 * (En sq 2 2 * En sq (3 + r) (3 + k) - En sq 2 (3 + k) * En sq (3 + r) 2) - En sq 1 2 * (En sq 2 0 * En sq (3 + r) (3 + k) - En sq 2 (3 + k) * En sq (3 + r) 0) + En sq 1 (3 + k) * (En sq 2 0 * En sq (3 + r) 2 - En sq 2 2 * En sq (3 + r) 0))
    + En sq 0 2 * (En sq 1 0 * (En sq 2 1 * En sq (3 + r) (3 + k) - En sq 2 (3 + k) * En sq (3 + r) 1) - En sq 1 1 * (En sq 2 0 * En sq (3 + r) (3 + k) - En sq 2 (3 + k) * En sq (3 + r) 0) + En sq 1 (3 + k) * (En sq 2 0 * En sq (3 + r) 1 - En sq 2 1 * En sq (3 + r) 0))
    - En sq 0 (3 + k) * (En sq 1 0 * (En sq 2 1 * En sq (3 + r) 2 - En sq 2 2 * En sq (3 + r) 1) - En sq 1 1 * (En sq 2 0 * En sq (3 + r) 2 - En sq 2 2 * En sq (3 + r) 0) + En sq 1 2 * (En sq 2 0 * En sq (3 + r) 1 - En sq 2 1 * En sq (3 + r) 0)) := by
  simp only [Me, fst', List.range_succ, List.range_zero, List.map_append, List.map_nil, List.map_cons, List.nil_append, List.cons_append, minor1, minor2, minor3, minor4, toN]
theorem cn0 (sq : List (List Int)) : Cn sq 0 = 1 := rfl
theorem syl0 (sq : List (List Int)) (r k : Nat) : Me sq 0 (r + 1) (k + 1) * Me sq 0 0 0 - Me sq 0 (r + 1) 0 * Me sq 0 0 (k + 1) = Cn sq 0 * Me sq 1 r k := by
  rw [cn0]
  simp only [me0, me1, Nat.add_comm 1]
  grind
theorem syl1 (sq : List (List Int)) (r k : Nat) : Me sq 1 (r + 1) (k + 1) * Me sq 1 0 0 - Me sq 1 (r + 1) 0 * Me sq 1 0 (k + 1) = Cn sq 1 * Me sq 2 r k := by
  rw [Cn_succ]
  simp only [me0, me1, me2, Nat.add_comm 1, Nat.add_comm 2, Nat.zero_add, Nat.add_assoc, Nat.reduceAdd]
  generalize En sq 0 0 = a, En sq 0 1 = b, En sq 0 (k + 2) = c, En sq 1 0 = d, En sq 1 1 = e, En sq 1 (k + 2) = f, En sq (r + 2) 0 = g, En sq (r + 2) 1 = h, En sq (r + 2) (k + 2) = i
  grind
theorem syl2 (sq : List (List Int)) : Me sq 2 1 1 * Me sq 2 0 0 - Me sq 2 1 0 * Me sq 2 0 1 = Cn sq 2 * Me sq 3 0 0 := by
  rw [Cn_succ]
  simp only [me1, me2, me3, Nat.add_zero, Nat.reduceAdd]
  generalize En sq 0 0 = a0, En sq 0 1 = a1, En sq 0 2 = a2, En sq 0 3 = a3, En sq 1 0 = b0, En sq 1 1 = b1, En sq 1 2 = b2, En sq 1 3 = b3, En sq 2 0 = c0, En sq 2 1 = c1, En sq 2 2 = c2, En sq 2 3 = c3, En sq 3 0 = d0, En sq 3 1 = d1, En sq 3 2 = d2, En sq 3 3 = d3
  grind
end
end Mine

end
section
open PySem PySem.W PyProof.Rows PySem.Calls PySem.Spec
namespace Mine
open LCg
theorem part_div {c y S : Int} (hc : c ≠ 0) : (c * y + S.fmod c).fdiv c = y := by
  have e : S.fmod c = S + c * (-(S.fdiv c)) := by rw [Int.fmod_def, Int.mul_neg]; omega
  rw [Int.add_comm, e, Int.add_assoc, ← Int.mul_add, Int.add_mul_fdiv_left _ _ hc]
  omega
theorem part_mod {c y S : Int} (hc : c ≠ 0) : (c * y + S.fmod c).fmod c = S.fmod c := by
  have h1 := part_div (y := y) (S := S) hc
  rw [Int.fmod_def (c * y + S.fmod c) c, h1]
  omega
theorem Me_sz {sq : List (List Int)} (h : ∀ row ∈ sq, ∀ x ∈ row, Sz x 1100000) (j r k : Nat) (hj : j < 4) : Sz (Me sq j r k) ((j + 1) * 1100010 + 1) := by
  have := minor_sz h (fst' j ++ [((j + r : Nat) : Int)]) (fst' j ++ [((j + k : Nat) : Int)]) (by simp [fst']; omega)
  have e : (fst' j ++ [((j + r : Nat) : Int)]).length = j + 1 := by simp [fst']
  rw [e] at this
  exact this
theorem Cn_sz {sq : List (List Int)} (h : ∀ row ∈ sq, ∀ x ∈ row, Sz x 1100000) (j : Nat) (hj : j < 4) : Sz (Cn sq j) (j * 1100010 + 1) := by
  have := minor_sz h (fst' j) (fst' j) (by simp [fst']; omega)
  have e : (fst' j).length = j := by simp [fst']
  rw [e] at this
  exact this
theorem getD_map {β : Type} (f : Nat → β) (n i : Nat) (d : β) (h : i < n) : ((List.range n).map f).getD i d = f i := by
  rw [List.getD_eq_getElem?_getD, List.getElem?_map, List.getElem?_range h]; rfl
theorem Mt_at (sq : List (List Int)) (j r : Nat) (h : r < 4 - j) : (Mt sq j).getD r [] = (List.range (4 - j)).map fun k => Me sq j r k := by
  rw [Mt_eq, getD_map _ _ _ _ h]
theorem Mt_len (sq : List (List Int)) (j : Nat) : (Mt sq j).length = 4 - j := by rw [Mt_eq]; simp
theorem Mt_ent (sq : List (List Int)) (j r k : Nat) (h : r < 4 - j) (hk : k < 4 - j) : ((Mt sq j).getD r []).getD k 0 = Me sq j r k := by
  rw [Mt_at sq j r h, getD_map _ _ _ _ hk]
theorem list4 {α : Type} {l : List α} (h : l.length = 4) : ∃ a b c d, l = [a, b, c, d] := by
  match l, h with
  | [a, b, c, d], _ => exact ⟨a, b, c, d, rfl⟩
theorem Mt_zero {sq : List (List Int)} (h : sq.length = 4) (hr : ∀ row ∈ sq, row.length = 4) : Mt sq 0 = sq := by
  obtain ⟨r0, r1, r2, r3, rfl⟩ := list4 h
  obtain ⟨a0, a1, a2, a3, rfl⟩ := list4 (hr r0 (by simp))
  obtain ⟨b0, b1, b2, b3, rfl⟩ := list4 (hr r1 (by simp))
  obtain ⟨c0, c1, c2, c3, rfl⟩ := list4 (hr r2 (by simp))
  obtain ⟨d0, d1, d2, d3, rfl⟩ := list4 (hr r3 (by simp))
  simp [Mt_eq, me0, List.range_succ]
/-- the law's cells -/
def own16 : List Int := [3, 1, -2, 5, 2, 4, 1, -3, -1, 6, 2, 7, 5, -4, 8, 1]
def cellv (ns : List Int) (i : Nat) : Int := own16.getD i 0 + ((ns.drop i).take 1).sum
def cells16 (ns : List Int) : List Int := (List.range 16).map (cellv ns)
def sq4 (cs : List Int) : List (List Int) := (List.range 4).map fun i => (cs.drop (4 * i)).take 4
theorem cellv_sz {ns : List Int} (h : PyData.layable0 (.list (ns.map .int)) = true) (i : Nat) (hi : i < 16) : Sz (cellv ns i) 1100000 := by
  have a : Sz (own16.getD i 0) 5 := by
    have : ∀ i : Fin 16, (own16.getD i.val 0).natAbs < 2 ^ 5 := by decide
    exact this ⟨i, hi⟩
  have b : Sz ((ns.drop i).take 1).sum 1048576 := by
    by_cases hl : i < ns.length
    · have e : (ns.drop i).take 1 = [ns[i]] := by rw [List.drop_eq_getElem_cons hl]; rfl
      rw [e, List.sum_singleton]
      exact sz_of_bits (PyData.bits_item_of_ints h (List.getElem_mem hl))
    · rw [List.drop_of_length_le (by omega)]
      exact Sz.mono (k := 0) (show Sz 0 0 by unfold Sz; decide) (by decide)
  exact (a.add b).mono (by decide)
theorem sq4_len (cs : List Int) : (sq4 cs).length = 4 := by simp [sq4]
theorem sq4_row {cs : List Int} (h : cs.length = 16) : ∀ row ∈ sq4 cs, row.length = 4 := by
  intro row hr
  obtain ⟨i, hi, rfl⟩ := List.mem_map.mp hr
  have := List.mem_range.mp hi
  rw [List.length_take, List.length_drop]; omega
theorem sq4_sz {ns : List Int} (h : PyData.layable0 (.list (ns.map .int)) = true) : ∀ row ∈ sq4 (cells16 ns), ∀ x ∈ row, Sz x 1100000 := by
  intro row hr x hx
  obtain ⟨i, hi, rfl⟩ := List.mem_map.mp hr
  have hx' := List.mem_of_mem_drop (List.mem_of_mem_take hx)
  obtain ⟨j, hj, rfl⟩ := List.mem_map.mp hx'
  exact cellv_sz h j (List.mem_range.mp hj)
theorem sum_sz {cs : List Int} {k : Nat} (h : ∀ x ∈ cs, Sz x k) : Sz cs.sum (k + cs.length) := by
  induction cs with
  | nil => exact Sz.mono (k := 0) (show Sz 0 0 by unfold Sz; decide) (by omega)
  | cons a l ih =>
    rw [List.sum_cons, List.length_cons]
    exact ((h a List.mem_cons_self).add (ih fun x hx => h x (List.mem_cons_of_mem _ hx))).mono (by omega)
theorem cells_sum_sz {ns : List Int} (h : PyData.layable0 (.list (ns.map .int)) = true) : Sz (cells16 ns).sum 1100016 := by
  have := sum_sz (cs := cells16 ns) (k := 1100000) (fun x hx => by
    obtain ⟨j, hj, rfl⟩ := List.mem_map.mp hx
    exact cellv_sz h j (List.mem_range.mp hj))
  simpa [cells16] using this
end Mine

end
section
open PySem PySem.W PyProof.Rows PySem.Calls PySem.Spec
namespace Mine
open LCg
section
variable {prog : Program} {w : World} {A : Around} {E : Value → Shared → Prop} {s : Shared} {h₀ : Heap} {L : Addr} {m : Str → Option Value} {news led : Led}
/-- an item of a list of ints that a function lists -/
theorem my_itemF {value slice : PySem.Expr} {l : Addr} {vs : List Value} {n : Nat} {g : Nat → Int} {c : Nat} {k : Int} {u : Tok} {Q : Value → Shared → Prop} (N : News h₀ L s.heap news) (hm : (l, listOf vs.toArray c) ∈ news) (hi : IntsAre vs ((List.range n).map g))
    (j : Nat) (hk : k = (j : Nat)) (hj : j < n) (hz : j < 64) (h : ∀ t, Q (.int (g j) t) s)
    (hs : subscripted slice false (.ref l) (.int k u) = operate [.ref l, .int k u] (getItem (.ref l) (.int k u)) := by with_unfolding_all rfl) :
    wpAny (model prog w) A (subscriptTail value slice (.ref l) (.int k u)) Q E s := by
  subst hk
  refine my_itemI N hm hi (by omega) (by simpa using hj) (by omega) (fun t => ?_) hs
  rw [toN, getD_map _ _ _ _ hj]
  exact h t
/-- a row of a table that a function lists -/
theorem my_itemRF {value slice : PySem.Expr} {l : Addr} {sq : List (List Int)} {i : Nat} {k : Int} {u : Tok} {Q : Value → Shared → Prop} (N : News h₀ L s.heap news) (hd : DatIn led (.ref l) (.list ((Mt sq i).map rowD))) (hl : ∀ p ∈ led, p ∈ news)
    (j : Nat) (hk : k = (j : Nat)) (hj : j < 4 - i) (h : ∀ a vs c, (a, listOf vs.toArray c) ∈ led → IntsAre vs ((List.range (4 - i)).map (Me sq i j)) → Q (.ref a) s)
    (hs : subscripted slice false (.ref l) (.int k u) = operate [.ref l, .int k u] (getItem (.ref l) (.int k u)) := by with_unfolding_all rfl) :
    wpAny (model prog w) A (subscriptTail value slice (.ref l) (.int k u)) Q E s := by
  subst hk
  refine my_itemR N hd hl (by omega) (by rw [Mt_len]; omega) (by omega) (fun a vs c hm hi => ?_) hs
  rw [toN, Mt_at _ _ _ hj] at hi
  exact h a vs c hm hi
end
theorem pick_from {vs : List Value} {x : Int} (h : 0 ≤ x) : (slicePick vs.toArray (some x) none none).toList = vs.drop x.toNat := by
  have e : sliceBounds (some x) none none vs.toArray.size = (((min x.toNat vs.toArray.size : Nat) : Int), ((vs.toArray.size : Nat) : Int), 1) := by
    simp only [sliceBounds, Option.getD_none, show (1 : Int) > 0 by decide, if_true, if_neg (show ¬ (x < 0) by omega)]
    congr 1
    omega
  rw [kmk_pick_nat _ e]
  show ((vs.drop (min x.toNat vs.toArray.size)).take (vs.toArray.size - min x.toNat vs.toArray.size)) = _
  rw [List.size_toArray, kmk_drop_min, List.take_of_length_le (by rw [List.length_drop]; omega)]
theorem int_dat {l : Led} {a b : Int} {t : Tok} (h : a = b) : DatIn l (.int a t) (.int b) := h ▸ .int _ _
/-- the end of an element that is a list of its own -/
theorem endList {h₀ h : Heap} {L D : Addr} {m : Str → Option Value} {s₁ : Shared} {pre mid base objs : Led} {ys : List Value} {ds : List Dat} {tk : Nat} (F : Fr h₀ L h m) (N : News h₀ L h ((D, lst ys) :: (objs ++ pre))) (off : Off1 D (objs ++ pre)) (hs : Seqs objs) (ha : Apart pre objs)
    (hd : DatAll (objs ++ base) ys ds) (hb : ∀ p ∈ base, p ∈ mid) : Stop (DatEnd h₀ L m s₁ pre mid NoTab (.list ds) (.ref D) { s₁ with heap := h, toks := tk }) := by
  refine Stop.mk (DatEnd.intro ((D, lst ys) :: objs) [] F N rfl (fun p hp => List.mem_cons_of_mem _ (List.mem_append_right _ hp)) (fun p hp => ?_) (fun _ h => nomatch h) (.cons (fun p hp => off1_mem off p (List.mem_append_right _ hp)) ha) (.cons ⟨_, _, rfl⟩ hs)
    (.list (List.mem_append_left _ List.mem_cons_self) (hd.mono fun p hp => ?_)))
  · rcases List.mem_cons.mp hp with rfl | hp
    · exact List.mem_cons_self
    · exact List.mem_cons_of_mem _ (List.mem_append_left _ hp)
  · rcases List.mem_append.mp hp with hp | hp
    · exact List.mem_append_left _ (List.mem_cons_of_mem _ hp)
    · exact List.mem_append_right _ (hb p hp)
theorem endListT {h₀ h : Heap} {L D : Addr} {m : Str → Option Value} {s₁ : Shared} {pre mid base objs tb : Led} {ys : List Value} {ds : List Dat} {tk : Nat} (F : Fr h₀ L h m) (N : News h₀ L h ((D, lst ys) :: ((objs ++ pre) ++ tb))) (T : Tabs tb) (off : Off1 D (objs ++ pre)) (hs : Seqs objs) (ha : Apart pre objs)
    (hd : DatAll (objs ++ base) ys ds) (hb : ∀ p ∈ base, p ∈ mid) : Stop (DatEnd h₀ L m s₁ pre mid Tabs (.list ds) (.ref D) { s₁ with heap := h, toks := tk }) := by
  refine Stop.mk (DatEnd.intro ((D, lst ys) :: objs) tb F N T (fun p hp => List.mem_cons_of_mem _ (List.mem_append_left _ (List.mem_append_right _ hp))) (fun p hp => ?_) (fun p hp => List.mem_cons_of_mem _ (List.mem_append_right _ hp)) (.cons (fun p hp => off1_mem off p (List.mem_append_right _ hp)) ha) (.cons ⟨_, _, rfl⟩ hs)
    (.list (List.mem_append_left _ List.mem_cons_self) (hd.mono fun p hp => ?_)))
  · rcases List.mem_cons.mp hp with rfl | hp
    · exact List.mem_cons_self
    · exact List.mem_cons_of_mem _ (List.mem_append_left _ (List.mem_append_left _ hp))
  · rcases List.mem_append.mp hp with hp | hp
    · exact List.mem_append_left _ (List.mem_cons_of_mem _ hp)
    · exact List.mem_append_right _ (hb p hp)
/-- the ledger of the law's frame: the loop's iterator, the cells, the lists, the tables -/
theorem packA {h₀ h : Heap} {L D I : Addr} {it : Obj} {c1 c2 c3 c4 c5 c6 c7 c8 : Addr × Obj} {X objs R tb : Led} {ys : List Value} {ds : List Dat} (N : News h₀ L h ((D, lst ys) :: (objs ++ (X ++ ((I, it) :: c1 :: c2 :: c3 :: c4 :: c5 :: c6 :: c7 :: c8 :: (R ++ tb))))))
    (off : Off1 D (objs ++ (X ++ ((I, it) :: c1 :: c2 :: c3 :: c4 :: c5 :: c6 :: c7 :: c8 :: (R ++ tb))))) (hs : Seqs objs) (ha : Apart (X ++ ((I, it) :: c1 :: c2 :: c3 :: c4 :: c5 :: c6 :: c7 :: c8 :: (R ++ tb))) objs) (hd : DatAll (objs ++ R) ys ds) (hR : Seqs R) (oR : ∀ p ∈ R, @Ne Nat p.1 I) :
    ∃ R', News h₀ L h ((I, it) :: c1 :: c2 :: c3 :: c4 :: c5 :: c6 :: c7 :: c8 :: (R' ++ tb)) ∧ Seqs R' ∧ (∀ p ∈ R', @Ne Nat p.1 I) ∧ DatIn R' (.ref D) (.list ds) ∧ (∀ p ∈ R, p ∈ R') ∧ (D, lst ys) ∈ R' := by
  refine ⟨(D, lst ys) :: (objs ++ R), fun p hp => N p ?_, .cons ⟨_, _, rfl⟩ (hs.app hR), fun p hp => ?_, .list List.mem_cons_self (hd.mono fun p hp => List.mem_cons_of_mem _ hp), fun p hp => List.mem_cons_of_mem _ (List.mem_append_right _ hp), List.mem_cons_self⟩
  · simp only [List.mem_cons, List.mem_append] at hp ⊢
    rcases hp with h | h | h | h | h | h | h | h | h | (h | h | h) | h <;> simp [h]
  · rcases List.mem_cons.mp hp with rfl | hp
    · exact Ne.symm (off1_mem off (I, it) (by simp))
    · rcases List.mem_append.mp hp with hp | hp
      · exact Ne.symm (ha p hp (I, it) (by simp))
      · exact oR p hp
theorem ne_offI {I : Addr} {l : Led} {c : Addr} {o : Obj} (h : ∀ p ∈ l, p.1 ≠ I) (hm : (c, o) ∈ l) : @Ne Nat c I := h _ hm
theorem ne_offI' {I : Addr} {l : Led} {c : Addr} {o : Obj} (h : ∀ p ∈ l, p.1 ≠ I) (hm : (c, o) ∈ l) : @Ne Nat I c := Ne.symm (h _ hm)
/-- what an element of the crossed table is -/
def Xv (sq : List (List Int)) (i r k : Nat) : Int := Me sq i (1 + r) (1 + k) * Me sq i 0 0 - Me sq i (1 + r) 0 * Me sq i 0 (1 + k)
theorem Xv_eq (sq : List (List Int)) (i r k : Nat) (hi : i < 3) (hr : r < 3 - i) (hk : k < 3 - i) : Xv sq i r k = Cn sq i * Me sq (i + 1) r k := by
  unfold Xv
  rw [Nat.add_comm 1 r, Nat.add_comm 1 k]
  match i, hi with
  | 0, _ => exact syl0 sq r k
  | 1, _ => exact syl1 sq r k
  | 2, _ =>
    obtain rfl : r = 0 := by omega
    obtain rfl : k = 0 := by omega
    exact syl2 sq
end Mine

end
section
open PySem PySem.W PyProof.Rows PySem.Calls PySem.Spec
namespace Mine
open LCg
theorem swaps_cell {e : PySem.Expr} {g : List Comprehension} {sc : Scope} {p q : Pos} {t : Str} {line : Nat} {env : Env} {k : Option NameKind} (hk : env.kindOf t = k) (hne : (k == some .local) = false) :
    swapsWith (.ListComp e g sc p) (some (.Name t q)) line env = pure false := by
  subst hk
  simp only [swapsWith, hne, Bool.and_false, Bool.false_and]
theorem grown_of {h₀ h : Heap} {L : Addr} {tb : List (Addr × Obj)} (N : News h₀ L h tb) (T : Tabs tb) : GrownAll [(41, 37), (34, 30)] h := by
  obtain ⟨t1, t2, rfl, h1, h2⟩ := T
  obtain ⟨p1, m1⟩ := tab1_head h1
  obtain ⟨p2, m2⟩ := tab1_head h2
  exact ⟨⟨p2, (N _ (List.mem_append_left _ m2)).1⟩, ⟨p1, (N _ (List.mem_append_right _ m1)).1⟩, trivial⟩
theorem int_eq {a b : Int} {t : Tok} (h : a = b) : Value.int a t = Value.int b t := by rw [h]
theorem take_one (ns : List Int) (i : Nat) : (ns.drop i).take (min ((i : Int) + 1).toNat ns.length - i) = (ns.drop i).take 1 := by
  rw [List.take_eq_take_iff, List.length_drop]; omega
theorem ints_of {f : Nat → Int} : ∀ {n : Nat} {ys : List Value}, ys.length = n → (∀ i y, ys[i]? = some y → ∃ t, y = Value.int (f i) t) → IntsAre ys ((List.range n).map f) := by
  intro n ys
  induction n generalizing ys f with
  | zero => intro h _; rw [List.length_eq_zero_iff] at h; subst h; exact .nil
  | succ n ih =>
    intro h hR
    match ys, h with
    | y :: ys, h =>
      obtain ⟨t, rfl⟩ := hR 0 y rfl
      rw [List.range_succ_eq_map, List.map_cons, List.map_map]
      exact .cons _ _ (ih (f := f ∘ Nat.succ) (by simpa using h) fun i y hy => hR (i + 1) y hy)
local macro_rules | `(tactic| k_lt $h:ident) => `(tactic| skip)
local macro_rules | `(tactic| k_mem) => `(tactic| first | exact List.mem_cons_self | with_reducible assumption | (refine' List.mem_cons_of_mem _ ?_; k_mem))
local macro_rules | `(tactic| k_ne) => `(tactic| (refine neN ?_; (try dsimp only); first
  | (exact ne_offI (by with_reducible assumption) (by k_mem))
  | (exact ne_offI' (by with_reducible assumption) (by k_mem))
  | (exact ne_above (by with_reducible assumption) (by k_mem))
  | (exact ne_below (by with_reducible assumption) (by k_mem))
  | (exact ne_off1' (by with_reducible assumption) (by k_mem))
  | (exact ne_off1 (by with_reducible assumption) (by k_mem))
  | (simp only [ne_eq, Nat.add_left_cancel_iff, Nat.add_assoc, Nat.reduceAdd, Nat.reduceEqDiff, not_false_eq_true]; done)
  | omega))
local macro_rules | `(tactic| lcg_sub) => `(tactic| repeat (first | (with_reducible exact sub_self) | refine sub_tail ?_))
local macro_rules | `(tactic| k_all) => `(tactic| first | with_reducible assumption | k_extra "kall")
theorem sl4 {vs : List Value} {cs : List Int} {i : Nat} (h : IntsAre vs cs) (hl : cs.length = 16) (hi : i < 4) : IntsAre (slicePick vs.toArray (some ((4 * i : Nat) : Int)) (some (((4 * i : Nat) : Int) + 4)) none).toList ((cs.drop (4 * i)).take 4) := by
  have q := kmk_run h (x := ((4 * i : Nat) : Int)) (y := ((4 * i : Nat) : Int) + 4) (by omega) (by omega)
  rw [show (((4 * i : Nat) : Int)).toNat = 4 * i by omega, show ((((4 * i : Nat) : Int) + 4)).toNat = 4 * i + 4 by omega, hl, show min (4 * i + 4) 16 - 4 * i = 4 by omega] at q
  exact q
theorem four_at {v : Value} {t0 t1 t2 t3 : Tok} {i : Nat} (h : (#[Value.int 0 t0, .int 4 t1, .int 8 t2, .int 12 t3] : Array Value)[i]? = some v) : ∃ t, v = .int ((4 * i : Nat) : Int) t := by
  match i, h with
  | 0, h => cases h; exact ⟨_, rfl⟩
  | 1, h => cases h; exact ⟨_, rfl⟩
  | 2, h => cases h; exact ⟨_, rfl⟩
  | 3, h => cases h; exact ⟨_, rfl⟩
  | n + 4, h => simp at h
theorem pack3 {h₀ h : Heap} {L D D2 : Addr} {e1 e3 c1 c2 c3 c4 c5 c6 c7 c8 : Addr × Obj} {objs tb : Led} {zs ys : List Value} {ds : List Dat} {cs : List Int} (N : News h₀ L h ((D2, lst zs) :: (objs ++ (e1 :: (D, lst ys) :: e3 :: c1 :: c2 :: c3 :: c4 :: c5 :: c6 :: c7 :: c8 :: tb))))
    (hs : Seqs objs) (s1 : ∃ a n, e1.2.data = .seq a n) (s3 : ∃ a n, e3.2.data = .seq a n) (hd : DatAll objs zs ds) (hY : IntsAre ys cs) :
    ∃ R, News h₀ L h (c1 :: c2 :: c3 :: c4 :: c5 :: c6 :: c7 :: c8 :: (R ++ tb)) ∧ Seqs R ∧ DatIn R (.ref D) (intsD cs) ∧ DatIn R (.ref D2) (.list ds) := by
  refine ⟨(D2, lst zs) :: (objs ++ [e1, (D, lst ys), e3]), fun p hp => N p ?_, .cons ⟨_, _, rfl⟩ (hs.app (.cons s1 (.cons ⟨_, _, rfl⟩ (.cons s3 .nil)))),
    .list (List.mem_cons_of_mem _ (List.mem_append_right _ (List.mem_cons_of_mem _ List.mem_cons_self))) (dat_of_ints hY), .list List.mem_cons_self (hd.mono fun p hp => List.mem_cons_of_mem _ (List.mem_append_left _ hp))⟩
  simp only [List.mem_cons, List.mem_append, List.not_mem_nil, or_false] at hp ⊢
  rcases hp with h | h | h | h | h | h | h | h | (h | h | h | h | h) | h <;> simp [h]
theorem packT {h₀ h : Heap} {L : Addr} {c1 c2 c3 c4 c5 c6 c7 c8 t1 t2 : Addr × Obj} {R : Led} (N : News h₀ L h (c1 :: c2 :: c3 :: c4 :: c5 :: c6 :: c7 :: c8 :: (R ++ [t1, t2]))) (T : Tabs [t1, t2]) : ∃ tb, Tabs tb ∧ News h₀ L h (c1 :: c2 :: c3 :: c4 :: c5 :: c6 :: c7 :: c8 :: (R ++ tb)) := ⟨_, T, N⟩
theorem canonD {h₀ h : Heap} {L : Addr} {e c1 c2 c3 c4 c5 c6 c7 c8 : Addr × Obj} {R tb : Led} (N : News h₀ L h (e :: c1 :: c2 :: c3 :: c4 :: c5 :: c6 :: c7 :: c8 :: (R ++ tb))) : News h₀ L h (c1 :: c2 :: c3 :: c4 :: c5 :: c6 :: c7 :: c8 :: ((e :: R) ++ tb)) := fun p hp => N p (by
  simp only [List.mem_cons, List.mem_append] at hp ⊢
  rcases hp with h | h | h | h | h | h | h | h | (h | h) | h <;> simp [h])
theorem in8 {c1 c2 c3 c4 c5 c6 c7 c8 : Addr × Obj} {l : Led} : ∀ p ∈ l, p ∈ c1 :: c2 :: c3 :: c4 :: c5 :: c6 :: c7 :: c8 :: l := fun p hp => by simp [hp]
/-- one turn of the law's loop -/
def TurnP (nm : Str) (sc : Scope) (tgt : PySem.Expr) (body : List Stmt) : Prop :=
  ∀ (w : World) (p : Program) (loose : List Str) (mean : ExcName → Option Value) (mg mb : Str → Option Value) (fa : Addr) (cd : Value) (h₀ : Heap) (L lA : Addr) (gg : Array GenState) (dd : Drawn) (os : OsState) (cs : List Int) (sq : List (List Int)),
    (_root_.hd.heap_39 w.params).In h₀ → Top p loose mean mg mb h₀ → Below callerA h₀ [] h₀ → CodeHd h₀ 41 37 → CodeHd h₀ 34 30 → (@LT.lt Nat _ 50 L) → Sz cs.sum 1100016 → cs.length = 16 → (∀ row ∈ sq, ∀ x ∈ row, Sz x 1100000) → sq.length = 4 → (∀ row ∈ sq, row.length = 4) →
    ∀ (Q' : Flow → Shared → Prop) (E' : Value → Shared → Prop) (i : Nat) (m : Str → Option Value) (news : Led) (t : Tok) (h : Heap) (tk : Nat) (I0 : Addr) (it : Obj), RetOK h₀ L { heap := h, gens := gg, drawn := dd, toks := tk, os := os } Q' → i < 3 → ItOK it → (@LT.lt Nat _ (L + 1 + 1 + 1 + 1 + 1 + 1 + 1 + 1) I0) → LawJ L lA cs sq i m news → Fr h₀ L h m → News h₀ L h ((I0, it) :: news) → (∀ p ∈ news, p.1 ≠ I0) →
    wpAny (model PySem.Challenge.rw_ta0142_02.row.prog w) (callerA.deeper (envOfC nm sc L fa cd)) (assign tgt (envOfC nm sc L fa cd) (.int (i : Nat) t))
      (fun _ s₂ => wpAny (model PySem.Challenge.rw_ta0142_02.row.prog w) (callerA.deeper (envOfC nm sc L fa cd)) (execs body (envOfC nm sc L fa cd)) (ForPost h₀ L { heap := h, gens := gg, drawn := dd, toks := tk, os := os } I0 it (fun m' news' => LawJ L lA cs sq (i + 1) m' news') Q') E' s₂) E'
      { heap := h, gens := gg, drawn := dd, toks := tk, os := os }
set_option maxHeartbeats 24000000 in
noncomputable def pre0 : (d : Str × Scope × PySem.Expr × List Stmt) ×' (Stop (TurnP d.1 d.2.1 d.2.2.1 d.2.2.2) → PySem.Challenge.rw_ta0142_02.Holds) :=
  ⟨⟨_, _, _, _⟩, fun contP => _root_.hd (by
  k_with_none
  k_with "eval ListComp" => ((k_extra "mycomp"))
  k_with "exec Assign cons ListComp" => ((k_dflt (refine wpAny_Assign_Name ?_ (swaps_cell (k := some .cell) (by rfl) (by rfl)))))
  k_with "exec For Name Call cons nil" => ((k_extra "myfor"))
  k_with "SrcT" => ((refine Stop.go ?_))
  k_with "call type:enumerate" => ((k_extra "myenum"))
  k_with "subscriptTail Name Slice ref ref" => ((k_here; k_extra "mysl"))
  k_with "call builtin:sum" => ((k_here; k_extra "mysum"))
  k_with "eval Name" => ((k_here; (with_reducible show wpAny _ _ (eval (Expr.Name _ _) (compEnvC _ _ _ _)) _ _ _); k_extra "mycell"))
  k_go0
  all_goals try k_fold
  rename_i o1 o2 o3 o4 o5 o6 o7 o8 d1 d2 d3 d4 d5 d6 d7 d8 XX0 XX TT KK FF cH1 NN ll
  replace FF := (show Fr _ _ _ (fun _ => none) from FF)
  replace d1 := (show o1.data = .cell none from d1)
  replace d2 := (show o2.data = .cell none from d2)
  replace d3 := (show o3.data = .cell none from d3)
  replace d4 := (show o4.data = .cell none from d4)
  replace d5 := (show o5.data = .cell none from d5)
  replace d6 := (show o6.data = .cell none from d6)
  replace d7 := (show o7.data = .cell none from d7)
  replace d8 := (show o8.data = .cell (some (.ref _)) from d8)
  clear XX0
  have l37 : @LT.lt Nat _ 37 _ := (allLt_of ll).1
  have l30 : @LT.lt Nat _ 30 _ := (allLt_of ll).2.1
  rename List Int => ns
  rename List Value => vs
  rename World => w
  rename IntsAre _ _ => hI
  rename_i s₀ s₁ mg mb G Y fa ofa pm cd doc ho hcd hg X V T B TE TW hs hl0 hL hr1 hl2 as1 as2 lA as3 hLl ra w1 r0 hr hc1 hc2 hD h₁ tk₁
  refine wpAny_mono (Q := fun f s' => Stop (f = Flow.ret (.bool true) ∧ ∃ h' tk' m' tb, s' = { heap := h', gens := s₁.gens, drawn := s₁.drawn, toks := tk', os := s₁.os } ∧ Fr (ghostOf s₁.heap [(41, 37), (34, 30)]) s₁.heap.objs.size h' m' ∧ News (ghostOf s₁.heap [(41, 37), (34, 30)]) s₁.heap.objs.size h' tb ∧ Tabs tb)) (E := fun _ _ => False) ?walk ?post ?err
  case err => exact fun _ _ e => e.elim
  case post =>
    rintro f s' ⟨rfl, h', tk', m', tb, rfl, hF, hN, hT⟩
    exact ⟨⟨.inl ⟨.bool true, .bool true, [], rfl, fun _ => rfl, .bool true, (by with_unfolding_all rfl), fun h => ⟨List.nodup_nil, fun _ h => nomatch h⟩⟩, hF.keep, rfl, hg⟩, grown_of hN hT⟩
  case walk =>
    clear G Y ho hcd hg X V T B TE TW hs hl0 hr1 hl2 hLl ra w1 r0 hr hD hc2
    generalize ghostOf s₁.heap [(41, 37), (34, 30)] = h₀ at *
    generalize s₁.heap.objs.size = L at *
    have l50 : @LT.lt Nat _ 50 L := Nat.lt_of_lt_of_le (Nat.lt_trans (by decide : 50 < 68) (Heap.lt_size (XX 68 _ (by k_is)))) FF.above
    k_with "mycomp" => (k_dflt (refine enumComp (fun i y => ∃ t, y = Value.int (cellv ns i) t) FF rfl (by rfl) (by decide) (by rfl) (by decide) (by rfl) (by rfl) (by decide) ?_))
    k_with "myenum" => (refine Stop.go ?_)
    k_with "mycell" => (k_dflt (refine' kcf_cell ?zN ?zc ?zm ?zd ?_ ?za ?zb; (case za => rfl); (case zb => rfl); (case zN => k_asm); (case zc => rfl); (case zm => k_mem); (case zd => assumption); k_whole))
    k_with "mysl" => (k_dflt (refine kmk_slice_ints (by k_asm) (by k_asm) (Fr.lst (by k_asm) lifted) (IsPart.int _ _) (IsPart.int _ _) hI (kmk_run hI (by omega) (by omega)) rfl ?_ (by with_unfolding_all rfl) (by kmk_pure) (kmk_sz hI (by rw [sizeLine_eq]; omega))); intro D' ws' h' F' N' l1 hI' hC' hL')
    k_with "mysum" => (k_dflt (refine sumK (by rfl) (by k_asm) (by k_asm) (News.isList (by k_asm) (by k_mem)) (by assumption) ?_); intro h' tk' t' F' N')
    k_steps
    refine Stop.mk ?_
    rename News _ _ _ _ => hN
    rename Fr _ _ _ _ => hF
    have hlt := Heap.lt_size (hN _ List.mem_cons_self).1
    refine callEnumT (News.isTup hN List.mem_cons_self) fun h' e1 e2 up => ?_
    refine ⟨_, _, _, _, _, _, rfl, e1, e2, Nat.lt_succ_self _, ?_, ?_, ?_, Fr.keeps (by assumption) up, News.grown hN up, ?_, ?_⟩
    · exact fun p hp => Heap.lt_size (hN p hp).1
    · exact hF.ns.lt
    · exact Nat.le_of_ble_eq_true rfl
    · intro i x t C oC m₂ h tk own E' hx hC hk ho F2 N2
      rw [List.getElem?_toArray] at hx
      obtain ⟨tx, rfl⟩ := IntsAre.int_at (ns := [3, 1, -2, 5, 2, 4, 1, -3, -1, 6, 2, 7, 5, -4, 8, 1]) (by l_ints) i x hx
      clear hN hF
      k_steps
      rename News _ _ _ _ => hN
      rename Fr _ _ _ _ => hF
      refine Stop.mk ⟨⟨_, int_eq ?_⟩, _, _, rfl, hF, fun p hp => hN p (List.mem_cons_of_mem _ hp)⟩
      rw [cellv, Int.toNat_natCast]
      show _ = List.getD own16 i 0 + _
      exact congrArg (fun z : List Int => own16.getD i 0 + z.sum) (take_one ns i)
    · intro D ys h tk hys hR F2 N2 hD
      clear hN hF
      have hY : IntsAre ys (cells16 ns) := ints_of hys hR
      clear hys hR
      (try dsimp only)
      generalize s₁.gens = gg, s₁.drawn = dd, s₁.os = os at *
      clear e1 e2 up hlt
      k_with "mycomp" => (k_dflt (refine listComp_T (F₀ := by k_asm) (by rfl) (by decide) (by rfl) (by decide) (by rfl) ?_))
      k_steps
      rename News _ _ _ _ => hN
      rename Fr _ _ _ _ => hF
      rename (Obj.data _ = Data.cell (some (Value.ref D))) => d7'
      refine Stop.mk (SrcT.made (by rfl) (by k_asm) (by k_asm) (by k_mem) (by exact Nat.le_of_ble_eq_true rfl) fun g => ?_)
      refine rest_data [] (fun i => rowD (((cells16 ns).drop (4 * i)).take 4)) (fun objs => ?hS) ?step ?fin
      case hS => exact ⟨_, List.mem_append_right _ (by k_mem), rfl, _, rfl⟩
      case step =>
        intro i objs led v C oC m₂ h tk E' hi hv hNs hx F N hsub
        obtain ⟨t, rfl⟩ := four_at hv
        have m7 := hsub (L + 1 + 1, _) (List.mem_append_right _ (by k_mem))
        have mD := hsub (D, _) (List.mem_append_right _ (by k_mem))
        have hi4 : i < 4 := hi
        clear hsub hv hi
        (try dsimp only)
        k_with "mysl" => (k_dflt (refine kmk_slice_ints (by k_asm) (by k_asm) (News.isList (by k_asm) (by k_mem)) (IsPart.int _ _) (IsPart.int _ _) hY (sl4 hY rfl hi4) rfl ?_ (by with_unfolding_all rfl) (by kmk_pure) (kmk_sz hY (by exact Nat.le_of_ble_eq_true rfl))); intro D' ws' h' F' N' l1 hI' hC' hL')
        k_steps
        rename IntsAre _ _ => hIz
        rename (∀ p ∈ (C, oC) :: led, p.1 < _) => lz
        refine Stop.mk (DatEnd.intro [(_, _)] [] (by k_asm) (by k_asm) rfl (by lcg_sub) (fun p hp => by rw [List.mem_singleton.mp hp]; exact List.mem_cons_self) (fun _ h => nomatch h) (.cons (fun p hp => Nat.ne_of_lt (lz p hp)) .nil) (.cons ⟨_, _, rfl⟩ .nil) (.list List.mem_cons_self (dat_of_ints hIz)))
      case fin =>
        intro zs objs hl hs ha hd
        unfold FinE
        intro D2 h2 tk2 F3 N3 off3
        rw [List.append_nil] at hd
        obtain ⟨R, N4, sR, dC, dS⟩ := pack3 N3 hs ⟨_, _, rfl⟩ ⟨_, _, rfl⟩ hd hY
        clear hd hs ha off3 N3 hN hD hl hF
        replace dS : DatIn R (.ref D2) (.list ((sq4 (cells16 ns)).map rowD)) := dS
        obtain ⟨tb, hT, N5⟩ := packT N4 ⟨[(30, tabObj #[])], [(37, tabObj #[])], rfl, .inl rfl, .inl rfl⟩
        clear N4
        have f1 := off_cell N5 (List.mem_cons_self) d1 sR hT (by omega) in8
        have f2 := off_cell N5 (by k_mem) d2 sR hT (by omega) in8
        have f3 := off_cell N5 (by k_mem) d3 sR hT (by omega) in8
        have f4 := off_cell N5 (by k_mem) d4 sR hT (by omega) in8
        have f5 := off_cell N5 (by k_mem) d5 sR hT (by omega) in8
        have f6 := off_cell N5 (by k_mem) d6 sR hT (by omega) in8
        have f7 := off_cell N5 (by k_mem) d7' sR hT (by omega) in8
        have f8 := off_cell N5 (by k_mem) d8 sR hT (by omega) in8
        (try dsimp only)
        k_with "myfor" => (refine forRange 3 0 3 (by rfl) (fun _ _ _ _ _ h => wpAny_pure h) ?_ (F₀ := by k_asm))
        k_steps
        refine Stop.mk ?_
        refine ⟨_, _, _, _, _, _, rfl, by assumption, by decide, by decide, by k_asm, canonD (by k_asm), fun g I0 hI0 => ?_⟩
        have h50I := hI0 (L + 1 + 1 + 1 + 1 + 1 + 1 + 1 + 1, o1) (by k_mem)
        have hsq := sq4_sz hL
        have hS := cells_sum_sz hL
        have hcl : (cells16 ns).length = 16 := rfl
        have hsl := sq4_len (cells16 ns)
        have hsr := sq4_row hcl
        have hsr2 := hsr
        have dL : DatIn R (.ref D2) (.list ((Mt (sq4 (cells16 ns)) 0).map rowD)) := by rw [Mt_zero hsl hsr]; exact dS
        generalize hcs : cells16 ns = cs at *
        generalize hsq4 : sq4 cs = sq at *
        clear hcs hsq4 hL hI hY lifted
        refine for_law (LawJ L lA cs sq) ?j0 ?ret ?step ?fin
        case j0 =>
          refine ⟨_, _, _, _, _, _, _, _, _, _, D, D2, D2, _, _, _, _, rfl, hT, .cons ⟨_, _, rfl⟩ sR, by assumption, by assumption, by assumption, by assumption, by assumption, by assumption, by assumption, by assumption, dC.mono fun p hp => List.mem_cons_of_mem _ hp, dS.mono fun p hp => List.mem_cons_of_mem _ hp, dL.mono fun p hp => List.mem_cons_of_mem _ hp⟩
        case ret =>
          intro h' tk' m' tb' F' N' T'
          exact ⟨⟨rfl, _, _, _, _, rfl, F', N', T'⟩⟩
        case fin =>
          intro m news h tk hJ F N
          obtain ⟨p1, p2, p3, p4, p5, p6, p7, p8, R', tb', cA, sA, l, t, v1, v2, v3, rfl, T', _⟩ := hJ
          (try dsimp only)
          clear f1 f2 f3 f4 f5 f6 f7 f8
          k_steps
          exact Stop.mk ⟨rfl, _, _, _, _, rfl, F, fun p hp => N p (in8 p (List.mem_append_right _ hp)), T'⟩
        case step =>
          clear f1 f2 f3 f4 f5 f6 f7 f8 d1 d2 d3 d4 d5 d6 d7 d8 d7' dL dS dC sR hT
          intro Q' E' i m news t h tk it hr hi hok hJ F N off
          (try dsimp only)
          exact contP.go w _ _ _ _ _ fa cd h₀ L lA gg dd os cs sq XX TT KK cH1 codeHd l50 hS hcl hsq hsl hsr Q' E' i m news t h tk I0 it hr hi hok h50I hJ F N off
    )⟩
end Mine

end
section
open PySem PySem.W PyProof.Rows PySem.Calls PySem.Spec
namespace Mine
open LCg
theorem packA1 {h₀ h : Heap} {L D I : Addr} {it : Obj} {e c1 c2 c3 c4 c5 c6 c7 c8 : Addr × Obj} {objs R tb : Led} {ys : List Value} {ds : List Dat} (N : News h₀ L h ((D, lst ys) :: (objs ++ (e :: (I, it) :: c1 :: c2 :: c3 :: c4 :: c5 :: c6 :: c7 :: c8 :: (R ++ tb)))))
    (off : Off1 D (objs ++ (e :: (I, it) :: c1 :: c2 :: c3 :: c4 :: c5 :: c6 :: c7 :: c8 :: (R ++ tb)))) (hs : Seqs objs) (ha : Apart (e :: (I, it) :: c1 :: c2 :: c3 :: c4 :: c5 :: c6 :: c7 :: c8 :: (R ++ tb)) objs) (hd : DatAll (objs ++ R) ys ds) (hR : Seqs R) (oR : ∀ p ∈ R, @Ne Nat p.1 I) :
    ∃ R', News h₀ L h ((I, it) :: c1 :: c2 :: c3 :: c4 :: c5 :: c6 :: c7 :: c8 :: (R' ++ tb)) ∧ Seqs R' ∧ (∀ p ∈ R', @Ne Nat p.1 I) ∧ DatIn R' (.ref D) (.list ds) ∧ (∀ p ∈ R, p ∈ R') ∧ (D, lst ys) ∈ R' := packA (X := [e]) N off hs ha hd hR oR
theorem tabs_offI {h₀ h : Heap} {L I : Addr} {led tb : Led} {it : Obj} (T : Tabs tb) (N : News h₀ L h led) (hm : (I, it) ∈ led) (ok : ItOK it) (so : ∀ p ∈ tb, p ∈ led) (l50 : @LT.lt Nat _ 50 I) : ∀ p ∈ tb, @Ne Nat p.1 I := fun p hp q => by
  rcases tabs_off T hp with h | ⟨vs, qq, t, hdd, hv⟩
  · rcases h with h | h <;> (rw [q] at h; subst h; exact absurd l50 (by decide))
  · have a := (N _ (so p hp)).1
    have b := (N _ hm).1
    rw [q, b] at a
    have e : it = p.2 := Option.some.inj a
    exact ok vs qq t (by rw [e]; exact hdd) hv
theorem neI {a b c : Nat} (h : a < b) (hc : c ≤ a) : @Ne Nat b c := by omega
theorem in9 {c0 c1 c2 c3 c4 c5 c6 c7 c8 : Addr × Obj} {l : Led} : ∀ p ∈ l, p ∈ c0 :: c1 :: c2 :: c3 :: c4 :: c5 :: c6 :: c7 :: c8 :: l := fun p hp => List.mem_cons_of_mem _ (in8 p hp)
/-- the end of a turn -/
theorem turnEnd {h₀ h : Heap} {L lA D I0 cA sA : Addr} {m' : Str → Option Value} {s₁ : Shared} {it e o1 o2 o3 o4 o5 o6 o7 o8 : Obj} {De : Addr} {R tb : Led} {cs : List Int} {sq : List (List Int)} {i : Nat} {Q : Flow → Shared → Prop} {tk : Nat} {v1 v2 v3 : Option Value} {t : Tok}
    (F : Fr h₀ L h m') (N : News h₀ L h ((De, e) :: (I0, it) :: (L + 1 + 1 + 1 + 1 + 1 + 1 + 1 + 1, o1) :: (L + 1 + 1 + 1 + 1 + 1 + 1 + 1, o2) :: (L + 1 + 1 + 1 + 1 + 1 + 1, o3) :: (L + 1 + 1 + 1 + 1 + 1, o4) :: (L + 1 + 1 + 1 + 1, o5) :: (L + 1 + 1 + 1, o6) :: (L + 1 + 1, o7) :: (L + 1, o8) :: (R ++ tb)))
    (hT : Tabs tb) (hok : ItOK it) (l50 : @LT.lt Nat _ 50 L) (hc : @LT.lt Nat _ (L + 1 + 1 + 1 + 1 + 1 + 1 + 1 + 1) I0) (sR : Seqs R) (oR : ∀ p ∈ R, @Ne Nat p.1 I0) (d1 : o1.data = .cell v1) (d2 : o2.data = .cell v2) (d3 : o3.data = .cell v3) (d4 : o4.data = .cell (some (.int (Cn sq (i + 1)) t))) (d5 : o5.data = .cell (some (.ref D))) (d6 : o6.data = .cell (some (.ref sA))) (d7 : o7.data = .cell (some (.ref cA))) (d8 : o8.data = .cell (some (.ref lA)))
    (dC : DatIn R (.ref cA) (intsD cs)) (dS : DatIn R (.ref sA) (.list (sq.map rowD))) (dL : DatIn R (.ref D) (.list ((Mt sq (i + 1)).map rowD))) :
    Stop (ForPost h₀ L s₁ I0 it (fun m' news' => LawJ L lA cs sq (i + 1) m' news') Q .next { s₁ with heap := h, toks := tk }) := by
  refine Stop.mk ⟨h, tk, m', _, rfl, F, fun p hp => N p (List.mem_cons_of_mem _ hp), fun p hp => ?_, _, _, _, _, _, _, _, _, R, tb, cA, sA, D, t, v1, v2, v3, rfl, hT, sR, d1, d2, d3, d4, d5, d6, d7, d8, dC, dS, dL⟩
  simp only [List.mem_cons, List.mem_append] at hp
  rcases hp with h | h | h | h | h | h | h | h | h | h
  · subst h; exact Nat.ne_of_lt hc
  · subst h; exact Nat.ne_of_lt (by show _ < _; omega)
  · subst h; exact Nat.ne_of_lt (by show _ < _; omega)
  · subst h; exact Nat.ne_of_lt (by show _ < _; omega)
  · subst h; exact Nat.ne_of_lt (by show _ < _; omega)
  · subst h; exact Nat.ne_of_lt (by show _ < _; omega)
  · subst h; exact Nat.ne_of_lt (by show _ < _; omega)
  · subst h; exact Nat.ne_of_lt (by show _ < _; omega)
  · exact oR p h
  · exact tabs_offI hT N (List.mem_cons_of_mem _ List.mem_cons_self) hok (fun q hq => List.mem_cons_of_mem _ (in9 q (List.mem_append_right _ hq))) (by omega) p h
theorem tableD {n : Nat} {f g : Nat → Nat → Int} (h : ∀ r, r < n → ∀ k, k < n → f r k = g r k) : ((List.range n).map fun r => Dat.list (((List.range n).map fun k => f r k).map Dat.int)) = ((List.range n).map fun r => (List.range n).map (g r)).map rowD := by
  rw [List.map_map]
  refine List.map_congr_left fun r hr => ?_
  show Dat.list _ = Dat.list _
  congr 2
  exact List.map_congr_left fun k hk => h r (List.mem_range.mp hr) k (List.mem_range.mp hk)
def restOf (S c : Int) : Int := if c = 0 then S else S.fmod c
theorem restOf_0 {S c : Int} (h : c = 0) : restOf S c = S := if_pos h
theorem restOf_n {S c : Int} (h : c ≠ 0) : restOf S c = S.fmod c := if_neg h
theorem int_val {a b : Int} {t : Tok} (h : a = b) : Value.int a t = Value.int b t := by rw [h]
/-- what _law_parted tells of an element -/
def toldD (x c : Int) : Dat := if c = 0 then .tuple [.str (Str.ofString "refused"), .int x] else .tuple [.int (x.fdiv c), .int (x.fmod c)]
theorem toldD_0 {x c : Int} (h : c = 0) : toldD x c = .tuple [.str (Str.ofString "refused"), .int x] := if_pos h
theorem toldD_n {x c : Int} (h : c ≠ 0) : toldD x c = .tuple [.int (x.fdiv c), .int (x.fmod c)] := if_neg h
theorem rest_sz {S c : Int} {k : Nat} (h : Sz S k) (g : Sz c k) : Sz (restOf S c) k := by
  by_cases hc : c = 0
  · rw [restOf_0 hc]; exact h
  · rw [restOf_n hc]
    have e := Int.fmod_def S c
    refine Sz.of_le g ?_
    rcases Int.lt_or_gt_of_ne hc with h1 | h1
    · have a := Int.fmod_lt_of_pos (-S) (show 0 < -c by omega)
      have b := Int.fmod_nonneg_of_pos (-S) (show 0 < -c by omega)
      rw [Int.neg_fmod_neg] at a b
      omega
    · have a := Int.fmod_lt_of_pos S h1
      have b := Int.fmod_nonneg_of_pos S h1
      omega
theorem bits_sz {x : Int} {k : Nat} (h : Sz x k) (hk : k ≤ 16777216) : (Builtin.Int.intBits x : Int) ≤ 16777216 := by
  have := bits_of_sz h
  omega
theorem int_at' {vs : List Value} {n : Nat} {g : Nat → Int} {k : Nat} {v : Value} (h : IntsAre vs ((List.range n).map g)) (hk : k < n) (hv : vs[k]? = some v) : ∃ t, v = .int (g k) t := by
  obtain ⟨t, rfl⟩ := IntsAre.int_at h k v hv
  exact ⟨t, by rw [getD_map _ _ _ _ hk]⟩
theorem part_use {w : World} {f : Addr} {a b : Int} {it : Tok → Tok → Array Value} {dd uu : Nat} (C : CtPart w f a b it dd uu) {p : Program} {loose : List Str} {mean : ExcName → Option Value} {mg mb : Str → Option Value}
    {dp un : Nat} {gd : Option (List Code)} {cn : Str} {cs : Scope} {ad : Addr} {ccd : Value} {cl : List (Str × Addr)} {outer : List Env} {A₀ : Around} {base h₀ : Heap} {L : Addr} {m : Str → Option Value} {tb rest : List (Addr × Obj)} {s : Shared}
    {Q E : Value → Shared → Prop} {ta tt : Tok} (B : Below A₀ base outer h₀) (C1 : CodeHd base 34 30) (C2 : CodeHd base 41 37) (F : Fr h₀ L s.heap m) (X : (_root_.hd.heap_39 w.params).In h₀) (N : News h₀ L s.heap (rest ++ tb)) (T : Top p loose mean mg mb h₀) (hk : cs.kind = .function)
    (htb : Tabs tb) (hov : Over rest) (hd : dp + dd < recursionLimit) (hu : un + uu < cLine)
    (ret : ∀ D t1 t2 c h' tk' tb', Tabs tb' → AllLt D rest → Fr h₀ L h' m → News h₀ L h' ((D, ({ cls := .type "tuple", data := .seq (it t1 t2) c } : Obj)) :: (rest ++ tb')) → Q (.ref D) { s with heap := h', toks := tk' }) :
    wpAny (model PySem.Challenge.rw_ta0142_02.row.prog w) (ktrTop dp un gd cn cs L ad ccd cl outer) (call (.ref f) [.int a ta, .int b tt]) Q E s :=
  C _ _ _ _ _ _ _ _ _ _ _ _ _ _ _ _ _ _ _ _ _ _ _ _ _ _ B C1 C2 F X N T hk htb hov hd hu ret
theorem over_cons {p : Addr × Obj} {l : Led} (h : @LT.lt Nat _ 50 p.1) (k : Over l) : Over (p :: l) := fun q hq => by
  rcases List.mem_cons.mp hq with rfl | hq
  · exact over50 h
  · exact k q hq
theorem endTup {h₀ h : Heap} {L D : Addr} {m : Str → Option Value} {s₁ : Shared} {pre mid tb : Led} {vs : List Value} {ds : List Dat} {tk c : Nat} (F : Fr h₀ L h m) (N : News h₀ L h ((D, ({ cls := .type "tuple", data := .seq vs.toArray c } : Obj)) :: (pre ++ tb))) (T : Tabs tb) (al : AllLt D pre) (hd : DatAll mid vs ds) :
    Stop (DatEnd h₀ L m s₁ pre mid Tabs (.tuple ds) (.ref D) { s₁ with heap := h, toks := tk }) :=
  Stop.mk (DatEnd.intro [(D, _)] tb F N T (fun p hp => List.mem_cons_of_mem _ (List.mem_append_left _ hp)) (fun p hp => by rw [List.mem_singleton.mp hp]; exact List.mem_cons_self) (fun p hp => List.mem_cons_of_mem _ (List.mem_append_right _ hp)) (.cons (fun p hp => Nat.ne_of_lt (ktn_ltOf al p hp)) .nil) (.cons ⟨_, _, rfl⟩ .nil)
    (.tuple List.mem_cons_self (hd.mono fun p hp => List.mem_cons_of_mem _ hp)))
theorem packB {h₀ h : Heap} {L D I : Addr} {it : Obj} {c1 c2 c3 c4 c5 c6 c7 c8 : Addr × Obj} {objs R tb : Led} {ys : List Value} {ds : List Dat} (N : News h₀ L h ((D, lst ys) :: ((objs ++ ((I, it) :: c1 :: c2 :: c3 :: c4 :: c5 :: c6 :: c7 :: c8 :: R)) ++ tb)))
    (off : Off1 D (objs ++ ((I, it) :: c1 :: c2 :: c3 :: c4 :: c5 :: c6 :: c7 :: c8 :: R))) (hs : Seqs objs) (ha : Apart ((I, it) :: c1 :: c2 :: c3 :: c4 :: c5 :: c6 :: c7 :: c8 :: R) objs) (hd : DatAll (objs ++ R) ys ds) (hR : Seqs R) (oR : ∀ p ∈ R, @Ne Nat p.1 I) :
    ∃ R', News h₀ L h ((I, it) :: c1 :: c2 :: c3 :: c4 :: c5 :: c6 :: c7 :: c8 :: (R' ++ tb)) ∧ Seqs R' ∧ (∀ p ∈ R', @Ne Nat p.1 I) ∧ DatIn R' (.ref D) (.list ds) ∧ (∀ p ∈ R, p ∈ R') := by
  refine ⟨(D, lst ys) :: (objs ++ R), fun p hp => N p ?_, .cons ⟨_, _, rfl⟩ (hs.app hR), fun p hp => ?_, .list List.mem_cons_self (hd.mono fun p hp => List.mem_cons_of_mem _ hp), fun p hp => List.mem_cons_of_mem _ (List.mem_append_right _ hp)⟩
  · simp only [List.mem_cons, List.mem_append] at hp ⊢
    rcases hp with h | h | h | h | h | h | h | h | h | (h | h | h) | h <;> simp [h]
  · rcases List.mem_cons.mp hp with rfl | hp
    · exact Ne.symm (off1_mem off (I, it) (by simp))
    · rcases List.mem_append.mp hp with hp | hp
      · exact Ne.symm (ha p hp (I, it) (by simp))
      · exact oR p hp
theorem packF {h₀ h : Heap} {L Df I : Addr} {it o1 : Obj} {a1 : Addr} {c2 c3 c4 c5 c6 c7 c8 : Addr × Obj} {X R tb : Led} {fvs : List Value} {fc : Nat} {fs : List Int} (N : News h₀ L h ((Df, listOf fvs.toArray fc) :: (I, it) :: (a1, o1) :: c2 :: c3 :: c4 :: c5 :: c6 :: c7 :: c8 :: (R ++ tb)))
    (lf : ∀ p ∈ (I, it) :: X, p.1 < Df) (sR : Seqs R) (oR : ∀ p ∈ R, @Ne Nat p.1 I) (hf : IntsAre fvs fs) (hd : o1.data = .cell (some (.ref Df))) :
    ∃ R', News h₀ L h ((I, it) :: (a1, o1) :: c2 :: c3 :: c4 :: c5 :: c6 :: c7 :: c8 :: (R' ++ tb)) ∧ Seqs R' ∧ (∀ p ∈ R', @Ne Nat p.1 I) ∧ (∀ p ∈ R, p ∈ R') ∧ ∃ fA fv fcc, o1.data = .cell (some (.ref fA)) ∧ (fA, listOf fv.toArray fcc) ∈ R' ∧ IntsAre fv fs := by
  refine ⟨(Df, listOf fvs.toArray fc) :: R, fun p hp => N p ?_, .cons ⟨_, _, rfl⟩ sR, fun p hp => ?_, fun p hp => List.mem_cons_of_mem _ hp, Df, fvs, fc, hd, List.mem_cons_self, hf⟩
  · simp only [List.mem_cons, List.mem_append] at hp ⊢
    rcases hp with h | h | h | h | h | h | h | h | h | (h | h) | h <;> simp [h]
  · rcases List.mem_cons.mp hp with rfl | hp
    · exact Ne.symm (Nat.ne_of_lt (lf (I, it) List.mem_cons_self))
    · exact oR p hp
theorem endTupN {h₀ h : Heap} {L D : Addr} {m : Str → Option Value} {s₁ : Shared} {pre mid led : Led} {vs : List Value} {ds : List Dat} {tk c : Nat} (F : Fr h₀ L h m) (N : News h₀ L h ((D, ({ cls := .type "tuple", data := .seq vs.toArray c } : Obj)) :: led)) (sub : ∀ p ∈ pre, p ∈ led) (al : ∀ p ∈ led, p.1 < D) (hd : DatAll mid vs ds) :
    Stop (DatEnd h₀ L m s₁ pre mid NoTab (.tuple ds) (.ref D) { s₁ with heap := h, toks := tk }) :=
  Stop.mk (DatEnd.intro [(D, _)] [] F N rfl (fun p hp => List.mem_cons_of_mem _ (sub p hp)) (fun p hp => by rw [List.mem_singleton.mp hp]; exact List.mem_cons_self) (fun _ h => nomatch h) (.cons (fun p hp => Nat.ne_of_lt (al p (sub p hp))) .nil) (.cons ⟨_, _, rfl⟩ .nil)
    (.tuple List.mem_cons_self (hd.mono fun p hp => List.mem_cons_of_mem _ hp)))
theorem rks (i : Nat) : rangeKs 0 ((i : Int) + 1 - 0).toNat = fst' (i + 1) := by
  rw [show ((i : Int) + 1 - 0).toNat = i + 1 by omega]
  unfold rangeKs fst'
  exact List.map_congr_left fun k _ => by omega
theorem fst_mem {j : Nat} {x : Int} (h : x ∈ fst' j) : 0 ≤ x ∧ x < (j : Int) := by
  obtain ⟨k, hk, rfl⟩ := List.mem_map.mp h
  have := List.mem_range.mp hk
  omega
theorem fst_app {j : Nat} {x : Int} (hj : j < 4) (h0 : 0 ≤ x) (h4 : x < 4) : ∀ y ∈ fst' j ++ [x], 0 ≤ y ∧ y < 4 := fun y hy => by
  rcases List.mem_append.mp hy with h | h
  · have := fst_mem h; omega
  · rw [List.mem_singleton.mp h]; exact ⟨h0, h4⟩
theorem fst_len {j : Nat} {x : Int} (hj : j < 4) : (fst' j ++ [x]).length ≤ 4 := by simp [fst']; omega
theorem me_eq (sq : List (List Int)) (j r k : Nat) : minorV sq (fst' j ++ [((j : Nat) : Int) + (r : Nat)]) (fst' j ++ [((j : Nat) : Int) + (k : Nat)]) = Me sq j r k := by
  rw [Me, Int.natCast_add, Int.natCast_add]
theorem packA0 {h₀ h : Heap} {L D I : Addr} {it : Obj} {c1 c2 c3 c4 c5 c6 c7 c8 : Addr × Obj} {objs R tb : Led} {ys : List Value} {ds : List Dat} (N : News h₀ L h ((D, lst ys) :: (objs ++ ((I, it) :: c1 :: c2 :: c3 :: c4 :: c5 :: c6 :: c7 :: c8 :: (R ++ tb)))))
    (off : Off1 D (objs ++ ((I, it) :: c1 :: c2 :: c3 :: c4 :: c5 :: c6 :: c7 :: c8 :: (R ++ tb)))) (hs : Seqs objs) (ha : Apart ((I, it) :: c1 :: c2 :: c3 :: c4 :: c5 :: c6 :: c7 :: c8 :: (R ++ tb)) objs) (hd : DatAll (objs ++ R) ys ds) (hR : Seqs R) (oR : ∀ p ∈ R, @Ne Nat p.1 I) :
    ∃ R', News h₀ L h ((I, it) :: c1 :: c2 :: c3 :: c4 :: c5 :: c6 :: c7 :: c8 :: (R' ++ tb)) ∧ Seqs R' ∧ (∀ p ∈ R', @Ne Nat p.1 I) ∧ DatIn R' (.ref D) (.list ds) ∧ (∀ p ∈ R, p ∈ R') ∧ (D, lst ys) ∈ R' := packA (X := []) N off hs ha hd hR oR
theorem told_ne {prog : Program} {w : World} {A : Around} {E : Value → Shared → Prop} {s : Shared} {h₀ : Heap} {L a b : Addr} {R R' news : Led} {ds es : List Dat} {Q : Value → Shared → Prop} (N : News h₀ L s.heap news) (hT : DatIn R (.ref a) (.list ds)) (hU : DatIn R' (.ref b) (.list es)) (s1 : ∀ p ∈ R, p ∈ news) (s2 : ∀ p ∈ R', p ∈ news)
    (ok1 : ∀ d ∈ ds, kqdOk 8 d = true) (ok2 : ∀ d ∈ es, kqdOk 8 d = true) (e : ds = es) (hu : A.units + 64 < cLine) (h : Q (.bool false) s) : wpAny (model prog w) A (compareOp .NotEq (.ref a) (.ref b)) Q E s := by
  obtain ⟨_, xs, n, e1, hm, hd⟩ := dat_list hT
  cases e1
  obtain ⟨_, ys, n2, e2, hm2, hd2⟩ := dat_list hU
  cases e2
  refine kqd_ne N (s1 _ hm) rfl rfl hd s1 (s2 _ hm2) rfl rfl hd2 s2 ok1 ok2 hu ?_
  subst e
  simpa using h
theorem ok_tab {n : Nat} {f : Nat → Nat → Dat} (h : ∀ r k, kqdOk 7 (f r k) = true) : ∀ d ∈ (List.range n).map fun r => Dat.list ((List.range n).map fun k => f r k), kqdOk 8 d = true := by
  intro d hd
  obtain ⟨r, _, rfl⟩ := List.mem_map.mp hd
  rw [kqdOk]
  rw [List.all_eq_true]
  intro x hx
  obtain ⟨k, _, rfl⟩ := List.mem_map.mp hx
  exact h r k
theorem ok_pair (a b : Int) : kqdOk 7 (.tuple [.int a, .int b]) = true := by simp [kqdOk]
theorem ok_ref (b : Int) : kqdOk 7 (.tuple [.str (Str.ofString "refused"), .int b]) = true := by
  have e : PyData.strOk (Str.ofString "refused") = true := by decide +kernel
  simp [kqdOk, e]
theorem ok_told (x c : Int) : kqdOk 7 (toldD x c) = true := by
  by_cases h : c = 0
  · rw [toldD_0 h]; exact ok_ref x
  · rw [toldD_n h]; exact ok_pair _ _
theorem tab_eq {n : Nat} {f g : Nat → Nat → Dat} (h : ∀ r, r < n → ∀ k, k < n → f r k = g r k) : ((List.range n).map fun r => Dat.list ((List.range n).map fun k => f r k)) = (List.range n).map fun r => Dat.list ((List.range n).map fun k => g r k) := by
  refine List.map_congr_left fun r hr => ?_
  show Dat.list _ = Dat.list _
  congr 1
  exact List.map_congr_left fun k hk => h r (List.mem_range.mp hr) k (List.mem_range.mp hk)
structure IfStop : Prop where
theorem stopIf {P : Prop} (_ : IfStop) (h : Stop P) : P := h.go
end Mine

end
section
open PySem PySem.W PyProof.Rows PySem.Calls PySem.Spec
namespace Mine
open LCg
local macro_rules | `(tactic| k_lt $h:ident) => `(tactic| skip)
local macro_rules | `(tactic| k_mem) => `(tactic| first | exact List.mem_cons_self | with_reducible assumption | (refine' List.mem_cons_of_mem _ ?_; k_mem))
local macro_rules | `(tactic| k_ne) => `(tactic| (refine neN ?_; (try dsimp only); first
  | (k_extra "kne")
  | (exact ne_above (by with_reducible assumption) (by k_mem))
  | (exact ne_below (by with_reducible assumption) (by k_mem))
  | (exact ne_off1' (by with_reducible assumption) (by k_mem))
  | (exact ne_off1 (by with_reducible assumption) (by k_mem))
  | (simp only [ne_eq, Nat.add_left_cancel_iff, Nat.add_assoc, Nat.reduceAdd, Nat.reduceEqDiff, not_false_eq_true]; done)
  | omega))
local macro_rules | `(tactic| k_all) => `(tactic| first | with_reducible assumption | k_extra "kall")
local macro_rules | `(tactic| lcg_sub) => `(tactic| repeat (first | (with_reducible exact sub_self) | refine sub_tail ?_))
set_option maxHeartbeats 24000000 in
theorem pre0_turn : TurnP pre0.1.1 pre0.1.2.1 pre0.1.2.2.1 pre0.1.2.2.2 := by
  unfold pre0
  dsimp only
  unfold TurnP
  k_fill
  k_with_none
  k_with "eval ListComp" => ((refine Stop.go ?_))
  k_with "exec Assign cons ListComp" => ((refine Stop.go ?_))
  k_with "eval IfExp" => ((refine stopIf (by with_reducible assumption) ?_))
  k_with "call builtin:sum" => ((k_here; k_extra "mysum"))
  k_with "call ref" => ((refine Stop.go ?_))
  k_with "binaryOp Add ref ref" => ((k_here; k_extra "myadd"))
  k_with "compareOp NotEq ref ref" => ((refine Stop.go ?_))
  k_with "CompSrc" => ((refine Stop.go ?_))
  k_with "SrcK" => ((refine Stop.go ?_))
  k_with "SrcTT" => ((refine Stop.go ?_))
  k_with "ForPost" => ((refine Stop.go ?_))
  k_with "subscriptTail Name Slice ref ref" => ((k_here; k_extra "mysl"))
  k_with "subscriptTail Name Name ref int" => ((k_here; k_extra "itN"))
  k_with "subscriptTail Name Constant ref int" => ((k_here; k_extra "itC"))
  k_with "subscriptTail Subscript" => ((k_here; k_extra "itS"))
  k_with "binaryOp Mult int int" => ((k_extra "mymul"))
  k_with "call builtin:len" => ((k_extra "mylen"))
  k_with "eval Name" => ((k_here; (with_reducible show wpAny _ _ (eval (Expr.Name _ _) (compEnvC _ _ _ _)) _ _ _); k_extra "mycell"))
  intro w p loose mean mg mb fa cd h₀ L lA gg dd os cs sq X T B hC1 hC2 l50 hS hcl hz hsl hsr Q' E' i m news t h tk I0 it hr hi hok hcI hJ F N off
  have h50I : @LT.lt Nat _ 50 I0 := by omega
  obtain ⟨o1, o2, o3, o4, o5, o6, o7, o8, R, tb, cA, sA, l, tc, v1, v2, v3, rfl, hT, sR, d1, d2, d3, d4, d5, d6, d7, d8, dC, dS, dL⟩ := hJ
  have oR : ∀ p ∈ R, @Ne Nat p.1 I0 := fun p hp => off p (in8 p (List.mem_append_left _ hp))
  have hMe : ∀ a b, Sz (Me sq i a b) 3400000 := fun a b => (Me_sz hz i a b (by omega)).mono (by omega)
  have f3 := off_cell N (by k_mem) d3 sR hT (by omega) (fun p hp => List.mem_cons_of_mem _ (in8 p hp))
  obtain ⟨_, lvs, lc, elz, hlm, hld⟩ := dat_list dL
  cases elz
  k_with "kne" => (first | exact neI hcI (by omega) | exact Ne.symm (neI hcI (by omega)))
  k_with "mycell" => (k_dflt (refine' kcf_cell ?zN ?zc ?zm ?zd ?_ ?za ?zb; (case za => rfl); (case zb => rfl); (case zN => k_asm); (case zc => rfl); (case zm => k_mem); (case zd => assumption); k_whole))
  k_with "mysl" => (k_dflt (refine kmk_slice_lit (zs := lvs.drop 1) (by k_asm) (by k_asm) (News.isList (by k_asm) (by k_mem)) (IsPart.int _ _) IsPart.none (by with_unfolding_all exact pick_from (by decide)) ?_ (by with_unfolding_all rfl) (by kmk_pure) (by rw [List.size_toArray, hld.length, sizeLine_eq, List.length_map, Mt_len]; omega)); intro D' h' F' N' l1)
  k_steps
  refine Stop.mk (Assign_ListComp_K (F₀ := by k_asm) (by rfl) (by with_unfolding_all rfl) (by rfl) (by intro _; rfl) (by intro _; rfl) (by intro _ _; rfl) (by intro _; rfl) (by rfl) (by decide) (by rfl) (by rfl) ?_)
  k_steps
  have hdl : (lvs.drop 1).toArray.size = 3 - i := by rw [List.size_toArray, List.length_drop, hld.length, List.length_map, Mt_len]; omega
  refine Stop.mk (SrcK.list (by rfl) (by k_asm) (by k_asm) List.mem_cons_self (by rw [hdl, sizeLine_eq]; omega) (3 - i) hdl ?_)
  intro gz
  refine restK_data R (fun r => .list (((List.range (3 - i)).map fun k => Xv sq i r k).map Dat.int)) (fun objs => .inr ⟨_, List.mem_append_right _ List.mem_cons_self, rfl, _, rfl⟩) ?cstep ?cfin
  case cstep =>
    intro r objs led v C oC K oK h tk E' hr' hv hNs hK F N hsub
    have hRl : ∀ p ∈ R, p ∈ led := fun p hp => hsub p (List.mem_append_right _ (List.mem_cons_of_mem _ (List.mem_cons_of_mem _ (in8 p (List.mem_append_left _ hp)))))
    have m5 := hsub (L + 1 + 1 + 1 + 1, o5) (List.mem_append_right _ (by k_mem))
    have dL' := dL.mono hRl
    obtain ⟨v', hv', hdv⟩ := hld.get (k := 1 + r) (by rw [List.length_map, Mt_len]; omega)
    rw [List.getElem?_toArray, List.getElem?_drop, hv'] at hv
    cases hv
    rw [List.getElem_map] at hdv
    obtain ⟨ra, rvs, rc, rfl, hrm, hrd⟩ := dat_list hdv
    replace hrd := ints_of_dat hrd
    replace hrm := hRl _ hrm
    have hrow : IntsAre rvs ((List.range (4 - i)).map (Me sq i (1 + r))) := by
      have e : (Mt sq i)[1 + r]'(by rw [Mt_len]; omega) = (List.range (4 - i)).map (Me sq i (1 + r)) := by
        rw [← Mt_at sq i (1 + r) (by omega), List.getD_eq_getElem?_getD, List.getElem?_eq_getElem (by rw [Mt_len]; omega)]; rfl
      rw [← e]; exact hrd
    clear hsub hRl hdv hv' hrd dL hld hlm l1 N' F'
    (try dsimp only)
    k_with "mylen" => (k_dflt (refine my_lenI (n := 4 - i) (by k_asm) (by k_mem) (by rw [hrow.length]; simp) (by omega) ?_))
    k_steps
    refine Stop.mk (LCg.ListComp_U (F₀ := by k_asm) (by rfl) (by decide) (by rfl) (by decide) (by rfl) ?_)
    k_steps
    have hrs := rsize' (a := 1) (b := 4 - i) (by omega) (by omega)
    refine Stop.mk (LCg.CompSrc.range (a := 1) (n := 3 - i) (by rfl) (by assumption) (by assumption) (by assumption) (by simpa using hrs.1) (by rw [show 3 - i = 4 - i - 1 by omega]; simpa using hrs.2) (by rw [sizeLine_eq]; omega) ?_)
    intro g2
    refine rest_data [] (fun k => .int (Xv sq i r k)) (fun _ => trivial) ?istep ?ifin
    case istep =>
      intro k objs2 led2 v C2 oC2 m2 h tk E' hk2 hv hNs2 hx F N hsub
      obtain ⟨t, rfl⟩ := hv
      have mK := hsub (K, oK) (List.mem_append_right _ (by k_mem))
      replace m5 := hsub (L + 1 + 1 + 1 + 1, o5) (List.mem_append_right _ (by k_mem))
      have hl2 : ∀ p ∈ led, p ∈ led2 := fun p hp => hsub p (List.mem_append_right _ (List.mem_cons_of_mem _ (List.mem_cons_of_mem _ hp)))
      replace dL' := dL'.mono hl2
      replace hrm := hl2 _ hrm
      clear hsub hl2
      (try dsimp only)
      k_with "itN" => (k_dflt (refine my_itemF (by k_asm) (by k_mem) (by assumption) (1 + k) (by omega) (by omega) (by omega) ?_); intro t1)
      k_with "itC" => (k_dflt (first
        | (refine my_itemRF (by k_asm) dL' (by lcg_sub) 0 rfl (by omega) ?_; intro ra0 rvs0 rc0 hm0 hi0)
        | (refine my_itemF (by k_asm) (by k_mem) (by assumption) 0 rfl (by omega) (by decide) ?_; intro t1)))
      k_with "itS" => (k_dflt (first
        | (refine my_itemF (by k_asm) (by k_mem) (by assumption) 0 rfl (by omega) (by decide) ?_; intro t1)
        | (refine my_itemF (by k_asm) (by k_mem) (by assumption) (1 + k) (by omega) (by omega) (by omega) ?_; intro t1)))
      k_with "mymul" => (with_reducible refine mul_int ?_ (mul_ok (hMe _ _) (hMe _ _) (by decide)))
      k_steps
      exact Stop.mk (DatEnd.intro [] [] (by k_asm) (by k_asm) rfl (by lcg_sub) (fun _ h => nomatch h) (fun _ h => nomatch h) .nil .nil (int_dat rfl))
    case ifin =>
      intro ys objs2 hl hs ha hd
      unfold FinE
      intro D2 h2 tk2 F2 N2 off2
      exact endList (base := []) F2 N2 off2 hs ha (by rw [List.map_map]; exact hd) (fun _ h => nomatch h)
  case cfin =>
    intro ys objs hl hs ha hd
    unfold FinA
    intro D h5 tk5 F5 N5 off5
    obtain ⟨R1, N6, sR1, oR1, dX, hRR, hDm⟩ := packA1 N5 off5 hs ha hd sR oR
    replace dC := dC.mono hRR
    replace dS := dS.mono hRR
    replace dL := dL.mono hRR
    replace hlm := hRR _ hlm
    replace hld := hld.mono hRR
    clear hs ha hd off5 N5 hl oR sR hRR N' F' l1 hdl f3
    have oT : ∀ p ∈ tb, @Ne Nat p.1 I0 := fun p hp => off p (in8 p (List.mem_append_right _ hp))
    clear off
    rename Tabs tb => hT
    rename Obj => o3n
    rename (Obj.data _ = Data.cell (some (Value.int (i : Nat) t))) => d3'
    generalize gz = gz at *
    (try dsimp only)
    have f4 := off_cell N6 (by k_mem) d4 sR1 hT (by omega) (fun p hp => in9 p hp)
    have f5 := off_cell N6 (by k_mem) d5 sR1 hT (by omega) (fun p hp => in9 p hp)
    by_cases hi0 : i = 0
    · subst hi0
      have ct : decide ((((0 : Nat) : Nat) : Int) > 0) = false := rfl
      k_with "itC" => (k_dflt (refine my_itemRF (by k_asm) dL (fun p hp => in9 p (List.mem_append_left _ hp)) 0 rfl (by decide) ?_); intro ra0 rvs0 rc0 hm0 hi0)
      k_with "itS" => (k_dflt (refine my_itemF (by k_asm) (in9 _ (List.mem_append_left _ (by assumption))) (by assumption) 0 rfl (by decide) (by decide) ?_); intro t1)
      k_steps
      have dM : DatIn R1 (.ref D) (.list ((Mt sq (0 + 1)).map rowD)) := by
        rw [Mt_eq, ← tableD (n := 4 - (0 + 1)) (f := fun r k => Xv sq 0 r k) (fun r hr k hk => by rw [Xv_eq sq 0 r k (by omega) (by omega) (by omega), cn0, Int.one_mul])]
        exact dX
      exact turnEnd (by k_asm) (by k_asm) hT hok l50 hcI sR1 oR1 d1 d2 d3' (by rw [Cn_succ]; assumption) (by assumption) d6 d7 d8 dC dS dM
    · have ct : decide ((((i : Nat) : Nat) : Int) > 0) = true := by simp; omega
      have f2 := off_cell N6 (by k_mem) d2 sR1 hT (by omega) (fun p hp => in9 p hp)
      obtain ⟨_, cvs, cc, ecz, hcm, hcd⟩ := dat_list dC
      cases ecz
      replace hcd := ints_of_dat hcd
      have hst : IfStop := ⟨⟩
      k_with "mysum" => (k_dflt (refine sumK (by rfl) (by k_asm) (by k_asm) (News.isList (by k_asm) (in9 _ (List.mem_append_left _ hcm))) hcd ?_); intro h' tk' t' F' N')
      k_steps
      refine Stop.mk (wpAny_mono (Q := fun v s' => Stop (∃ t h' tk', v = .int (restOf cs.sum (Cn sq i)) t ∧ s' = { heap := h', gens := gg, drawn := dd, toks := tk', os := os } ∧ Fr h₀ L h' (fun z => if z = Str.ofString "crossed" then some (Value.ref D) else m z) ∧ News h₀ L h' ((I0, it) :: (L + 1 + 1 + 1 + 1 + 1 + 1 + 1 + 1, o1) :: (L + 1 + 1 + 1 + 1 + 1 + 1 + 1, o2) :: (L + 1 + 1 + 1 + 1 + 1 + 1, o3n) :: (L + 1 + 1 + 1 + 1 + 1, o4) :: (L + 1 + 1 + 1 + 1, o5) :: (L + 1 + 1 + 1, o6) :: (L + 1 + 1, o7) :: (L + 1, o8) :: (R1 ++ tb)))) ?ifx ?rest (fun _ _ e => e))
      case ifx =>
        clear hst
        k_steps
        · exact Stop.mk ⟨_, _, _, int_val (restOf_n (by assumption)).symm, rfl, by k_asm, by k_asm⟩
        · exact Stop.mk ⟨_, _, _, int_val (restOf_0 (by assumption)).symm, rfl, by k_asm, by k_asm⟩
      case rest =>
        clear F5 N6
        intro v s' hv
        obtain ⟨t2, h6, tk6, rfl, rfl, F6, N7⟩ := hv.go
        clear hst
        k_steps
        rename Obj => o2n
        rename News _ _ _ _ => N8
        rename Fr _ _ _ _ => F8
        rename (Obj.data _ = Data.cell (some (Value.int _ t2))) => d2'
        refine Stop.mk (Assign_ListComp_TT (L := L) (h₀ := h₀) (m := fun z => if z = Str.ofString "crossed" then some (.ref D) else m z) (by rfl) (by with_unfolding_all rfl) (by rfl) (by decide) (by rfl) (by decide) (by rfl) (by rfl) (by rfl) ?_)
        try clear F6 N7
        obtain ⟨_, xvs, xc, exz, hxm, hxd⟩ := dat_list dX
        cases exz
        have hdl : xvs.toArray.size = 3 - i := by rw [List.size_toArray, hxd.length, List.length_map, List.length_range]
        have hov : Over ((I0, it) :: (L + 1 + 1 + 1 + 1 + 1 + 1 + 1 + 1, o1) :: (L + 1 + 1 + 1 + 1 + 1 + 1 + 1, o2n) :: (L + 1 + 1 + 1 + 1 + 1 + 1, o3n) :: (L + 1 + 1 + 1 + 1 + 1, o4) :: (L + 1 + 1 + 1 + 1, o5) :: (L + 1 + 1 + 1, o6) :: (L + 1 + 1, o7) :: (L + 1, o8) :: R1) := by
          refine over_cons h50I (over_cons ?_ (over_cons ?_ (over_cons ?_ (over_cons ?_ (over_cons ?_ (over_cons ?_ (over_cons ?_ (over_cons ?_ (seqs_over sR1 hT N8 (fun p hp => in9 p (List.mem_append_right _ hp)) (fun p hp => in9 p (List.mem_append_left _ hp)))))))))))
          all_goals (dsimp only; omega)
        k_steps
        refine Stop.mk ⟨D, xvs.toArray, (I0, it) :: (L + 1 + 1 + 1 + 1 + 1 + 1 + 1 + 1, o1) :: (L + 1 + 1 + 1 + 1 + 1 + 1 + 1, o2n) :: (L + 1 + 1 + 1 + 1 + 1 + 1, o3n) :: (L + 1 + 1 + 1 + 1 + 1, o4) :: (L + 1 + 1 + 1 + 1, o5) :: (L + 1 + 1 + 1, o6) :: (L + 1 + 1, o7) :: (L + 1, o8) :: R1, tb, rfl, rfl, F8, N8, hT, l50, .inr ⟨_, in9 _ hxm, rfl, _, rfl⟩, by rw [hdl, sizeLine_eq]; omega, fun g3 => ?_⟩
        rw [hdl]
        refine restT_data R1 (fun r => .list ((List.range (3 - i)).map fun k => toldD (Xv sq i r k + restOf cs.sum (Cn sq i)) (Cn sq i))) (fun objs => .inr ⟨_, List.mem_append_right _ (in9 _ hxm), rfl, _, rfl⟩) hov ?tstep ?tfin
        case tstep =>
          intro r objs led v C oC m₂ h tk tb1 E' hr' hv hNs hx hT1 hov1 F N hsub
          have m2c := hsub (L + 1 + 1 + 1 + 1 + 1 + 1 + 1, o2n) (List.mem_append_right _ (by k_mem))
          have m4c := hsub (L + 1 + 1 + 1 + 1 + 1, o4) (List.mem_append_right _ (by k_mem))
          obtain ⟨v', hv', hdv⟩ := hxd.get (k := r) (by rw [List.length_map, List.length_range]; exact hr')
          rw [List.getElem?_toArray, hv'] at hv
          cases hv
          rw [List.getElem_map, List.getElem_range] at hdv
          obtain ⟨ra, rvs, rc, rfl, hrm, hrd⟩ := dat_list hdv
          replace hrd := ints_of_dat hrd
          replace hrm := hsub _ (List.mem_append_right _ (in9 _ hrm))
          have hl2 : rvs.toArray.size = 3 - i := by rw [List.size_toArray, hrd.length, List.length_map, List.length_range]
          clear hdv hv' hxd hxm dX dC dS dL hcd hcm hlm hld hDm N8 F8 hsub f2 f4 f5 hov
          (try dsimp only)
          k_steps
          refine Stop.mk (listComp_TT (L := L) (h₀ := h₀) (m := fun z => if z = Str.ofString "crossed" then some (.ref D) else m z) (by rfl) (by decide) (by rfl) (by decide) (by rfl) ?_)
          k_steps
          refine Stop.mk ⟨ra, rvs.toArray, (C, oC) :: led, tb1, rfl, rfl, F, N, hT1, l50, .inr ⟨_, List.mem_cons_of_mem _ hrm, rfl, _, rfl⟩, by rw [hl2, sizeLine_eq]; omega, fun g4 => ?_⟩
          rw [hl2]
          refine restT_data (objs ++ R1) (fun k => toldD (Xv sq i r k + restOf cs.sum (Cn sq i)) (Cn sq i)) (fun objs => .inr ⟨_, List.mem_append_right _ (List.mem_cons_of_mem _ hrm), rfl, _, rfl⟩) hov1 ?ustep ?ufin
          case ustep =>
            intro k objs2 led2 v C2 oC2 m2 h tk tb2 E' hk2 hv hNs2 hx hT2 hov2 F N hsub
            rw [List.getElem?_toArray] at hv
            obtain ⟨tx, rfl⟩ := int_at' hrd hk2 hv
            have i2 : ∀ p ∈ led, p ∈ led2 ++ tb2 := fun p hp => List.mem_append_left _ (hsub p (List.mem_append_right _ (List.mem_cons_of_mem _ hp)))
            replace m2c := i2 _ m2c
            replace m4c := i2 _ m4c
            replace N : News h₀ L h ((C2, oC2) :: (led2 ++ tb2)) := N
            clear hsub i2 hv
            have zr : Sz (restOf cs.sum (Cn sq i)) 3400000 := rest_sz (hS.mono (by decide)) ((Cn_sz hz i (by omega)).mono (by omega))
            have zx : Sz (Xv sq i r k + restOf cs.sum (Cn sq i)) 6800002 := ((((hMe _ _).mul (hMe _ _)).sub ((hMe _ _).mul (hMe _ _))).add zr).mono (by decide)
            have zc : Sz (Cn sq i) 3400000 := (Cn_sz hz i (by omega)).mono (by omega)
            (try dsimp only)
            k_steps
            refine Stop.mk ?_
            by_cases hc : Cn sq i = 0
            · rw [hc]
              refine parted_zero w _ p loose mean mg mb _ _ _ _ _ _ _ _ callerA h₀ L _ _ _ _ _ _ _ B (by k_asm) X (by k_asm) T rfl (by ktr_room) (by ktr_units) ?_
              intro D3 t1 t3 c3 h3 tk3 al F3 N3
              show Stop (DatEnd _ _ _ _ _ _ _ (toldD _ _) _ _)
              rw [toldD_0 hc]
              exact endTup F3 N3 hT2 (allLt_sub al fun p hp => by rcases List.mem_cons.mp hp with rfl | hp; exact List.mem_cons_self; exact List.mem_cons_of_mem _ (List.mem_append_left _ hp)) (.cons (.str _ _) (.cons (int_dat (by rw [hc])) .nil))
            · refine part_use (parted_ct w _ _ hc (bits_sz zx (by decide)) (bits_sz zc (by decide))) B hC2 hC1 (by k_asm) X (rest := (C2, oC2) :: led2) (by k_asm) T rfl hT2 hov2 (by ktr_room) (by ktr_units) ?_
              intro D3 t1 t3 c3 h3 tk3 tb3 hT3 al F3 N3
              show Stop (DatEnd _ _ _ _ _ _ _ (toldD _ _) _ _)
              rw [toldD_n hc]
              exact endTup F3 N3 hT3 al (.cons (.int _ _) (.cons (.int _ _) .nil))
          case ufin =>
            intro zs objs2 hl hs ha hd
            unfold FinET
            intro D2 h2 tk2 tb2 hT2 F2 N2 off2
            exact endListT F2 N2 hT2 off2 hs ha hd (fun p hp => hp)
        case tfin =>
          intro zs objs hl hs ha hd
          unfold FinAT
          intro D6 h7 tk7 tb7 hT7 F9 N9 off9
          obtain ⟨R2, N10, sR2, oR2, dT, hRR⟩ := packB N9 off9 hs ha hd sR1 oR1
          replace dC := dC.mono hRR
          replace dS := dS.mono hRR
          replace dL := dL.mono hRR
          replace dX := dX.mono hRR
          clear hs ha hd off9 N9 hl oR1 sR1 hRR hov hxd hxm hdl N8 F8 f2 f4 f5 hcd hcm hld hlm hDm oT hT
          (try dsimp only)
          have f1 := off_cell N10 (by k_mem) d1 sR2 hT7 (by omega) (fun p hp => in9 p hp)
          k_steps
          rename Obj => o1n
          rename News _ _ _ _ => N11
          rename Fr _ _ _ _ => F11
          rename (Obj.data _ = Data.cell (some (Value.ref _))) => d1'
          rename IntsAre _ _ => hf1
          rename (∀ p ∈ (I0, it) :: _, p.1 < _) => lf1
          rw [rks] at hf1
          obtain ⟨R3, N12, sR3, oR3, hRR, fA, fvs, fc, d1f, hfm, hfi⟩ := packF N11 lf1 sR2 oR2 hf1 d1'
          replace hfi : Stop (IntsAre fvs (fst' (i + 1))) := ⟨hfi⟩
          replace dC := dC.mono hRR
          replace dS := dS.mono hRR
          replace dL := dL.mono hRR
          replace dX := dX.mono hRR
          replace dT := dT.mono hRR
          clear N11 lf1 hf1 hRR sR2 oR2 f1 d1'
          refine Stop.mk (Assign_ListComp_K (F₀ := by k_asm) (by rfl) (by with_unfolding_all rfl) (by rfl) (by intro _; rfl) (by intro _; rfl) (by intro _ _; rfl) (by intro _; rfl) (by rfl) (by decide) (by rfl) (by rfl) ?_)
          k_steps
          have hrsD := rsize' (a := i + 1) (b := 4) (by omega) (by omega)
          refine Stop.mk (SrcK.range (a := ((i + 1 : Nat) : Int)) (n := 3 - i) (by rfl) (by assumption) (by assumption) (by assumption) (by simpa using hrsD.1) (by rw [show 3 - i = 4 - (i + 1) by omega]; simpa using hrsD.2) (by rw [sizeLine_eq]; omega) ?_)
          intro g5
          refine restK_data R3 (fun r => .list ((List.range (3 - i)).map fun k => .tuple [.int (Me sq (i + 1) r k), .int (restOf cs.sum (Cn sq i))])) (fun _ => trivial) ?dstep ?dfin
          case dstep =>
            intro r objs led v C oC K oK h tk E' hr' hv hNs hK F N hsub
            obtain ⟨tr, rfl⟩ := hv
            have hRl : ∀ p ∈ R3, p ∈ led := fun p hp => hsub p (List.mem_append_right _ (in9 p (List.mem_append_left _ hp)))
            have m1 := hsub (L + 1 + 1 + 1 + 1 + 1 + 1 + 1 + 1, o1n) (List.mem_append_right _ (by k_mem))
            have m2 := hsub (L + 1 + 1 + 1 + 1 + 1 + 1 + 1, o2n) (List.mem_append_right _ (by k_mem))
            have m3 := hsub (L + 1 + 1 + 1 + 1 + 1 + 1, o3n) (List.mem_append_right _ (by k_mem))
            have m6 := hsub (L + 1 + 1 + 1, o6) (List.mem_append_right _ (by k_mem))
            replace dS := dS.mono hRl
            replace hfm := hRl _ hfm
            clear hsub hRl dC dL dX dT
            (try dsimp only)
            k_steps
            refine Stop.mk (LCg.ListComp_U (F₀ := by k_asm) (by rfl) (by decide) (by rfl) (by decide) (by rfl) ?_)
            k_steps
            refine Stop.mk (LCg.CompSrc.range (a := ((i + 1 : Nat) : Int)) (n := 3 - i) (by rfl) (by assumption) (by assumption) (by assumption) (by simpa using hrsD.1) (by rw [show 3 - i = 4 - (i + 1) by omega]; simpa using hrsD.2) (by rw [sizeLine_eq]; omega) ?_)
            intro g6
            refine rest_data (objs ++ R3) (fun k => .tuple [.int (Me sq (i + 1) r k), .int (restOf cs.sum (Cn sq i))]) (fun _ => trivial) ?estep ?efin
            case estep =>
              intro k objs2 led2 v C2 oC2 m7 h tk E' hk2 hv hNs2 hx F N hsub
              obtain ⟨tq, rfl⟩ := hv
              have mK := hsub (K, oK) (List.mem_append_right _ (by k_mem))
              have i2 : ∀ p ∈ led, p ∈ led2 := fun p hp => hsub p (List.mem_append_right _ (List.mem_cons_of_mem _ (List.mem_cons_of_mem _ hp)))
              replace m1 := i2 _ m1
              replace m2 := i2 _ m2
              replace m6 := i2 _ m6
              replace dS := dS.mono i2
              replace hfm := i2 _ hfm
              clear hsub i2 m3
              (try dsimp only)
              k_with "myadd" => (k_dflt (refine kmk_add_ints (by k_asm) (by k_asm) (News.isList (by k_asm) (by k_mem)) (News.isList (by k_asm) (by k_mem)) hfi.go (.cons _ _ .nil) ?_ (by rw [sizeLine_eq]; simp [fst']; omega)); intro D' ws' h' F' N' l1 hI')
              k_steps
              refine Stop.mk (min_use (min_ct w sq hsl hsr hz (fst' (i + 1) ++ [((i + 1 : Nat) : Int) + (r : Nat)]) (fst' (i + 1) ++ [((i + 1 : Nat) : Int) + (k : Nat)]) (fst_len (by omega)) (fst_app (by omega) (by omega) (by omega)) (fst_len (by omega)) (fst_app (by omega) (by omega) (by omega))) B (by k_asm) X (by k_asm) T rfl (dS.mono (by lcg_sub)) (by k_mem) (by assumption) (by k_mem) (by assumption) (by ktr_room) (by ktr_units) ?_)
              intro t9 h9 tk9 F9 N9
              (try dsimp only)
              k_steps
              exact endTupN (by k_asm) (by k_asm) (by lcg_sub) (by assumption) (.cons (int_dat (me_eq sq (i + 1) r k)) (.cons (.int _ _) .nil))
            case efin =>
              intro zs objs2 hl hs ha hd
              unfold FinE
              intro D2 h2 tk2 F2 N2 off2
              exact endList F2 N2 off2 hs ha hd (fun p hp => hp)
          case dfin =>
            intro us objs hl hs ha hd
            unfold FinA
            intro D7 h8 tk8 F12 N12 off12
            obtain ⟨R4, N13, sR4, oR4, dU, hRR, _⟩ := packA0 N12 off12 hs ha hd sR3 oR3
            replace dC := dC.mono hRR
            replace dS := dS.mono hRR
            replace dL := dL.mono hRR
            replace dX := dX.mono hRR
            replace dT := dT.mono hRR
            clear hs ha hd off12 N12 hl sR3 oR3 hRR hfm hfi hrsD
            (try dsimp only)
            have f4 := off_cell N13 (by k_mem) d4 sR4 hT7 (by omega) (fun p hp => in9 p hp)
            have f5 := off_cell N13 (by k_mem) d5 sR4 hT7 (by omega) (fun p hp => in9 p hp)
            k_steps
            · rename_i hc
              have hcb : (Cn sq i == 0) = false := by simpa using hc
              refine Stop.mk (told_ne N13 dT dU (fun p hp => in9 p (List.mem_append_left _ hp)) (fun p hp => in9 p (List.mem_append_left _ hp)) (ok_tab fun r k => ok_told _ _) (ok_tab fun r k => ok_pair _ _) (tab_eq fun r hr k hk => by rw [toldD_n hc, Xv_eq sq i r k hi hr hk, restOf_n hc, part_div hc, part_mod hc]) (by ktr_units) ?_)
              have dT2 := dT
              rw [tab_eq (n := 3 - i) (g := fun r k => .tuple [.int (Me sq (i + 1) r k), .int (restOf cs.sum (Cn sq i))]) (fun r hr k hk => by rw [toldD_n hc, Xv_eq sq i r k hi hr hk, restOf_n hc, part_div hc, part_mod hc])] at dT2
              clear dT dU dX
              k_steps
              refine Stop.mk (LCg.Assign_ListComp_U (F₀ := by k_asm) (by rfl) (by with_unfolding_all rfl) (by rfl) (by decide) (by rfl) (by decide) (by rfl) (by rfl) (by rfl) ?_)
              k_steps
              obtain ⟨_, tvs, tcn, etz, htm, htd⟩ := dat_list dT2
              cases etz
              have htl : tvs.toArray.size = 3 - i := by rw [List.size_toArray, htd.length, List.length_map, List.length_range]
              refine Stop.mk (LCg.CompSrc.ledger (by rfl) (by k_asm) (by k_asm) (in9 _ (List.mem_append_left _ htm)) (by rw [htl, sizeLine_eq]; omega) ?_)
              intro g7
              rw [htl]
              refine rest_data R4 (fun r => .list (((List.range (3 - i)).map fun k => Me sq (i + 1) r k).map Dat.int)) (fun objs => .inr ⟨_, List.mem_append_right _ (in9 _ (List.mem_append_left _ htm)), rfl, _, rfl⟩) ?pstep ?pfin
              case pstep =>
                intro r objs led v C oC m₂ h tk E' hr' hv hNs hx F N hsub
                have hRl : ∀ p ∈ R4, p ∈ led := fun p hp => hsub p (List.mem_append_right _ (in9 p (List.mem_append_left _ hp)))
                obtain ⟨v', hv', hdv⟩ := htd.get (k := r) (by rw [List.length_map, List.length_range]; exact hr')
                rw [List.getElem?_toArray, hv'] at hv
                cases hv
                rw [List.getElem_map, List.getElem_range] at hdv
                obtain ⟨ra, rvs, rc, rfl, hrm, hrd⟩ := dat_list (hdv.mono hRl)
                have hl2 : rvs.toArray.size = 3 - i := by rw [List.size_toArray, hrd.length, List.length_map, List.length_range]
                clear hdv hv' hsub hRl htd htm dT2 dC dS dL N13 F12
                (try dsimp only)
                k_steps
                refine Stop.mk (LCg.ListComp_U (F₀ := by k_asm) (by rfl) (by decide) (by rfl) (by decide) (by rfl) ?_)
                k_steps
                refine Stop.mk (LCg.CompSrc.ledger (by rfl) (by k_asm) (by k_asm) (List.mem_cons_of_mem _ hrm) (by rw [hl2, sizeLine_eq]; omega) ?_)
                intro g8
                rw [hl2]
                refine rest_data [] (fun k => .int (Me sq (i + 1) r k)) (fun objs => .inr ⟨_, List.mem_append_right _ (List.mem_cons_of_mem _ hrm), rfl, _, rfl⟩) ?qstep ?qfin
                case qstep =>
                  intro k objs2 led2 v C2 oC2 m7 h tk E' hk2 hv hNs2 hx F N hsub
                  obtain ⟨v', hv', hdv⟩ := hrd.get (k := k) (by rw [List.length_map, List.length_range]; exact hk2)
                  rw [List.getElem?_toArray, hv'] at hv
                  cases hv
                  rw [List.getElem_map, List.getElem_range] at hdv
                  obtain ⟨pa, pvs, pc, rfl, hpm, hpd⟩ := dat_tuple (hdv.mono fun p hp => hsub p (List.mem_append_right _ (List.mem_cons_of_mem _ hp)))
                  clear hdv hv' hsub hrd hrm
                  cases hpd with
                  | cons ha hb =>
                    cases ha
                    cases hb with
                    | cons hb1 hb2 =>
                    cases hb1
                    cases hb2
                    (try dsimp only)
                    k_with "itC" => (k_dflt (refine item_tupleT (News.isTup (by k_asm) (by k_mem)) (by decide) (by decide) rfl rfl ?_))
                    k_steps
                    exact Stop.mk (DatEnd.intro [] [] (by k_asm) (by k_asm) rfl (by lcg_sub) (fun _ h => nomatch h) (fun _ h => nomatch h) .nil .nil (.int _ _))
                case qfin =>
                  intro ys objs2 hl hs ha hd
                  unfold FinE
                  intro D2 h2 tk2 F2 N2 off2
                  exact endList (base := []) F2 N2 off2 hs ha (by rw [List.map_map]; exact hd) (fun _ h => nomatch h)
              case pfin =>
                intro ys objs hl hs ha hd
                unfold FinA
                intro D9 h9 tk9 F14 N14 off14
                obtain ⟨R5, N15, sR5, oR5, dM, hRR, _⟩ := packA0 N14 off14 hs ha hd sR4 oR4
                replace dC := dC.mono hRR
                replace dS := dS.mono hRR
                replace dL := dL.mono hRR
                replace dM : DatIn R5 (.ref D9) (.list ((Mt sq (i + 1)).map rowD)) := by
                  rw [Mt_eq, ← tableD (n := 4 - (i + 1)) (f := fun r k => Me sq (i + 1) r k) (fun _ _ _ _ => rfl), show 4 - (i + 1) = 3 - i by omega]
                  exact dM
                clear hs ha hd off14 N14 hl sR4 oR4 hRR f4 f5 htd htm dT2
                (try dsimp only)
                have f4 := off_cell N15 (by k_mem) d4 sR5 hT7 (by omega) (fun p hp => in9 p hp)
                have f5 := off_cell N15 (by k_mem) d5 sR5 hT7 (by omega) (fun p hp => in9 p hp)
                k_with "itC" => (k_dflt (refine my_itemRF (by k_asm) dL (fun p hp => in9 p (List.mem_append_left _ hp)) 0 rfl (by omega) ?_); intro ra0 rvs0 rc0 hm0 hi0)
                k_with "itS" => (k_dflt (refine my_itemF (by k_asm) (in9 _ (List.mem_append_left _ (by assumption))) (by assumption) 0 rfl (by omega) (by decide) ?_); intro t1)
                k_steps
                exact turnEnd (by k_asm) (by k_asm) hT7 hok l50 hcI sR5 oR5 d1f d2' d3' (by rw [Cn_succ]; assumption) (by assumption) d6 d7 d8 dC dS dM
            · rename_i hc
              have hcb : (Cn sq i == 0) = true := by simpa using hc
              refine Stop.mk (LCg.ListComp_U (F₀ := by k_asm) (by rfl) (by decide) (by rfl) (by decide) (by rfl) ?_)
              k_steps
              obtain ⟨_, xvs, xc, exz, hxm, hxd⟩ := dat_list dX
              cases exz
              have htl : xvs.toArray.size = 3 - i := by rw [List.size_toArray, hxd.length, List.length_map, List.length_range]
              refine Stop.mk (LCg.CompSrc.ledger (by rfl) (by k_asm) (by k_asm) (in9 _ (List.mem_append_left _ hxm)) (by rw [htl, sizeLine_eq]; omega) ?_)
              intro g7
              rw [htl]
              refine rest_data R4 (fun r => .list ((List.range (3 - i)).map fun k => .tuple [.str (Str.ofString "refused"), .int (restOf cs.sum (Cn sq i))])) (fun objs => .inr ⟨_, List.mem_append_right _ (in9 _ (List.mem_append_left _ hxm)), rfl, _, rfl⟩) ?vstep ?vfin
              case vstep =>
                intro r objs led v C oC m₂ h tk E' hr' hv hNs hx F N hsub
                have hRl : ∀ p ∈ R4, p ∈ led := fun p hp => hsub p (List.mem_append_right _ (in9 p (List.mem_append_left _ hp)))
                have m2 := hsub (L + 1 + 1 + 1 + 1 + 1 + 1 + 1, o2n) (List.mem_append_right _ (by k_mem))
                obtain ⟨v', hv', hdv⟩ := hxd.get (k := r) (by rw [List.length_map, List.length_range]; exact hr')
                rw [List.getElem?_toArray, hv'] at hv
                cases hv
                rw [List.getElem_map, List.getElem_range] at hdv
                obtain ⟨ra, rvs, rc, rfl, hrm, hrd⟩ := dat_list (hdv.mono hRl)
                have hl2 : rvs.toArray.size = 3 - i := by rw [List.size_toArray, hrd.length, List.length_map, List.length_map, List.length_range]
                clear hdv hv' hsub hRl hxd hxm dX dT dU dC dS dL N13 F12
                (try dsimp only)
                k_steps
                refine Stop.mk (LCg.ListComp_U (F₀ := by k_asm) (by rfl) (by decide) (by rfl) (by decide) (by rfl) ?_)
                k_steps
                refine Stop.mk (LCg.CompSrc.ledger (by rfl) (by k_asm) (by k_asm) (List.mem_cons_of_mem _ hrm) (by rw [hl2, sizeLine_eq]; omega) ?_)
                intro g8
                rw [hl2]
                refine rest_data (objs ++ R4) (fun k => .tuple [.str (Str.ofString "refused"), .int (restOf cs.sum (Cn sq i))]) (fun objs => .inr ⟨_, List.mem_append_right _ (List.mem_cons_of_mem _ hrm), rfl, _, rfl⟩) ?wstep ?wfin
                case wstep =>
                  intro k objs2 led2 v C2 oC2 m7 h tk E' hk2 hv hNs2 hx F N hsub
                  replace m2 := hsub _ (List.mem_append_right _ (List.mem_cons_of_mem _ m2))
                  clear hsub hv hrd hrm
                  (try dsimp only)
                  k_steps
                  exact endTupN (by k_asm) (by k_asm) (by lcg_sub) (by assumption) (.cons (.str _ _) (.cons (.int _ _) .nil))
                case wfin =>
                  intro ys objs2 hl hs ha hd
                  unfold FinE
                  intro D2 h2 tk2 F2 N2 off2
                  exact endList F2 N2 off2 hs ha hd (fun p hp => hp)
              case vfin =>
                intro ys objs hl hs ha hd
                unfold FinE
                intro D9 h9 tk9 F14 N14 off14
                obtain ⟨R5, N15, sR5, oR5, dM, hRR, _⟩ := packA0 N14 off14 hs ha hd sR4 oR4
                replace dT := dT.mono hRR
                clear hs ha hd off14 N14 hl sR4 oR4 hRR f4 f5 hxm hxd dU dX dC dS dL
                (try dsimp only)
                k_steps
                refine Stop.mk (told_ne N15 dT dM (fun p hp => in9 p (List.mem_append_left _ hp)) (fun p hp => in9 p (List.mem_append_left _ hp)) (ok_tab fun r k => ok_told _ _) (ok_tab fun r k => ok_ref _) (tab_eq fun r hr k hk => by rw [toldD_0 hc, Xv_eq sq i r k hi hr hk, hc, Int.zero_mul, Int.zero_add]) (by ktr_units) ?_)
                k_steps
                exact Stop.mk (hr _ _ _ _ (by k_asm) (fun p hp => N15 p (in9 p (List.mem_append_right _ hp))) hT7)
end Mine

end
end
theorem PySem.Challenge.cw_ta0142_02_holds : PySem.Challenge.rw_ta0142_02.Holds := by
  exact Mine.pre0.2 ⟨Mine.pre0_turn⟩
