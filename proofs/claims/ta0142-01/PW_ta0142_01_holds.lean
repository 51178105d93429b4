import PyProof.Rows.All
import Wide.All
import OpenK.AllK
import Wide.FinOn
import PySem.Challenge.RW_ta0142_01
set_option Elab.async false
set_option maxRecDepth 100000
set_option linter.all false
section
open PySem PySem.W PyProof.Rows
local macro_rules | `(tactic| walk_at $s:str) => `(tactic| k_extra $s)
section
open PySem PySem.W PyProof.Rows
set_option maxHeartbeats 8000000
open_top hd for PySem.Challenge.rw_ta0142_01


end
theorem Mine.topOff : True := by w_top off; exact trivial
section
open PySem PySem.W PyProof.Rows PySem.Calls PySem.Spec
namespace Mine
/-! sizes -/
noncomputable def Sz (x : Int) (k : Nat) : Prop := x.natAbs < 2 ^ k
theorem bits_of_sz {x : Int} {k : Nat} (h : Sz x k) : Builtin.Int.intBits x ≤ k := by
  unfold Builtin.Int.intBits
  split
  · omega
  · rename_i h0
    have hx : x.natAbs ≠ 0 := by intro e; apply h0; simp only [beq_iff_eq]; omega
    have := (Nat.log2_lt hx).mpr h
    omega
theorem sz_of_bits {x : Int} {k : Nat} (h : Builtin.Int.intBits x ≤ k) : Sz x k := by
  unfold Builtin.Int.intBits at h
  unfold Sz
  by_cases h0 : x = 0
  · subst h0; exact Nat.pow_pos (by decide)
  · have hx : x.natAbs ≠ 0 := by omega
    rw [if_neg (by simpa using h0)] at h
    exact (Nat.log2_lt hx).mp (by omega)
theorem Sz.mono {x : Int} {k l : Nat} (h : Sz x k) (hl : k ≤ l) : Sz x l := Nat.lt_of_lt_of_le h (Nat.pow_le_pow_right (by decide) hl)
theorem Sz.mul {x y : Int} {k l : Nat} (h : Sz x k) (g : Sz y l) : Sz (x * y) (k + l) := by
  unfold Sz at *
  rw [Int.natAbs_mul, Nat.pow_add]
  exact Nat.mul_lt_mul'' h g
theorem Sz.add {x y : Int} {k l : Nat} (h : Sz x k) (g : Sz y l) : Sz (x + y) (max k l + 1) := by
  have h' := Sz.mono h (Nat.le_max_left k l)
  have g' := Sz.mono g (Nat.le_max_right k l)
  unfold Sz at *
  rw [Nat.pow_succ, Nat.mul_two]
  exact Nat.lt_of_le_of_lt (Int.natAbs_add_le x y) (Nat.add_lt_add h' g')
/-- two parts of a whole -/
theorem tn_sub {a b : Int} (ha : 0 ≤ a) (h : a ≤ b) : a.toNat + (b - a).toNat = b.toNat := by
  rw [← Int.toNat_add ha (Int.sub_nonneg_of_le h), Int.add_comm a, Int.sub_add_cancel]
theorem Sz.neg {x : Int} {k : Nat} (h : Sz x k) : Sz (-x) k := by unfold Sz at *; omega
theorem Sz.sub {x y : Int} {k l : Nat} (h : Sz x k) (g : Sz y l) : Sz (x - y) (max k l + 1) := by
  have := Sz.add h (Sz.neg g); rwa [← Int.sub_eq_add_neg] at this
theorem sz_le {x : Int} {k : Nat} (h0 : 0 ≤ x) (h : x < 2 ^ k) : Sz x k := by
  unfold Sz
  have e : ((2 ^ k : Nat) : Int) = (2 : Int) ^ k := by simp
  omega
theorem Sz.lt {x : Int} {k : Nat} (h : Sz x k) : x < 2 ^ k ∧ -(2 ^ k) < x := by
  unfold Sz at h
  have e : ((2 ^ k : Nat) : Int) = (2 : Int) ^ k := by simp
  omega
theorem Sz.of_le {x y : Int} {k : Nat} (h : Sz y k) (hx : x.natAbs ≤ y.natAbs) : Sz x k := Nat.lt_of_le_of_lt hx h
theorem sz_one {k : Nat} (h : 1 ≤ k) : Sz 1 k := Sz.mono (k := 1) (by unfold Sz; decide) h
theorem shl_ok {a n : Int} {k : Nat} (h : Sz a k) (hk : (k : Int) + n ≤ 134217728) : (Builtin.Int.intBits a : Int) + n ≤ 2 ^ 27 := by
  have := bits_of_sz h
  have e : (2 : Int) ^ 27 = 134217728 := by decide
  omega
theorem mul_ok {a b : Int} {k l : Nat} (h : Sz a k) (g : Sz b l) (hk : k + l ≤ 134217728) : IntMulOk a b := by
  have h1 := bits_of_sz h
  have h2 := bits_of_sz g
  have e : Builtin.Int.intTooBig (Builtin.Int.intBits a + Builtin.Int.intBits b) = false := by
    unfold Builtin.Int.intTooBig bitsLine
    have e : (2 : Nat) ^ 27 = 134217728 := by decide
    exact decide_eq_false (by omega)
  unfold IntMulOk
  rw [e]
  simp
theorem pow_pos (k : Nat) : (0 : Int) < 2 ^ k := Int.pow_pos (by decide)
theorem pow_add (k l : Nat) : (2 : Int) ^ (k + l) = 2 ^ k * 2 ^ l := Int.pow_add ..
end Mine

end
section
open PySem PySem.W PyProof.Rows PySem.Calls PySem.Spec
namespace Mine
/-! bits -/
theorem bitAnd_nat (x y : Nat) : Builtin.bitAnd (x : Int) (y : Int) = ((x &&& y : Nat) : Int) := by
  unfold Builtin.bitAnd
  have h1 : decide (0 ≤ (x : Int)) = true := decide_eq_true (by omega)
  have h2 : decide (0 ≤ (y : Int)) = true := decide_eq_true (by omega)
  rw [h1, h2]
  rfl
theorem bitOr_nat (x y : Nat) : Builtin.bitOr (x : Int) (y : Int) = ((x ||| y : Nat) : Int) := by
  unfold Builtin.bitOr Builtin.bitAnd
  have h1 : decide (0 ≤ Builtin.bitNot (x : Int)) = false := decide_eq_false (by unfold Builtin.bitNot; omega)
  have h2 : decide (0 ≤ Builtin.bitNot (y : Int)) = false := decide_eq_false (by unfold Builtin.bitNot; omega)
  rw [h1, h2]
  have e : ∀ x : Nat, (Builtin.bitNot (Builtin.bitNot (x : Int))).toNat = x := by intro x; unfold Builtin.bitNot; omega
  show Builtin.bitNot (Builtin.bitNot ((((Builtin.bitNot (Builtin.bitNot (x : Int))).toNat ||| (Builtin.bitNot (Builtin.bitNot (y : Int))).toNat : Nat)) : Int)) = _
  rw [e, e]
  unfold Builtin.bitNot; omega
theorem bitXor_nat (x y : Nat) : Builtin.bitXor (x : Int) (y : Int) = ((x ||| y : Nat) : Int) - ((x &&& y : Nat) : Int) := by
  unfold Builtin.bitXor; rw [bitOr_nat, bitAnd_nat]
theorem natPow (k : Nat) : ((2 ^ k : Nat) : Int) = (2 : Int) ^ k := by simp
theorem bitOr_shl {x y : Int} {k : Nat} (hx : 0 ≤ x) (hy : 0 ≤ y) (hk : y < 2 ^ k) : Builtin.bitOr (x * 2 ^ k) y = x * 2 ^ k + y := by
  obtain ⟨a, rfl⟩ := Int.eq_ofNat_of_zero_le hx
  obtain ⟨b, rfl⟩ := Int.eq_ofNat_of_zero_le hy
  have e := natPow k
  have hb : b < 2 ^ k := by omega
  have e2 : (a : Int) * 2 ^ k = ((a <<< k : Nat) : Int) := by rw [Nat.shiftLeft_eq, ← e]; simp
  rw [e2, bitOr_nat, ← Nat.shiftLeft_add_eq_or_of_lt hb]
  simp
theorem bitAnd_mask {x : Int} {k : Nat} (hx : 0 ≤ x) : Builtin.bitAnd x (1 * 2 ^ k - 1) = x % 2 ^ k := by
  obtain ⟨a, rfl⟩ := Int.eq_ofNat_of_zero_le hx
  have e := natPow k
  have e2 : (1 : Int) * 2 ^ k - 1 = ((2 ^ k - 1 : Nat) : Int) := by
    have := Nat.pow_pos (n := k) (show 0 < 2 by decide)
    omega
  rw [e2, bitAnd_nat, Nat.and_two_pow_sub_one_eq_mod, ← e]
  simp
theorem and_high (a k : Nat) : a &&& (a >>> k <<< k) = a >>> k <<< k := by
  apply Nat.eq_of_testBit_eq
  intro i
  simp only [Nat.testBit_and, Nat.testBit_shiftLeft, Nat.testBit_shiftRight]
  by_cases h : k ≤ i
  · have : k + (i - k) = i := by omega
    simp [h, this]
  · simp [h]
theorem bitXor_high {x : Int} {k : Nat} (hx : 0 ≤ x) : Builtin.bitXor x (x.fdiv (2 ^ k) * 2 ^ k) = x % 2 ^ k := by
  obtain ⟨a, rfl⟩ := Int.eq_ofNat_of_zero_le hx
  have e := natPow k
  have e1 : (a : Int).fdiv (2 ^ k) = ((a >>> k : Nat) : Int) := by
    rw [Int.fdiv_eq_ediv_of_nonneg _ (by have := pow_pos k; omega), ← e, Nat.shiftRight_eq_div_pow]; simp
  have e2 : ((a >>> k : Nat) : Int) * 2 ^ k = ((a >>> k <<< k : Nat) : Int) := by rw [Nat.shiftLeft_eq, ← e]; simp
  have e3 : (a ||| (a >>> k <<< k)) = a := by
    apply Nat.eq_of_testBit_eq
    intro i
    simp only [Nat.testBit_or, Nat.testBit_shiftLeft, Nat.testBit_shiftRight]
    by_cases h : k ≤ i
    · have : k + (i - k) = i := by omega
      simp [h, this]
    · simp [h]
  rw [e1, e2, bitXor_nat, e3, and_high]
  have e4 : a >>> k <<< k = a / 2 ^ k * 2 ^ k := by rw [Nat.shiftLeft_eq, Nat.shiftRight_eq_div_pow]
  have e5 := Nat.div_add_mod a (2 ^ k)
  rw [Nat.mul_comm] at e5
  rw [e4, ← e]
  have e6 : (a : Int) % ((2 ^ k : Nat) : Int) = ((a % 2 ^ k : Nat) : Int) := by simp
  rw [e6]
  omega
theorem fdiv_pow {x : Int} {k : Nat} : x.fdiv (2 ^ k) = x / 2 ^ k := Int.fdiv_eq_ediv_of_nonneg _ (by have := pow_pos k; omega)
/-! divisions -/
theorem div_of {a b q r : Int} (h : q * b + r = a) (h0 : 0 ≤ r) (h1 : r < b) : a / b = q ∧ a % b = r := by
  have hb : 0 < b := by omega
  constructor
  · rw [← h, Int.add_comm, Int.add_mul_ediv_right _ _ (by omega), Int.ediv_eq_zero_of_lt h0 h1]; omega
  · rw [← h, Int.add_comm, Int.add_mul_emod_self_right, Int.emod_eq_of_lt h0 h1]
theorem ediv_lt {a b c : Int} (hb : 0 < b) (h : a < c * b) : a / b < c := Int.ediv_lt_of_lt_mul hb h
theorem div_add_mod (a b : Int) : a / b * b + a % b = a := by rw [Int.mul_comm]; exact Int.mul_ediv_add_emod a b

/-- the count down of the remainder -/
theorem accDown_lin (b q0 r0 k : Int) (h : k ≤ q0) : accDown (fun _ x => x + b) q0 r0 k = r0 + (q0 - k) * b := by
  have : ∀ n : Nat, accDown (fun _ x => x + b) q0 r0 (q0 - n) = r0 + n * b := by
    intro n
    induction n with
    | zero =>
      have e : q0 - ((0 : Nat) : Int) = q0 := by omega
      rw [e, accDown_start]; simp
    | succ n ih =>
      have e : q0 - ((n + 1 : Nat) : Int) = (q0 - n) - 1 := by omega
      rw [e, accDown_succ (by omega), ih]
      grind
  have e : k = q0 - ((q0 - k).toNat : Int) := by omega
  have e2 : ((q0 - k).toNat : Int) = q0 - k := by omega
  have h3 := this (q0 - k).toNat
  rw [← e, e2] at h3
  exact h3
theorem stop_d3 {a b q0 r0 : Int} (h : q0 * b + r0 = a) (h1 : r0 < b) (hb : 0 < b) : StopDown (fun k => decide (accDown (fun _ x => x + b) q0 r0 k < 0)) q0 (a / b) := by
  have hm := Int.emod_nonneg a (show b ≠ 0 by omega)
  have hd := div_add_mod a b
  have hle : a / b ≤ q0 := by
    have : a / b < q0 + 1 := ediv_lt hb (by grind)
    omega
  refine ⟨hle, ?_⟩
  show decide (accDown (fun _ x => x + b) q0 r0 (a / b) < 0) = false
  rw [accDown_lin _ _ _ _ hle]
  refine decide_eq_false ?_
  have : r0 + (q0 - a / b) * b = a % b := by grind
  omega
theorem end_d3 {a b q0 r0 k : Int} (h : q0 * b + r0 = a) (h1 : r0 < b) (hk : k ≤ q0)
    (hall : ∀ j, k < j → j ≤ q0 → decide (accDown (fun _ x => x + b) q0 r0 j < 0) = true) (hend : decide (accDown (fun _ x => x + b) q0 r0 k < 0) = false) :
    k = a / b ∧ accDown (fun _ x => x + b) q0 r0 k = a % b := by
  rw [accDown_lin _ _ _ _ hk] at hend ⊢
  have h0 : 0 ≤ r0 + (q0 - k) * b := by simpa using hend
  have hlt : r0 + (q0 - k) * b < b := by
    by_cases hq : k = q0
    · subst hq; simp; omega
    · have h2 := hall (k + 1) (by omega) (by omega)
      rw [accDown_lin _ _ _ _ (by omega)] at h2
      have h3 : r0 + (q0 - (k + 1)) * b < 0 := by simpa using h2
      have h4 : r0 + (q0 - k) * b = r0 + (q0 - (k + 1)) * b + b := by grind
      omega
  obtain ⟨e1, e2⟩ := div_of (a := a) (b := b) (q := k) (r := r0 + (q0 - k) * b) (by grind) h0 hlt
  exact ⟨e1.symm, e2.symm⟩
end Mine
namespace Mine
open PySem PySem.W PyProof.Rows PySem.Calls PySem.Spec
theorem d3_a12_lt {P a12 a3 b : Int} (hP : 0 < P) (h3 : 0 ≤ a3) (ha : a12 * P + a3 < b * P) : a12 < b := by
  rcases Int.lt_or_le a12 b with h | h
  · exact h
  · have := Int.mul_le_mul_of_nonneg_right h (Int.le_of_lt hP)
    omega
theorem d3_pos {P a12 a3 b b1 b2 : Int} (hb : b = b1 * P + b2) (ha : a12 * P + a3 < b * P) :
    (1 * P - 1) * b + ((a12 - b1 * P + b1) * P + a3 - (1 * P - 1) * b2) = a12 * P + a3 ∧ (a12 - b1 * P + b1) * P + a3 - (1 * P - 1) * b2 < b := by
  have h : (1 * P - 1) * b + ((a12 - b1 * P + b1) * P + a3 - (1 * P - 1) * b2) = a12 * P + a3 := by subst hb; grind
  refine ⟨h, ?_⟩
  have h2 : (1 * P - 1) * b = b * P - b := by grind
  omega
theorem d3_neg {P a12 a3 b b1 b2 q r : Int} (hP : 0 < P) (h3 : a3 < P) (hb : b = b1 * P + b2) (hb2 : 0 ≤ b2) (hq : q * b1 + r = a12) (hq0 : 0 ≤ q) (hr : r < b1) :
    q * b + (r * P + a3 - q * b2) = a12 * P + a3 ∧ r * P + a3 - q * b2 < b := by
  have h : q * b + (r * P + a3 - q * b2) = a12 * P + a3 := by subst hb; subst hq; grind
  refine ⟨h, ?_⟩
  have h1 : 0 ≤ q * b2 := Int.mul_nonneg hq0 hb2
  have h2 : (r + 1) * P ≤ b1 * P := Int.mul_le_mul_of_nonneg_right (by omega) (Int.le_of_lt hP)
  have h3 : (r + 1) * P = r * P + P := by grind
  omega
theorem d3_not {P a12 b b1 b2 : Int} (hP : 0 < P) (hab : a12 < b) (hb : b = b1 * P + b2) (hb2' : b2 < P) (hc : ¬ a12 / P = b1) : a12 < b1 * P := by
  have h1 : a12 / P < b1 + 1 := ediv_lt hP (by have : (b1 + 1) * P = b1 * P + P := by grind
                                               omega)
  have h2 : a12 / P < b1 := by omega
  exact (Int.ediv_lt_iff_lt_mul hP).mp h2
end Mine

end
section
open PySem PySem.W PyProof.Rows PySem.Calls PySem.Spec
namespace Mine
theorem d2_math {A B P : Int} (hP : 0 < P) (hB : 0 < B) (hAB : A < B * (P * P)) :
    A / (P * P) * P + A / P % P = A / P ∧ A / P < B * P ∧ (A / P % B) * P + A % P < B * P ∧
    A / B = A / P / B * P + ((A / P % B) * P + A % P) / B ∧ ((A / P % B) * P + A % P) % B = A % B := by
  have e0 : A / (P * P) = A / P / P := by rw [Int.ediv_ediv_of_nonneg (by omega)]
  have e1 := div_add_mod A P
  have m0 := Int.emod_nonneg A (show P ≠ 0 by omega)
  have m1 := Int.emod_lt_of_pos A hP
  have e2 := div_add_mod (A / P) B
  have n0 := Int.emod_nonneg (A / P) (show B ≠ 0 by omega)
  have n1 := Int.emod_lt_of_pos (A / P) hB
  have e3 := div_add_mod ((A / P % B) * P + A % P) B
  have k0 := Int.emod_nonneg ((A / P % B) * P + A % P) (show B ≠ 0 by omega)
  have k1 := Int.emod_lt_of_pos ((A / P % B) * P + A % P) hB
  refine ⟨by rw [e0]; exact div_add_mod _ _, ?_, ?_, ?_⟩
  · refine ediv_lt hP ?_
    have : B * P * P = B * (P * P) := by grind
    omega
  · have : (A / P % B + 1) * P ≤ B * P := Int.mul_le_mul_of_nonneg_right (by omega) (by omega)
    have : (A / P % B + 1) * P = (A / P % B) * P + P := by grind
    omega
  · have key : (A / P / B * P + ((A / P % B) * P + A % P) / B) * B + ((A / P % B) * P + A % P) % B = A := by
      generalize A / P / B = x at *
      generalize A / P % B = y at *
      generalize A % P = z at *
      generalize (y * P + z) / B = u at *
      generalize (y * P + z) % B = v at *
      generalize A / P = t at *
      subst e2
      grind
    have := div_of key k0 k1
    exact ⟨this.1, this.2.symm⟩

structure D2Raw (A B N H : Int) : Prop where
  g12 : 0 ≤ A.fdiv (2 ^ N.toNat)
  g3 : 0 ≤ Builtin.bitAnd (A.fdiv (2 ^ H.toNat)) (1 * 2 ^ H.toNat - 1)
  g3' : Builtin.bitAnd (A.fdiv (2 ^ H.toNat)) (1 * 2 ^ H.toNat - 1) < 2 ^ H.toNat
  gb : B = B.fdiv (2 ^ H.toNat) * 2 ^ H.toNat + Builtin.bitAnd B (1 * 2 ^ H.toNat - 1)
  gb1 : 2 ^ (H.toNat - 1) ≤ B.fdiv (2 ^ H.toNat)
  gb1' : B.fdiv (2 ^ H.toNat) < 2 ^ H.toNat
  gb2 : 0 ≤ Builtin.bitAnd B (1 * 2 ^ H.toNat - 1)
  gb2' : Builtin.bitAnd B (1 * 2 ^ H.toNat - 1) < 2 ^ H.toNat
  ga : A.fdiv (2 ^ N.toNat) * 2 ^ H.toNat + Builtin.bitAnd (A.fdiv (2 ^ H.toNat)) (1 * 2 ^ H.toNat - 1) < B * 2 ^ H.toNat
  gr : 0 ≤ (A.fdiv (2 ^ N.toNat) * 2 ^ H.toNat + Builtin.bitAnd (A.fdiv (2 ^ H.toNat)) (1 * 2 ^ H.toNat - 1)) % B
  g4 : 0 ≤ Builtin.bitAnd A (1 * 2 ^ H.toNat - 1)
  g4' : Builtin.bitAnd A (1 * 2 ^ H.toNat - 1) < 2 ^ H.toNat
  gr' : (A.fdiv (2 ^ N.toNat) * 2 ^ H.toNat + Builtin.bitAnd (A.fdiv (2 ^ H.toNat)) (1 * 2 ^ H.toNat - 1)) % B * 2 ^ H.toNat + Builtin.bitAnd A (1 * 2 ^ H.toNat - 1) < B * 2 ^ H.toNat
  zq : Sz ((A.fdiv (2 ^ N.toNat) * 2 ^ H.toNat + Builtin.bitAnd (A.fdiv (2 ^ H.toNat)) (1 * 2 ^ H.toNat - 1)) / B) H.toNat
  eq1 : Builtin.bitOr ((A.fdiv (2 ^ N.toNat) * 2 ^ H.toNat + Builtin.bitAnd (A.fdiv (2 ^ H.toNat)) (1 * 2 ^ H.toNat - 1)) / B * 2 ^ H.toNat)
    (((A.fdiv (2 ^ N.toNat) * 2 ^ H.toNat + Builtin.bitAnd (A.fdiv (2 ^ H.toNat)) (1 * 2 ^ H.toNat - 1)) % B * 2 ^ H.toNat + Builtin.bitAnd A (1 * 2 ^ H.toNat - 1)) / B) = A / B
  eq2 : ((A.fdiv (2 ^ N.toNat) * 2 ^ H.toNat + Builtin.bitAnd (A.fdiv (2 ^ H.toNat)) (1 * 2 ^ H.toNat - 1)) % B * 2 ^ H.toNat + Builtin.bitAnd A (1 * 2 ^ H.toNat - 1)) % B = A % B

theorem d2_raw {A B N H : Int} (hN : N = 2 * H) (hH : 1 ≤ H) (hA : 0 ≤ A) (hB1 : 2 ^ (N.toNat - 1) ≤ B) (hB2 : B < 2 ^ N.toNat) (hAB : A < B * 2 ^ N.toNat) : D2Raw A B N H := by
  have hP : (0 : Int) < 2 ^ H.toNat := pow_pos _
  have hB : 0 < B := by have := pow_pos (N.toNat - 1); omega
  have hH0 : 0 ≤ H := Int.le_trans (by decide) hH
  have tN : N.toNat = H.toNat + H.toNat := by rw [hN, Int.two_mul, Int.toNat_add hH0 hH0]
  have eN : (2 : Int) ^ N.toNat = 2 ^ H.toNat * 2 ^ H.toNat := by rw [← pow_add, tN]
  have eN1 : (2 : Int) ^ (N.toNat - 1) = 2 ^ (H.toNat - 1) * 2 ^ H.toNat := by rw [← pow_add, tN, Nat.sub_add_comm (show 1 ≤ H.toNat from Int.toNat_le_toNat hH)]
  clear tN hH0
  have hf : ∀ x : Int, x.fdiv (2 ^ H.toNat) = x / 2 ^ H.toNat := fun x => fdiv_pow
  have hfN : A.fdiv (2 ^ N.toNat) = A / 2 ^ N.toNat := fdiv_pow
  have hA1 : 0 ≤ A / 2 ^ H.toNat := Int.ediv_nonneg hA (by omega)
  have m3 : Builtin.bitAnd (A.fdiv (2 ^ H.toNat)) (1 * 2 ^ H.toNat - 1) = A / 2 ^ H.toNat % 2 ^ H.toNat := by rw [hf, bitAnd_mask hA1]
  have m4 : Builtin.bitAnd A (1 * 2 ^ H.toNat - 1) = A % 2 ^ H.toNat := bitAnd_mask hA
  have mb : Builtin.bitAnd B (1 * 2 ^ H.toNat - 1) = B % 2 ^ H.toNat := bitAnd_mask (by omega)
  have mm : ∀ x : Int, 0 ≤ x % 2 ^ H.toNat ∧ x % 2 ^ H.toNat < 2 ^ H.toNat := fun x => ⟨Int.emod_nonneg _ (by omega), Int.emod_lt_of_pos _ hP⟩
  rw [eN] at hB2 hAB
  rw [eN1] at hB1
  obtain ⟨c1, c2, c3, c4, c5⟩ := d2_math (P := 2 ^ H.toNat) hP hB hAB
  have s1 : A.fdiv (2 ^ N.toNat) * 2 ^ H.toNat + Builtin.bitAnd (A.fdiv (2 ^ H.toNat)) (1 * 2 ^ H.toNat - 1) = A / 2 ^ H.toNat := by rw [hfN, m3, eN, c1]
  have r0 : 0 ≤ A / 2 ^ H.toNat % B := Int.emod_nonneg _ (by omega)
  have q0 : 0 ≤ A / 2 ^ H.toNat / B := Int.ediv_nonneg hA1 (by omega)
  have q1 : A / 2 ^ H.toNat / B < 2 ^ H.toNat := ediv_lt hB (by rw [Int.mul_comm]; exact c2)
  have q2 : 0 ≤ (A / 2 ^ H.toNat % B * 2 ^ H.toNat + A % 2 ^ H.toNat) / B := Int.ediv_nonneg (by have := Int.mul_nonneg r0 (Int.le_of_lt hP); have := (mm A).1; omega) (by omega)
  have q2' : (A / 2 ^ H.toNat % B * 2 ^ H.toNat + A % 2 ^ H.toNat) / B < 2 ^ H.toNat := ediv_lt hB (by rw [Int.mul_comm (2 ^ H.toNat) B]; exact c3)
  exact {
    g12 := by rw [hfN]; exact Int.ediv_nonneg hA (by rw [eN]; exact Int.mul_nonneg (by omega) (by omega))
    g3 := by rw [m3]; exact (mm _).1
    g3' := by rw [m3]; exact (mm _).2
    gb := by rw [mb, hf]; exact (div_add_mod _ _).symm
    gb1 := by rw [hf]; exact (Int.le_ediv_iff_mul_le hP).mpr hB1
    gb1' := by rw [hf]; exact ediv_lt hP hB2
    gb2 := by rw [mb]; exact (mm _).1
    gb2' := by rw [mb]; exact (mm _).2
    ga := by rw [s1]; exact c2
    gr := by rw [s1]; exact r0
    g4 := by rw [m4]; exact (mm _).1
    g4' := by rw [m4]; exact (mm _).2
    gr' := by rw [s1, m4]; exact c3
    zq := by rw [s1]; exact sz_le q0 q1
    eq1 := by rw [s1, m4, bitOr_shl q0 q2 q2']; exact c4.symm
    eq2 := by rw [s1, m4]; exact c5 }

theorem log2_of {b : Int} {n : Int} (hn : 1 ≤ n) (hb : 2 ^ (n.toNat - 1) ≤ b) (hb' : b < 2 ^ n.toNat) : (b.natAbs.log2 : Int) = n - 1 := by
  have h0 := pow_pos (n.toNat - 1)
  have e1 := natPow (n.toNat - 1)
  have e2 := natPow n.toNat
  have hx : b.natAbs ≠ 0 := by omega
  have l1 : b.natAbs.log2 < n.toNat := (Nat.log2_lt hx).mpr (by omega)
  have l2 : ¬ b.natAbs.log2 < n.toNat - 1 := fun h => by have := (Nat.log2_lt hx).mp h; omega
  omega
theorem no_pylong {a b n : Int} (hn : 1 ≤ n) (hb : 2 ^ (n.toNat - 1) ≤ b) (hb' : b < 2 ^ n.toNat) (hl : (Builtin.Int.intBits a : Int) - n ≤ 4000) : Builtin.divisionGoesByPylong a b = false := by
  have h0 := pow_pos (n.toNat - 1)
  have hlog := log2_of hn hb hb'
  have e1 : (if b == 0 then 0 else b.natAbs.log2 / 30 + 1) = b.natAbs.log2 / 30 + 1 := by rw [if_neg (by simp only [beq_iff_eq]; omega)]
  have h2 : (if a == 0 then 0 else a.natAbs.log2 / 30 + 1) ≤ b.natAbs.log2 / 30 + 1 + 150 := by
    unfold Builtin.Int.intBits at hl
    by_cases ha : (a == 0) = true
    · rw [if_pos ha]; omega
    · rw [if_neg ha] at hl ⊢; omega
  show (decide ((if b == 0 then 0 else b.natAbs.log2 / 30 + 1) > 300) && decide ((if a == 0 then 0 else a.natAbs.log2 / 30 + 1) > (if b == 0 then 0 else b.natAbs.log2 / 30 + 1) + 150)) = false
  rw [e1, decide_eq_false (p := (if a == 0 then 0 else a.natAbs.log2 / 30 + 1) > b.natAbs.log2 / 30 + 1 + 150) (by omega)]
  simp
theorem bitAnd_one (n : Int) : Builtin.bitAnd n 1 = n % 2 := bitAnd_m1 n
end Mine

end
section
open PySem PySem.W PyProof.Rows PySem.Calls PySem.Spec
namespace Mine
/-! digits -/
noncomputable def digs (n : Nat) : Nat → Int → List Int
  | 0, _ => []
  | k + 1, x => x % 2 ^ n :: digs n k (x / 2 ^ n)
theorem digs_length (n : Nat) : ∀ (k : Nat) (x : Int), (digs n k x).length = k
  | 0, _ => rfl
  | k + 1, x => by rw [digs, List.length_cons, digs_length n k]
theorem emod_mul_emod {x P Q : Int} (hP : 0 < P) (hQ : 0 < Q) : x % (P * Q) % P = x % P ∧ x % (P * Q) / P = x / P % Q := by
  have e1 := div_add_mod x (P * Q)
  have a1 := Int.emod_nonneg x (show P * Q ≠ 0 by have := Int.mul_pos hP hQ; omega)
  have a2 := Int.emod_lt_of_pos x (Int.mul_pos hP hQ)
  have e2 := div_add_mod (x % (P * Q)) P
  have b1 := Int.emod_nonneg (x % (P * Q)) (show P ≠ 0 by omega)
  have b2 := Int.emod_lt_of_pos (x % (P * Q)) hP
  have c1 : 0 ≤ x % (P * Q) / P := Int.ediv_nonneg a1 (by omega)
  have c2 : x % (P * Q) / P < Q := ediv_lt hP (by rw [Int.mul_comm Q P]; exact a2)
  generalize x / (P * Q) = t at *
  generalize x % (P * Q) / P = u at *
  generalize x % (P * Q) % P = v at *
  generalize x % (P * Q) = y at *
  have k1 : (t * Q + u) * P + v = x := by subst e1; subst e2; grind
  obtain ⟨d1, d2⟩ := div_of k1 b1 b2
  obtain ⟨_, f2⟩ := div_of (a := x / P) (b := Q) (q := t) (r := u) d1.symm c1 c2
  exact ⟨d2.symm, f2.symm⟩
theorem digs_add (n : Nat) : ∀ (a b : Nat) (x : Int), digs n (a + b) x = digs n a (x % 2 ^ (n * a)) ++ digs n b (x / 2 ^ (n * a))
  | 0, b, x => by simp [digs]
  | a + 1, b, x => by
    have hP := pow_pos n
    have hQ := pow_pos (n * a)
    have e : (2 : Int) ^ (n * (a + 1)) = 2 ^ n * 2 ^ (n * a) := by rw [← pow_add]; congr 1; rw [Nat.mul_add]; omega
    obtain ⟨m1, m2⟩ := emod_mul_emod (x := x) hP hQ
    have e3 : x / (2 ^ n * 2 ^ (n * a)) = x / 2 ^ n / 2 ^ (n * a) := by rw [Int.ediv_ediv_of_nonneg (by omega)]
    rw [show a + 1 + b = (a + b) + 1 by omega, digs, digs_add n a b, digs, e, m1, m2, e3]
    rfl
theorem digs_range (n : Nat) : ∀ (k : Nat) (x : Int), ∀ d ∈ digs n k x, 0 ≤ d ∧ d < 2 ^ n
  | 0, _, _, h => nomatch h
  | k + 1, x, d, h => by
    rcases List.mem_cons.mp h with rfl | h
    · have := pow_pos n
      exact ⟨Int.emod_nonneg _ (by omega), Int.emod_lt_of_pos _ this⟩
    · exact digs_range n k _ d h
noncomputable def undigs (n : Nat) : List Int → Int
  | [] => 0
  | d :: r => d + undigs n r * 2 ^ n
theorem undigs_digs (n : Nat) : ∀ (k : Nat) (x : Int), 0 ≤ x → x < 2 ^ (n * k) → undigs n (digs n k x) = x
  | 0, x, h0, h1 => by simp at h1; simp [digs, undigs]; omega
  | k + 1, x, h0, h1 => by
    have hP := pow_pos n
    have e : (2 : Int) ^ (n * (k + 1)) = 2 ^ n * 2 ^ (n * k) := by rw [← pow_add]; congr 1; rw [Nat.mul_add]; omega
    have e2 := div_add_mod x (2 ^ n)
    rw [digs, undigs, undigs_digs n k _ (Int.ediv_nonneg h0 (by omega)) (ediv_lt hP (by rw [Int.mul_comm, ← e]; exact h1))]
    omega
theorem undigs_append (n : Nat) : ∀ (l r : List Int), undigs n (l ++ r) = undigs n l + undigs n r * 2 ^ (n * l.length)
  | [], r => by simp [undigs]
  | d :: l, r => by
    have e : (2 : Int) ^ (n * (l.length + 1)) = 2 ^ (n * l.length) * 2 ^ n := by rw [← pow_add]; congr 1
    rw [List.cons_append, undigs, undigs_append n l r, undigs, List.length_cons, e]
    grind
theorem undigs_range (n : Nat) : ∀ l : List Int, (∀ d ∈ l, 0 ≤ d ∧ d < 2 ^ n) → 0 ≤ undigs n l ∧ undigs n l < 2 ^ (n * l.length)
  | [], _ => by simp [undigs]
  | d :: r, h => by
    have hP := pow_pos n
    have e : (2 : Int) ^ (n * (r.length + 1)) = 2 ^ (n * r.length) * 2 ^ n := by rw [← pow_add]; congr 1
    have ih := undigs_range n r fun x hx => h x (List.mem_cons_of_mem _ hx)
    have hd := h d (List.mem_cons_self ..)
    rw [undigs, List.length_cons, e]
    have h1 : 0 ≤ undigs n r * 2 ^ n := Int.mul_nonneg ih.1 (by omega)
    have h2 : (undigs n r + 1) * 2 ^ n ≤ 2 ^ (n * r.length) * 2 ^ n := Int.mul_le_mul_of_nonneg_right (by omega) (by omega)
    have h3 : (undigs n r + 1) * 2 ^ n = undigs n r * 2 ^ n + 2 ^ n := by grind
    omega
/-- long division, the lowest digit first: the quotient's digits and the rest -/
noncomputable def ldiv (n : Nat) (b : Int) : List Int → List Int × Int
  | [] => ([], 0)
  | d :: t => (((ldiv n b t).2 * 2 ^ n + d) / b :: (ldiv n b t).1, ((ldiv n b t).2 * 2 ^ n + d) % b)
theorem ldiv_spec (n : Nat) {b : Int} (hb : 0 < b) : ∀ l : List Int, (∀ d ∈ l, 0 ≤ d ∧ d < 2 ^ n) →
    undigs n (ldiv n b l).1 * b + (ldiv n b l).2 = undigs n l ∧ 0 ≤ (ldiv n b l).2 ∧ (ldiv n b l).2 < b ∧ (ldiv n b l).1.length = l.length ∧ ∀ q ∈ (ldiv n b l).1, 0 ≤ q ∧ q < 2 ^ n
  | [], _ => by simp [ldiv, undigs]; omega
  | d :: t, h => by
    obtain ⟨i1, i2, i3, i4, i5⟩ := ldiv_spec n hb t fun x hx => h x (List.mem_cons_of_mem _ hx)
    have hd := h d (List.mem_cons_self ..)
    have hP := pow_pos n
    have e := div_add_mod ((ldiv n b t).2 * 2 ^ n + d) b
    have m1 := Int.emod_nonneg ((ldiv n b t).2 * 2 ^ n + d) (show b ≠ 0 by omega)
    have m2 := Int.emod_lt_of_pos ((ldiv n b t).2 * 2 ^ n + d) hb
    have p0 : 0 ≤ (ldiv n b t).2 * 2 ^ n := Int.mul_nonneg i2 (by omega)
    have p1 : ((ldiv n b t).2 + 1) * 2 ^ n ≤ b * 2 ^ n := Int.mul_le_mul_of_nonneg_right (by omega) (by omega)
    have p2 : ((ldiv n b t).2 + 1) * 2 ^ n = (ldiv n b t).2 * 2 ^ n + 2 ^ n := by grind
    refine ⟨?_, m1, m2, by simp [ldiv, i4], fun q hq => ?_⟩
    · simp only [ldiv, undigs]
      generalize undigs n (ldiv n b t).1 = u at *
      generalize undigs n t = v at *
      generalize (ldiv n b t).2 = r at *
      generalize (r * 2 ^ n + d) / b = x at *
      generalize (r * 2 ^ n + d) % b = y at *
      subst i1
      grind
    · rcases List.mem_cons.mp hq with rfl | hq
      · exact ⟨Int.ediv_nonneg (by omega) (by omega), ediv_lt hb (by rw [Int.mul_comm (2 ^ n) b]; omega)⟩
      · exact i5 q hq
end Mine

end
section
open PySem PySem.W PyProof.Rows PySem.Calls PySem.Spec
namespace Mine
theorem half_fdiv (n : Int) : n.fdiv (2 ^ Int.toNat 1) = n / 2 := by
  have e : (2 : Int) ^ Int.toNat 1 = 2 := by decide
  rw [e, Int.fdiv_eq_ediv_of_nonneg _ (by decide)]
theorem join_lists {α : Type} {ns d1 d2 : List α} {lo mid hi : Nat} (h1 : lo + d1.length = mid) (h2 : mid + d2.length = hi) (h3 : hi ≤ ns.length) :
    (ns.take lo ++ (d1 ++ ns.drop mid)).take mid ++ (d2 ++ (ns.take lo ++ (d1 ++ ns.drop mid)).drop hi) = ns.take lo ++ ((d1 ++ d2) ++ ns.drop hi) := by
  have l1 : (ns.take lo ++ d1).length = mid := by rw [List.length_append, List.length_take]; omega
  rw [← List.append_assoc (ns.take lo) d1]
  have e1 : ((ns.take lo ++ d1) ++ ns.drop mid).take mid = ns.take lo ++ d1 := by rw [List.take_append_of_le_length (by omega), List.take_of_length_le (by omega)]
  have e2 : ((ns.take lo ++ d1) ++ ns.drop mid).drop hi = ns.drop hi := by
    rw [List.drop_append, List.drop_eq_nil_of_le (by omega), List.nil_append, List.drop_drop, l1]
    congr 1
    omega
  rw [e1, e2]
  simp [List.append_assoc]
theorem join_len {α : Type} {ns d1 : List α} {lo mid : Nat} (h1 : lo + d1.length = mid) (h3 : mid ≤ ns.length) : (ns.take lo ++ (d1 ++ ns.drop mid)).length = ns.length := by
  simp only [List.length_append, List.length_take, List.length_drop]; omega
theorem set_as_digs {ns : List Int} {n lo hi : Nat} {x : Int} (h : lo + 1 = hi) (hl : lo < ns.length) (h0 : 0 ≤ x) (h1 : x < 2 ^ (n * (hi - lo))) : ns.set lo x = ns.take lo ++ (digs n (hi - lo) x ++ ns.drop hi) := by
  subst h
  have e : lo + 1 - lo = 1 := by omega
  rw [e] at h1 ⊢
  rw [Nat.mul_one] at h1
  rw [List.set_eq_take_append_cons_drop, if_pos hl, digs, digs, Int.emod_eq_of_lt h0 h1]
  rfl

structure I2dRaw (n x lo hi M : Int) (len k : Nat) : Prop where
  m1 : lo < M
  m2 : M < hi
  m3 : M ≤ len
  m4 : M - lo ≤ 2 ^ (k - 1)
  m5 : hi - M ≤ 2 ^ (k - 1)
  m6 : k - 1 < k
  m7 : 0 ≤ M
  s0 : 0 ≤ (M - lo) * n
  z1 : Sz (M - lo) 25
  z2 : Sz n 26
  z3 : Sz (x.fdiv (2 ^ ((M - lo) * n).toNat)) (n.toNat * (hi - M).toNat)
  z4 : ((n.toNat * (hi - M).toNat : Nat) : Int) + (M - lo) * n ≤ 134217728
  u1 : 0 ≤ x.fdiv (2 ^ ((M - lo) * n).toNat)
  u2 : x.fdiv (2 ^ ((M - lo) * n).toNat) < 2 ^ (n.toNat * (hi - M).toNat)
  l1 : 0 ≤ Builtin.bitXor x (x.fdiv (2 ^ ((M - lo) * n).toNat) * 2 ^ ((M - lo) * n).toNat)
  l2 : Builtin.bitXor x (x.fdiv (2 ^ ((M - lo) * n).toNat) * 2 ^ ((M - lo) * n).toNat) < 2 ^ (n.toNat * (M - lo).toNat)
  eq : digs n.toNat (M - lo).toNat (Builtin.bitXor x (x.fdiv (2 ^ ((M - lo) * n).toNat) * 2 ^ ((M - lo) * n).toNat)) ++
    digs n.toNat (hi - M).toNat (x.fdiv (2 ^ ((M - lo) * n).toNat)) = digs n.toNat (hi - lo).toNat x

theorem i2d_raw {n x lo hi : Int} {len k : Nat} (hn : 1 ≤ n) (hnn : n ≤ 33554432) (h0 : 0 ≤ lo) (h1 : lo + 1 < hi) (h2 : hi ≤ len) (h3 : hi - lo ≤ 2 ^ k) (h4 : (len : Int) ≤ 16777216) (h5 : n * len ≤ 50000000) (h6 : 0 ≤ x) (h7 : x < 2 ^ (n.toNat * (hi - lo).toNat)) {M : Int} (hM : M = (lo + hi) / 2) : I2dRaw n x lo hi M len k := by
  have a1 : lo < M := by omega
  have a2 : M < hi := by omega
  have hk : k ≠ 0 := by intro e; subst e; simp at h3; omega
  obtain ⟨k', rfl⟩ : ∃ k', k = k' + 1 := ⟨k - 1, by omega⟩
  have ek : k' + 1 - 1 = k' := by omega
  rw [Int.pow_succ] at h3
  obtain ⟨a, ha⟩ := Int.eq_ofNat_of_zero_le (show 0 ≤ M - lo by omega)
  obtain ⟨b, hb⟩ := Int.eq_ofNat_of_zero_le (show 0 ≤ hi - M by omega)
  obtain ⟨nn, hnn'⟩ := Int.eq_ofNat_of_zero_le (show 0 ≤ n by omega)
  subst hnn'
  have e1 : hi - lo = ((a + b : Nat) : Int) := by omega
  have es : (M - lo) * (nn : Int) = ((nn * a : Nat) : Int) := by rw [ha, Int.mul_comm]; simp
  rw [e1] at h3 h7
  simp only [Int.toNat_natCast] at h7
  have hP := pow_pos (nn * a)
  have hfd : x.fdiv (2 ^ (nn * a)) = x / 2 ^ (nn * a) := fdiv_pow
  have hx := bitXor_high (k := nn * a) h6
  have hmm : (nn : Int) * (hi - lo) ≤ nn * len := Int.mul_le_mul_of_nonneg_left (by omega) (by omega)
  rw [e1] at hmm
  have hmm2 : nn * (a + b) ≤ 50000000 := by
    have : ((nn * (a + b) : Nat) : Int) ≤ 50000000 := by rw [Int.natCast_mul]; omega
    omega
  rw [Nat.mul_add] at hmm2 h7
  have hup : x / 2 ^ (nn * a) < 2 ^ (nn * b) := ediv_lt hP (by rw [← pow_add, Nat.add_comm]; exact h7)
  have hup0 : 0 ≤ x / 2 ^ (nn * a) := Int.ediv_nonneg h6 (by omega)
  have et : ∀ j : Nat, (j : Int).toNat = j := fun j => Int.toNat_natCast j
  exact {
    m1 := a1, m2 := a2, m3 := by omega
    m4 := by rw [ek]; omega
    m5 := by rw [ek]; omega
    m6 := by omega
    m7 := by omega
    s0 := by rw [es]; omega
    z1 := sz_le (by omega) (by omega)
    z2 := sz_le (by omega) (by omega)
    z3 := by rw [es, hb, et, et, et, hfd]; exact sz_le hup0 hup
    z4 := by rw [es, hb, et, et]; omega
    u1 := by rw [es, et, hfd]; exact hup0
    u2 := by rw [es, hb, et, et, et, hfd]; exact hup
    l1 := by rw [es, et, hx]; exact Int.emod_nonneg _ (by omega)
    l2 := by rw [es, ha, et, et, et, hx]; exact Int.emod_lt_of_pos _ hP
    eq := by rw [es, ha, hb, e1, et, et, et, et, et, hx, hfd, digs_add] }
end Mine

end
section
open PySem PySem.W PyProof.Rows PySem.Calls PySem.Spec
namespace Mine
noncomputable def slc (ds : List Int) (lo hi : Int) : List Int := (ds.drop lo.toNat).take (hi - lo).toNat
theorem slc_split {ds : List Int} {lo mid hi : Int} (h0 : 0 ≤ lo) (h1 : lo ≤ mid) (h2 : mid ≤ hi) (_h3 : hi ≤ ds.length) : slc ds lo hi = slc ds lo mid ++ slc ds mid hi := by
  unfold slc
  have e1 : (hi - lo).toNat = (mid - lo).toNat + (hi - mid).toNat := by
    rw [← Int.toNat_add (Int.sub_nonneg_of_le h1) (Int.sub_nonneg_of_le h2)]; congr 1; omega
  have e2 : mid.toNat = lo.toNat + (mid - lo).toNat := by
    rw [← Int.toNat_add h0 (Int.sub_nonneg_of_le h1), Int.add_comm, Int.sub_add_cancel]
  rw [e1, List.take_add, List.drop_drop, ← e2]
theorem slc_length {ds : List Int} {lo hi : Int} (h0 : 0 ≤ lo) (h1 : lo ≤ hi) (h3 : hi ≤ ds.length) : (slc ds lo hi).length = (hi - lo).toNat := by
  unfold slc; rw [List.length_take, List.length_drop]; omega
theorem slc_mem {ds : List Int} {lo hi d : Int} (h : d ∈ slc ds lo hi) : d ∈ ds := List.mem_of_mem_drop (List.mem_of_mem_take h)
theorem slc_one {ds : List Int} {lo hi : Int} (h0 : 0 ≤ lo) (h : lo + 1 = hi) (h3 : lo < ds.length) : slc ds lo hi = [ds.getD lo.toNat 0] := by
  unfold slc
  have e : (hi - lo).toNat = 1 := by omega
  have hl : lo.toNat < ds.length := by omega
  have e2 : ds.getD lo.toNat 0 = ds[lo.toNat] := by simp [hl]
  rw [e, e2, List.drop_eq_getElem_cons hl]
  rfl
theorem slc_all {ds : List Int} {k : Int} (h : (ds.length : Int) = k) : slc ds 0 k = ds := by
  unfold slc
  have e : (k - 0).toNat = ds.length := by omega
  rw [e]; simp
theorem undigs_slc {n : Nat} {ds : List Int} {lo mid hi : Int} (h0 : 0 ≤ lo) (h1 : lo ≤ mid) (h2 : mid ≤ hi) (h3 : hi ≤ ds.length) :
    undigs n (slc ds lo hi) = undigs n (slc ds mid hi) * 2 ^ (n * (mid - lo).toNat) + undigs n (slc ds lo mid) := by
  rw [slc_split h0 h1 h2 h3, undigs_append, slc_length h0 h1 (by omega)]
  omega
theorem undigs_one {n : Nat} {d : Int} : undigs n [d] = d := by simp [undigs]

structure D2iRaw (n lo hi M : Int) (ds : List Int) (k : Nat) : Prop where
  m1 : lo < M
  m2 : M < hi
  m3 : M ≤ ds.length
  m4 : M - lo ≤ 2 ^ (k - 1)
  m5 : hi - M ≤ 2 ^ (k - 1)
  m6 : k - 1 < k
  m7 : 0 ≤ M
  s0 : 0 ≤ (M - lo) * n
  z1 : Sz (M - lo) 25
  z2 : Sz n 26
  z3 : Sz (undigs n.toNat (slc ds M hi)) (n.toNat * (hi - M).toNat)
  z4 : ((n.toNat * (hi - M).toNat : Nat) : Int) + (M - lo) * n ≤ 134217728
  eq : undigs n.toNat (slc ds M hi) * 2 ^ ((M - lo) * n).toNat + undigs n.toNat (slc ds lo M) = undigs n.toNat (slc ds lo hi)

theorem d2i_raw {n lo hi : Int} {ds : List Int} {k : Nat} (hn : 1 ≤ n) (hnn : n ≤ 33554432) (h0 : 0 ≤ lo) (h1 : lo + 1 < hi) (h2 : hi ≤ ds.length) (h3 : hi - lo ≤ 2 ^ k) (h4 : (ds.length : Int) ≤ 16777216) (h5 : n * ds.length ≤ 50000000)
    (hd : ∀ d ∈ ds, 0 ≤ d ∧ d < 2 ^ n.toNat) {M : Int} (hM : M = (lo + hi) / 2) : D2iRaw n lo hi M ds k := by
  have a1 : lo < M := by omega
  have a2 : M < hi := by omega
  have hk : k ≠ 0 := by intro e; subst e; simp at h3; omega
  obtain ⟨k', rfl⟩ : ∃ k', k = k' + 1 := ⟨k - 1, by omega⟩
  have ek : k' + 1 - 1 = k' := by omega
  rw [Int.pow_succ] at h3
  have hs : (slc ds M hi).length = (hi - M).toNat := slc_length (by omega) (by omega) h2
  have hr := undigs_range n.toNat (slc ds M hi) fun d hd' => hd d (slc_mem hd')
  rw [hs] at hr
  obtain ⟨a, ha⟩ := Int.eq_ofNat_of_zero_le (show 0 ≤ M - lo by omega)
  obtain ⟨b, hb⟩ := Int.eq_ofNat_of_zero_le (show 0 ≤ hi - M by omega)
  obtain ⟨nn, hnn'⟩ := Int.eq_ofNat_of_zero_le (show 0 ≤ n by omega)
  subst hnn'
  have e1 : hi - lo = ((a + b : Nat) : Int) := by omega
  have es : (M - lo) * (nn : Int) = ((nn * a : Nat) : Int) := by rw [ha, Int.mul_comm]; simp
  have et : ∀ j : Nat, (j : Int).toNat = j := fun j => Int.toNat_natCast j
  have hmm : (nn : Int) * (hi - lo) ≤ nn * ds.length := Int.mul_le_mul_of_nonneg_left (by omega) (by omega)
  rw [e1] at hmm
  have hmm2 : nn * (a + b) ≤ 50000000 := by
    have : ((nn * (a + b) : Nat) : Int) ≤ 50000000 := by rw [Int.natCast_mul]; omega
    omega
  rw [Nat.mul_add] at hmm2
  exact {
    m1 := a1, m2 := a2, m3 := by omega
    m4 := by rw [ek]; omega
    m5 := by rw [ek]; omega
    m6 := by omega
    m7 := by omega
    s0 := by rw [es]; omega
    z1 := sz_le (by omega) (by omega)
    z2 := sz_le (by omega) (by omega)
    z3 := sz_le hr.1 hr.2
    z4 := by rw [es, hb, et, et]; omega
    eq := by
      have e := undigs_slc (n := nn) h0 (show lo ≤ M by omega) (show M ≤ hi by omega) h2
      rw [es, et, et, e, ha, et] }
/-! the digits' number -/
theorem numdigs {a n : Int} (ha : 0 ≤ a) (hn : 1 ≤ n) (hz : (Builtin.Int.intBits a : Int) ≤ 16777216) (hnn : n ≤ 16777216) :
    0 ≤ ((Builtin.Int.intBits a : Int) + n - 1).fdiv n ∧ ((Builtin.Int.intBits a : Int) + n - 1).fdiv n ≤ 16777216 ∧ n * ((Builtin.Int.intBits a : Int) + n - 1).fdiv n ≤ 50000000 ∧
    a < 2 ^ (n.toNat * (((Builtin.Int.intBits a : Int) + n - 1).fdiv n).toNat) ∧ (0 < a → 0 < ((Builtin.Int.intBits a : Int) + n - 1).fdiv n) ∧ (a = 0 → 0 = ((Builtin.Int.intBits a : Int) + n - 1).fdiv n) := by
  have hsz := sz_of_bits (Nat.le_refl (Builtin.Int.intBits a))
  have h0 : a = 0 → Builtin.Int.intBits a = 0 := by intro e; subst e; rfl
  have hp : 0 < a → 0 < Builtin.Int.intBits a := by
    intro h
    unfold Builtin.Int.intBits
    rw [if_neg (by simp only [beq_iff_eq]; omega)]; omega
  generalize Builtin.Int.intBits a = b at *
  rw [Int.fdiv_eq_ediv_of_nonneg _ (by omega)]
  have e := div_add_mod ((b : Int) + n - 1) n
  have m0 := Int.emod_nonneg ((b : Int) + n - 1) (show n ≠ 0 by omega)
  have m1 := Int.emod_lt_of_pos ((b : Int) + n - 1) (show 0 < n by omega)
  have hK0 : 0 ≤ ((b : Int) + n - 1) / n := Int.ediv_nonneg (by omega) (by omega)
  have hKb : ((b : Int) + n - 1) / n ≤ b := by
    have : ((b : Int) + n - 1) / n < b + 1 := ediv_lt (by omega) (by
      have h1 : (b : Int) * 1 ≤ b * n := Int.mul_le_mul_of_nonneg_left hn (by omega)
      have h2 : ((b : Int) + 1) * n = b * n + n := by grind
      omega)
    omega
  generalize ((b : Int) + n - 1) % n = r at *
  generalize ((b : Int) + n - 1) / n = K at *
  rw [Int.mul_comm K n] at e
  obtain ⟨KK, rfl⟩ := Int.eq_ofNat_of_zero_le hK0
  obtain ⟨nn, rfl⟩ := Int.eq_ofNat_of_zero_le (show 0 ≤ n by omega)
  have hmul : ((nn * KK : Nat) : Int) = (nn : Int) * (KK : Int) := Int.natCast_mul ..
  have hcast := Sz.lt (hsz.mono (show b ≤ nn * KK by omega))
  refine ⟨by omega, by omega, by omega, by simpa using hcast.1, fun h => ?_, fun h => ?_⟩
  · have := hp h
    rcases Nat.eq_zero_or_pos KK with rfl | h'
    · simp at hmul; omega
    · omega
  · have := h0 h
    omega
theorem bits_spec {b : Int} (hb : 0 < b) : 1 ≤ (Builtin.Int.intBits b : Int) ∧ 2 ^ ((Builtin.Int.intBits b : Int).toNat - 1) ≤ b ∧ b < 2 ^ (Builtin.Int.intBits b : Int).toNat := by
  have hb' : b.natAbs ≠ 0 := by omega
  have e : Builtin.Int.intBits b = b.natAbs.log2 + 1 := by
    unfold Builtin.Int.intBits
    rw [if_neg (by simp only [beq_iff_eq]; omega)]
  have h1 := Nat.log2_self_le hb'
  have h2 : b.natAbs < 2 ^ (b.natAbs.log2 + 1) := Nat.lt_log2_self
  rw [e]
  have et : ((b.natAbs.log2 + 1 : Nat) : Int).toNat = b.natAbs.log2 + 1 := Int.toNat_natCast _
  rw [et]
  have e1 := natPow b.natAbs.log2
  have e2 := natPow (b.natAbs.log2 + 1)
  refine ⟨by omega, ?_, ?_⟩
  · show (2 : Int) ^ b.natAbs.log2 ≤ b
    omega
  · omega
theorem dp_arith {r d b P : Int} (r0 : 0 ≤ r) (r1 : r < b) (d0 : 0 ≤ d) (d1 : d < P) : 0 ≤ r * P + d ∧ r * P + d < b * P := by
  have hP : 0 < P := by omega
  have h1 : 0 ≤ r * P := Int.mul_nonneg r0 (by omega)
  have h2 : (r + 1) * P ≤ b * P := Int.mul_le_mul_of_nonneg_right (by omega) (by omega)
  have h3 : (r + 1) * P = r * P + P := by grind
  omega
end Mine

end
section
open PySem PySem.W PyProof.Rows PySem.Calls PySem.Spec
namespace Mine

/-- a call of f with vs gives back a new pair (q, r) -/
noncomputable def CtPair (w : World) (f : Addr) (vs : List Value) (dd uu : Nat) (q r : Int) : Prop :=
  ∀ (p : Program) (loose : List Str) (mean : ExcName → Option Value) (mg mb : Str → Option Value)
    (dp un : Nat) (gd : Option (List Code)) (cn : Str) (cs : Scope) (a : Addr) (ccd : Value) (cl : List (Str × Addr)) (outer : List Env) (A₀ : Around) (base h₀ : Heap) (L : Addr) (m : Str → Option Value) (news : List (Addr × Obj)) (s : Shared)
    (Q E : Value → Shared → Prop),
    Below A₀ base outer h₀ → Fr h₀ L s.heap m → (_root_.hd.heap_39 w.params).In h₀ → News h₀ L s.heap news → Top p loose mean mg mb h₀ → cs.kind = .function →
    dp + dd < recursionLimit → un + uu < cLine →
    (∀ D t1 t2 c h' tk', Fr h₀ L h' m → News h₀ L h' ((D, ({ cls := .type "tuple", data := .seq #[.int q t1, .int r t2] c } : Obj)) :: news) → AllLt D news → Q (.ref D) { s with heap := h', toks := tk' }) →
    wpAny (model PySem.Challenge.rw_ta0142_01.row.prog w) (ktrTop dp un gd cn cs L a ccd cl outer) (call (.ref f) vs) Q E s

theorem ct_use {w : World} {f : Addr} {vs : List Value} {dd uu : Nat} {q r : Int} {p : Program} {loose : List Str} {mean : ExcName → Option Value} {mg mb : Str → Option Value}
    {dp un : Nat} {gd : Option (List Code)} {cn : Str} {cs : Scope} {a : Addr} {ccd : Value} {cl : List (Str × Addr)} {outer : List Env} {A₀ : Around} {base h₀ : Heap} {L : Addr} {m : Str → Option Value} {news : List (Addr × Obj)} {s : Shared}
    {Q E : Value → Shared → Prop}
    (B : Below A₀ base outer h₀) (F : Fr h₀ L s.heap m) (X : (_root_.hd.heap_39 w.params).In h₀) (N : News h₀ L s.heap news) (T : Top p loose mean mg mb h₀) (hk : cs.kind = .function)
    (C : CtPair w f vs dd uu q r) (hd : dp + dd < recursionLimit) (hu : un + uu < cLine)
    (ret : ∀ D t1 t2 c h' tk', Fr h₀ L h' m → News h₀ L h' ((D, ({ cls := .type "tuple", data := .seq #[.int q t1, .int r t2] c } : Obj)) :: news) → AllLt D news → Q (.ref D) { s with heap := h', toks := tk' }) :
    wpAny (model PySem.Challenge.rw_ta0142_01.row.prog w) (ktrTop dp un gd cn cs L a ccd cl outer) (call (.ref f) vs) Q E s :=
  C _ _ _ _ _ _ _ _ _ _ _ _ _ _ _ _ _ _ _ _ _ _ _ B F X N T hk hd hu ret

noncomputable def D2 (w : World) (dd uu : Nat) (n : Int) : Prop := ∀ (a b : Int) (ta tb tn : Tok), 0 ≤ a → 2 ^ (n.toNat - 1) ≤ b → b < 2 ^ n.toNat → a < b * 2 ^ n.toNat → CtPair w 21 [.int a ta, .int b tb, .int n tn] dd uu (a / b) (a % b)

theorem ct_end {w : World} {q r q' r' : Int} {h₀ h : Heap} {L D : Addr} {m : Str → Option Value} {news news' : List (Addr × Obj)} {s : Shared} {Q : Value → Shared → Prop} {t1 t2 : Tok} {c tk : Nat}
    (ret : ∀ D t1 t2 c h' tk', Fr h₀ L h' m → News h₀ L h' ((D, ({ cls := .type "tuple", data := .seq #[.int q t1, .int r t2] c } : Obj)) :: news) → AllLt D news → Q (.ref D) { s with heap := h', toks := tk' })
    (F : Fr h₀ L h m) (N : News h₀ L h news') (hm : (D, ({ cls := .type "tuple", data := .seq #[.int q' t1, .int r' t2] c } : Obj)) ∈ news') (hs : ∀ p ∈ news, p ∈ news') (hl : AllLt D news) (e1 : q' = q) (e2 : r' = r) :
    Q (.ref D) { s with heap := h, toks := tk } := by
  subst e1; subst e2
  refine ret D t1 t2 c h tk F (fun p hp => ?_) hl
  rcases List.mem_cons.mp hp with rfl | hp
  · exact N _ hm
  · exact N p (hs p hp)

set_option maxHeartbeats 8000000 in
theorem div3n2n_ct (w : World) (dd uu : Nat) (a12 a3 b b1 b2 n : Int) (t0 t1 t2 t3 t4 t5 : Tok)
    (hn : 1 ≤ n) (hnn : n ≤ 33554432) (h12 : 0 ≤ a12) (h3 : 0 ≤ a3) (h3' : a3 < 2 ^ n.toNat) (hb : b = b1 * 2 ^ n.toNat + b2) (hb1 : 2 ^ (n.toNat - 1) ≤ b1) (hb1' : b1 < 2 ^ n.toNat) (hb2 : 0 ≤ b2) (hb2' : b2 < 2 ^ n.toNat) (ha : a12 * 2 ^ n.toNat + a3 < b * 2 ^ n.toNat)
    (H : D2 w dd uu n) :
    CtPair w 28 [.int a12 t0, .int a3 t1, .int b t2, .int b1 t3, .int b2 t4, .int n t5] (dd + 2) (uu + 10) ((a12 * 2 ^ n.toNat + a3) / b) ((a12 * 2 ^ n.toNat + a3) % b) := by
  unfold CtPair
  k_fill
  w_top off
  k_with_none
  k_with "binaryOp LShift int int" => (((with_reducible refine lshift_int ?zqs0 ?zqs1 ?_); (case zqs0 => first | assumption | omega | decide); (case zqs1 => exact shl_ok (by assumption) (by omega))))
  k_with "binaryOp RShift int int" => (((with_reducible refine rshift_int ?zqs0 ?_); (case zqs0 => first | assumption | omega | decide)))
  k_with "binaryOp Mult int int" => ((with_reducible refine mul_int ?_ (mul_ok (by assumption) (by assumption) (by omega))))
  k_with "call ref" => ((k_here; k_extra "mycall"))
  intro p loose mean mg mb dp un gd cn cs ad ccd cl outer A₀ base h₀ L m news s Q E B F X N T hk hroom hunits hret
  have hn0 : 0 ≤ n := by omega
  have hP : (0 : Int) < 2 ^ n.toNat := pow_pos _
  have hb10 : 0 < b1 := by have := pow_pos (n.toNat - 1); omega
  have hb0 : 0 < b := by have := Int.mul_pos hb10 hP; omega
  have hab := d3_a12_lt hP h3 ha
  have z1 : Sz 1 1 := sz_one (by decide)
  have zb1 : Sz b1 n.toNat := sz_le (by omega) hb1'
  have zb2 : Sz b2 n.toNat := sz_le (by omega) hb2'
  by_cases hc : a12.fdiv (2 ^ n.toNat) = b1
  · have hcc : (a12.fdiv (2 ^ n.toNat) == b1) = true := by simpa using hc
    have hd := div_add_mod a12 (2 ^ n.toNat)
    have hd1 := Int.emod_lt_of_pos a12 hP
    have hd2 := Int.emod_nonneg a12 (show (2 : Int) ^ n.toNat ≠ 0 by omega)
    rw [fdiv_pow] at hc
    have hr0 : 0 ≤ a12 - b1 * 2 ^ n.toNat + b1 := by rw [hc] at hd; omega
    have zr : Sz (a12 - b1 * 2 ^ n.toNat + b1) (n.toNat + 1) := sz_le hr0 (by rw [hc] at hd; rw [Int.pow_succ]; omega)
    have zq : Sz (1 * 2 ^ n.toNat - 1) (n.toNat + 1) := sz_le (by omega) (by rw [Int.pow_succ]; omega)
    have hbo := bitOr_shl hr0 h3 h3'
    obtain ⟨hq, hlt⟩ := d3_pos hb ha
    rw [← hbo] at hq hlt
    refine wpAny_call ?_
    k_dflt ktr_enter
    k_with "StopDown" => exact stop_d3 hq hlt hb0
    k_steps
    all_goals (refine ct_end (w := w) hret (by k_asm) (by k_asm) (by k_mem) (by intro p9 h9; repeat (first | exact h9 | refine List.mem_cons_of_mem _ ?_)) (by first | assumption | exact And.right (by assumption) | exact And.right (And.right (by assumption))) ?e1 ?e2)
    case e1 => exact (end_d3 hq hlt (by assumption) (by assumption) (by assumption)).1
    case e2 => exact (end_d3 hq hlt (by assumption) (by assumption) (by assumption)).2
  · have hcc : (a12.fdiv (2 ^ n.toNat) == b1) = false := by simpa using hc
    rw [fdiv_pow] at hc
    have hlt12 := d3_not hP hab hb hb2' hc
    have hd := div_add_mod a12 b1
    have hd1 := Int.emod_lt_of_pos a12 hb10
    have hd2 := Int.emod_nonneg a12 (show b1 ≠ 0 by omega)
    have hq0 : 0 ≤ a12 / b1 := Int.ediv_nonneg h12 (by omega)
    have hqP : a12 / b1 < 2 ^ n.toNat := ediv_lt hb10 (by rw [Int.mul_comm]; exact hlt12)
    have zr : Sz (a12 % b1) (n.toNat + 1) := Sz.mono (k := n.toNat) (sz_le hd2 (by omega)) (by omega)
    have zq : Sz (a12 / b1) (n.toNat + 1) := Sz.mono (k := n.toNat) (sz_le hq0 hqP) (by omega)
    have hbo := bitOr_shl hd2 h3 h3'
    obtain ⟨hq, hlt⟩ := d3_neg hP h3' hb hb2 hd hq0 hd1
    rw [← hbo] at hq hlt
    refine wpAny_call ?_
    k_dflt ktr_enter
    k_with "StopDown" => exact stop_d3 hq hlt hb0
    k_with "mycall" => (refine' ct_use ?k1 ?k2 ?k3 ?k4 ?k5 ?kK (H _ _ _ _ _ ?g1 ?g2 ?g3 ?g4) ?kd ?ku ?_; (case k1 => k_asm); (case k2 => k_asm); (case k3 => k_asm); (case k4 => k_asm); (case k5 => k_asm); (case kK => exact rfl); (case g1 => assumption); (case g2 => assumption); (case g3 => assumption); (case g4 => assumption); (case kd => ktr_room); (case ku => ktr_units); (intro D' t1' t2' c' h' tk' F' N' l1); (try dsimp only); (try k_fold))
    k_steps
    all_goals (refine ct_end (w := w) hret (by k_asm) (by k_asm) (by k_mem) (by intro p9 h9; repeat (first | exact h9 | refine List.mem_cons_of_mem _ ?_)) (by first | assumption | exact And.right (by assumption) | exact And.right (And.right (by assumption))) ?e1 ?e2)
    case e1 => exact (end_d3 hq hlt (by assumption) (by assumption) (by assumption)).1
    case e2 => exact (end_d3 hq hlt (by assumption) (by assumption) (by assumption)).2
end Mine

end
section
open PySem PySem.W PyProof.Rows PySem.Calls PySem.Spec
namespace Mine
theorem my_divmod {prog : Program} {w : World} {A : Around} {E : Value → Shared → Prop} {s : Shared} {Q : Value → Shared → Prop} {a b : Int} {t u : Tok} {h₀ : Heap} {L : Addr} {m : Str → Option Value} {news : List (Addr × Obj)} (F : Fr h₀ L s.heap m) (N : News h₀ L s.heap news) (hb : 0 < b)
    (hp : Builtin.divisionGoesByPylong a b = false)
    (h : ∀ D t1 t2 c h' tk', Fr h₀ L h' m → News h₀ L h' ((D, ({ cls := .type "tuple", data := .seq #[.int (a / b) t1, .int (a % b) t2] c } : Obj)) :: news) → AllLt D news → Q (.ref D) { s with heap := h', toks := tk' }) :
    wpAny (model prog w) A (call (.builtin "divmod") [.int a t, .int b u]) Q E s := by
  have e1 : a.fdiv b = a / b := Int.fdiv_eq_ediv_of_nonneg _ (by omega)
  have e2 : a.fmod b = a % b := Int.fmod_eq_emod_of_nonneg _ (by omega)
  refine divmod_N F N (by omega) (fun h' F' N' => ?_) (Or.inl hp)
  rw [e1, e2] at N'
  exact h _ _ _ _ _ _ F' N' (allLt_of fun p hp => Heap.lt_size (N p hp).1)
set_option maxHeartbeats 8000000 in
theorem div2n1n_base (w : World) (dd uu : Nat) (a b n : Int) (t0 t1 t2 : Tok)
    (hb : 0 < b) (hl : (Builtin.Int.intBits a : Int) - n ≤ 4000) (hnp : Builtin.divisionGoesByPylong a b = false) :
    CtPair w 21 [.int a t0, .int b t1, .int n t2] (dd + 4) (uu + 20) (a / b) (a % b) := by
  unfold CtPair
  k_fill
  w_top off
  k_with_none
  k_with "binaryOp LShift int int" => (((with_reducible refine lshift_int ?zqs0 ?zqs1 ?_); (case zqs0 => first | assumption | omega | decide); (case zqs1 => exact shl_ok (by assumption) (by omega))))
  k_with "inplaceOp LShift int int" => (((with_reducible refine ilshift_int ?zqs0 ?zqs1 ?_); (case zqs0 => first | assumption | omega | decide); (case zqs1 => exact shl_ok (by assumption) (by omega))))
  k_with "binaryOp RShift int int" => (((with_reducible refine rshift_int ?zqs0 ?_); (case zqs0 => first | assumption | omega | decide)))
  k_with "inplaceOp RShift int int" => (((with_reducible refine irshift_int ?zqs0 ?_); (case zqs0 => first | assumption | omega | decide)))
  k_with "binaryOp Mult int int" => ((with_reducible refine mul_int ?_ (mul_ok (by assumption) (by assumption) (by omega))))
  k_with "call ref" => ((k_here; k_extra "mycall"))
  k_with "call builtin:divmod" => (((with_reducible show wpAny _ _ (call (Value.builtin _) [Value.int _ _, Value.int _ _]) _ _ _); refine my_divmod (by assumption) (by assumption) (by assumption) (by assumption) ?_; intro zqD' zqt1' zqt2' zqc' zqh' zqtk' zqF' zqN' zql1'; (try k_sweep)))
  intro p loose mean mg mb dp un gd cn cs ad ccd cl outer A₀ base h₀ L m news s Q E B F X N T hk hroom hunits hret
  refine wpAny_call ?_
  k_dflt ktr_enter
  k_steps
  all_goals (refine ct_end (w := w) hret (by k_asm) (by k_asm) (by k_mem) (by intro p9 h9; repeat (first | exact h9 | refine List.mem_cons_of_mem _ ?_)) (by first | assumption | exact And.right (by assumption) | exact And.right (And.right (by assumption)) | exact And.right (And.right (And.right (by assumption))) | exact And.right (And.right (And.right (And.right (by assumption))))) ?e1 ?e2)
  case e1 => rfl
  case e2 => rfl

set_option maxHeartbeats 8000000 in
theorem div2n1n_even (w : World) (dd uu : Nat) (a b n : Int) (t0 t1 t2 : Tok)
    (hl : ¬ ((Builtin.Int.intBits a : Int) - n ≤ 4000)) (hpad : Builtin.bitAnd n 1 = 0)
    (hH1 : 1 ≤ n.fdiv (2 ^ Int.toNat 1)) (hH2 : n.fdiv (2 ^ Int.toNat 1) ≤ 33554432) (hn0 : 0 ≤ n)
    (R : D2Raw a b n (n.fdiv (2 ^ Int.toNat 1))) (IH : D2 w dd uu (n.fdiv (2 ^ Int.toNat 1))) :
    CtPair w 21 [.int a t0, .int b t1, .int n t2] (dd + 4) (uu + 20) (a / b) (a % b) := by
  unfold CtPair
  k_fill
  w_top off
  k_with_none
  k_with "binaryOp LShift int int" => (((with_reducible refine lshift_int ?zqs0 ?zqs1 ?_); (case zqs0 => first | assumption | omega | decide); (case zqs1 => exact shl_ok (by assumption) (by omega))))
  k_with "inplaceOp LShift int int" => (((with_reducible refine ilshift_int ?zqs0 ?zqs1 ?_); (case zqs0 => first | assumption | omega | decide); (case zqs1 => exact shl_ok (by assumption) (by omega))))
  k_with "binaryOp RShift int int" => (((with_reducible refine rshift_int ?zqs0 ?_); (case zqs0 => first | assumption | omega | decide)))
  k_with "inplaceOp RShift int int" => (((with_reducible refine irshift_int ?zqs0 ?_); (case zqs0 => first | assumption | omega | decide)))
  k_with "binaryOp Mult int int" => ((with_reducible refine mul_int ?_ (mul_ok (by assumption) (by assumption) (by omega))))
  k_with "call ref" => ((k_here; k_extra "mycall"))
  k_with "call builtin:divmod" => (((with_reducible show wpAny _ _ (call (Value.builtin _) [Value.int _ _, Value.int _ _]) _ _ _); refine my_divmod (by assumption) (by assumption) (by assumption) (by assumption) ?_; intro zqD' zqt1' zqt2' zqc' zqh' zqtk' zqF' zqN' zql1'; (try k_sweep)))
  intro p loose mean mg mb dp un gd cn cs ad ccd cl outer A₀ base h₀ L m news s Q E B F X N T hk hroom hunits hret
  obtain ⟨g12, g3, g3', gb, gb1, gb1', gb2, gb2', ga, gr, g4, g4', gr', zq, eq1, eq2⟩ := R
  have hH0 : 0 ≤ n.fdiv (2 ^ Int.toNat 1) := by omega
  have hpp : (Builtin.bitAnd n 1 != 0) = false := by simp [hpad]
  have z1 : Sz 1 1 := sz_one (by decide)
  refine wpAny_call ?_
  k_dflt ktr_enter
  k_with "mycall" => (refine' ct_use ?k1 ?k2 ?k3 ?k4 ?k5 ?kK (div3n2n_ct w dd uu _ _ _ _ _ _ _ _ _ _ _ _ hH1 hH2 ?g1 ?g2 ?g3 gb gb1 gb1' gb2 gb2' ?g4 IH) ?kd ?ku ?_; (case k1 => k_asm); (case k2 => k_asm); (case k3 => k_asm); (case k4 => k_asm); (case k5 => k_asm); (case kK => exact rfl); (case g1 => assumption); (case g2 => assumption); (case g3 => assumption); (case g4 => assumption); (case kd => ktr_room); (case ku => ktr_units); (intro D' t1' t2' c' h' tk' F' N' l1); (try dsimp only); (try k_fold))
  k_steps
  all_goals (refine ct_end (w := w) hret (by k_asm) (by k_asm) (by k_mem) (by intro p9 h9; repeat (first | exact h9 | refine List.mem_cons_of_mem _ ?_)) (by first | assumption | exact And.right (by assumption) | exact And.right (And.right (by assumption)) | exact And.right (And.right (And.right (by assumption))) | exact And.right (And.right (And.right (And.right (by assumption))))) ?e1 ?e2)
  case e1 => exact eq1
  case e2 => exact eq2

set_option maxHeartbeats 8000000 in
theorem div2n1n_odd (w : World) (dd uu : Nat) (a b n : Int) (t0 t1 t2 : Tok)
    (hl : ¬ ((Builtin.Int.intBits a : Int) - n ≤ 4000)) (hpad : Builtin.bitAnd n 1 ≠ 0)
    (hH1 : 1 ≤ (n + 1).fdiv (2 ^ Int.toNat 1)) (hH2 : (n + 1).fdiv (2 ^ Int.toNat 1) ≤ 33554432) (hn0 : 0 ≤ n) (za : Sz a 100000000) (zb : Sz b 100000000)
    (ea : (a * 2 ^ Int.toNat 1) / (b * 2 ^ Int.toNat 1) = a / b) (em : ((a * 2 ^ Int.toNat 1) % (b * 2 ^ Int.toNat 1)).fdiv (2 ^ Int.toNat 1) = a % b)
    (R : D2Raw (a * 2 ^ Int.toNat 1) (b * 2 ^ Int.toNat 1) (n + 1) ((n + 1).fdiv (2 ^ Int.toNat 1))) (IH : D2 w dd uu ((n + 1).fdiv (2 ^ Int.toNat 1))) :
    CtPair w 21 [.int a t0, .int b t1, .int n t2] (dd + 4) (uu + 20) (a / b) (a % b) := by
  unfold CtPair
  k_fill
  w_top off
  k_with_none
  k_with "binaryOp LShift int int" => (((with_reducible refine lshift_int ?zqs0 ?zqs1 ?_); (case zqs0 => first | assumption | omega | decide); (case zqs1 => exact shl_ok (by assumption) (by omega))))
  k_with "inplaceOp LShift int int" => (((with_reducible refine ilshift_int ?zqs0 ?zqs1 ?_); (case zqs0 => first | assumption | omega | decide); (case zqs1 => exact shl_ok (by assumption) (by omega))))
  k_with "binaryOp RShift int int" => (((with_reducible refine rshift_int ?zqs0 ?_); (case zqs0 => first | assumption | omega | decide)))
  k_with "inplaceOp RShift int int" => (((with_reducible refine irshift_int ?zqs0 ?_); (case zqs0 => first | assumption | omega | decide)))
  k_with "binaryOp Mult int int" => ((with_reducible refine mul_int ?_ (mul_ok (by assumption) (by assumption) (by omega))))
  k_with "call ref" => ((k_here; k_extra "mycall"))
  k_with "call builtin:divmod" => (((with_reducible show wpAny _ _ (call (Value.builtin _) [Value.int _ _, Value.int _ _]) _ _ _); refine my_divmod (by assumption) (by assumption) (by assumption) (by assumption) ?_; intro zqD' zqt1' zqt2' zqc' zqh' zqtk' zqF' zqN' zql1'; (try k_sweep)))
  intro p loose mean mg mb dp un gd cn cs ad ccd cl outer A₀ base h₀ L m news s Q E B F X N T hk hroom hunits hret
  obtain ⟨g12, g3, g3', gb, gb1, gb1', gb2, gb2', ga, gr, g4, g4', gr', zq, eq1, eq2⟩ := R
  have hH0 : 0 ≤ (n + 1).fdiv (2 ^ Int.toNat 1) := by omega
  have hpp : (Builtin.bitAnd n 1 != 0) = true := by simp [hpad]
  have z1 : Sz 1 1 := sz_one (by decide)
  refine wpAny_call ?_
  k_dflt ktr_enter
  k_with "mycall" => (refine' ct_use ?k1 ?k2 ?k3 ?k4 ?k5 ?kK (div3n2n_ct w dd uu _ _ _ _ _ _ _ _ _ _ _ _ hH1 hH2 ?g1 ?g2 ?g3 gb gb1 gb1' gb2 gb2' ?g4 IH) ?kd ?ku ?_; (case k1 => k_asm); (case k2 => k_asm); (case k3 => k_asm); (case k4 => k_asm); (case k5 => k_asm); (case kK => exact rfl); (case g1 => assumption); (case g2 => assumption); (case g3 => assumption); (case g4 => assumption); (case kd => ktr_room); (case ku => ktr_units); (intro D' t1' t2' c' h' tk' F' N' l1); (try dsimp only); (try k_fold))
  k_steps
  all_goals (refine ct_end (w := w) hret (by k_asm) (by k_asm) (by k_mem) (by intro p9 h9; repeat (first | exact h9 | refine List.mem_cons_of_mem _ ?_)) (by first | assumption | exact And.right (by assumption) | exact And.right (And.right (by assumption)) | exact And.right (And.right (And.right (by assumption))) | exact And.right (And.right (And.right (And.right (by assumption))))) ?e1 ?e2)
  case e1 => rw [eq1, ea]
  case e2 => rw [eq2, em]
end Mine

end
section
open PySem PySem.W PyProof.Rows PySem.Calls PySem.Spec
namespace Mine
theorem half_eq (n : Int) : n.fdiv (2 ^ Int.toNat 1) = n / 2 := by
  have e : (2 : Int) ^ Int.toNat 1 = 2 := by decide
  rw [e, Int.fdiv_eq_ediv_of_nonneg _ (by decide)]
theorem d2_step (w : World) (dd uu : Nat) (n : Int) (hn : 1 ≤ n) (hnn : n ≤ 33554432) (IH : 4000 < n → ∀ h, 1 ≤ h → h ≤ 33554432 → 2 * h ≤ n + 1 → D2 w dd uu h) : D2 w (dd + 4) (uu + 20) n := by
  intro a b ta tb tn ha hb hb' hab
  have hb0 : 0 < b := by have := pow_pos (n.toNat - 1); omega
  by_cases hl : (Builtin.Int.intBits a : Int) - n ≤ 4000
  · exact div2n1n_base w dd uu a b n ta tb tn hb0 hl (no_pylong hn hb hb' hl)
  · have hP := pow_pos n.toNat
    have h2n : (2 : Int) ^ (n.toNat + n.toNat) = 2 ^ n.toNat * 2 ^ n.toNat := pow_add _ _
    have hlt : b * 2 ^ n.toNat < 2 ^ n.toNat * 2 ^ n.toNat := Int.mul_lt_mul_of_pos_right hb' hP
    have za : Sz a (n.toNat + n.toNat) := sz_le ha (by omega)
    have zb : Sz b n.toNat := sz_le (by omega) hb'
    have hbits := bits_of_sz za
    have h4 : 4000 < n := by omega
    have e2 : (2 : Int) ^ Int.toNat 1 = 2 := by decide
    by_cases hpad : Builtin.bitAnd n 1 = 0
    · have hp := hpad
      rw [bitAnd_one] at hp
      refine div2n1n_even w dd uu a b n ta tb tn hl hpad ?_ ?_ (by omega) (d2_raw ?_ ?_ ha hb hb' hab) (IH h4 _ ?_ ?_ ?_) <;> rw [half_eq] <;> omega
    · have hp := hpad
      rw [bitAnd_one] at hp
      have t1 : (n + 1).toNat = n.toNat + 1 := Int.toNat_add (Int.le_trans (by decide) hn) (by decide)
      have t2 : (n + 1).toNat - 1 = (n.toNat - 1) + 1 := by rw [t1, Nat.add_sub_cancel]; exact (Nat.sub_add_cancel (show 1 ≤ n.toNat from Int.toNat_le_toNat hn)).symm
      refine div2n1n_odd w dd uu a b n ta tb tn hl hpad ?_ ?_ (by omega) (Sz.mono za (by omega)) (Sz.mono zb (by omega)) ?_ ?_ (d2_raw ?_ ?_ ?_ ?_ ?_ ?_) (IH h4 _ ?_ ?_ ?_)
      · rw [half_eq]; omega
      · rw [half_eq]; omega
      · rw [e2]; exact Int.mul_ediv_mul_of_pos_left _ _ (by decide)
      · rw [e2, Int.mul_comm a, Int.mul_comm b, Int.mul_emod_mul_of_pos _ _ (by decide), Int.fdiv_eq_ediv_of_nonneg _ (by decide)]; omega
      · rw [half_eq]; omega
      · rw [half_eq]; omega
      · rw [e2]; omega
      · rw [e2, t2, Int.pow_succ]; omega
      · rw [e2, t1, Int.pow_succ]; omega
      · rw [e2, t1, Int.pow_succ]
        have : b * 2 * (2 ^ n.toNat * 2) = 4 * (b * 2 ^ n.toNat) := by grind
        have : 0 < b * 2 ^ n.toNat := Int.mul_pos hb0 hP
        omega
      · rw [half_eq]; omega
      · rw [half_eq]; omega
      · rw [half_eq]; omega
theorem d2_all (w : World) : ∀ (k : Nat) (n : Int), 1 ≤ n → n ≤ 33554432 → n ≤ 4000 * 2 ^ k → D2 w (4 * k + 4) (20 * k + 20) n
  | 0, n, hn, hnn, hk => d2_step w 0 0 n hn hnn fun h => absurd hk (by simp; omega)
  | k + 1, n, hn, hnn, hk => d2_step w (4 * k + 4) (20 * k + 20) n hn hnn fun _ h h1 h2 h3 => d2_all w k h h1 h2 (by rw [Int.pow_succ] at hk; omega)
theorem d2_any (w : World) {n : Int} (hn : 1 ≤ n) (hnn : n ≤ 33554432) : D2 w 60 300 n := by
  have : (4000 : Int) * 2 ^ 14 = 65536000 := by decide
  exact d2_all w 14 n hn hnn (by omega)
end Mine

end
section
open PySem PySem.W PyProof.Rows PySem.Calls PySem.Spec
namespace Mine
theorem my_rep {prog : Program} {w : World} {A : Around} {E : Value → Shared → Prop} {s : Shared} {h₀ : Heap} {L : Addr} {m : Str → Option Value} {news : List (Addr × Obj)} {l : Addr} {v : Value} {x : Int} {u : Tok} {Q : Value → Shared → Prop}
    (Fm : Fr h₀ L s.heap m) (N : News h₀ L s.heap news) (hm : (l, listOf #[v] 0) ∈ news) (hlo : 0 ≤ x) (hhi : x ≤ 16777216)
    (h : ∀ D h', Fr h₀ L h' m → News h₀ L h' ((D, listOf (List.replicate x.toNat v).toArray 0) :: news) → AllLt D news → Q (.ref D) { s with heap := h' }) : wpAny (model prog w) A (binaryOp .Mult (.ref l) (.int x u)) Q E s := by
  refine PyProof.Rows.mul_list Fm N (N.get hm) (by omega) (by omega) (by show 1 * x.toNat ≤ 2 ^ 24; omega) (fun h' F' N' => ?_)
  have e : List.foldl (fun x1 x2 => x1 ++ x2) #[] (List.replicate (if (#[v] : Array Value).isEmpty = true then 0 else x.toNat) #[v]) = (List.replicate x.toNat v).toArray := by
    have e1 : ∀ n : Nat, (List.replicate n [v]).flatten = List.replicate n v := by
      intro n
      induction n with
      | zero => rfl
      | succ n ih => rw [List.replicate_succ, List.flatten_cons, ih, List.replicate_succ]; rfl
    rw [listMul_foldl_if, e1]
  rw [e] at N'
  exact h _ _ F' N' (allLt_of fun p hp => Heap.lt_size (N p hp).1)
theorem all_ne {c l : Addr} : ∀ {news : List (Addr × Obj)}, AllLt l news → (@LE.le Nat _ l c) → ∀ p ∈ news, p.1 ≠ c
  | [], _, _, _, h => nomatch h
  | q :: r, h, hl, p, hp => by
    rcases List.mem_cons.mp hp with rfl | hp
    · exact Nat.ne_of_lt (Nat.lt_of_lt_of_le h.1 hl)
    · exact all_ne h.2 hl p hp
section
variable {d : Addr} {o o' : Obj} {l : List (Addr × Obj)} {g : Obj → List (Addr × Obj)} {p : Addr × Obj}
theorem updF_upd (U : UpdF d o l g) (o' : Obj) : Upd d o o' l (g o') := by
  induction U with
  | head h => exact .head h
  | tail h _ ih => exact .tail h ih
theorem updF_again (U : UpdF d o l g) (o' : Obj) : UpdF d o' (g o') g := by
  induction U with
  | head h => exact .head h
  | tail h _ ih => exact .tail h ih
theorem updF_mem (U : UpdF d o l g) (hp : p ∈ l) (hd : p.1 ≠ d) (o' : Obj) : p ∈ g o' := by
  induction U with
  | head h =>
    rcases List.mem_cons.mp hp with rfl | hp
    · exact absurd rfl hd
    · exact List.mem_cons_of_mem _ hp
  | tail h _ ih =>
    rcases List.mem_cons.mp hp with rfl | hp
    · exact List.mem_cons_self
    · exact List.mem_cons_of_mem _ (ih hp)
end

noncomputable def nestedIn : List Stmt → Option (Arguments × List Stmt × Scope)
  | [] => none
  | .FunctionDef _ a b _ _ _ sc _ _ _ :: _ => some (a, b, sc)
  | _ :: r => nestedIn r
noncomputable def nestObj : Obj → Option (Arguments × List Stmt × Scope)
  | ⟨_, _, .func fd, _⟩ => (match fd.body with
    | .stmts b => nestedIn b
    | _ => none)
  | _ => none
theorem nest_key {K : Frag} {f : Addr} {o : Obj} {x : Option (Arguments × List Stmt × Scope)} (h : K.lookup f = some o) (hx : (K.lookup f).bind nestObj = x) : nestObj o = x := by
  rw [h] at hx; exact hx

noncomputable def I2dCt (w : World) (f D : Addr) (need : List (Addr × Obj)) (n : Int) (k : Nat) : Prop :=
  ∀ (p : Program) (loose : List Str) (mean : ExcName → Option Value) (mg mb : Str → Option Value)
    (dp un : Nat) (gd : Option (List Code)) (cn : Str) (cs : Scope) (a : Addr) (ccd : Value) (cl : List (Str × Addr)) (outer : List Env) (A₀ : Around) (base h₀ : Heap) (L : Addr) (m : Str → Option Value) (news : List (Addr × Obj)) (g : Obj → List (Addr × Obj)) (s : Shared)
    (Q E : Value → Shared → Prop) (items : List Value) (ns : List Int) (x lo hi : Int) (tx tl th : Tok),
    Below A₀ base outer h₀ → Fr h₀ L s.heap m → (_root_.hd.heap_39 w.params).In h₀ → News h₀ L s.heap news → Top p loose mean mg mb h₀ → cs.kind = .function →
    UpdF D (listOf items.toArray 0) news g → (∀ p ∈ need, p ∈ news) → IntsAre items ns →
    0 ≤ lo → lo < hi → hi ≤ ns.length → hi - lo ≤ 2 ^ k → (ns.length : Int) ≤ 16777216 → n * ns.length ≤ 50000000 → 0 ≤ x → x < 2 ^ (n.toNat * (hi - lo).toNat) →
    dp + (k + 2) < recursionLimit → un + (10 * k + 10) < cLine →
    (∀ items' h' tk', IntsAre items' (ns.take lo.toNat ++ (digs n.toNat (hi - lo).toNat x ++ ns.drop hi.toNat)) → Fr h₀ L h' m → News h₀ L h' (g (listOf items'.toArray 0)) → Q .none { s with heap := h', toks := tk' }) →
    wpAny (model PySem.Challenge.rw_ta0142_01.row.prog w) (ktrTop dp un gd cn cs L a ccd cl outer) (call (.ref f) [.int x tx, .int lo tl, .int hi th]) Q E s

theorem i2d_use {w : World} {f D : Addr} {need : List (Addr × Obj)} {n : Int} {k : Nat} (C : I2dCt w f D need n k) {p : Program} {loose : List Str} {mean : ExcName → Option Value} {mg mb : Str → Option Value}
    {dp un : Nat} {gd : Option (List Code)} {cn : Str} {cs : Scope} {a : Addr} {ccd : Value} {cl : List (Str × Addr)} {outer : List Env} {A₀ : Around} {base h₀ : Heap} {L : Addr} {m : Str → Option Value} {news : List (Addr × Obj)} {g : Obj → List (Addr × Obj)} {s : Shared}
    {Q E : Value → Shared → Prop} {items : List Value} {ns : List Int} {x lo hi : Int} {tx tl th : Tok}
    (B : Below A₀ base outer h₀) (F : Fr h₀ L s.heap m) (X : (_root_.hd.heap_39 w.params).In h₀) (N : News h₀ L s.heap news) (T : Top p loose mean mg mb h₀) (hk : cs.kind = .function)
    (U : UpdF D (listOf items.toArray 0) news g) (hneed : ∀ p ∈ need, p ∈ news) (hints : IntsAre items ns)
    (h0 : 0 ≤ lo) (h1 : lo < hi) (h2 : hi ≤ ns.length) (h3 : hi - lo ≤ 2 ^ k) (h4 : (ns.length : Int) ≤ 16777216) (h5 : n * ns.length ≤ 50000000) (h6 : 0 ≤ x) (h7 : x < 2 ^ (n.toNat * (hi - lo).toNat))
    (hd : dp + (k + 2) < recursionLimit) (hu : un + (10 * k + 10) < cLine)
    (ret : ∀ items' h' tk', IntsAre items' (ns.take lo.toNat ++ (digs n.toNat (hi - lo).toNat x ++ ns.drop hi.toNat)) → Fr h₀ L h' m → News h₀ L h' (g (listOf items'.toArray 0)) → Q .none { s with heap := h', toks := tk' }) :
    wpAny (model PySem.Challenge.rw_ta0142_01.row.prog w) (ktrTop dp un gd cn cs L a ccd cl outer) (call (.ref f) [.int x tx, .int lo tl, .int hi th]) Q E s :=
  C _ _ _ _ _ _ _ _ _ _ _ _ _ _ _ _ _ _ _ _ _ _ _ _ _ _ _ _ _ _ _ _ B F X N T hk U hneed hints h0 h1 h2 h3 h4 h5 h6 h7 hd hu ret

set_option maxHeartbeats 1000000 in
theorem i2d_inner (w : World) (params : Arguments) (body : List Stmt) (scope : Scope) (hno : ((_root_.hd.heap_39 w.params).lookup 35).bind nestObj = some (params, body, scope))
    (name qual : Str) (f D cA cI cN c' : Addr) (doc pm ctv : Value) (oA oI oN oc : Obj) (vs : Array Value) (tq tn : Tok) (n : Int)
    (hA : oA.data = .cell (some (.ref D))) (hI : oI.data = .cell (some (.ref f))) (hN : oN.data = .cell (some (.int n tn))) (hoc : oc.data = .fields vs) (hvs : vs[1]? = some (.str qual tq))
    (dA : cA ≠ D) (dI : cI ≠ D) (dN : cN ≠ D) (df : f ≠ D) (dc : c' ≠ D) (hn : 1 ≤ n) (hnn : n ≤ 33554432) :
    ∀ k, I2dCt w f D [(f, fnMade name qual params body scope [(Str.ofString "n", cN), (Str.ofString "inner", cI), (Str.ofString "a_digits", cA)] doc pm c' ctv), (cA, oA), (cI, oI), (cN, oN), (c', oc)] n k := by
  intro k
  induction k using Nat.strongRecOn with
  | ind k ih =>
  unfold I2dCt
  k_fill
  w_top off
  k_with_none
  k_with "binaryOp LShift int int" => (((with_reducible refine lshift_int ?zqs0 ?zqs1 ?_); (case zqs0 => first | assumption | omega | decide); (case zqs1 => exact shl_ok (by assumption) (by assumption))))
  k_with "binaryOp RShift int int" => (((with_reducible refine rshift_int ?zqs0 ?_); (case zqs0 => first | assumption | omega | decide)))
  k_with "binaryOp Mult int int" => ((with_reducible refine mul_int ?_ (mul_ok (by assumption) (by assumption) (by decide))))
  k_with "eval Name" => ((k_here; kc_free; k_dflt (refine' nameX_F ?zqN ?zqc ?zqm ?zqd ?_ ?zqa ?zqb; (case zqa => rfl); (case zqb => rfl); (case zqN => k_asm); (case zqc => rfl); (case zqm => first | assumption | k_extra "mymem"); (case zqd => assumption); k_whole)))
  k_with "callWith ref" => ((k_here; k_dflt (refine' callWith_F ?zqk1 ?_; (case zqk1 => k_extra "myfn"); k_whole)))
  k_with "FnAt" => ((k_extra "myfn"))
  k_with "setItem ref int" => ((k_extra "myset"))
  k_with "call ref" => ((k_here; k_extra "mycall"))
  have hno2 := nest_key (by k_is) hno
  clear hno
  dsimp only [nestObj, nestedIn] at hno2
  cases hno2
  intro p loose mean mg mb dp un gd cn cs ad ccd cl outer A₀ base h₀ L m news g s Q E items ns x lo hi tx tl th B F X N T hk U hneed hints h0 h1 h2 h3 h4 h5 h6 h7 hroom hunits hret
  have mf := hneed _ (List.mem_cons_self)
  have mA := hneed _ (List.mem_cons_of_mem _ (List.mem_cons_self))
  have mI := hneed _ (List.mem_cons_of_mem _ (List.mem_cons_of_mem _ (List.mem_cons_self)))
  have mN := hneed _ (List.mem_cons_of_mem _ (List.mem_cons_of_mem _ (List.mem_cons_of_mem _ (List.mem_cons_self))))
  have mc := hneed _ (List.mem_cons_of_mem _ (List.mem_cons_of_mem _ (List.mem_cons_of_mem _ (List.mem_cons_of_mem _ (List.mem_cons_self)))))
  have hneed2 : ∀ o' : Obj, ∀ p ∈ _, p ∈ g o' := fun o' p hp => updF_mem U (hneed p hp) (by
    rcases List.mem_cons.mp hp with rfl | hp
    · exact df
    · rcases List.mem_cons.mp hp with rfl | hp
      · exact dA
      · rcases List.mem_cons.mp hp with rfl | hp
        · exact dI
        · rcases List.mem_cons.mp hp with rfl | hp
          · exact dN
          · rcases List.mem_cons.mp hp with rfl | hp
            · exact dc
            · exact nomatch hp) o'
  by_cases hlo : lo + 1 = hi
  · have hc : (lo + 1 == hi) = true := by simpa using hlo
    have hll : lo < ns.length := by omega
    have hfit : lo < 2 ^ 63 := by omega
    have ehl : hi.toNat - lo.toNat = (hi - lo).toNat := by rw [← tn_sub h0 (show lo ≤ hi by omega), Nat.add_sub_cancel_left]
    have h7' := h7
    rw [← ehl] at h7'
    have hset := set_as_digs (n := n.toNat) (lo := lo.toNat) (hi := hi.toNat) (x := x) (ns := ns) ((Int.toNat_add h0 (by decide)).symm.trans (congrArg Int.toNat hlo)) (by omega) h6 h7'
    rw [ehl] at hset
    clear h7' ehl
    refine wpAny_call ?_
    k_dflt (refine' code_nest ?k1 ?k2 ?k3 ?k4 ?k5 ?kA ?kF ?kK ?k6 ?k7 ?k8 ?k9 ?kB ?_ ?c2 ?c3 ?c4 ?c5; (case kA => exact rfl); (case kF => exact rfl); (case kK => assumption); (case k1 => k_asm); (case k2 => k_asm); (case k3 => k_asm); (case k4 => k_asm); (case k5 => k_asm); (case k6 => exact mf); (case k7 => exact codeRec_news N mc hoc hvs); (case k8 => ktr_room); (case k9 => exact BindsTo.of_eq rfl); (case c5 => decide); (case kB => exact locs rfl); (case c2 => exact rfl); (case c3 => exact rfl); (case c4 => exact rfl); k_whole; intro g' L' h' FG' F' N' B' X' T'; (try dsimp only); (try k_lift B'); (try k_fold))
    k_with "myset" => (refine' ksa_set ?F ?N (updF_upd U _) hints h0 hll hfit ?_; (case F => k_asm); (case N => k_asm); intro h' F' N' hi' hl' hs'; (try k_sweep))
    k_steps
    all_goals (rename_i hi' _ _ _ _ _; rw [hset] at hi'; exact hret _ _ _ hi' (by k_asm) (by k_asm))
  · have hc : (lo + 1 == hi) = false := by simpa using hlo
    obtain ⟨m1, m2, m3, m4, m5, m6, m7, s0, z1, z2, z3, z4, u1, u2, l1, l2, eq⟩ := i2d_raw hn hnn h0 (show lo + 1 < hi by omega) h2 h3 h4 h5 h6 h7 (half_fdiv (lo + hi))
    have hlen := join_len (ns := ns) (lo := lo.toNat) (mid := ((lo + hi).fdiv (2 ^ Int.toNat 1)).toNat) (d1 := digs n.toNat ((lo + hi).fdiv (2 ^ Int.toNat 1) - lo).toNat (Builtin.bitXor x (x.fdiv (2 ^ (((lo + hi).fdiv (2 ^ Int.toNat 1) - lo) * n).toNat) * 2 ^ (((lo + hi).fdiv (2 ^ Int.toNat 1) - lo) * n).toNat))) (by rw [digs_length]; exact tn_sub h0 (Int.le_of_lt m1)) (by omega)
    have hjoin := join_lists (ns := ns) (lo := lo.toNat) (mid := ((lo + hi).fdiv (2 ^ Int.toNat 1)).toNat) (hi := hi.toNat) (d1 := digs n.toNat ((lo + hi).fdiv (2 ^ Int.toNat 1) - lo).toNat (Builtin.bitXor x (x.fdiv (2 ^ (((lo + hi).fdiv (2 ^ Int.toNat 1) - lo) * n).toNat) * 2 ^ (((lo + hi).fdiv (2 ^ Int.toNat 1) - lo) * n).toNat)))
      (d2 := digs n.toNat (hi - (lo + hi).fdiv (2 ^ Int.toNat 1)).toNat (x.fdiv (2 ^ (((lo + hi).fdiv (2 ^ Int.toNat 1) - lo) * n).toNat))) (by rw [digs_length]; exact tn_sub h0 (Int.le_of_lt m1)) (by rw [digs_length]; exact tn_sub m7 (Int.le_of_lt m2)) (by omega)
    rw [eq] at hjoin
    refine wpAny_call ?_
    k_dflt (refine' code_nest ?k1 ?k2 ?k3 ?k4 ?k5 ?kA ?kF ?kK ?k6 ?k7 ?k8 ?k9 ?kB ?_ ?c2 ?c3 ?c4 ?c5; (case kA => exact rfl); (case kF => exact rfl); (case kK => assumption); (case k1 => k_asm); (case k2 => k_asm); (case k3 => k_asm); (case k4 => k_asm); (case k5 => k_asm); (case k6 => exact mf); (case k7 => exact codeRec_news N mc hoc hvs); (case k8 => ktr_room); (case k9 => exact BindsTo.of_eq rfl); (case c5 => decide); (case kB => exact locs rfl); (case c2 => exact rfl); (case c3 => exact rfl); (case c4 => exact rfl); k_whole; intro g' L' h' FG' F' N' B' X' T'; (try dsimp only); (try k_lift B'); (try k_fold))
    have mf2 := fun o' => hneed2 o' _ (List.mem_cons_self)
    have mI2 := fun o' => hneed2 o' _ (List.mem_cons_of_mem _ (List.mem_cons_of_mem _ (List.mem_cons_self)))
    k_with "mymem" => exact mI2 _
    k_with "myfn" => first | exact FnAt.of (by k_asm) mf | exact FnAt.of (by k_asm) (mf2 _)
    k_with "mycall" => (refine' i2d_use (ih _ m6) ?B ?F ?X ?N ?T ?hk ?U ?need ?kin ?a0 ?a1 ?a2 ?a3 ?a4 ?a5 ?a6 ?a7 ?hd ?hu ?_; (case B => k_asm); (case F => k_asm); (case X => k_asm); (case N => k_asm); (case T => k_asm); (case hk => exact rfl); (case U => first | exact U | exact updF_again U _); (case need => first | exact hneed | exact hneed2 _); (case kin => assumption); (case a0 => assumption); (case a1 => assumption); (case a2 => first | assumption | (rw [hlen]; assumption)); (case a3 => assumption); (case a4 => first | assumption | (rw [hlen]; assumption)); (case a5 => first | assumption | (rw [hlen]; assumption)); (case a6 => assumption); (case a7 => assumption); (case hd => ktr_room); (case hu => ktr_units); (intro items' h' tk' hints' F' N'); (try dsimp only); (try k_fold))
    k_steps
    all_goals (rw [hjoin] at hints'; exact hret _ _ _ hints' (by k_asm) (by k_asm))
end Mine

end
section
namespace Mine
open PySem PySem.W PyProof.Rows PySem.Calls PySem.Spec
local macro_rules | `(tactic| k_all) => `(tactic| first | with_reducible assumption | k_extra "kall")
section
noncomputable def Tab1 (P : Addr) (line col : Nat) (qual : Str) (tb : List (Addr × Obj)) : Prop :=
  tb = [(P, tabObj #[])] ∨ ∃ (c' : Addr) (oc : Obj) (vs : Array Value) (t : Tok), tb = [(P, tabObj (#[] ++ #[rawInt line, rawInt col, .ref c'])), (c', oc)] ∧ oc.data = .fields vs ∧ vs[1]? = some (.str qual t) ∧ @LT.lt Nat _ 50 c'
noncomputable def qI2D : Str := (Str.ofString "_int2digits" ++ ".<locals>.") ++ Str.ofString "inner"
theorem ints_replicate (k : Nat) (t : Tok) : IntsAre (List.replicate k (Value.int 0 t)) (List.replicate k 0) := by
  induction k with
  | zero => exact .nil
  | succ k ih => rw [List.replicate_succ, List.replicate_succ]; exact .cons _ _ ih
theorem my_len {prog : Program} {w : World} {A : Around} {E : Value → Shared → Prop} {s : Shared} {h₀ : Heap} {L : Addr} {news : List (Addr × Obj)} {l : Addr} {vs : List Value} {c : Nat} {k : Int} {Q : Value → Shared → Prop}
    (N : News h₀ L s.heap news) (hm : (l, listOf vs.toArray c) ∈ news) (hk : (vs.length : Int) = k) (hfit : k < 9223372036854775808)
    (h : Q (.int k (s.toks + 1)) { s with toks := s.toks + 1 + 1 }) : wpAny (model prog w) A (call (.builtin "len") [.ref l]) Q E s := by
  subst hk
  refine PyProof.Rows.len_list (PySem.IsL.isList (n := c) (N _ hm).1) (by simpa using hfit) ?_
  have e : ((vs.toArray.size : Nat) : Int) = (vs.length : Int) := by simp
  rw [e]; exact h
theorem i2d_end {n : Int} {K : Nat} {h₀ h : Heap} {L D c' : Addr} {m : Str → Option Value} {led rest : List (Addr × Obj)} {s : Shared} {Q : Value → Shared → Prop} {items : List Value} {tk : Nat} {a : Int} {oc : Obj} {vs : Array Value} {t : Tok}
    (ret : ∀ D items h' tk' tb', Tab1 30 32 4 qI2D tb' → (∀ p ∈ tb', p.1 ≠ D) → @LT.lt Nat _ 50 D → AllLt D rest → IntsAre items (digs n.toNat K a) → Fr h₀ L h' m → News h₀ L h' ((D, listOf items.toArray 0) :: (tb' ++ rest)) → Q (.ref D) { s with heap := h', toks := tk' })
    (F : Fr h₀ L h m) (N : News h₀ L h led) (m1 : (D, listOf items.toArray 0) ∈ led) (m2 : ((30 : Addr), tabObj (#[] ++ #[rawInt (32 : Nat), rawInt (4 : Nat), .ref c'])) ∈ led) (m3 : (c', oc) ∈ led) (m4 : ∀ p ∈ rest, p ∈ led)
    (hoc : oc.data = .fields vs) (hvs : vs[1]? = some (.str qI2D t)) (hlt : @LT.lt Nat _ 50 c') (d0 : @LT.lt Nat _ 50 D) (d1 : @Ne Nat D 30) (d2 : @Ne Nat D c') (hl : AllLt D rest) (hints : IntsAre items (digs n.toNat K a)) :
    Q (.ref D) { s with heap := h, toks := tk } := by
  refine ret D items h tk [((30 : Addr), tabObj (#[] ++ #[rawInt (32 : Nat), rawInt (4 : Nat), .ref c'])), (c', oc)] (.inr ⟨c', oc, vs, t, rfl, hoc, hvs, hlt⟩) ?_ d0 hl hints F ?_
  · intro p hp
    rcases List.mem_cons.mp hp with rfl | hp
    · exact Ne.symm d1
    · rw [List.mem_singleton.mp hp]; exact Ne.symm d2
  · intro p hp
    rcases List.mem_cons.mp hp with rfl | hp
    · exact N _ m1
    · rcases List.mem_cons.mp hp with rfl | hp
      · exact N _ m2
      · rcases List.mem_cons.mp hp with rfl | hp
        · exact N _ m3
        · exact N _ (m4 _ hp)
theorem len_rep {k : Nat} {v : Value} {K : Int} (h : (k : Int) = K) : ((List.replicate k v).length : Int) = K := by rw [List.length_replicate]; exact h
theorem mem5 {α : Type} {a b c d e : α} {l : List α} (h1 : a ∈ l) (h2 : b ∈ l) (h3 : c ∈ l) (h4 : d ∈ l) (h5 : e ∈ l) : ∀ p ∈ [a, b, c, d, e], p ∈ l := by
  intro p hp
  simp only [List.mem_cons, List.not_mem_nil, or_false] at hp
  rcases hp with rfl | rfl | rfl | rfl | rfl <;> assumption
theorem nest_mk {K : Frag} {f : Addr} {o : Obj} {x : Option (Arguments × List Stmt × Scope)} (h : K.lookup f = some o) (hx : nestObj o = x) : (K.lookup f).bind nestObj = x := by
  rw [h]; exact hx

set_option maxHeartbeats 8000000 in
theorem i2d_pos (w : World) (a n : Int) (hn : 1 ≤ n) (hnn : n ≤ 33554432) (ha : 0 < a)
   (hk0 : 0 < ((Builtin.Int.intBits a : Int) + n - 1).fdiv n) (hk1 : ((Builtin.Int.intBits a : Int) + n - 1).fdiv n ≤ 16777216) (hk2 : n * ((Builtin.Int.intBits a : Int) + n - 1).fdiv n ≤ 50000000)
   (hk3 : a < 2 ^ (n.toNat * (((Builtin.Int.intBits a : Int) + n - 1).fdiv n - 0).toNat)) (hnp : Builtin.divisionGoesByPylong ((Builtin.Int.intBits a : Int) + n - 1) n = false)
   (p : Program) (loose : List Str) (mean : ExcName → Option Value) (mg mb : Str → Option Value)
    (dp un : Nat) (gd : Option (List Code)) (cn : Str) (cs : Scope) (ad : Addr) (ccd : Value) (cl : List (Str × Addr)) (outer : List Env) (A₀ : Around) (base h₀ : Heap) (L : Addr) (m : Str → Option Value) (tb rest : List (Addr × Obj)) (s : Shared)
    (Q E : Value → Shared → Prop) (t0 t1 : Tok) (hB : Below A₀ base outer h₀) (hC : CodeHd base 34 30) (hF : Fr h₀ L s.heap m) (hX : (_root_.hd.heap_39 w.params).In h₀) (hN : News h₀ L s.heap (tb ++ rest)) (hT : Top p loose mean mg mb h₀) (hk : cs.kind = .function)
    (htb : Tab1 30 32 4 qI2D tb) (hr : ∀ p ∈ rest, p.1 ≠ 30) (hroom : dp + 40 < recursionLimit) (hunits : un + 400 < cLine)
    (hret : ∀ D items h' tk' tb', Tab1 30 32 4 qI2D tb' → (∀ p ∈ tb', p.1 ≠ D) → @LT.lt Nat _ 50 D → AllLt D rest → IntsAre items (digs n.toNat (((Builtin.Int.intBits a : Int) + n - 1).fdiv n).toNat a) → Fr h₀ L h' m → News h₀ L h' ((D, listOf items.toArray 0) :: (tb' ++ rest)) → Q (.ref D) { s with heap := h', toks := tk' }) :
    wpAny (model PySem.Challenge.rw_ta0142_01.row.prog w) (ktrTop dp un gd cn cs L ad ccd cl outer) (call (.ref 35) [.int a t0, .int n t1]) Q E s := by
  revert hB hF hX hN hT
  k_fill
  w_top off
  k_with_none
  k_with "binaryOp FloorDiv int int" => ((k_extra "mydiv"))
  k_with "binaryOp Mult ref int" => ((k_dflt (refine' my_rep ?zqF ?zqN ?zql ?zqz1 ?zqz2 ?_; (case zqF => k_asm); (case zqN => k_asm); (case zql => k_mem); (case zqz1 => first | assumption | omega); (case zqz2 => first | assumption | omega); k_whole); intro zqD' zqh' zqF' zqN' zql1; (try simp only [AllLt, and_true] at zql1); (try k_sweep)))
  k_with "call ref" => ((k_here; k_extra "mycall"))
  k_with "call builtin:len" => ((k_here; (with_reducible show wpAny _ _ (call (Value.builtin "len") [Value.ref _]) _ _ _); k_dflt (refine' my_len ?zqN ?zqm ?zqe ?zqf ?_; (case zqN => k_asm); (case zqm => k_mem); (case zqe => k_extra "mylen"); (case zqf => omega); k_whole)))
  intro B F X N T
  have haa : (a != 0) = true := by simp; omega
  have hkn : ((((Builtin.Int.intBits a : Int) + n - 1).fdiv n).toNat : Int) = ((Builtin.Int.intBits a : Int) + n - 1).fdiv n := by omega
  have hk2' : n * ((((Builtin.Int.intBits a : Int) + n - 1).fdiv n).toNat : Int) ≤ 50000000 := by rw [hkn]; exact hk2
  have hdig : ∀ k : Nat, (List.replicate k (0 : Int)).take (Int.toNat 0) ++ (digs n.toNat (((Builtin.Int.intBits a : Int) + n - 1).fdiv n - 0).toNat a ++ (List.replicate k (0 : Int)).drop k) = digs n.toNat (((Builtin.Int.intBits a : Int) + n - 1).fdiv n).toNat a := by
    intro k
    rw [Int.sub_zero, List.drop_eq_nil_of_le (by simp)]
    simp
  rcases htb with rfl | ⟨c0, oc0, vs0, tq0, rfl, hoc0, hvs0, hlt0⟩
  · refine wpAny_call ?_
    refine' code_defC ?k1 ?k2 ?k3 ?k4 ?k5 ?kA ?kF ?kK ?k6 ?k7 ?k8 ?k9 ?kB ?kD ?_ ?c2 ?c3 ?c4; (case kA => exact rfl); (case kF => exact rfl); (case kK => assumption); (case k1 => k_asm); (case k2 => k_asm); (case k3 => k_asm); (case k4 => k_asm); (case k5 => k_asm); (case k6 => k_is); (case k7 => k_is); (case k8 => ktr_room); (case k9 => first | exact BindsTo.of_eq rfl | exact binds_K (by k_in) rfl (by k_is) rfl rfl rfl | fail "k_enter: no rule for these arguments"); (case kB => exact rfl); (case kD => decide +kernel); (case c2 => exact rfl); (case c3 => exact rfl); (case c4 => exact rfl); k_whole; intro g' L' h' tk' cells' FG' F' N' Y' B' X' T' l1; replace l1 := allLt_of l1; (simp only [List.cons_append, List.nil_append, AllLt] at l1); k_cells Y'; (try simp only [List.cons_append, List.nil_append] at N'); (try dsimp only); (try k_lift B'); (try k_fold)
    have lr := l1.2
    have l30 := l1.1
    have hL56 : @LT.lt Nat _ 56 L' := Nat.lt_of_lt_of_le (Heap.lt_size (X' 56 _ (by k_is))) F'.above
    k_with "kall" => first | exact hr | exact all_ne lr (by omega)
    k_with "mydiv" => (refine floordiv_int (by omega) ?_ (Or.inl hnp))
    k_with "mylen" => exact len_rep hkn
    k_with "mycall" => (refine' i2d_use (i2d_inner w _ _ _ ?hno _ _ _ _ _ _ _ _ _ _ _ _ _ _ _ _ _ _ _ ?hA ?hI ?hN ?hoc ?hvs ?dA ?dI ?dN ?df ?dc hn hnn 24) ?B ?F ?X ?N ?T ?hk ?U ?need ?kin ?a0 ?a1 ?a2 ?a3 ?a4 ?a5 ?a6 ?a7 ?hd ?hu ?_; (case B => k_asm); (case F => k_asm); (case X => k_asm); (case N => k_asm); (case T => k_asm); (case need => exact mem5 (by k_mem) (by k_mem) (by k_mem) (by k_mem) (by k_mem)); (case hk => exact rfl); (case hA => assumption); (case U => k_updF); (case hI => assumption); (case hN => assumption); (case hoc => assumption); (case hvs => assumption); (case dA => k_ne); (case dI => k_ne); (case dN => k_ne); (case df => k_ne); (case dc => k_ne); (case hno => exact nest_mk (by k_is) rfl); (case kin => exact ints_replicate _ _); (case a0 => decide); (case a1 => assumption); (case a2 => rw [List.length_replicate]; omega); (case a3 => omega); (case a4 => rw [List.length_replicate]; omega); (case a5 => rw [List.length_replicate]; omega); (case a6 => omega); (case a7 => assumption); (case hd => ktr_room); (case hu => ktr_units); (intro items' h' tk' hints' F' N'); (try dsimp only at N'); (try dsimp only); (try k_fold))
    k_steps
    all_goals (rw [hdig] at hints'; refine i2d_end hret (by k_asm) (by k_asm) (by k_mem) (by k_mem) (by k_mem) (by intro p9 h9; repeat (first | exact h9 | refine List.mem_cons_of_mem _ ?_)) (by assumption) (by assumption) (by omega) (by omega) (by omega) (by omega) (by first | assumption | exact (And.right (by assumption)) | exact (And.right (And.right (by assumption))) | exact (And.right (And.right (And.right (by assumption)))) | exact (And.right (And.right (And.right (And.right (by assumption))))) | exact (And.right (And.right (And.right (And.right (And.right (by assumption)))))) | exact (And.right (And.right (And.right (And.right (And.right (And.right (by assumption))))))) | exact (And.right (And.right (And.right (And.right (And.right (And.right (And.right (by assumption))))))))) hints')
  · refine wpAny_call ?_
    refine' code_defC ?k1 ?k2 ?k3 ?k4 ?k5 ?kA ?kF ?kK ?k6 ?k7 ?k8 ?k9 ?kB ?kD ?_ ?c2 ?c3 ?c4; (case kA => exact rfl); (case kF => exact rfl); (case kK => assumption); (case k1 => k_asm); (case k2 => k_asm); (case k3 => k_asm); (case k4 => k_asm); (case k5 => k_asm); (case k6 => k_is); (case k7 => k_is); (case k8 => ktr_room); (case k9 => first | exact BindsTo.of_eq rfl | exact binds_K (by k_in) rfl (by k_is) rfl rfl rfl | fail "k_enter: no rule for these arguments"); (case kB => exact rfl); (case kD => decide +kernel); (case c2 => exact rfl); (case c3 => exact rfl); (case c4 => exact rfl); k_whole; intro g' L' h' tk' cells' FG' F' N' Y' B' X' T' l1; replace l1 := allLt_of l1; (simp only [List.cons_append, List.nil_append, AllLt] at l1); k_cells Y'; (try simp only [List.cons_append, List.nil_append] at N'); (try dsimp only); (try k_lift B'); (try k_fold)
    have lr := l1.2.2
    have l30 := l1.1
    have l31 := l1.2.1
    have hL56 : @LT.lt Nat _ 56 L' := Nat.lt_of_lt_of_le (Heap.lt_size (X' 56 _ (by k_is))) F'.above
    k_with "kall" => first | exact hr | exact all_ne lr (by omega)
    k_with "mydiv" => (refine floordiv_int (by omega) ?_ (Or.inl hnp))
    k_with "mylen" => exact len_rep hkn
    k_with "mycall" => (refine' i2d_use (i2d_inner w _ _ _ ?hno _ _ _ _ _ _ _ _ _ _ _ _ _ _ _ _ _ _ _ ?hA ?hI ?hN ?hoc ?hvs ?dA ?dI ?dN ?df ?dc hn hnn 24) ?B ?F ?X ?N ?T ?hk ?U ?need ?kin ?a0 ?a1 ?a2 ?a3 ?a4 ?a5 ?a6 ?a7 ?hd ?hu ?_; (case B => k_asm); (case F => k_asm); (case X => k_asm); (case N => k_asm); (case T => k_asm); (case need => exact mem5 (by k_mem) (by k_mem) (by k_mem) (by k_mem) (by k_mem)); (case hk => exact rfl); (case hA => assumption); (case U => k_updF); (case hI => assumption); (case hN => assumption); (case hoc => assumption); (case hvs => assumption); (case dA => k_ne); (case dI => k_ne); (case dN => k_ne); (case df => k_ne); (case dc => k_ne); (case hno => exact nest_mk (by k_is) rfl); (case kin => exact ints_replicate _ _); (case a0 => decide); (case a1 => assumption); (case a2 => rw [List.length_replicate]; omega); (case a3 => omega); (case a4 => rw [List.length_replicate]; omega); (case a5 => rw [List.length_replicate]; omega); (case a6 => omega); (case a7 => assumption); (case hd => ktr_room); (case hu => ktr_units); (intro items' h' tk' hints' F' N'); (try dsimp only at N'); (try dsimp only); (try k_fold))
    k_steps
    all_goals (rw [hdig] at hints'; refine i2d_end hret (by k_asm) (by k_asm) (by k_mem) (by k_mem) (by k_mem) (by intro p9 h9; repeat (first | exact h9 | refine List.mem_cons_of_mem _ ?_)) (by assumption) (by assumption) (by omega) (by omega) (by omega) (by omega) (by first | assumption | exact (And.right (by assumption)) | exact (And.right (And.right (by assumption))) | exact (And.right (And.right (And.right (by assumption)))) | exact (And.right (And.right (And.right (And.right (by assumption))))) | exact (And.right (And.right (And.right (And.right (And.right (by assumption)))))) | exact (And.right (And.right (And.right (And.right (And.right (And.right (by assumption))))))) | exact (And.right (And.right (And.right (And.right (And.right (And.right (And.right (by assumption))))))))) hints')
set_option maxHeartbeats 8000000 in
theorem i2d_zero (w : World) (a n : Int) (hn : 1 ≤ n) (hnn : n ≤ 33554432) (ha : a = 0)
   (hk0 : 0 = ((Builtin.Int.intBits a : Int) + n - 1).fdiv n) (hk1 : ((Builtin.Int.intBits a : Int) + n - 1).fdiv n ≤ 16777216) (hnp : Builtin.divisionGoesByPylong ((Builtin.Int.intBits a : Int) + n - 1) n = false)
   (p : Program) (loose : List Str) (mean : ExcName → Option Value) (mg mb : Str → Option Value)
    (dp un : Nat) (gd : Option (List Code)) (cn : Str) (cs : Scope) (ad : Addr) (ccd : Value) (cl : List (Str × Addr)) (outer : List Env) (A₀ : Around) (base h₀ : Heap) (L : Addr) (m : Str → Option Value) (tb rest : List (Addr × Obj)) (s : Shared)
    (Q E : Value → Shared → Prop) (t0 t1 : Tok) (hB : Below A₀ base outer h₀) (hC : CodeHd base 34 30) (hF : Fr h₀ L s.heap m) (hX : (_root_.hd.heap_39 w.params).In h₀) (hN : News h₀ L s.heap (tb ++ rest)) (hT : Top p loose mean mg mb h₀) (hk : cs.kind = .function)
    (htb : Tab1 30 32 4 qI2D tb) (hr : ∀ p ∈ rest, p.1 ≠ 30) (hroom : dp + 40 < recursionLimit) (hunits : un + 400 < cLine)
    (hret : ∀ D items h' tk' tb', Tab1 30 32 4 qI2D tb' → (∀ p ∈ tb', p.1 ≠ D) → @LT.lt Nat _ 50 D → AllLt D rest → IntsAre items (digs n.toNat (((Builtin.Int.intBits a : Int) + n - 1).fdiv n).toNat a) → Fr h₀ L h' m → News h₀ L h' ((D, listOf items.toArray 0) :: (tb' ++ rest)) → Q (.ref D) { s with heap := h', toks := tk' }) :
    wpAny (model PySem.Challenge.rw_ta0142_01.row.prog w) (ktrTop dp un gd cn cs L ad ccd cl outer) (call (.ref 35) [.int a t0, .int n t1]) Q E s := by
  revert hB hF hX hN hT
  k_fill
  w_top off
  k_with_none
  k_with "binaryOp FloorDiv int int" => ((k_extra "mydiv"))
  k_with "binaryOp Mult ref int" => ((k_dflt (refine' my_rep ?zqF ?zqN ?zql ?zqz1 ?zqz2 ?_; (case zqF => k_asm); (case zqN => k_asm); (case zql => k_mem); (case zqz1 => first | assumption | omega); (case zqz2 => first | assumption | omega); k_whole); intro zqD' zqh' zqF' zqN' zql1; (try simp only [AllLt, and_true] at zql1); (try k_sweep)))
  k_with "call ref" => ((k_here; k_extra "mycall"))
  k_with "call builtin:len" => ((k_here; (with_reducible show wpAny _ _ (call (Value.builtin "len") [Value.ref _]) _ _ _); k_dflt (refine' my_len ?zqN ?zqm ?zqe ?zqf ?_; (case zqN => k_asm); (case zqm => k_mem); (case zqe => k_extra "mylen"); (case zqf => omega); k_whole)))
  intro B F X N T
  have haa : (a != 0) = false := by simp [ha]
  have hkn : ((((Builtin.Int.intBits a : Int) + n - 1).fdiv n).toNat : Int) = ((Builtin.Int.intBits a : Int) + n - 1).fdiv n := by omega
  have hz : ∀ t : Tok, IntsAre (List.replicate (((Builtin.Int.intBits a : Int) + n - 1).fdiv n).toNat (Value.int 0 t)) (digs n.toNat (((Builtin.Int.intBits a : Int) + n - 1).fdiv n).toNat a) := by
    intro t
    rw [← hk0]
    exact .nil
  rcases htb with rfl | ⟨c0, oc0, vs0, tq0, rfl, hoc0, hvs0, hlt0⟩
  · refine wpAny_call ?_
    refine' code_defC ?k1 ?k2 ?k3 ?k4 ?k5 ?kA ?kF ?kK ?k6 ?k7 ?k8 ?k9 ?kB ?kD ?_ ?c2 ?c3 ?c4; (case kA => exact rfl); (case kF => exact rfl); (case kK => assumption); (case k1 => k_asm); (case k2 => k_asm); (case k3 => k_asm); (case k4 => k_asm); (case k5 => k_asm); (case k6 => k_is); (case k7 => k_is); (case k8 => ktr_room); (case k9 => first | exact BindsTo.of_eq rfl | exact binds_K (by k_in) rfl (by k_is) rfl rfl rfl | fail "k_enter: no rule for these arguments"); (case kB => exact rfl); (case kD => decide +kernel); (case c2 => exact rfl); (case c3 => exact rfl); (case c4 => exact rfl); k_whole; intro g' L' h' tk' cells' FG' F' N' Y' B' X' T' l1; replace l1 := allLt_of l1; (simp only [List.cons_append, List.nil_append, AllLt] at l1); k_cells Y'; (try simp only [List.cons_append, List.nil_append] at N'); (try dsimp only); (try k_lift B'); (try k_fold)
    have lr := l1.2
    have l30 := l1.1
    have hL56 : @LT.lt Nat _ 56 L' := Nat.lt_of_lt_of_le (Heap.lt_size (X' 56 _ (by k_is))) F'.above
    k_with "kall" => first | exact hr | exact all_ne lr (by omega)
    k_with "mydiv" => (refine floordiv_int (by omega) ?_ (Or.inl hnp))
    k_steps
    all_goals (refine i2d_end hret (by k_asm) (by k_asm) (by k_mem) (by k_mem) (by k_mem) (by intro p9 h9; repeat (first | exact h9 | refine List.mem_cons_of_mem _ ?_)) (by assumption) (by assumption) (by omega) (by omega) (by omega) (by omega) (by first | assumption | exact (And.right (by assumption)) | exact (And.right (And.right (by assumption))) | exact (And.right (And.right (And.right (by assumption)))) | exact (And.right (And.right (And.right (And.right (by assumption))))) | exact (And.right (And.right (And.right (And.right (And.right (by assumption)))))) | exact (And.right (And.right (And.right (And.right (And.right (And.right (by assumption))))))) | exact (And.right (And.right (And.right (And.right (And.right (And.right (And.right (by assumption))))))))) (hz _))
  · refine wpAny_call ?_
    refine' code_defC ?k1 ?k2 ?k3 ?k4 ?k5 ?kA ?kF ?kK ?k6 ?k7 ?k8 ?k9 ?kB ?kD ?_ ?c2 ?c3 ?c4; (case kA => exact rfl); (case kF => exact rfl); (case kK => assumption); (case k1 => k_asm); (case k2 => k_asm); (case k3 => k_asm); (case k4 => k_asm); (case k5 => k_asm); (case k6 => k_is); (case k7 => k_is); (case k8 => ktr_room); (case k9 => first | exact BindsTo.of_eq rfl | exact binds_K (by k_in) rfl (by k_is) rfl rfl rfl | fail "k_enter: no rule for these arguments"); (case kB => exact rfl); (case kD => decide +kernel); (case c2 => exact rfl); (case c3 => exact rfl); (case c4 => exact rfl); k_whole; intro g' L' h' tk' cells' FG' F' N' Y' B' X' T' l1; replace l1 := allLt_of l1; (simp only [List.cons_append, List.nil_append, AllLt] at l1); k_cells Y'; (try simp only [List.cons_append, List.nil_append] at N'); (try dsimp only); (try k_lift B'); (try k_fold)
    have lr := l1.2.2
    have l30 := l1.1
    have l31 := l1.2.1
    have hL56 : @LT.lt Nat _ 56 L' := Nat.lt_of_lt_of_le (Heap.lt_size (X' 56 _ (by k_is))) F'.above
    k_with "kall" => first | exact hr | exact all_ne lr (by omega)
    k_with "mydiv" => (refine floordiv_int (by omega) ?_ (Or.inl hnp))
    k_steps
    all_goals (refine i2d_end hret (by k_asm) (by k_asm) (by k_mem) (by k_mem) (by k_mem) (by intro p9 h9; repeat (first | exact h9 | refine List.mem_cons_of_mem _ ?_)) (by assumption) (by assumption) (by omega) (by omega) (by omega) (by omega) (by first | assumption | exact (And.right (by assumption)) | exact (And.right (And.right (by assumption))) | exact (And.right (And.right (And.right (by assumption)))) | exact (And.right (And.right (And.right (And.right (by assumption))))) | exact (And.right (And.right (And.right (And.right (And.right (by assumption)))))) | exact (And.right (And.right (And.right (And.right (And.right (And.right (by assumption))))))) | exact (And.right (And.right (And.right (And.right (And.right (And.right (And.right (by assumption))))))))) (hz _))

end
section
noncomputable def D2iCt (w : World) (f : Addr) (need : List (Addr × Obj)) (ds : List Int) (n : Int) (k : Nat) : Prop :=
  ∀ (p : Program) (loose : List Str) (mean : ExcName → Option Value) (mg mb : Str → Option Value)
    (dp un : Nat) (gd : Option (List Code)) (cn : Str) (cs : Scope) (a : Addr) (ccd : Value) (cl : List (Str × Addr)) (outer : List Env) (A₀ : Around) (base h₀ : Heap) (L : Addr) (m : Str → Option Value) (news : List (Addr × Obj)) (s : Shared)
    (Q E : Value → Shared → Prop) (lo hi : Int) (tl th : Tok),
    Below A₀ base outer h₀ → Fr h₀ L s.heap m → (_root_.hd.heap_39 w.params).In h₀ → News h₀ L s.heap news → Top p loose mean mg mb h₀ → cs.kind = .function →
    (∀ p ∈ need, p ∈ news) →
    0 ≤ lo → lo < hi → hi ≤ ds.length → hi - lo ≤ 2 ^ k →
    dp + (k + 2) < recursionLimit → un + (10 * k + 10) < cLine →
    (∀ t h' tk', Fr h₀ L h' m → News h₀ L h' news → Q (.int (undigs n.toNat (slc ds lo hi)) t) { s with heap := h', toks := tk' }) →
    wpAny (model PySem.Challenge.rw_ta0142_01.row.prog w) (ktrTop dp un gd cn cs L a ccd cl outer) (call (.ref f) [.int lo tl, .int hi th]) Q E s
theorem d2i_use {w : World} {f : Addr} {need : List (Addr × Obj)} {ds : List Int} {n : Int} {k : Nat} (C : D2iCt w f need ds n k) {p : Program} {loose : List Str} {mean : ExcName → Option Value} {mg mb : Str → Option Value}
    {dp un : Nat} {gd : Option (List Code)} {cn : Str} {cs : Scope} {a : Addr} {ccd : Value} {cl : List (Str × Addr)} {outer : List Env} {A₀ : Around} {base h₀ : Heap} {L : Addr} {m : Str → Option Value} {news : List (Addr × Obj)} {s : Shared}
    {Q E : Value → Shared → Prop} {lo hi : Int} {tl th : Tok}
    (B : Below A₀ base outer h₀) (F : Fr h₀ L s.heap m) (X : (_root_.hd.heap_39 w.params).In h₀) (N : News h₀ L s.heap news) (T : Top p loose mean mg mb h₀) (hk : cs.kind = .function)
    (hneed : ∀ p ∈ need, p ∈ news) (h0 : 0 ≤ lo) (h1 : lo < hi) (h2 : hi ≤ ds.length) (h3 : hi - lo ≤ 2 ^ k)
    (hd : dp + (k + 2) < recursionLimit) (hu : un + (10 * k + 10) < cLine)
    (ret : ∀ t h' tk', Fr h₀ L h' m → News h₀ L h' news → Q (.int (undigs n.toNat (slc ds lo hi)) t) { s with heap := h', toks := tk' }) :
    wpAny (model PySem.Challenge.rw_ta0142_01.row.prog w) (ktrTop dp un gd cn cs L a ccd cl outer) (call (.ref f) [.int lo tl, .int hi th]) Q E s :=
  C _ _ _ _ _ _ _ _ _ _ _ _ _ _ _ _ _ _ _ _ _ _ _ _ _ _ _ B F X N T hk hneed h0 h1 h2 h3 hd hu ret

set_option maxHeartbeats 1000000 in
theorem d2i_inner (w : World) (params : Arguments) (body : List Stmt) (scope : Scope) (hno : ((_root_.hd.heap_39 w.params).lookup 42).bind nestObj = some (params, body, scope))
    (name qual : Str) (f cD cI cN c' l : Addr) (doc pm ctv : Value) (oD oI oN oc : Obj) (vs : Array Value) (tq tn : Tok) (n : Int) (items : List Value) (cc : Nat) (ds : List Int)
    (hD : oD.data = .cell (some (.ref l))) (hI : oI.data = .cell (some (.ref f))) (hN : oN.data = .cell (some (.int n tn))) (hoc : oc.data = .fields vs) (hvs : vs[1]? = some (.str qual tq))
    (hints : IntsAre items ds) (hn : 1 ≤ n) (hnn : n ≤ 33554432) (h4 : (ds.length : Int) ≤ 16777216) (h5 : n * ds.length ≤ 50000000) (hdr : ∀ d ∈ ds, 0 ≤ d ∧ d < 2 ^ n.toNat) :
    ∀ k, D2iCt w f [(f, fnMade name qual params body scope [(Str.ofString "n", cN), (Str.ofString "inner", cI), (Str.ofString "digits", cD)] doc pm c' ctv), (cD, oD), (cI, oI), (cN, oN), (c', oc), (l, listOf items.toArray cc)] ds n k := by
  intro k
  induction k using Nat.strongRecOn with
  | ind k ih =>
  unfold D2iCt
  k_fill
  w_top off
  k_with_none
  k_with "binaryOp LShift int int" => (((with_reducible refine lshift_int ?zqs0 ?zqs1 ?_); (case zqs0 => first | assumption | omega | decide); (case zqs1 => exact shl_ok (by assumption) (by assumption))))
  k_with "binaryOp RShift int int" => (((with_reducible refine rshift_int ?zqs0 ?_); (case zqs0 => first | assumption | omega | decide)))
  k_with "binaryOp Mult int int" => ((with_reducible refine mul_int ?_ (mul_ok (by assumption) (by assumption) (by decide))))
  k_with "eval Name" => ((k_here; kc_free; k_dflt (refine' nameX_F ?zqN ?zqc ?zqm ?zqd ?_ ?zqa ?zqb; (case zqa => rfl); (case zqb => rfl); (case zqN => k_asm); (case zqc => rfl); (case zqm => assumption); (case zqd => assumption); k_whole)))
  k_with "callWith ref" => ((k_here; k_dflt (refine' callWith_F ?zqk1 ?_; (case zqk1 => k_extra "myfn"); k_whole)))
  k_with "FnAt" => ((k_extra "myfn"))
  k_with "subscriptTail" => ((k_here; (with_reducible show wpAny _ _ (subscriptTail _ _ (Value.ref _) (Value.int _ _)) _ _ _); k_extra "mysub"))
  k_with "call ref" => ((k_here; k_extra "mycall"))
  have hno2 := nest_key (by k_is) hno
  clear hno
  dsimp only [nestObj, nestedIn] at hno2
  cases hno2
  intro p loose mean mg mb dp un gd cn cs ad ccd cl outer A₀ base h₀ L m news s Q E lo hi tl th B F X N T hk hneed h0 h1 h2 h3 hroom hunits hret
  have mf := hneed _ (List.mem_cons_self)
  have mD := hneed _ (List.mem_cons_of_mem _ (List.mem_cons_self))
  have mI := hneed _ (List.mem_cons_of_mem _ (List.mem_cons_of_mem _ (List.mem_cons_self)))
  have mN := hneed _ (List.mem_cons_of_mem _ (List.mem_cons_of_mem _ (List.mem_cons_of_mem _ (List.mem_cons_self))))
  have mc := hneed _ (List.mem_cons_of_mem _ (List.mem_cons_of_mem _ (List.mem_cons_of_mem _ (List.mem_cons_of_mem _ (List.mem_cons_self)))))
  have ml := hneed _ (List.mem_cons_of_mem _ (List.mem_cons_of_mem _ (List.mem_cons_of_mem _ (List.mem_cons_of_mem _ (List.mem_cons_of_mem _ (List.mem_cons_self))))))
  by_cases hlo : lo + 1 = hi
  · have hc : (lo + 1 == hi) = true := by simpa using hlo
    have hll : lo < ds.length := by omega
    have hfit : lo < 2 ^ 63 := by omega
    have hone : undigs n.toNat (slc ds lo hi) = ds.getD lo.toNat 0 := by rw [slc_one h0 hlo hll, undigs_one]
    refine wpAny_call ?_
    k_dflt (refine' code_nest ?k1 ?k2 ?k3 ?k4 ?k5 ?kA ?kF ?kK ?k6 ?k7 ?k8 ?k9 ?kB ?_ ?c2 ?c3 ?c4 ?c5; (case kA => exact rfl); (case kF => exact rfl); (case kK => assumption); (case k1 => k_asm); (case k2 => k_asm); (case k3 => k_asm); (case k4 => k_asm); (case k5 => k_asm); (case k6 => exact mf); (case k7 => exact codeRec_news N mc hoc hvs); (case k8 => ktr_room); (case k9 => exact BindsTo.of_eq rfl); (case c5 => decide); (case kB => exact locs rfl); (case c2 => exact rfl); (case c3 => exact rfl); (case c4 => exact rfl); k_whole; intro g' L' h' FG' F' N' B' X' T'; (try dsimp only); (try k_lift B'); (try k_fold))
    k_with "mysub" => (refine' ksa_sub ?N ?m hints h0 hll hfit ?_ ?k7; (case N => k_asm); (case m => exact ml); (case k7 => with_unfolding_all rfl); intro tt)
    k_steps
    all_goals (rw [hone] at hret; exact hret _ _ _ (by k_asm) (by k_asm))
  · have hc : (lo + 1 == hi) = false := by simpa using hlo
    obtain ⟨m1, m2, m3, m4, m5, m6, m7, s0, z1, z2, z3, z4, eq⟩ := d2i_raw hn hnn h0 (show lo + 1 < hi by omega) h2 h3 h4 h5 hdr (half_fdiv (lo + hi))
    refine wpAny_call ?_
    k_dflt (refine' code_nest ?k1 ?k2 ?k3 ?k4 ?k5 ?kA ?kF ?kK ?k6 ?k7 ?k8 ?k9 ?kB ?_ ?c2 ?c3 ?c4 ?c5; (case kA => exact rfl); (case kF => exact rfl); (case kK => assumption); (case k1 => k_asm); (case k2 => k_asm); (case k3 => k_asm); (case k4 => k_asm); (case k5 => k_asm); (case k6 => exact mf); (case k7 => exact codeRec_news N mc hoc hvs); (case k8 => ktr_room); (case k9 => exact BindsTo.of_eq rfl); (case c5 => decide); (case kB => exact locs rfl); (case c2 => exact rfl); (case c3 => exact rfl); (case c4 => exact rfl); k_whole; intro g' L' h' FG' F' N' B' X' T'; (try dsimp only); (try k_lift B'); (try k_fold))
    k_with "myfn" => exact FnAt.of (by k_asm) mf
    k_with "mycall" => (refine' d2i_use (ih _ m6) ?B ?F ?X ?N ?T ?hk ?need ?a0 ?a1 ?a2 ?a3 ?hd ?hu ?_; (case B => k_asm); (case F => k_asm); (case X => k_asm); (case N => k_asm); (case T => k_asm); (case hk => exact rfl); (case need => exact hneed); (case a0 => assumption); (case a1 => assumption); (case a2 => assumption); (case a3 => assumption); (case hd => ktr_room); (case hu => ktr_units); (intro tt h' tk' F' N'); (try dsimp only); (try k_fold))
    k_steps
    all_goals (rw [← eq] at hret; exact hret _ _ _ (by k_asm) (by k_asm))

end
local macro_rules | `(tactic| k_mem) => `(tactic| first | exact List.mem_cons_self | assumption | (refine' List.mem_cons_of_mem _ ?_; k_mem))
section
noncomputable def qD2I : Str := (Str.ofString "_digits2int" ++ ".<locals>.") ++ Str.ofString "inner"
theorem my_truthy {prog : Program} {w : World} {A : Around} {E : Value → Shared → Prop} {s : Shared} {h₀ : Heap} {L : Addr} {news : List (Addr × Obj)} {l : Addr} {vs : List Value} {c : Nat} {Q : Bool → Shared → Prop}
    (N : News h₀ L s.heap news) (hm : (l, listOf vs.toArray c) ∈ news) (hfit : (vs.length : Int) < 9223372036854775808)
    (h : Q (!vs.isEmpty) { s with toks := s.toks + 1 + 1 }) : wpAny (model prog w) A (truthy (.ref l)) Q E s := by
  refine wpAny_truthy_list (PySem.IsL.isList (n := c) (N _ hm).1) (by simpa using hfit) ?_
  have e : (!vs.toArray.isEmpty) = (!vs.isEmpty) := by simp
  rw [e]; exact h
theorem d2i_end {n : Int} {ds : List Int} {h₀ h : Heap} {L c' : Addr} {m : Str → Option Value} {led rest : List (Addr × Obj)} {s : Shared} {Q : Value → Shared → Prop} {tk : Nat} {x : Int} {oc : Obj} {vs : Array Value} {t t' : Tok}
    (ret : ∀ t h' tk' tb', Tab1 37 47 4 qD2I tb' → Fr h₀ L h' m → News h₀ L h' (tb' ++ rest) → Q (.int (undigs n.toNat ds) t) { s with heap := h', toks := tk' })
    (F : Fr h₀ L h m) (N : News h₀ L h led) (m2 : ((37 : Addr), tabObj (#[] ++ #[rawInt (47 : Nat), rawInt (4 : Nat), .ref c'])) ∈ led) (m3 : (c', oc) ∈ led) (m4 : ∀ p ∈ rest, p ∈ led)
    (hoc : oc.data = .fields vs) (hvs : vs[1]? = some (.str qD2I t)) (hlt : @LT.lt Nat _ 50 c') (hx : x = undigs n.toNat ds) :
    Q (.int x t') { s with heap := h, toks := tk } := by
  subst hx
  refine ret t' h tk [((37 : Addr), tabObj (#[] ++ #[rawInt (47 : Nat), rawInt (4 : Nat), .ref c'])), (c', oc)] (.inr ⟨c', oc, vs, t, rfl, hoc, hvs, hlt⟩) F ?_
  intro p hp
  rcases List.mem_cons.mp hp with rfl | hp
  · exact N _ m2
  · rcases List.mem_cons.mp hp with rfl | hp
    · exact N _ m3
    · exact N _ (m4 _ hp)
theorem mem6 {α : Type} {a b c d e f : α} {l : List α} (h1 : a ∈ l) (h2 : b ∈ l) (h3 : c ∈ l) (h4 : d ∈ l) (h5 : e ∈ l) (h6 : f ∈ l) : ∀ p ∈ [a, b, c, d, e, f], p ∈ l := by
  intro p hp
  simp only [List.mem_cons, List.not_mem_nil, or_false] at hp
  rcases hp with rfl | rfl | rfl | rfl | rfl | rfl <;> assumption
set_option maxHeartbeats 8000000 in
theorem d2i_pos (w : World) (n : Int) (items : List Value) (cc : Nat) (ds : List Int) (l : Addr) (t1 : Tok) (hn : 1 ≤ n) (hnn : n ≤ 33554432)
    (hints : IntsAre items ds) (h4 : (ds.length : Int) ≤ 16777216) (h5 : n * ds.length ≤ 50000000) (hdr : ∀ d ∈ ds, 0 ≤ d ∧ d < 2 ^ n.toNat) (hpos : 0 < ds.length)
   (p : Program) (loose : List Str) (mean : ExcName → Option Value) (mg mb : Str → Option Value)
    (dp un : Nat) (gd : Option (List Code)) (cn : Str) (cs : Scope) (ad : Addr) (ccd : Value) (cl : List (Str × Addr)) (outer : List Env) (A₀ : Around) (base h₀ : Heap) (L : Addr) (m : Str → Option Value) (tb rest : List (Addr × Obj)) (s : Shared)
    (Q E : Value → Shared → Prop) (hB : Below A₀ base outer h₀) (hC : CodeHd base 41 37) (hF : Fr h₀ L s.heap m) (hX : (_root_.hd.heap_39 w.params).In h₀) (hN : News h₀ L s.heap (tb ++ rest)) (hT : Top p loose mean mg mb h₀) (hk : cs.kind = .function)
    (htb : Tab1 37 47 4 qD2I tb) (hr : ∀ p ∈ rest, p.1 ≠ 37) (hl : (l, listOf items.toArray cc) ∈ rest) (hroom : dp + 40 < recursionLimit) (hunits : un + 400 < cLine)
    (hret : ∀ t h' tk' tb', Tab1 37 47 4 qD2I tb' → Fr h₀ L h' m → News h₀ L h' (tb' ++ rest) → Q (.int (undigs n.toNat ds) t) { s with heap := h', toks := tk' }) :
    wpAny (model PySem.Challenge.rw_ta0142_01.row.prog w) (ktrTop dp un gd cn cs L ad ccd cl outer) (call (.ref 42) [.ref l, .int n t1]) Q E s := by
  revert hB hF hX hN hT
  k_fill
  w_top off
  k_with_none
  k_with "binaryOp FloorDiv int int" => ((k_extra "mydiv"))
  k_with "binaryOp Mult ref int" => ((k_dflt (refine' my_rep ?zqF ?zqN ?zql ?zqz1 ?zqz2 ?_; (case zqF => k_asm); (case zqN => k_asm); (case zql => k_mem); (case zqz1 => first | assumption | omega); (case zqz2 => first | assumption | omega); k_whole); intro zqD' zqh' zqF' zqN' zql1; (try simp only [AllLt, and_true] at zql1); (try k_sweep)))
  k_with "call ref" => ((k_here; k_extra "mycall"))
  k_with "call builtin:len" => ((k_here; (with_reducible show wpAny _ _ (call (Value.builtin "len") [Value.ref _]) _ _ _); k_dflt (refine' my_len ?zqN ?zqm ?zqe ?zqf ?_; (case zqN => k_asm); (case zqm => k_mem); (case zqe => k_extra "mylen"); (case zqf => omega); k_whole)))
  k_with "truthy ref" => ((k_here; (with_reducible show wpAny _ _ (truthy (Value.ref _)) _ _ _); k_dflt (refine' my_truthy ?zqN ?zqm ?zqe ?_; (case zqN => k_asm); (case zqm => k_mem); (case zqe => omega); k_whole)))
  intro B F X N T
  have hlen : items.length = ds.length := hints.length
  have hlenZ : (items.length : Int) = (ds.length : Int) := by omega
  have htr : (!items.isEmpty) = true := by
    cases items with
    | nil => simp at hlen; omega
    | cons _ _ => rfl
  rcases htb with rfl | ⟨c0, oc0, vs0, tq0, rfl, hoc0, hvs0, hlt0⟩
  · refine wpAny_call ?_
    refine' code_defC ?k1 ?k2 ?k3 ?k4 ?k5 ?kA ?kF ?kK ?k6 ?k7 ?k8 ?k9 ?kB ?kD ?_ ?c2 ?c3 ?c4; (case kA => exact rfl); (case kF => exact rfl); (case kK => assumption); (case k1 => k_asm); (case k2 => k_asm); (case k3 => k_asm); (case k4 => k_asm); (case k5 => k_asm); (case k6 => k_is); (case k7 => k_is); (case k8 => ktr_room); (case k9 => first | exact BindsTo.of_eq rfl | exact binds_K (by k_in) rfl (by k_is) rfl rfl rfl | fail "k_enter: no rule for these arguments"); (case kB => exact rfl); (case kD => decide +kernel); (case c2 => exact rfl); (case c3 => exact rfl); (case c4 => exact rfl); k_whole; intro g' L' h' tk' cells' FG' F' N' Y' B' X' T' l1; replace l1 := allLt_of l1; (simp only [List.cons_append, List.nil_append, AllLt] at l1); k_cells Y'; (try simp only [List.cons_append, List.nil_append] at N'); (try dsimp only); (try k_lift B'); (try k_fold)
    have lr := l1.2
    have l30 := l1.1
    have hL56 : @LT.lt Nat _ 56 L' := Nat.lt_of_lt_of_le (Heap.lt_size (X' 56 _ (by k_is))) F'.above
    k_with "kall" => first | exact hr | exact all_ne lr (by omega)
    k_with "mylen" => exact hlenZ
    k_with "mycall" => (refine' d2i_use (d2i_inner w _ _ _ ?hno _ _ _ _ _ _ _ _ _ _ _ _ _ _ _ _ _ _ _ _ _ _ ?hD ?hI ?hN ?hoc ?hvs hints hn hnn h4 h5 hdr 24) ?B ?F ?X ?N ?T ?hk ?need ?a0 ?a1 ?a2 ?a3 ?hd ?hu ?_; (case B => k_asm); (case F => k_asm); (case X => k_asm); (case N => k_asm); (case T => k_asm); (case need => exact mem6 (by k_mem) (by k_mem) (by k_mem) (by k_mem) (by k_mem) (by k_mem)); (case hk => exact rfl); (case hD => assumption); (case hI => assumption); (case hN => assumption); (case hoc => assumption); (case hvs => assumption); (case hno => exact nest_mk (by k_is) rfl); (case a0 => decide); (case a1 => omega); (case a2 => omega); (case a3 => omega); (case hd => ktr_room); (case hu => ktr_units); (intro tt h' tk' F' N'); (try dsimp only); (try k_fold))
    k_steps
    all_goals (refine d2i_end hret (by k_asm) (by k_asm) (by k_mem) (by k_mem) (by intro p9 h9; repeat (first | exact h9 | refine List.mem_cons_of_mem _ ?_)) (by assumption) (by assumption) (by omega) (by rw [slc_all rfl]))
  · refine wpAny_call ?_
    refine' code_defC ?k1 ?k2 ?k3 ?k4 ?k5 ?kA ?kF ?kK ?k6 ?k7 ?k8 ?k9 ?kB ?kD ?_ ?c2 ?c3 ?c4; (case kA => exact rfl); (case kF => exact rfl); (case kK => assumption); (case k1 => k_asm); (case k2 => k_asm); (case k3 => k_asm); (case k4 => k_asm); (case k5 => k_asm); (case k6 => k_is); (case k7 => k_is); (case k8 => ktr_room); (case k9 => first | exact BindsTo.of_eq rfl | exact binds_K (by k_in) rfl (by k_is) rfl rfl rfl | fail "k_enter: no rule for these arguments"); (case kB => exact rfl); (case kD => decide +kernel); (case c2 => exact rfl); (case c3 => exact rfl); (case c4 => exact rfl); k_whole; intro g' L' h' tk' cells' FG' F' N' Y' B' X' T' l1; replace l1 := allLt_of l1; (simp only [List.cons_append, List.nil_append, AllLt] at l1); k_cells Y'; (try simp only [List.cons_append, List.nil_append] at N'); (try dsimp only); (try k_lift B'); (try k_fold)
    have lr := l1.2.2
    have l30 := l1.1
    have l31 := l1.2.1
    have hL56 : @LT.lt Nat _ 56 L' := Nat.lt_of_lt_of_le (Heap.lt_size (X' 56 _ (by k_is))) F'.above
    k_with "kall" => first | exact hr | exact all_ne lr (by omega)
    k_with "mylen" => exact hlenZ
    k_with "mycall" => (refine' d2i_use (d2i_inner w _ _ _ ?hno _ _ _ _ _ _ _ _ _ _ _ _ _ _ _ _ _ _ _ _ _ _ ?hD ?hI ?hN ?hoc ?hvs hints hn hnn h4 h5 hdr 24) ?B ?F ?X ?N ?T ?hk ?need ?a0 ?a1 ?a2 ?a3 ?hd ?hu ?_; (case B => k_asm); (case F => k_asm); (case X => k_asm); (case N => k_asm); (case T => k_asm); (case need => exact mem6 (by k_mem) (by k_mem) (by k_mem) (by k_mem) (by k_mem) (by k_mem)); (case hk => exact rfl); (case hD => assumption); (case hI => assumption); (case hN => assumption); (case hoc => assumption); (case hvs => assumption); (case hno => exact nest_mk (by k_is) rfl); (case a0 => decide); (case a1 => omega); (case a2 => omega); (case a3 => omega); (case hd => ktr_room); (case hu => ktr_units); (intro tt h' tk' F' N'); (try dsimp only); (try k_fold))
    k_steps
    all_goals (refine d2i_end hret (by k_asm) (by k_asm) (by k_mem) (by k_mem) (by intro p9 h9; repeat (first | exact h9 | refine List.mem_cons_of_mem _ ?_)) (by assumption) (by assumption) (by omega) (by rw [slc_all rfl]))
set_option maxHeartbeats 8000000 in
theorem d2i_zero (w : World) (n : Int) (items : List Value) (cc : Nat) (ds : List Int) (l : Addr) (t1 : Tok) (hn : 1 ≤ n) (hnn : n ≤ 33554432)
    (hints : IntsAre items ds) (h4 : (ds.length : Int) ≤ 16777216) (h5 : n * ds.length ≤ 50000000) (hdr : ∀ d ∈ ds, 0 ≤ d ∧ d < 2 ^ n.toNat) (hpos : ds = [])
   (p : Program) (loose : List Str) (mean : ExcName → Option Value) (mg mb : Str → Option Value)
    (dp un : Nat) (gd : Option (List Code)) (cn : Str) (cs : Scope) (ad : Addr) (ccd : Value) (cl : List (Str × Addr)) (outer : List Env) (A₀ : Around) (base h₀ : Heap) (L : Addr) (m : Str → Option Value) (tb rest : List (Addr × Obj)) (s : Shared)
    (Q E : Value → Shared → Prop) (hB : Below A₀ base outer h₀) (hC : CodeHd base 41 37) (hF : Fr h₀ L s.heap m) (hX : (_root_.hd.heap_39 w.params).In h₀) (hN : News h₀ L s.heap (tb ++ rest)) (hT : Top p loose mean mg mb h₀) (hk : cs.kind = .function)
    (htb : Tab1 37 47 4 qD2I tb) (hr : ∀ p ∈ rest, p.1 ≠ 37) (hl : (l, listOf items.toArray cc) ∈ rest) (hroom : dp + 40 < recursionLimit) (hunits : un + 400 < cLine)
    (hret : ∀ t h' tk' tb', Tab1 37 47 4 qD2I tb' → Fr h₀ L h' m → News h₀ L h' (tb' ++ rest) → Q (.int (undigs n.toNat ds) t) { s with heap := h', toks := tk' }) :
    wpAny (model PySem.Challenge.rw_ta0142_01.row.prog w) (ktrTop dp un gd cn cs L ad ccd cl outer) (call (.ref 42) [.ref l, .int n t1]) Q E s := by
  revert hB hF hX hN hT
  k_fill
  w_top off
  k_with_none
  k_with "binaryOp FloorDiv int int" => ((k_extra "mydiv"))
  k_with "binaryOp Mult ref int" => ((k_dflt (refine' my_rep ?zqF ?zqN ?zql ?zqz1 ?zqz2 ?_; (case zqF => k_asm); (case zqN => k_asm); (case zql => k_mem); (case zqz1 => first | assumption | omega); (case zqz2 => first | assumption | omega); k_whole); intro zqD' zqh' zqF' zqN' zql1; (try simp only [AllLt, and_true] at zql1); (try k_sweep)))
  k_with "call ref" => ((k_here; k_extra "mycall"))
  k_with "call builtin:len" => ((k_here; (with_reducible show wpAny _ _ (call (Value.builtin "len") [Value.ref _]) _ _ _); k_dflt (refine' my_len ?zqN ?zqm ?zqe ?zqf ?_; (case zqN => k_asm); (case zqm => k_mem); (case zqe => k_extra "mylen"); (case zqf => omega); k_whole)))
  k_with "truthy ref" => ((k_here; (with_reducible show wpAny _ _ (truthy (Value.ref _)) _ _ _); k_dflt (refine' my_truthy ?zqN ?zqm ?zqe ?_; (case zqN => k_asm); (case zqm => k_mem); (case zqe => omega); k_whole)))
  intro B F X N T
  have hlen : items.length = ds.length := hints.length
  have hlenZ : (items.length : Int) = (ds.length : Int) := by omega
  have htr : (!items.isEmpty) = false := by
    cases items with
    | nil => rfl
    | cons _ _ => rw [hpos] at hlen; simp at hlen
  rcases htb with rfl | ⟨c0, oc0, vs0, tq0, rfl, hoc0, hvs0, hlt0⟩
  · refine wpAny_call ?_
    refine' code_defC ?k1 ?k2 ?k3 ?k4 ?k5 ?kA ?kF ?kK ?k6 ?k7 ?k8 ?k9 ?kB ?kD ?_ ?c2 ?c3 ?c4; (case kA => exact rfl); (case kF => exact rfl); (case kK => assumption); (case k1 => k_asm); (case k2 => k_asm); (case k3 => k_asm); (case k4 => k_asm); (case k5 => k_asm); (case k6 => k_is); (case k7 => k_is); (case k8 => ktr_room); (case k9 => first | exact BindsTo.of_eq rfl | exact binds_K (by k_in) rfl (by k_is) rfl rfl rfl | fail "k_enter: no rule for these arguments"); (case kB => exact rfl); (case kD => decide +kernel); (case c2 => exact rfl); (case c3 => exact rfl); (case c4 => exact rfl); k_whole; intro g' L' h' tk' cells' FG' F' N' Y' B' X' T' l1; replace l1 := allLt_of l1; (simp only [List.cons_append, List.nil_append, AllLt] at l1); k_cells Y'; (try simp only [List.cons_append, List.nil_append] at N'); (try dsimp only); (try k_lift B'); (try k_fold)
    have lr := l1.2
    have l30 := l1.1
    have hL56 : @LT.lt Nat _ 56 L' := Nat.lt_of_lt_of_le (Heap.lt_size (X' 56 _ (by k_is))) F'.above
    k_with "kall" => first | exact hr | exact all_ne lr (by omega)
    k_steps
    all_goals (refine d2i_end hret (by k_asm) (by k_asm) (by k_mem) (by k_mem) (by intro p9 h9; repeat (first | exact h9 | refine List.mem_cons_of_mem _ ?_)) (by assumption) (by assumption) (by omega) (by rw [hpos]; rfl))
  · refine wpAny_call ?_
    refine' code_defC ?k1 ?k2 ?k3 ?k4 ?k5 ?kA ?kF ?kK ?k6 ?k7 ?k8 ?k9 ?kB ?kD ?_ ?c2 ?c3 ?c4; (case kA => exact rfl); (case kF => exact rfl); (case kK => assumption); (case k1 => k_asm); (case k2 => k_asm); (case k3 => k_asm); (case k4 => k_asm); (case k5 => k_asm); (case k6 => k_is); (case k7 => k_is); (case k8 => ktr_room); (case k9 => first | exact BindsTo.of_eq rfl | exact binds_K (by k_in) rfl (by k_is) rfl rfl rfl | fail "k_enter: no rule for these arguments"); (case kB => exact rfl); (case kD => decide +kernel); (case c2 => exact rfl); (case c3 => exact rfl); (case c4 => exact rfl); k_whole; intro g' L' h' tk' cells' FG' F' N' Y' B' X' T' l1; replace l1 := allLt_of l1; (simp only [List.cons_append, List.nil_append, AllLt] at l1); k_cells Y'; (try simp only [List.cons_append, List.nil_append] at N'); (try dsimp only); (try k_lift B'); (try k_fold)
    have lr := l1.2.2
    have l30 := l1.1
    have l31 := l1.2.1
    have hL56 : @LT.lt Nat _ 56 L' := Nat.lt_of_lt_of_le (Heap.lt_size (X' 56 _ (by k_is))) F'.above
    k_with "kall" => first | exact hr | exact all_ne lr (by omega)
    k_steps
    all_goals (refine d2i_end hret (by k_asm) (by k_asm) (by k_mem) (by k_mem) (by intro p9 h9; repeat (first | exact h9 | refine List.mem_cons_of_mem _ ?_)) (by assumption) (by assumption) (by omega) (by rw [hpos]; rfl))

end
section
/-- the two code tables of the ledger -/
noncomputable def Tabs (tb : List (Addr × Obj)) : Prop := ∃ t1 t2, tb = t2 ++ t1 ∧ Tab1 30 32 4 qI2D t1 ∧ Tab1 37 47 4 qD2I t2
theorem tab1_addr {P : Addr} {line col : Nat} {q : Str} {tb : List (Addr × Obj)} (h : Tab1 P line col q tb) : ∀ p ∈ tb, p.1 = P ∨ @LT.lt Nat _ 50 p.1 := by
  rcases h with rfl | ⟨c', oc, vs, t, rfl, _, _, hl⟩
  · intro p hp; rw [List.mem_singleton.mp hp]; exact .inl rfl
  · intro p hp
    rcases List.mem_cons.mp hp with rfl | hp
    · exact .inl rfl
    · rw [List.mem_singleton.mp hp]; exact .inr hl
noncomputable def Over (rest : List (Addr × Obj)) : Prop := ∀ p ∈ rest, (@Ne Nat p.1 30) ∧ (@Ne Nat p.1 37)

/-- _int2digits -/
theorem i2d_ct (w : World) (a n : Int) (ha : 0 ≤ a) (hn : 1 ≤ n) (hz : (Builtin.Int.intBits a : Int) ≤ 16777216) (hnn : n ≤ 16777216)
   {p : Program} {loose : List Str} {mean : ExcName → Option Value} {mg mb : Str → Option Value}
    {dp un : Nat} {gd : Option (List Code)} {cn : Str} {cs : Scope} {ad : Addr} {ccd : Value} {cl : List (Str × Addr)} {outer : List Env} {A₀ : Around} {base h₀ : Heap} {L : Addr} {m : Str → Option Value} {t1 rest : List (Addr × Obj)} {s : Shared}
    {Q E : Value → Shared → Prop} {ta tn : Tok} (hB : Below A₀ base outer h₀) (hC : CodeHd base 34 30) (hF : Fr h₀ L s.heap m) (hX : (_root_.hd.heap_39 w.params).In h₀) (hN : News h₀ L s.heap (t1 ++ rest)) (hT : Top p loose mean mg mb h₀) (hk : cs.kind = .function)
    (htb : Tab1 30 32 4 qI2D t1) (hr : ∀ p ∈ rest, p.1 ≠ 30) (hroom : dp + 40 < recursionLimit) (hunits : un + 400 < cLine)
    (hret : ∀ D items h' tk' t1', Tab1 30 32 4 qI2D t1' → (∀ p ∈ t1', p.1 ≠ D) → @LT.lt Nat _ 50 D → AllLt D rest → IntsAre items (digs n.toNat (((Builtin.Int.intBits a : Int) + n - 1).fdiv n).toNat a) → Fr h₀ L h' m → News h₀ L h' ((D, listOf items.toArray 0) :: (t1' ++ rest)) → Q (.ref D) { s with heap := h', toks := tk' }) :
    wpAny (model PySem.Challenge.rw_ta0142_01.row.prog w) (ktrTop dp un gd cn cs L ad ccd cl outer) (call (.ref 35) [.int a ta, .int n tn]) Q E s := by
  obtain ⟨k0, k1, k2, k3, k4, k5⟩ := numdigs ha hn hz hnn
  have hnp : Builtin.divisionGoesByPylong ((Builtin.Int.intBits a : Int) + n - 1) n = false := PyProof.noPylong_small (by omega)
  by_cases h : a = 0
  · exact i2d_zero w a n hn (by omega) h (k5 h) k1 hnp _ _ _ _ _ _ _ _ _ _ _ _ _ _ _ _ _ _ _ _ _ _ _ _ _ _ hB hC hF hX hN hT hk htb hr hroom hunits hret
  · exact i2d_pos w a n hn (by omega) (by omega) (k4 (by omega)) k1 k2 (by rw [Int.sub_zero]; exact k3) hnp _ _ _ _ _ _ _ _ _ _ _ _ _ _ _ _ _ _ _ _ _ _ _ _ _ _ hB hC hF hX hN hT hk htb hr hroom hunits hret

/-- _digits2int -/
theorem d2i_ct (w : World) (n : Int) (items : List Value) (cc : Nat) (ds : List Int) (l : Addr) (hn : 1 ≤ n) (hnn : n ≤ 33554432)
    (hints : IntsAre items ds) (h4 : (ds.length : Int) ≤ 16777216) (h5 : n * ds.length ≤ 50000000) (hdr : ∀ d ∈ ds, 0 ≤ d ∧ d < 2 ^ n.toNat)
   {p : Program} {loose : List Str} {mean : ExcName → Option Value} {mg mb : Str → Option Value}
    {dp un : Nat} {gd : Option (List Code)} {cn : Str} {cs : Scope} {ad : Addr} {ccd : Value} {cl : List (Str × Addr)} {outer : List Env} {A₀ : Around} {base h₀ : Heap} {L : Addr} {m : Str → Option Value} {t2 rest : List (Addr × Obj)} {s : Shared}
    {Q E : Value → Shared → Prop} {tn : Tok} (hB : Below A₀ base outer h₀) (hC : CodeHd base 41 37) (hF : Fr h₀ L s.heap m) (hX : (_root_.hd.heap_39 w.params).In h₀) (hN : News h₀ L s.heap (t2 ++ rest)) (hT : Top p loose mean mg mb h₀) (hk : cs.kind = .function)
    (htb : Tab1 37 47 4 qD2I t2) (hr : ∀ p ∈ rest, p.1 ≠ 37) (hl : (l, listOf items.toArray cc) ∈ rest) (hroom : dp + 40 < recursionLimit) (hunits : un + 400 < cLine)
    (hret : ∀ t h' tk' t2', Tab1 37 47 4 qD2I t2' → Fr h₀ L h' m → News h₀ L h' (t2' ++ rest) → Q (.int (undigs n.toNat ds) t) { s with heap := h', toks := tk' }) :
    wpAny (model PySem.Challenge.rw_ta0142_01.row.prog w) (ktrTop dp un gd cn cs L ad ccd cl outer) (call (.ref 42) [.ref l, .int n tn]) Q E s := by
  rcases Nat.eq_zero_or_pos ds.length with h | h
  · exact d2i_zero w n items cc ds l tn hn hnn hints h4 h5 hdr (List.eq_nil_of_length_eq_zero h) _ _ _ _ _ _ _ _ _ _ _ _ _ _ _ _ _ _ _ _ _ _ _ _ hB hC hF hX hN hT hk htb hr hl hroom hunits hret
  · exact d2i_pos w n items cc ds l tn hn hnn hints h4 h5 hdr h _ _ _ _ _ _ _ _ _ _ _ _ _ _ _ _ _ _ _ _ _ _ _ _ hB hC hF hX hN hT hk htb hr hl hroom hunits hret

theorem RevRest.ind {prog : Program} {w : World} {A : Around} {E : Value → Shared → Prop} {s : Shared} {env : Env} {h₀ : Heap} {x : Str} {body : List Stmt} {Q : Flow → Shared → Prop} {I : Addr} {lp : Addr × Obj}
    (J : List Value → (Str → Option Value) → List (Addr × Obj) → Prop)
    (step : ∀ v r m news, J (v :: r) m news → ∀ (it : Obj) h tk, it.cls = .type "list_reverseiterator" → Fr h₀ env.locals h (fun y => if y = x then some v else m y) → News h₀ env.locals h ((I, it) :: news) →
      wpAny (model prog w) A (execs body env) (UnrPost h₀ env.locals { s with heap := h, toks := tk } I it (fun m' n' => lp ∈ n' ∧ J r m' n') Q) E { s with heap := h, toks := tk })
    (fin : ∀ m news, J [] m news → ∀ h tk, Fr h₀ env.locals h m → News h₀ env.locals h news → Q .next { s with heap := h, toks := tk }) :
    ∀ l m news, J l m news → RevRest prog w A E h₀ env x body Q s I lp l m news
  | [], m, news, hJ => RevRest.zero (fin m news hJ)
  | v :: r, m, news, hJ => RevRest.succ fun it h tk hc F N => wpAny_mono (step v r m news hJ it h tk hc F N) (fun f s₂ hp => by
      cases f with
      | ret v => exact hp
      | brk => exact hp
      | next =>
        obtain ⟨h', tk', m', n', e, F', N', ho, hl, hj⟩ := hp
        exact ⟨h', tk', m', n', e, F', N', ho, hl, RevRest.ind J step fin r m' n' hj⟩
      | cont =>
        obtain ⟨h', tk', m', n', e, F', N', ho, hl, hj⟩ := hp
        exact ⟨h', tk', m', n', e, F', N', ho, hl, RevRest.ind J step fin r m' n' hj⟩) fun _ _ e => e

end
section
theorem news_sub {h₀ h : Heap} {L : Addr} {l l' : List (Addr × Obj)} (N : News h₀ L h l) (hs : ∀ p ∈ l', p ∈ l) : News h₀ L h l' := fun p hp => N p (hs p hp)
theorem perm1 {t1 t2 rest : List (Addr × Obj)} : ∀ p ∈ t1 ++ (t2 ++ rest), p ∈ rest ++ (t2 ++ t1) := by
  intro p hp
  simp only [List.mem_append] at *
  rcases hp with h | h | h
  · exact .inr (.inr h)
  · exact .inr (.inl h)
  · exact .inl h
theorem offI_of {I : Addr} {it : Obj} : ∀ {l : List (Addr × Obj)}, AllLt I l → OffI I it l
  | [], _ => trivial
  | _ :: _, h => ⟨.inl (Nat.ne_of_lt h.1), offI_of h.2⟩
noncomputable def CtDiv (w : World) (f : Addr) (a b q r : Int) (dd uu : Nat) : Prop :=
  ∀ (p : Program) (loose : List Str) (mean : ExcName → Option Value) (mg mb : Str → Option Value)
    (dp un : Nat) (gd : Option (List Code)) (cn : Str) (cs : Scope) (ad : Addr) (ccd : Value) (cl : List (Str × Addr)) (outer : List Env) (A₀ : Around) (base h₀ : Heap) (L : Addr) (m : Str → Option Value) (tb rest : List (Addr × Obj)) (s : Shared)
    (Q E : Value → Shared → Prop) (ta tt : Tok),
    Below A₀ base outer h₀ → CodeHd base 34 30 → CodeHd base 41 37 → Fr h₀ L s.heap m → (_root_.hd.heap_39 w.params).In h₀ → News h₀ L s.heap (rest ++ tb) → Top p loose mean mg mb h₀ → cs.kind = .function →
    Tabs tb → Over rest → dp + dd < recursionLimit → un + uu < cLine →
    (∀ D t1 t2 c h' tk' tb', Tabs tb' → AllLt D rest → Fr h₀ L h' m → News h₀ L h' ((D, ({ cls := .type "tuple", data := .seq #[.int q t1, .int r t2] c } : Obj)) :: (rest ++ tb')) → Q (.ref D) { s with heap := h', toks := tk' }) →
    wpAny (model PySem.Challenge.rw_ta0142_01.row.prog w) (ktrTop dp un gd cn cs L ad ccd cl outer) (call (.ref f) [.int a ta, .int b tt]) Q E s

abbrev sA : Str := Str.ofString "a_digit"
abbrev sQ : Str := Str.ofString "q_digit"
abbrev sR : Str := Str.ofString "r"
noncomputable def MapL (M0 : Str → Option Value) (va vq : Option Value) (r : Int) (t : Tok) : Str → Option Value := fun y => if y = sA then va else if y = sQ then vq else if y = sR then some (.int r t) else M0 y
theorem mapL_bind {M0 : Str → Option Value} {va vq v : Option Value} {r : Int} {t : Tok} : (fun y => if y = sA then v else MapL M0 va vq r t y) = MapL M0 v vq r t := by
  funext y
  unfold MapL
  by_cases h : y = sA
  · simp [h]
  · simp [h]
theorem mapL_end {M0 : Str → Option Value} {va vq : Option Value} {r r' : Int} {t t' : Tok} {q : Value} :
    (fun y => if y = sR then some (.int r' t') else if y = sQ then some q else MapL M0 va vq r t y) = MapL M0 va (some q) r' t' := by
  have h1 : sR ≠ sA := by decide
  have h2 : sR ≠ sQ := by decide
  have h3 : sQ ≠ sA := by decide
  funext y
  unfold MapL
  by_cases hr : y = sR
  · subst hr; rw [if_pos rfl, if_neg h1, if_neg h2, if_pos rfl]
  · rw [if_neg hr]
    by_cases hq : y = sQ
    · subst hq; rw [if_pos rfl, if_neg h3, if_pos rfl]
    · simp [hr, hq]
theorem mapL_start {M0 : Str → Option Value} {r : Int} {t : Tok} (h : M0 sR = some (.int r t)) : M0 = MapL M0 (M0 sA) (M0 sQ) r t := by
  funext y
  unfold MapL
  by_cases h1 : y = sA
  · subst h1; simp
  · by_cases h2 : y = sQ
    · subst h2; simp [h1]
    · by_cases h3 : y = sR
      · subst h3; simp [h1, h2, h]
      · simp [h1, h2, h3]
/-- the state of the dividing loop: the digits ahead, those behind it, the quotients so far -/
noncomputable def DpSt (n : Nat) (b : Int) (ds : List Int) (M0 : Str → Option Value) (Qd D1 : Addr) (items : List Value) (tail : List (Addr × Obj)) (l : List Value) (m : Str → Option Value) (news : List (Addr × Obj)) : Prop :=
  ∃ (rd high : List Int) (qv : List Value) (cq : Nat) (t : Tok) (va vq : Option Value), IntsAre l rd ∧ rd.reverse ++ high = ds ∧ IntsAre qv (ldiv n b high).1.reverse ∧ m = MapL M0 va vq (ldiv n b high).2 t ∧ news = (Qd, listOf qv.toArray cq) :: (D1, listOf items.toArray 0) :: tail
theorem ints_reverse : ∀ {vs : List Value} {ns : List Int}, IntsAre vs ns → IntsAre vs.reverse ns.reverse
  | _, _, .nil => .nil
  | _, _, .cons i t h => by
    rw [List.reverse_cons, List.reverse_cons]
    exact ints_app (ints_reverse h) (.cons i t .nil)
where ints_app : ∀ {a b : List Value} {x y : List Int}, IntsAre a x → IntsAre b y → IntsAre (a ++ b) (x ++ y)
  | _, _, _, _, .nil, h => h
  | _, _, _, _, .cons i t g, h => .cons i t (ints_app g h)
theorem dp_loop {prog : Program} {w : World} {A : Around} {E : Value → Shared → Prop} {s : Shared} {env : Env} {h₀ : Heap} {body : List Stmt} {Q : Flow → Shared → Prop} {I Qd D1 : Addr} {M0 : Str → Option Value} {items : List Value} {ds : List Int} {tail : List (Addr × Obj)} {t0 : Tok}
    (n : Nat) (b : Int) (hh : A.handled = none) (F : Fr h₀ env.locals s.heap M0) (N : News h₀ env.locals s.heap ((I, revObj D1 ((items.length : Int) - 1)) :: (Qd, listOf #[] 0) :: (D1, listOf items.toArray 0) :: tail))
    (l1 : AllLt I ((Qd, listOf #[] 0) :: (D1, listOf items.toArray 0) :: tail)) (hints : IntsAre items ds) (hM : M0 sR = some (.int 0 t0))
    (step : ∀ (d : Int) (td : Tok) (high : List Int) (low : List Int) (qv : List Value) (cq : Nat) (t : Tok) (vq : Option Value) (it : Obj) h tk, low ++ d :: high = ds → IntsAre qv (ldiv n b high).1.reverse → it.cls = .type "list_reverseiterator" → Fr h₀ env.locals h (MapL M0 (some (.int d td)) vq (ldiv n b high).2 t) → News h₀ env.locals h ((I, it) :: (Qd, listOf qv.toArray cq) :: (D1, listOf items.toArray 0) :: tail) →
      wpAny (model prog w) A (execs body env) (UnrPost h₀ env.locals { s with heap := h, toks := tk } I it (fun m' n' => (D1, listOf items.toArray 0) ∈ n' ∧ ∃ qv' cq' t' va' vq', IntsAre qv' (ldiv n b (d :: high)).1.reverse ∧ m' = MapL M0 va' vq' (ldiv n b (d :: high)).2 t' ∧ n' = (Qd, listOf qv'.toArray cq') :: (D1, listOf items.toArray 0) :: tail) Q) E { s with heap := h, toks := tk })
    (done : ∀ (qv : List Value) (cq : Nat) (t : Tok) (va vq : Option Value) h tk, IntsAre qv (ldiv n b ds).1.reverse → Fr h₀ env.locals h (MapL M0 va vq (ldiv n b ds).2 t) → News h₀ env.locals h ((Qd, listOf qv.toArray cq) :: (D1, listOf items.toArray 0) :: tail) → Q .next { s with heap := h, toks := tk }) :
    wpAny (model prog w) A (pyIter (.ref I)) (fun it s₂ => LoopAtV prog w A h₀ env sA body Q E it s₂) E s := by
  refine iter_revUnr (lo := listOf items.toArray 0) (vs := items) (n := 0) hh F N (offI_of l1) (List.mem_cons_of_mem _ List.mem_cons_self) rfl rfl ?_
  refine RevRest.ind (DpSt n b ds M0 Qd D1 items tail) ?_ ?_ _ _ _ ⟨ds.reverse, [], [], 0, t0, M0 sA, M0 sQ, ints_reverse hints, by simp, .nil, mapL_start hM, rfl⟩
  · rintro v r m news ⟨rd, high, qv, cq, t, va, vq, hi, hds, hq, rfl, rfl⟩ it h tk hc F N
    cases hi with
    | cons d td hr =>
      rename_i rd'
      rw [mapL_bind] at F
      rw [List.reverse_cons, List.append_assoc] at hds
      refine wpAny_mono (step d td high rd'.reverse qv cq t vq it h tk hds hq hc F N) (fun f s₂ hp => ?_) fun _ _ e => e
      have go : UnrEnd h₀ env.locals { s with heap := h, toks := tk } I it (fun m' n' => (D1, listOf items.toArray 0) ∈ n' ∧ ∃ qv' cq' t' va' vq', IntsAre qv' (ldiv n b (d :: high)).1.reverse ∧ m' = MapL M0 va' vq' (ldiv n b (d :: high)).2 t' ∧ n' = (Qd, listOf qv'.toArray cq') :: (D1, listOf items.toArray 0) :: tail) s₂ →
          UnrEnd h₀ env.locals { s with heap := h, toks := tk } I it (fun m' n' => (D1, listOf items.toArray 0) ∈ n' ∧ DpSt n b ds M0 Qd D1 items tail r m' n') s₂ := by
        rintro ⟨h', tk', m', n', e, F', N', ho, hl, qv', cq', t', va', vq', a1, a2, a3⟩
        exact ⟨h', tk', m', n', e, F', N', ho, hl, rd', d :: high, qv', cq', t', va', vq', hr, hds, a1, a2, a3⟩
      cases f with
      | ret v => exact hp
      | brk => exact hp
      | next => exact go hp
      | cont => exact go hp
  · rintro m news ⟨rd, high, qv, cq, t, va, vq, hi, hds, hq, rfl, rfl⟩ h tk F N
    cases hi
    have hds' : high = ds := hds
    subst hds'
    exact done qv cq t va vq h tk hq F N

theorem dp_step_end {h₀ h' : Heap} {L I Qd D1 : Addr} {s₁ : Shared} {it lo : Obj} {T : Addr × Obj} {tail : List (Addr × Obj)} {M0 : Str → Option Value} {va vq : Option Value} {r r' r'' q : Int} {t t' tq : Tok} {qv : List Value} {hs target : List Int} {c tk : Nat}
    (F : Fr h₀ L h' (fun y => if y = sR then some (.int r' t') else if y = sQ then some (.int q tq) else MapL M0 va vq r t y)) (N : News h₀ L h' (T :: (I, it) :: (Qd, listOf (qv ++ [Value.int q tq]).toArray c) :: (D1, lo) :: tail))
    (lI : AllLt I ((Qd, lo) :: (D1, lo) :: tail)) (hq : IntsAre qv hs) (ht : hs ++ [q] = target) (hr : r' = r'') :
    UnrEnd h₀ L s₁ I it (fun m' n' => (D1, lo) ∈ n' ∧ ∃ qv' cq' t' va' vq', IntsAre qv' target ∧ m' = MapL M0 va' vq' r'' t' ∧ n' = (Qd, listOf qv'.toArray cq') :: (D1, lo) :: tail) { s₁ with heap := h', toks := tk } := by
  subst hr; subst ht
  rw [mapL_end] at F
  refine UnrEnd.intro F N ((Qd, listOf (qv ++ [Value.int q tq]).toArray c) :: (D1, lo) :: tail) (fun p hp => List.mem_cons_of_mem _ hp) (fun p hp => ?_) ⟨List.mem_cons_of_mem _ List.mem_cons_self, _, _, _, _, _, ints_reverse.ints_app hq (.cons _ _ .nil), rfl, rfl⟩
  rcases List.mem_cons.mp hp with rfl | hp
  · exact Nat.ne_of_lt lI.1
  · rcases List.mem_cons.mp hp with rfl | hp
    · exact Nat.ne_of_lt lI.2.1
    · exact Nat.ne_of_lt (ktn_ltOf lI.2.2 p hp)
theorem ne30 {x : Nat} (h : x = 37 ∨ 50 < x) : x ≠ 30 := by omega
theorem ne37 {x : Nat} (h : x = 30 ∨ 50 < x) : x ≠ 37 := by omega
theorem my_append {prog : Program} {w : World} {A : Around} {E : Value → Shared → Prop} {s : Shared} {h₀ : Heap} {L D : Addr} {m : Str → Option Value} {news : List (Addr × Obj)} {g : Obj → List (Addr × Obj)} {vs : List Value} {c : Nat} {x : Value} {Q : Value → Shared → Prop}
    (F : Fr h₀ L s.heap m) (N : News h₀ L s.heap news) (U : UpdF D (listOf vs.toArray c) news g) (hsz : vs.length ≤ 16777216)
    (h : ∀ h', Fr h₀ L h' m → News h₀ L h' (g (listOf (vs ++ [x]).toArray (c + 1))) → Q .none { s with heap := h' }) : wpAny (model prog w) A (call (.builtin "list.append") [.ref D, x]) Q E s := by
  have e : vs.toArray.push x = (vs ++ [x]).toArray := by simp
  refine append_K F N (updF_upd U _) (fun h' F' N' => ?_) (by simpa [sizeLine] using hsz)
  rw [e] at N'
  exact h h' F' N'
theorem my_reverse {prog : Program} {w : World} {A : Around} {E : Value → Shared → Prop} {s : Shared} {h₀ : Heap} {L D : Addr} {m : Str → Option Value} {news : List (Addr × Obj)} {g : Obj → List (Addr × Obj)} {vs : List Value} {c : Nat} {Q : Value → Shared → Prop}
    (F : Fr h₀ L s.heap m) (N : News h₀ L s.heap news) (U : UpdF D (listOf vs.toArray c) news g) (hsz : vs.length ≤ 16777216)
    (h : ∀ h', Fr h₀ L h' m → News h₀ L h' (g (listOf vs.reverse.toArray c)) → Q .none { s with heap := h' }) : wpAny (model prog w) A (call (.builtin "list.reverse") [.ref D]) Q E s :=
  kl_reverse F N (by simp) (updF_upd U _) (by simpa [sizeLine] using hsz) h
theorem allLt_sub {D : Addr} {l l' : List (Addr × Obj)} (h : AllLt D l) (hs : ∀ p ∈ l', p ∈ l) : AllLt D l' := allLt_of fun p hp => ktn_ltOf h p (hs p hp)
theorem perm2 {q d : Addr × Obj} {t1 t2 rest : List (Addr × Obj)} : ∀ p ∈ t2 ++ (q :: d :: (t1 ++ rest)), p ∈ q :: d :: (t1 ++ (t2 ++ rest)) := by
  intro p hp
  simp only [List.mem_append, List.mem_cons] at *
  rcases hp with h | h | h | h | h <;> simp [h]
theorem perm3 {t q d : Addr × Obj} {t1 t2 rest : List (Addr × Obj)} : ∀ p ∈ t :: (rest ++ (t2 ++ t1)), p ∈ t :: (t2 ++ (q :: d :: (t1 ++ rest))) := by
  intro p hp
  simp only [List.mem_append, List.mem_cons] at *
  rcases hp with h | h | h | h <;> simp [h]
theorem perm4 {q d : Addr × Obj} {t1 t2 rest : List (Addr × Obj)} : ∀ p ∈ rest, p ∈ t2 ++ (q :: d :: (t1 ++ rest)) := by
  intro p hp
  simp only [List.mem_append, List.mem_cons]
  simp [hp]
theorem dp_end {q r x y : Int} {h₀ h : Heap} {L D : Addr} {m : Str → Option Value} {q1 d1 : Addr × Obj} {t1 t2 rest : List (Addr × Obj)} {s : Shared} {Q : Value → Shared → Prop} {ta tb : Tok} {c tk : Nat}
    (ret : ∀ D t1 t2 c h' tk' tb', Tabs tb' → AllLt D rest → Fr h₀ L h' m → News h₀ L h' ((D, ({ cls := .type "tuple", data := .seq #[.int q t1, .int r t2] c } : Obj)) :: (rest ++ tb')) → Q (.ref D) { s with heap := h', toks := tk' })
    (ht1 : Tab1 30 32 4 qI2D t1) (ht2 : Tab1 37 47 4 qD2I t2) (F : Fr h₀ L h m) (N : News h₀ L h ((D, ({ cls := .type "tuple", data := .seq #[.int x ta, .int y tb] c } : Obj)) :: (t2 ++ (q1 :: d1 :: (t1 ++ rest)))))
    (hl : AllLt D (t2 ++ (q1 :: d1 :: (t1 ++ rest)))) (e1 : x = q) (e2 : y = r) : Q (.ref D) { s with heap := h, toks := tk } := by
  subst e1; subst e2
  exact ret D ta tb c h tk (t2 ++ t1) ⟨t1, t2, rfl, ht1, ht2⟩ (allLt_sub hl perm4) F (news_sub N perm3)

set_option maxHeartbeats 8000000 in
theorem divpos_ct (w : World) (a b : Int) (ha : 0 ≤ a) (hb : 0 < b) (hza : (Builtin.Int.intBits a : Int) ≤ 16777216) (hzb : (Builtin.Int.intBits b : Int) ≤ 16777216) :
    CtDiv w 49 a b (a / b) (a % b) 100 1000 := by
  unfold CtDiv
  k_fill
  w_top off
  k_with_none
  k_with "call builtin:list.append" => ((k_dflt (refine' my_append ?zqF ?zqN ?zqU ?zqz ?_; (case zqF => k_asm); (case zqN => k_asm); (case zqU => k_updF); (case zqz => assumption); k_whole); intro zqh' zqF' zqN'; (try dsimp only at zqN'); (try k_sweep)))
  k_with "call builtin:list.reverse" => ((k_dflt (refine' my_reverse ?zqF ?zqN ?zqU ?zqz ?_; (case zqF => k_asm); (case zqN => k_asm); (case zqU => k_updF); (case zqz => assumption); k_whole); intro zqh' zqF' zqN'; (try dsimp only at zqN'); (try k_sweep)))
  k_with "binaryOp LShift int int" => (((with_reducible refine lshift_int ?zqs0 ?zqs1 ?_); (case zqs0 => first | assumption | omega | decide); (case zqs1 => exact shl_ok (by assumption) (by omega))))
  k_with "pyIter ref" => ((k_extra "myloop"))
  k_with "UnrEnd" => ((k_extra "myend"))
  k_with "call ref" => ((k_here; k_extra "mycall"))
  intro p loose mean mg mb dp un gd cn cs ad ccd cl outer A₀ base h₀ L m tb rest s Q E ta tt B hC1 hC2 F X N T hk htb hover hroom hunits hret
  obtain ⟨t1, t2, rfl, htb1, htb2⟩ := htb
  obtain ⟨hn1, hb1, hb2⟩ := bits_spec hb
  have hr30 : ∀ p ∈ t2 ++ rest, p.1 ≠ 30 := by
    intro p hp
    rcases List.mem_append.mp hp with h | h
    · exact ne30 (tab1_addr htb2 p h)
    · exact (hover p h).1
  obtain ⟨k0, k1, k2, k3, k4, k5⟩ := numdigs ha hn1 hza hzb
  generalize hK : (((Builtin.Int.intBits a : Int) + (Builtin.Int.intBits b : Int) - 1).fdiv (Builtin.Int.intBits b : Int)).toNat = K at k3
  have hds := undigs_digs (Builtin.Int.intBits b : Int).toNat K a ha k3
  have hdl := digs_length (Builtin.Int.intBits b : Int).toNat K a
  have hdr := digs_range (Builtin.Int.intBits b : Int).toNat K a
  obtain ⟨lv1, lv2, lv3, lv4, lv5⟩ := ldiv_spec (Builtin.Int.intBits b : Int).toNat hb _ hdr
  rw [hds] at lv1
  obtain ⟨eq1, eq2⟩ := div_of lv1 lv2 lv3
  have hbb : (Builtin.Int.intBits b : Int) ≤ 33554432 := by omega
  have hKl : K ≤ 16777216 := by omega
  have hnK : (Builtin.Int.intBits b : Int) * K ≤ 50000000 := by rw [← hK, Int.toNat_of_nonneg k0]; exact k2
  refine wpAny_call ?_
  k_dflt ktr_enter
  k_with_none
  k_with "call builtin:list.append" => ((k_dflt (refine' my_append ?zqF ?zqN ?zqU ?zqz ?_; (case zqF => k_asm); (case zqN => k_asm); (case zqU => k_updF); (case zqz => assumption); k_whole); intro zqh' zqF' zqN'; (try dsimp only at zqN'); (try k_sweep)))
  k_with "call builtin:list.reverse" => ((k_dflt (refine' my_reverse ?zqF ?zqN ?zqU ?zqz ?_; (case zqF => k_asm); (case zqN => k_asm); (case zqU => k_updF); (case zqz => assumption); k_whole); intro zqh' zqF' zqN'; (try dsimp only at zqN'); (try k_sweep)))
  k_with "binaryOp LShift int int" => (((with_reducible refine lshift_int ?zqs0 ?zqs1 ?_); (case zqs0 => first | assumption | omega | decide); (case zqs1 => exact shl_ok (by assumption) (by omega))))
  k_with "pyIter ref" => ((k_extra "myloop"))
  k_with "UnrEnd" => ((k_extra "myend"))
  k_with "call ref" => ((k_here; k_extra "mycall"))
  k_with "mycall" => (refine' i2d_ct w _ _ ha hn1 hza hzb ?B ?C ?F ?X ?N ?T ?hk htb1 hr30 ?hd ?hu ?_; (case B => k_asm); (case C => assumption); (case F => k_asm); (case X => k_asm); (case T => k_asm); (case hk => exact rfl); (case N => exact news_sub (by k_asm) perm1); (case hd => ktr_room); (case hu => ktr_units); (intro D1 items h' tk' t1' htb1' hne1 hD50 l1 hints1 F' N'; rw [hK] at hints1); (try dsimp only); (try k_fold))
  k_steps
  rename_i Qd _ lQ _ I _ FI NI lI
  k_dflt (refine' dp_loop (Builtin.Int.intBits b : Int).toNat b rfl ?F ?N lI hints1 ?hM ?step ?done; (case F => k_asm); (case N => k_asm); (case hM => rfl))
  case step =>
    intro d td high low qv cq t vq it h tk hds' hq hc F3 N3
    have hmd : ∀ x ∈ d :: high, 0 ≤ x ∧ x < 2 ^ (Builtin.Int.intBits b : Int).toNat := fun x hx => hdr x (by rw [← hds']; exact List.mem_append_right _ hx)
    have hd := hmd d List.mem_cons_self
    obtain ⟨_, r0, r1, rl, _⟩ := ldiv_spec (Builtin.Int.intBits b : Int).toNat hb high fun x hx => hmd x (List.mem_cons_of_mem _ hx)
    obtain ⟨hsp, hsp2⟩ := dp_arith r0 r1 hd.1 hd.2
    have hz1 : Sz (ldiv (Builtin.Int.intBits b : Int).toNat b high).2 (Builtin.Int.intBits b : Int).toNat := sz_le r0 (by omega)
    have hql : qv.length = high.length := by rw [hq.length, List.length_reverse, rl]
    have hhl : high.length ≤ K := by
      have := congrArg List.length hds'
      rw [List.length_append, List.length_cons, hdl] at this
      omega
    have hqz : qv.length ≤ 16777216 := by omega
    k_with_none
    k_with "call builtin:list.append" => ((k_dflt (refine' my_append ?zqF ?zqN ?zqU ?zqz ?_; (case zqF => k_asm); (case zqN => k_asm); (case zqU => k_updF); (case zqz => assumption); k_whole); intro zqh' zqF' zqN'; (try dsimp only at zqN'); (try k_sweep)))
    k_with "call builtin:list.reverse" => ((k_dflt (refine' my_reverse ?zqF ?zqN ?zqU ?zqz ?_; (case zqF => k_asm); (case zqN => k_asm); (case zqU => k_updF); (case zqz => assumption); k_whole); intro zqh' zqF' zqN'; (try dsimp only at zqN'); (try k_sweep)))
    k_with "binaryOp LShift int int" => (((with_reducible refine lshift_int ?zqs0 ?zqs1 ?_); (case zqs0 => first | assumption | omega | decide); (case zqs1 => exact shl_ok (by assumption) (by omega))))
    k_with "pyIter ref" => ((k_extra "myloop"))
    k_with "UnrEnd" => ((k_extra "myend"))
    k_with "call ref" => ((k_here; k_extra "mycall"))
    k_with "kall" => exact all_ne lQ.2 (by omega)
    k_with "mycall" => (refine' ct_use ?k1 ?k2 ?k3 ?k4 ?k5 ?kK (d2_any w hn1 hbb _ _ _ _ _ ?g1 ?g2 ?g3 ?g4) ?kd ?ku ?_; (case k1 => k_asm); (case k2 => k_asm); (case k3 => k_asm); (case k4 => k_asm); (case k5 => k_asm); (case kK => exact rfl); (case g1 => assumption); (case g2 => assumption); (case g3 => assumption); (case g4 => assumption); (case kd => ktr_room); (case ku => ktr_units); (intro D' ta' tb' c' h' tk' F' N' l1; simp only [AllLt, and_true] at l1); (try dsimp only); (try k_fold))
    k_steps
    all_goals (exact dp_step_end (by k_asm) (by k_asm) lI hq List.reverse_cons.symm rfl)
  case done => 
    intro qv cq t va vq h tk hq F3 N3
    dsimp only
    have hints2 := ints_reverse hq
    rw [List.reverse_reverse] at hints2
    have hqz : qv.length ≤ 16777216 := by rw [hq.length, List.length_reverse, lv4, hdl]; exact hKl
    have hr37 : ∀ x y : Obj, ∀ p ∈ (Qd, x) :: (D1, y) :: (t1' ++ rest), p.1 ≠ 37 := by
      intro x y p hp
      rcases List.mem_cons.mp hp with rfl | hp
      · exact ne37 (.inr (Nat.lt_trans hD50 lQ.1))
      · rcases List.mem_cons.mp hp with rfl | hp
        · exact ne37 (.inr hD50)
        · rcases List.mem_append.mp hp with h | h
          · exact ne37 (tab1_addr htb1' p h)
          · exact (hover p h).2
    k_with_none
    k_with "call builtin:list.append" => ((k_dflt (refine' my_append ?zqF ?zqN ?zqU ?zqz ?_; (case zqF => k_asm); (case zqN => k_asm); (case zqU => k_updF); (case zqz => assumption); k_whole); intro zqh' zqF' zqN'; (try dsimp only at zqN'); (try k_sweep)))
    k_with "call builtin:list.reverse" => ((k_dflt (refine' my_reverse ?zqF ?zqN ?zqU ?zqz ?_; (case zqF => k_asm); (case zqN => k_asm); (case zqU => k_updF); (case zqz => assumption); k_whole); intro zqh' zqF' zqN'; (try dsimp only at zqN'); (try k_sweep)))
    k_with "binaryOp LShift int int" => (((with_reducible refine lshift_int ?zqs0 ?zqs1 ?_); (case zqs0 => first | assumption | omega | decide); (case zqs1 => exact shl_ok (by assumption) (by omega))))
    k_with "pyIter ref" => ((k_extra "myloop"))
    k_with "UnrEnd" => ((k_extra "myend"))
    k_with "call ref" => ((k_here; k_extra "mycall"))
    k_with "kall" => exact all_ne lQ.2 (by omega)
    k_with "mycall" => (refine' d2i_ct w _ _ _ _ _ hn1 hbb hints2 ?a1 ?a2 lv5 ?B ?C ?F ?X ?N ?T ?hk htb2 (hr37 _ _) List.mem_cons_self ?hd ?hu ?_; (case a1 => rw [lv4, hdl]; omega); (case a2 => rw [lv4, hdl]; exact hnK); (case B => k_asm); (case C => assumption); (case F => k_asm); (case X => k_asm); (case T => k_asm); (case hk => exact rfl); (case N => exact news_sub (by k_asm) perm2); (case hd => ktr_room); (case hu => ktr_units); (intro tz h' tk' t2' htb2' F' N'); (try dsimp only); (try k_fold))
    try k_fold
    k_steps
    all_goals (rename_i lT _ _ _ _; exact dp_end hret htb1' htb2' (by k_asm) (by k_asm) (allLt_of lT) eq1.symm eq2.symm)

end
section
theorem cdiv_use {w : World} {f : Addr} {a b q r : Int} {dd uu : Nat} (C : CtDiv w f a b q r dd uu)
  {p : Program} {loose : List Str} {mean : ExcName → Option Value} {mg mb : Str → Option Value}
    {dp un : Nat} {gd : Option (List Code)} {cn : Str} {cs : Scope} {ad : Addr} {ccd : Value} {cl : List (Str × Addr)} {outer : List Env} {A₀ : Around} {base h₀ : Heap} {L : Addr} {m : Str → Option Value} {tb rest : List (Addr × Obj)} {s : Shared}
    {Q E : Value → Shared → Prop} {ta tt : Tok}
    (B : Below A₀ base outer h₀) (C1 : CodeHd base 34 30) (C2 : CodeHd base 41 37) (F : Fr h₀ L s.heap m) (X : (_root_.hd.heap_39 w.params).In h₀) (N : News h₀ L s.heap (rest ++ tb)) (T : Top p loose mean mg mb h₀) (hk : cs.kind = .function)
    (htb : Tabs tb) (hov : Over rest) (hd : dp + dd < recursionLimit) (hu : un + uu < cLine)
    (ret : ∀ D t1 t2 c h' tk' tb', Tabs tb' → AllLt D rest → Fr h₀ L h' m → News h₀ L h' ((D, ({ cls := .type "tuple", data := .seq #[.int q t1, .int r t2] c } : Obj)) :: (rest ++ tb')) → Q (.ref D) { s with heap := h', toks := tk' }) :
    wpAny (model PySem.Challenge.rw_ta0142_01.row.prog w) (ktrTop dp un gd cn cs L ad ccd cl outer) (call (.ref f) [.int a ta, .int b tt]) Q E s :=
  C _ _ _ _ _ _ _ _ _ _ _ _ _ _ _ _ _ _ _ _ _ _ _ _ _ _ B C1 C2 F X N T hk htb hov hd hu ret
theorem cdiv_end {q r x y : Int} {h₀ h : Heap} {L D : Addr} {m : Str → Option Value} {d1 : Addr × Obj} {tb rest : List (Addr × Obj)} {s : Shared} {Q : Value → Shared → Prop} {ta t' : Tok} {c tk : Nat}
    (ret : ∀ D t1 t2 c h' tk' tb', Tabs tb' → AllLt D rest → Fr h₀ L h' m → News h₀ L h' ((D, ({ cls := .type "tuple", data := .seq #[.int q t1, .int r t2] c } : Obj)) :: (rest ++ tb')) → Q (.ref D) { s with heap := h', toks := tk' })
    (htb : Tabs tb) (F : Fr h₀ L h m) (N : News h₀ L h ((D, ({ cls := .type "tuple", data := .seq #[.int x ta, .int y t'] c } : Obj)) :: d1 :: (rest ++ tb)))
    (hl : AllLt D (d1 :: (rest ++ tb))) (e1 : x = q) (e2 : y = r) : Q (.ref D) { s with heap := h, toks := tk } := by
  subst e1; subst e2
  exact ret D ta t' c h tk tb htb (allLt_sub hl fun p hp => List.mem_cons_of_mem _ (List.mem_append_left _ hp)) F (news_sub N fun p hp => by
    rcases List.mem_cons.mp hp with rfl | hp
    · exact List.mem_cons_self
    · exact List.mem_cons_of_mem _ (List.mem_cons_of_mem _ hp))
set_option maxHeartbeats 8000000 in
theorem idiv_nn (w : World) (a b : Int) (ha : 0 ≤ a) (hb : 0 < b) (hza : (Builtin.Int.intBits a : Int) ≤ 16777216) (hzb : (Builtin.Int.intBits b : Int) ≤ 16777216) :
    CtDiv w 56 a b (a / b) (a % b) 110 1020 := by
  unfold CtDiv
  k_fill
  w_top off
  k_with_none
  k_with "call ref" => ((k_here; k_extra "mycall"))
  intro p loose mean mg mb dp un gd cn cs ad ccd cl outer A₀ base h₀ L m tb rest s Q E ta tt B hC1 hC2 F X N T hk htb hover hroom hunits hret
  have c1 : (b == 0) = false := by simp; omega
  have c2 : decide (b < 0) = false := by simp; omega
  have c3 : decide (a < 0) = false := by simp; omega
  refine wpAny_call ?_
  k_dflt ktr_enter
  k_with_none
  k_with "call ref" => ((k_here; k_extra "mycall"))
  k_with "mycall" => (refine' cdiv_use (divpos_ct w a b ha hb hza hzb) ?B hC1 hC2 ?F ?X ?N ?T ?hk htb hover ?hd ?hu ?_; (case B => k_asm); (case F => k_asm); (case X => k_asm); (case N => k_asm); (case T => k_asm); (case hk => exact rfl); (case hd => ktr_room); (case hu => ktr_units); (intro D1 ta' tb' c' h' tk' tbs' htbs' l1 F' N'); (try dsimp only); (try k_fold))
  k_steps
  all_goals exact hret _ _ _ _ _ _ _ htbs' l1 (by k_asm) (by k_asm)

theorem neg_eq {a b : Int} (hb : 0 < b) : Builtin.bitNot (Builtin.bitNot a / b) = a / b ∧ b + Builtin.bitNot (Builtin.bitNot a % b) = a % b := by
  unfold Builtin.bitNot
  have e := div_add_mod (-a - 1) b
  have m0 := Int.emod_nonneg (-a - 1) (show b ≠ 0 by omega)
  have m1 := Int.emod_lt_of_pos (-a - 1) hb
  generalize (-a - 1) / b = q at *
  generalize (-a - 1) % b = r at *
  have hh : (-q - 1) * b = -(q * b) - b := by grind
  obtain ⟨e1, e2⟩ := div_of (a := a) (b := b) (q := -q - 1) (r := b + (-r - 1)) (by omega) (by omega) (by omega)
  exact ⟨e1.symm, e2.symm⟩
theorem bits_abs {x y : Int} (h : x.natAbs ≤ y.natAbs) : Builtin.Int.intBits x ≤ Builtin.Int.intBits y := bits_of_sz (Sz.of_le (sz_of_bits (Nat.le_refl _)) h)
set_option maxHeartbeats 8000000 in
theorem idiv_neg (w : World) (a b : Int) (ha : a < 0) (hb : 0 < b) (hza : (Builtin.Int.intBits a : Int) ≤ 16777216) (hzb : (Builtin.Int.intBits b : Int) ≤ 16777216) :
    CtDiv w 56 a b (a / b) (a % b) 120 1040 := by
  unfold CtDiv
  k_fill
  w_top off
  k_with_none
  k_with "call ref" => ((k_here; k_extra "mycall"))
  intro p loose mean mg mb dp un gd cn cs ad ccd cl outer A₀ base h₀ L m tb rest s Q E ta tt B hC1 hC2 F X N T hk htb hover hroom hunits hret
  have c1 : (b == 0) = false := by simp; omega
  have c2 : decide (b < 0) = false := by simp; omega
  have c3 : decide (a < 0) = true := by simp; omega
  have hn0 : 0 ≤ Builtin.bitNot a := by unfold Builtin.bitNot; omega
  have hnz : (Builtin.Int.intBits (Builtin.bitNot a) : Int) ≤ 16777216 := by
    have := bits_abs (x := Builtin.bitNot a) (y := a) (by unfold Builtin.bitNot; omega)
    omega
  obtain ⟨e1, e2⟩ := neg_eq (a := a) hb
  refine wpAny_call ?_
  k_dflt ktr_enter
  k_with_none
  k_with "call ref" => ((k_here; k_extra "mycall"))
  k_with "mycall" => (refine' cdiv_use (idiv_nn w _ b hn0 hb hnz hzb) ?B hC1 hC2 ?F ?X ?N ?T ?hk htb hover ?hd ?hu ?_; (case B => k_asm); (case F => k_asm); (case X => k_asm); (case N => k_asm); (case T => k_asm); (case hk => exact rfl); (case hd => ktr_room); (case hu => ktr_units); (intro D1 ta' tb' c' h' tk' tbs' htbs' l1 F' N'); (try dsimp only); (try k_fold))
  k_steps
  all_goals (rename_i lT _ _ _ _; exact cdiv_end hret htbs' (by k_asm) (by k_asm) (by first | exact lT | exact allLt_of lT) e1 e2)
set_option maxHeartbeats 8000000 in
theorem idiv_bneg (w : World) (a b : Int) (hb : b < 0) (hza : (Builtin.Int.intBits a : Int) ≤ 16777216) (hzb : (Builtin.Int.intBits b : Int) ≤ 16777216)
    (H : CtDiv w 56 (-a) (-b) (-a / -b) (-a % -b) 120 1040) :
    CtDiv w 56 a b (a.fdiv b) (a.fmod b) 130 1060 := by
  unfold CtDiv
  k_fill
  w_top off
  k_with_none
  k_with "call ref" => ((k_here; k_extra "mycall"))
  intro p loose mean mg mb dp un gd cn cs ad ccd cl outer A₀ base h₀ L m tb rest s Q E ta tt B hC1 hC2 F X N T hk htb hover hroom hunits hret
  have c1 : (b == 0) = false := by simp; omega
  have c2 : decide (b < 0) = true := by simp; omega
  have e1 : -a / -b = a.fdiv b := by rw [← Int.fdiv_eq_ediv_of_nonneg _ (by omega), Int.neg_fdiv_neg]
  have e2 : -(-a % -b) = a.fmod b := by rw [← Int.fmod_eq_emod_of_nonneg _ (by omega), Int.neg_fmod_neg]; omega
  refine wpAny_call ?_
  k_dflt ktr_enter
  k_with_none
  k_with "call ref" => ((k_here; k_extra "mycall"))
  k_with "mycall" => (refine' cdiv_use H ?B hC1 hC2 ?F ?X ?N ?T ?hk htb hover ?hd ?hu ?_; (case B => k_asm); (case F => k_asm); (case X => k_asm); (case N => k_asm); (case T => k_asm); (case hk => exact rfl); (case hd => ktr_room); (case hu => ktr_units); (intro D1 ta' tb' c' h' tk' tbs' htbs' l1 F' N'); (try dsimp only); (try k_fold))
  k_steps
  all_goals (rename_i lT _ _ _ _; exact cdiv_end hret htbs' (by k_asm) (by k_asm) (by first | exact lT | exact allLt_of lT) e1 e2)
theorem ctdiv_mono {w : World} {f : Addr} {a b q r : Int} {dd uu dd' uu' : Nat} (C : CtDiv w f a b q r dd uu) (h1 : dd ≤ dd') (h2 : uu ≤ uu') : CtDiv w f a b q r dd' uu' := by
  unfold CtDiv at *
  intro p loose mean mg mb dp un gd cn cs ad ccd cl outer A₀ base h₀ L m tb rest s Q E ta tt B hC1 hC2 F X N T hk htb hover hroom hunits hret
  exact C _ _ _ _ _ _ _ _ _ _ _ _ _ _ _ _ _ _ _ _ _ _ _ _ _ _ B hC1 hC2 F X N T hk htb hover (by omega) (by omega) hret
/-- int_divmod -/
theorem idiv_ct (w : World) (a b : Int) (hb : b ≠ 0) (hza : (Builtin.Int.intBits a : Int) ≤ 16777216) (hzb : (Builtin.Int.intBits b : Int) ≤ 16777216) :
    CtDiv w 56 a b (a.fdiv b) (a.fmod b) 130 1060 := by
  have pos : ∀ a b : Int, 0 < b → (Builtin.Int.intBits a : Int) ≤ 16777216 → (Builtin.Int.intBits b : Int) ≤ 16777216 → CtDiv w 56 a b (a / b) (a % b) 120 1040 := by
    intro a b hb hza hzb
    by_cases ha : a < 0
    · exact idiv_neg w a b ha hb hza hzb
    · exact ctdiv_mono (idiv_nn w a b (by omega) hb hza hzb) (by omega) (by omega)
  by_cases h : b < 0
  · have z1 := bits_abs (x := -a) (y := a) (by omega)
    have z2 := bits_abs (x := -b) (y := b) (by omega)
    exact idiv_bneg w a b h hza hzb (pos _ _ (by omega) (by omega) (by omega))
  · have e1 : a.fdiv b = a / b := Int.fdiv_eq_ediv_of_nonneg _ (by omega)
    have e2 : a.fmod b = a % b := Int.fmod_eq_emod_of_nonneg _ (by omega)
    rw [e1, e2]
    exact ctdiv_mono (pos a b (by omega) hza hzb) (by omega) (by omega)

end
end Mine
end
section
open PySem PySem.W PyProof.Rows PySem.Calls PySem.Spec PyProof.Rows.LCg
namespace Mine
/-! enumerate over a tuple -/
section
variable {prog : Program} {w : World} {A : Around} {E : Value → Shared → Prop} {s : Shared}
end
section
variable {prog : Program} {w : World} {A : Around} {E : Value → Shared → Prop} {s : Shared}
variable {h₀ : Heap} {L : Addr} {m : Str → Option Value} {env : Env}
structure Stop (P : Prop) : Prop where
  go : P
end
end Mine

end
section
open PySem PySem.W PyProof.Rows PySem.Calls PySem.Spec
namespace Mine
open LCg
section
variable {prog : Program} {w : World} {A : Around} {E : Value → Shared → Prop} {s : Shared} {h₀ : Heap} {L : Addr} {m : Str → Option Value} {env : Env}
noncomputable def SrcAtT (ax : Addr) (its : Array Value) (news : List (Addr × Obj)) : Prop := ∃ o, (ax, o) ∈ news ∧ o.cls = .type "tuple" ∧ ∃ n, o.data = .seq its n
noncomputable def SrcT (prog : Program) (w : World) (A : Around) (h₀ : Heap) (L : Addr) (m : Str → Option Value) (env : Env) (elt : PySem.Expr) (x : Str) (scope : Scope) (cl : List (Str × Addr)) (Fin : Shared → List Value → List (Addr × Obj) → Prop) (xv : Value) (s₁ : Shared) : Prop :=
  ∃ ax its news, xv = .ref ax ∧ A.handled = none ∧ Fr h₀ L s₁.heap m ∧ News h₀ L s₁.heap news ∧ SrcAtT ax its news ∧ its.size ≤ sizeLine ∧
      ∀ g, CompRest prog w A h₀ L m env elt x scope cl { s₁ with heap := g } (SrcAtT ax its) (fun i v => its[i]? = some v) (Fin { s₁ with heap := g }) its.size 0 [] news
/-- all turns at once -/
theorem rest_inv {elt : PySem.Expr} {x : Str} {scope : Scope} {cl : List (Str × Addr)} {S : List (Addr × Obj) → Prop} {P : Nat → Value → Prop} {Fin : List Value → List (Addr × Obj) → Prop} {n : Nat} {news : List (Addr × Obj)}
    (J : Nat → List Value → List (Addr × Obj) → Prop) (j0 : J 0 [] news)
    (step : ∀ i ys news v I oI C oC D m₂ h tk (E' : Value → Shared → Prop), i < n → ys.length = i → J i ys news → P i v → NsObj oC m₂ → m₂ x = some v → Fr h₀ L h m → News h₀ L h ((I, oI) :: (C, oC) :: (D, lst ys) :: news) → Off3 I C D news → ((@Ne Nat I C) ∧ (@Ne Nat I D) ∧ (@Ne Nat C D)) →
      wpAny (model prog w) A (eval elt (compEnvC scope cl C env)) (fun y s₂ => Stop (CompEnd h₀ L m { s with heap := h, toks := tk } I oI C oC D (lst ys) S (fun y news' => J (i + 1) (ys ++ [y]) news') y s₂)) E' { s with heap := h, toks := tk })
    (fin : ∀ ys news', ys.length = n → J n ys news' → Fin ys news') : CompRest prog w A h₀ L m env elt x scope cl s S P Fin n 0 [] news := by
  have key : ∀ k i ys news, i + k = n → ys.length = i → J i ys news → CompRest prog w A h₀ L m env elt x scope cl s S P Fin k i ys news := by
    intro k
    induction k with
    | zero => intro i ys news hi hy hJ; exact CompRest.zero (fin ys news (by omega) (by rw [show n = i by omega]; exact hJ))
    | succ k ih =>
      intro i ys news hi hy hJ
      refine CompRest.succ fun v I oI C oC D m₂ h tk E' hv hC hx F N off ne => ?_
      refine wpAny_mono (step i ys news v I oI C oC D m₂ h tk E' (by omega) hy hJ hv hC hx F N off ne) (fun y s₂ hq => ?_) fun _ _ e => e
      obtain ⟨h', tk', news', rfl, F', N', off', hS, hJ'⟩ := hq.go
      exact ⟨h', tk', news', rfl, F', N', off', hS, ih (i + 1) (ys ++ [y]) news' (by omega) (by simp [hy]) hJ'⟩
  exact key n 0 [] news (by omega) rfl j0
end
theorem ne_above {D : Addr} {news : List (Addr × Obj)} {c : Addr} {o : Obj} (h : ∀ p ∈ news, p.1 < D) (hm : (c, o) ∈ news) : @Ne Nat D c := Nat.ne_of_gt (h _ hm)
theorem ne_below {D : Addr} {news : List (Addr × Obj)} {c : Addr} {o : Obj} (h : ∀ p ∈ news, p.1 < D) (hm : (c, o) ∈ news) : @Ne Nat c D := Nat.ne_of_lt (h _ hm)
theorem off1_mem {D : Addr} {l : List (Addr × Obj)} (x : Off1 D l) : ∀ p ∈ l, @Ne Nat p.1 D := by
  induction l with
  | nil => intro p h; cases h
  | cons a l ih =>
    intro p h
    rcases List.mem_cons.mp h with rfl | h
    · exact x.1
    · exact ih x.2 p h
theorem ne_off1 {D : Addr} {news : List (Addr × Obj)} {c : Addr} {o : Obj} (h : Off1 D news) (hm : (c, o) ∈ news) : @Ne Nat c D := off1_mem h _ hm
theorem ne_off1' {D : Addr} {news : List (Addr × Obj)} {c : Addr} {o : Obj} (h : Off1 D news) (hm : (c, o) ∈ news) : @Ne Nat D c := Ne.symm (off1_mem h _ hm)
end Mine

end
section
open PySem PySem.W PyProof.Rows PySem.Calls PySem.Spec
namespace Mine
open LCg
section
variable {prog : Program} {w : World} {A : Around} {E : Value → Shared → Prop} {s : Shared} {h₀ : Heap} {L : Addr} {m : Str → Option Value} {env : Env}
noncomputable def CompEndK (h₀ : Heap) (L : Addr) (m : Str → Option Value) (s₁ : Shared) (I : Addr) (oI : Obj) (C : Addr) (oC : Obj) (K : Addr) (oK : Obj) (D : Addr) (oD : Obj) (S : List (Addr × Obj) → Prop) (rest : Value → List (Addr × Obj) → Prop) (y : Value) (s₂ : Shared) : Prop :=
  ∃ h' tk news', s₂ = { s₁ with heap := h', toks := tk } ∧ Fr h₀ L h' m ∧ News h₀ L h' ((I, oI) :: (C, oC) :: (K, oK) :: (D, oD) :: news') ∧ Off3 I C D news' ∧ Off1 K news' ∧ S news' ∧ rest y news'
noncomputable def CompRestK (prog : Program) (w : World) (A : Around) (h₀ : Heap) (L : Addr) (m : Str → Option Value) (env : Env) (elt : PySem.Expr) (x : Str) (scope : Scope) (cl : List (Str × Addr)) (s : Shared) (S : List (Addr × Obj) → Prop) (P : Nat → Value → Prop)
    (Fin : List Value → List (Addr × Obj) → Prop) : Nat → Nat → List Value → List (Addr × Obj) → Prop
  | 0, _, ys, news => Fin ys news
  | k + 1, i, ys, news => ∀ v I oI C oC K oK D h tk (E' : Value → Shared → Prop), P i v → NsObj oC (fun _ => none) → oK.data = .cell (some v) → Fr h₀ L h m → News h₀ L h ((I, oI) :: (C, oC) :: (K, oK) :: (D, lst ys) :: news) → Off3 I C D news → Off1 K news →
      ((@Ne Nat I C) ∧ (@Ne Nat I D) ∧ (@Ne Nat I K) ∧ (@Ne Nat C D) ∧ (@Ne Nat C K) ∧ (@Ne Nat D K)) →
      wpAny (model prog w) A (eval elt (compEnvC scope ((x, K) :: cl) C env)) (CompEndK h₀ L m { s with heap := h, toks := tk } I oI C oC K oK D (lst ys) S (fun y news' => CompRestK prog w A h₀ L m env elt x scope cl s S P Fin k (i + 1) (ys ++ [y]) news')) E' { s with heap := h, toks := tk }
noncomputable def SrcK (prog : Program) (w : World) (A : Around) (h₀ : Heap) (L : Addr) (m : Str → Option Value) (env : Env) (elt : PySem.Expr) (x : Str) (scope : Scope) (cl : List (Str × Addr)) (Fin : Shared → List Value → List (Addr × Obj) → Prop) (xv : Value) (s₁ : Shared) : Prop :=
  (∃ ax its news, xv = .ref ax ∧ A.handled = none ∧ Fr h₀ L s₁.heap m ∧ News h₀ L s₁.heap news ∧ SrcAt h₀ ax its news ∧ its.size ≤ sizeLine ∧
    ∀ g, CompRestK prog w A h₀ L m env elt x scope cl { s₁ with heap := g } (SrcAt h₀ ax its) (fun i v => its[i]? = some v) (Fin { s₁ with heap := g }) its.size 0 [] news) ∨
  (∃ r a b t u v n news, xv = .ref r ∧ A.handled = none ∧ Fr h₀ L s₁.heap m ∧ News h₀ L s₁.heap news ∧ IsRange s₁.heap r a b 1 t u v ∧ Builtin.Range.small a b 1 = true ∧ Builtin.Range.rangeSize a b 1 = ((n : Nat) : Int) ∧ n ≤ sizeLine ∧
    ∀ g, CompRestK prog w A h₀ L m env elt x scope cl { s₁ with heap := g } (fun _ => True) (fun i v => ∃ t, v = .int (a + (i : Int)) t) (Fin { s₁ with heap := g }) n 0 [] news)
theorem SrcK.list {elt : PySem.Expr} {x : Str} {scope : Scope} {cl : List (Str × Addr)} {Fin : Shared → List Value → List (Addr × Obj) → Prop} {ax : Addr} {its : Array Value} {k : Nat} {news : List (Addr × Obj)} {s₁ : Shared}
    (hh : A.handled = none) (F : Fr h₀ L s₁.heap m) (N : News h₀ L s₁.heap news) (hm : (ax, ({ cls := .type "list", data := .seq its k } : Obj)) ∈ news) (hsz : its.size ≤ sizeLine) (n : Nat) (hn : its.size = n)
    (h : ∀ g, CompRestK prog w A h₀ L m env elt x scope cl { s₁ with heap := g } (SrcAt h₀ ax its) (fun i v => its[i]? = some v) (Fin { s₁ with heap := g }) n 0 [] news) :
    SrcK prog w A h₀ L m env elt x scope cl Fin (.ref ax) s₁ := .inl ⟨ax, its, news, rfl, hh, F, N, .inr ⟨_, hm, rfl, _, rfl⟩, hsz, by subst hn; exact h⟩
theorem SrcK.range {elt : PySem.Expr} {x : Str} {scope : Scope} {cl : List (Str × Addr)} {Fin : Shared → List Value → List (Addr × Obj) → Prop} {r : Addr} {a b : Int} {t u v : Tok} {n : Nat} {news : List (Addr × Obj)} {s₁ : Shared}
    (hh : A.handled = none) (F : Fr h₀ L s₁.heap m) (N : News h₀ L s₁.heap news) (hr : IsRange s₁.heap r a b 1 t u v) (hsm : Builtin.Range.small a b 1 = true) (hn : Builtin.Range.rangeSize a b 1 = ((n : Nat) : Int)) (hsz : n ≤ sizeLine)
    (h : ∀ g, CompRestK prog w A h₀ L m env elt x scope cl { s₁ with heap := g } (fun _ => True) (fun i v => ∃ t, v = .int (a + (i : Int)) t) (Fin { s₁ with heap := g }) n 0 [] news) :
    SrcK prog w A h₀ L m env elt x scope cl Fin (.ref r) s₁ := .inr ⟨r, a, b, t, u, v, n, news, rfl, hh, F, N, hr, hsm, hn, hsz, h⟩
theorem CompRestK.succ {elt : PySem.Expr} {x : Str} {scope : Scope} {cl : List (Str × Addr)} {S : List (Addr × Obj) → Prop} {P : Nat → Value → Prop} {Fin : List Value → List (Addr × Obj) → Prop} {k i : Nat} {ys : List Value} {news : List (Addr × Obj)}
    (h : ∀ v I oI C oC K oK D h tk (E' : Value → Shared → Prop), P i v → NsObj oC (fun _ => none) → oK.data = .cell (some v) → Fr h₀ L h m → News h₀ L h ((I, oI) :: (C, oC) :: (K, oK) :: (D, lst ys) :: news) → Off3 I C D news → Off1 K news →
      ((@Ne Nat I C) ∧ (@Ne Nat I D) ∧ (@Ne Nat I K) ∧ (@Ne Nat C D) ∧ (@Ne Nat C K) ∧ (@Ne Nat D K)) →
      wpAny (model prog w) A (eval elt (compEnvC scope ((x, K) :: cl) C env)) (CompEndK h₀ L m { s with heap := h, toks := tk } I oI C oC K oK D (lst ys) S (fun y news' => CompRestK prog w A h₀ L m env elt x scope cl s S P Fin k (i + 1) (ys ++ [y]) news')) E' { s with heap := h, toks := tk }) :
    CompRestK prog w A h₀ L m env elt x scope cl s S P Fin (k + 1) i ys news := h
theorem CompRestK.zero {elt : PySem.Expr} {x : Str} {scope : Scope} {cl : List (Str × Addr)} {S : List (Addr × Obj) → Prop} {P : Nat → Value → Prop} {Fin : List Value → List (Addr × Obj) → Prop} {i : Nat} {ys : List Value} {news : List (Addr × Obj)} (h : Fin ys news) :
    CompRestK prog w A h₀ L m env elt x scope cl s S P Fin 0 i ys news := h
theorem sub_self {l : List (Addr × Obj)} : ∀ p ∈ l, p ∈ l := fun _ h => h
theorem sub_tail {a : Addr × Obj} {l all : List (Addr × Obj)} (h : ∀ p ∈ l, p ∈ all) : ∀ p ∈ l, p ∈ a :: all := fun p hp => List.mem_cons_of_mem _ (h p hp)
theorem my_item {value slice : PySem.Expr} {l : Addr} {items : List Value} {c : Nat} {k : Int} {u : Tok} {x : Value} {news : List (Addr × Obj)} {Q : Value → Shared → Prop} (N : News h₀ L s.heap news) (hm : (l, ({ cls := .type "list", data := .seq items.toArray c } : Obj)) ∈ news)
    (hk : (decide (0 ≤ k) && decide (k < 64)) = true) (hx : items[k.toNat]? = some x) (h : Q x s)
    (hs : subscripted slice false (.ref l) (.int k u) = operate [.ref l, .int k u] (getItem (.ref l) (.int k u)) := by with_unfolding_all rfl) :
    wpAny (model prog w) A (subscriptTail value slice (.ref l) (.int k u)) Q E s := by
  simp only [Bool.and_eq_true, decide_eq_true_eq] at hk
  exact item_listR (News.isList N hm) hk.1 (by have := hk.2; omega) (by simpa using hx) h hs
/-- a for over a range, turn by turn, its name a local or a cell -/
noncomputable def ForEnd (h₀ : Heap) (L : Addr) (s₁ : Shared) (I : Addr) (it : Obj) (rest : (Str → Option Value) → List (Addr × Obj) → Prop) (s₂ : Shared) : Prop :=
  ∃ h' tk m' news', s₂ = { s₁ with heap := h', toks := tk } ∧ Fr h₀ L h' m' ∧ News h₀ L h' ((I, it) :: news') ∧ (∀ p ∈ news', p.1 ≠ I) ∧ rest m' news'
noncomputable def ForPost (h₀ : Heap) (L : Addr) (s₁ : Shared) (I : Addr) (it : Obj) (rest : (Str → Option Value) → List (Addr × Obj) → Prop) (Q : Flow → Shared → Prop) (f : Flow) (s₂ : Shared) : Prop :=
  match f with
  | .ret v => Q (.ret v) s₂
  | .brk => Q .next s₂
  | _ => ForEnd h₀ L s₁ I it rest s₂
noncomputable def ItOK (it : Obj) : Prop := ∀ vs q t, it.data = .fields vs → vs[1]? = some (.str q t) → False
noncomputable def ForRest (prog : Program) (w : World) (A : Around) (E : Value → Shared → Prop) (h₀ : Heap) (env : Env) (target : PySem.Expr) (body : List Stmt) (Q : Flow → Shared → Prop) (s : Shared) (I : Addr) (a : Int) : Nat → Nat → (Str → Option Value) → List (Addr × Obj) → Prop
  | 0, _, m, news => ∀ h tk, Fr h₀ env.locals h m → News h₀ env.locals h news → Q .next { s with heap := h, toks := tk }
  | k + 1, i, m, news => ∀ t h tk it, ItOK it → Fr h₀ env.locals h m → News h₀ env.locals h ((I, it) :: news) → (∀ p ∈ news, p.1 ≠ I) →
      wpAny (model prog w) A (assign target env (.int (a + (i : Int)) t)) (fun _ s₂ => wpAny (model prog w) A (execs body env) (ForPost h₀ env.locals { s with heap := h, toks := tk } I it (ForRest prog w A E h₀ env target body Q s I a k (i + 1)) Q) E s₂) E { s with heap := h, toks := tk }
theorem ForRest.succ {target : PySem.Expr} {body : List Stmt} {Q : Flow → Shared → Prop} {I : Addr} {a : Int} {k i : Nat} {m : Str → Option Value} {news : List (Addr × Obj)} (j : Int) (hj : a + (i : Int) = j)
    (h : ∀ t h tk it, ItOK it → Fr h₀ env.locals h m → News h₀ env.locals h ((I, it) :: news) → (∀ p ∈ news, p.1 ≠ I) →
      wpAny (model prog w) A (assign target env (.int j t)) (fun _ s₂ => wpAny (model prog w) A (execs body env) (ForPost h₀ env.locals { s with heap := h, toks := tk } I it (ForRest prog w A E h₀ env target body Q s I a k (i + 1)) Q) E s₂) E { s with heap := h, toks := tk }) :
    ForRest prog w A E h₀ env target body Q s I a (k + 1) i m news := by
  subst hj; exact h
theorem ForRest.zero {target : PySem.Expr} {body : List Stmt} {Q : Flow → Shared → Prop} {I : Addr} {a : Int} {i : Nat} {m : Str → Option Value} {news : List (Addr × Obj)}
    (h : ∀ h tk, Fr h₀ env.locals h m → News h₀ env.locals h news → Q .next { s with heap := h, toks := tk }) : ForRest prog w A E h₀ env target body Q s I a 0 i m news := h
end
end Mine

end
section
open PySem PySem.W PyProof.Rows PySem.Calls PySem.Spec
namespace Mine
open LCg
section
variable {prog : Program} {w : World} {A : Around} {E : Value → Shared → Prop} {s : Shared} {h₀ : Heap} {L : Addr} {m : Str → Option Value} {env : Env}
/-- an object that is a code record or a table, by its data -/
theorem tabs_off {tb : List (Addr × Obj)} (T : Tabs tb) {p : Addr × Obj} (hp : p ∈ tb) : (p.1 = 30 ∨ p.1 = 37) ∨ ∃ vs q t, p.2.data = .fields vs ∧ vs[1]? = some (.str q t) := by
  obtain ⟨t1, t2, rfl, h1, h2⟩ := T
  have key : ∀ {P : Addr} {line col : Nat} {q : Str} {tb : List (Addr × Obj)}, Tab1 P line col q tb → ∀ p ∈ tb, p.1 = P ∨ ∃ vs q t, p.2.data = .fields vs ∧ vs[1]? = some (.str q t) := by
    intro P line col q tb h p hp
    rcases h with rfl | ⟨c', oc, vs, t, rfl, hd, hv, _⟩
    · rw [List.mem_singleton.mp hp]; exact .inl rfl
    · rcases List.mem_cons.mp hp with rfl | hp
      · exact .inl rfl
      · rw [List.mem_singleton.mp hp]; exact .inr ⟨vs, q, t, hd, hv⟩
  rcases List.mem_append.mp hp with hp | hp
  · rcases key h2 p hp with h | h
    · exact .inl (.inr h)
    · exact .inr h
  · rcases key h1 p hp with h | h
    · exact .inl (.inl h)
    · exact .inr h
noncomputable def CompEndT (h₀ : Heap) (L : Addr) (m : Str → Option Value) (s₁ : Shared) (I : Addr) (oI : Obj) (C : Addr) (oC : Obj) (D : Addr) (oD : Obj) (S : List (Addr × Obj) → Prop) (rest : Value → List (Addr × Obj) → Prop) (y : Value) (s₂ : Shared) : Prop :=
  ∃ h' tk news' tb', s₂ = { s₁ with heap := h', toks := tk } ∧ Tabs tb' ∧ Fr h₀ L h' m ∧ News h₀ L h' ((I, oI) :: (C, oC) :: (D, oD) :: (news' ++ tb')) ∧ Off3 I C D news' ∧ S news' ∧ rest y news'
noncomputable def CompRestT (prog : Program) (w : World) (A : Around) (h₀ : Heap) (L : Addr) (m : Str → Option Value) (env : Env) (elt : PySem.Expr) (x : Str) (scope : Scope) (cl : List (Str × Addr)) (s : Shared) (S : List (Addr × Obj) → Prop) (P : Nat → Value → Prop)
    (Fin : List Value → List (Addr × Obj) → Prop) : Nat → Nat → List Value → List (Addr × Obj) → Prop
  | 0, _, ys, news => Fin ys news
  | k + 1, i, ys, news => ∀ v I oI C oC D m₂ h tk tb (E' : Value → Shared → Prop), P i v → NsObj oC m₂ → m₂ x = some v → Tabs tb → Fr h₀ L h m → News h₀ L h ((I, oI) :: (C, oC) :: (D, lst ys) :: (news ++ tb)) → Off3 I C D news → ((@Ne Nat I C) ∧ (@Ne Nat I D) ∧ (@Ne Nat C D)) → ((@LT.lt Nat _ 50 I) ∧ (@LT.lt Nat _ 50 C) ∧ (@LT.lt Nat _ 50 D)) →
      wpAny (model prog w) A (eval elt (compEnvC scope cl C env)) (CompEndT h₀ L m { s with heap := h, toks := tk } I oI C oC D (lst ys) S (fun y news' => CompRestT prog w A h₀ L m env elt x scope cl s S P Fin k (i + 1) (ys ++ [y]) news')) E' { s with heap := h, toks := tk }
end
end Mine

end
section
open PySem PySem.W PyProof.Rows PySem.Calls PySem.Spec
namespace Mine
open LCg
abbrev Led := List (Addr × Obj)
/-- lists and tuples alone -/
noncomputable def Seqs (l : Led) : Prop := ∀ p ∈ l, ∃ a n, p.2.data = .seq a n
/-- new objects at places of their own -/
noncomputable def Apart (l objs : Led) : Prop := ∀ q ∈ objs, ∀ p ∈ l, @Ne Nat p.1 q.1
theorem Seqs.nil : Seqs [] := fun _ h => nomatch h
theorem Seqs.cons {p : Addr × Obj} {l : Led} (h : ∃ a n, p.2.data = .seq a n) (k : Seqs l) : Seqs (p :: l) := fun q hq => by
  rcases List.mem_cons.mp hq with rfl | hq
  · exact h
  · exact k q hq
theorem Seqs.app {l k : Led} (h : Seqs l) (g : Seqs k) : Seqs (l ++ k) := fun q hq => (List.mem_append.mp hq).elim (h q) (g q)
theorem Apart.nil {l : Led} : Apart l [] := fun _ h => nomatch h
theorem Apart.cons {l objs : Led} {q : Addr × Obj} (h : ∀ p ∈ l, @Ne Nat p.1 q.1) (k : Apart l objs) : Apart l (q :: objs) := fun r hr => by
  rcases List.mem_cons.mp hr with rfl | hr
  · exact h
  · exact k r hr
theorem Apart.sub {l l' objs : Led} (h : Apart l objs) (s : ∀ p ∈ l', p ∈ l) : Apart l' objs := fun q hq p hp => h q hq p (s p hp)
theorem Apart.app {l o1 o2 : Led} (h : Apart l o1) (k : Apart l o2) : Apart l (o1 ++ o2) := fun q hq => (List.mem_append.mp hq).elim (h q) (k q)
theorem tab1_head {P : Addr} {line col : Nat} {q : Str} {tb : Led} (h : Tab1 P line col q tb) : ∃ ps, (P, tabObj ps) ∈ tb := by
  rcases h with rfl | ⟨c', oc, vs, t, rfl, _⟩
  · exact ⟨_, List.mem_cons_self⟩
  · exact ⟨_, List.mem_cons_self⟩
/-- an object that is no record stands at no table's place -/
theorem off_tab {h₀ h : Heap} {L : Addr} {led tb : Led} (T : Tabs tb) (N : News h₀ L h led) (s : ∀ p ∈ tb, p ∈ led) {p : Addr × Obj} (hp : p ∈ led) (hd : ∀ vs, p.2.data ≠ .fields vs) : (@Ne Nat p.1 30) ∧ (@Ne Nat p.1 37) := by
  obtain ⟨t1, t2, rfl, h1, h2⟩ := T
  have key : ∀ {P : Addr} {ps : Array Value}, (P, tabObj ps) ∈ t2 ++ t1 → p.1 ≠ P := fun {P ps} hm q => by
    have a := (N _ hp).1
    have b := (N _ (s _ hm)).1
    rw [q, b] at a
    exact hd ps (by rw [← Option.some.inj a])
  obtain ⟨p1, m1⟩ := tab1_head h1
  obtain ⟨p2, m2⟩ := tab1_head h2
  exact ⟨key (List.mem_append_right _ m1), key (List.mem_append_left _ m2)⟩
theorem seq_noRec {p : Addr × Obj} (h : ∃ a n, p.2.data = .seq a n) : ∀ vs, p.2.data ≠ .fields vs := fun vs e => by
  obtain ⟨a, n, h⟩ := h
  rw [h] at e; cases e
theorem seqs_over {h₀ h : Heap} {L : Addr} {led tb objs : Led} (S : Seqs objs) (T : Tabs tb) (N : News h₀ L h led) (s : ∀ p ∈ tb, p ∈ led) (so : ∀ p ∈ objs, p ∈ led) : Over objs := fun p hp => off_tab T N s (so p hp) (seq_noRec (S p hp))
/-- no list stands at a cell's place -/
theorem seqs_cell {h₀ h : Heap} {L : Addr} {led objs : Led} {c : Addr} {o : Obj} {v : Option Value} (S : Seqs objs) (N : News h₀ L h led) (hm : (c, o) ∈ led) (hd : o.data = .cell v) (so : ∀ p ∈ objs, p ∈ led) : ∀ p ∈ objs, p.1 ≠ c := fun p hp q => by
  have a := (N _ (so p hp)).1
  have b := (N _ hm).1
  rw [q, b] at a
  obtain ⟨x, n, h⟩ := S p hp
  rw [← Option.some.inj a, hd] at h
  cases h
/-- a table or its record is no cell -/
theorem tabs_cell {h₀ h : Heap} {L : Addr} {led tb : Led} {c : Addr} {o : Obj} {v : Option Value} (T : Tabs tb) (N : News h₀ L h led) (hm : (c, o) ∈ led) (hd : o.data = .cell v) (so : ∀ p ∈ tb, p ∈ led) (l50 : @LT.lt Nat _ 50 c) : ∀ p ∈ tb, p.1 ≠ c := fun p hp q => by
  rcases tabs_off T hp with h | ⟨vs, qq, t, hdd, _⟩
  · rcases h with h | h <;> (rw [q] at h; subst h; exact absurd l50 (by decide))
  · have a := (N _ (so p hp)).1
    have b := (N _ hm).1
    rw [q, b] at a
    rw [← Option.some.inj a, hd] at hdd
    cases hdd
theorem over50 {x : Nat} (h : 50 < x) : (@Ne Nat x 30) ∧ (@Ne Nat x 37) := by omega
/-- the end of an element: some new objects stay, all others of the ledger as before -/
noncomputable def DatEnd (h₀ : Heap) (L : Addr) (m : Str → Option Value) (s₁ : Shared) (pre mid : Led) (TB : Led → Prop) (d : Dat) (y : Value) (s₂ : Shared) : Prop :=
  ∃ h' tk objs tb led, s₂ = { s₁ with heap := h', toks := tk } ∧ TB tb ∧ Fr h₀ L h' m ∧ News h₀ L h' led ∧ (∀ p ∈ pre, p ∈ led) ∧ (∀ p ∈ objs, p ∈ led) ∧ (∀ p ∈ tb, p ∈ led) ∧ Apart pre objs ∧ Seqs objs ∧ DatIn (objs ++ mid) y d
theorem DatEnd.intro {h₀ : Heap} {L : Addr} {m : Str → Option Value} {s₁ : Shared} {pre mid : Led} {TB : Led → Prop} {d : Dat} {y : Value} {h' : Heap} {tk : Nat} (objs tb : Led) {led : Led}
    (F : Fr h₀ L h' m) (N : News h₀ L h' led) (T : TB tb) (s1 : ∀ p ∈ pre, p ∈ led) (s2 : ∀ p ∈ objs, p ∈ led) (s3 : ∀ p ∈ tb, p ∈ led) (a : Apart pre objs) (c : Seqs objs) (hd : DatIn (objs ++ mid) y d) :
    DatEnd h₀ L m s₁ pre mid TB d y { s₁ with heap := h', toks := tk } := ⟨h', tk, objs, tb, led, rfl, T, F, N, s1, s2, s3, a, c, hd⟩
abbrev NoTab (tb : Led) : Prop := tb = []
theorem above_off {pre objs : Led} (a : Apart pre objs) {c : Addr} {o : Obj} (hm : (c, o) ∈ pre) : ∀ p ∈ objs, p.1 ≠ c := fun p hp => Ne.symm (a p hp _ hm)
section
variable {prog : Program} {w : World} {A : Around} {E : Value → Shared → Prop} {s : Shared} {h₀ : Heap} {L : Addr} {m : Str → Option Value} {env : Env}
theorem range_snoc {f : Nat → Dat} {i : Nat} : (List.range (i + 1)).map f = (List.range i).map f ++ [f i] := by rw [List.range_succ, List.map_append]; rfl
/-- all turns of a comprehension at once: the elements' data -/
theorem rest_data {elt : PySem.Expr} {x : Str} {scope : Scope} {cl : List (Str × Addr)} {S : Led → Prop} {P : Nat → Value → Prop} {Fin : List Value → Led → Prop} {n : Nat} {mid₀ : Led} (base : Led) (f : Nat → Dat) (hS : ∀ objs : Led, S (objs ++ mid₀))
    (step : ∀ i objs led v C oC m₂ h tk (E' : Value → Shared → Prop), i < n → P i v → NsObj oC m₂ → m₂ x = some v → Fr h₀ L h m → News h₀ L h ((C, oC) :: led) → (∀ p ∈ objs ++ mid₀, p ∈ led) →
      wpAny (model prog w) A (eval elt (compEnvC scope cl C env)) (fun y s₂ => Stop (DatEnd h₀ L m { s with heap := h, toks := tk } ((C, oC) :: led) (objs ++ base) NoTab (f i) y s₂)) E' { s with heap := h, toks := tk })
    (fin : ∀ ys objs, ys.length = n → Seqs objs → Apart mid₀ objs → DatAll (objs ++ base) ys ((List.range n).map f) → Fin ys (objs ++ mid₀)) : CompRest prog w A h₀ L m env elt x scope cl s S P Fin n 0 [] mid₀ := by
  refine (rest_inv (fun i ys news => ∃ objs, news = objs ++ mid₀ ∧ Seqs objs ∧ Apart mid₀ objs ∧ DatAll (objs ++ base) ys ((List.range i).map f)) ⟨[], rfl, .nil, .nil, .nil⟩ ?_ ?_)
  · rintro i ys _ v I oI C oC D m₂ h tk E' hi hl ⟨objs, rfl, hc, ha, hd⟩ hP hC hx F N off ne
    have hsub : ∀ p ∈ (C, oC) :: ((I, oI) :: (D, lst ys) :: (objs ++ mid₀)), p ∈ (I, oI) :: (C, oC) :: (D, lst ys) :: (objs ++ mid₀) := fun p hp => by
      simp only [List.mem_cons] at hp ⊢
      rcases hp with h | h | h
      · exact .inr (.inl h)
      · exact .inl h
      · exact .inr (.inr h)
    refine wpAny_mono (step i objs ((I, oI) :: (D, lst ys) :: (objs ++ mid₀)) v C oC m₂ h tk E' hi hP hC hx F (fun p hp => N p (hsub p hp)) (fun p hp => List.mem_cons_of_mem _ (List.mem_cons_of_mem _ hp))) (fun y s₂ hq => ?_) fun _ _ e => e
    obtain ⟨h', tk', objs', tb, led', rfl, T, F', N', s1, s2, s3, ab, nc, dd⟩ := hq.go
    refine ⟨h', tk', objs' ++ (objs ++ mid₀), rfl, F', fun p hp => N' p ?_, Off3.of fun p hp => ?_, by rw [← List.append_assoc]; exact hS _, objs' ++ objs, by rw [List.append_assoc], nc.app hc, (ab.sub fun p hp => List.mem_cons_of_mem _ (List.mem_cons_of_mem _ (List.mem_cons_of_mem _ (List.mem_append_right _ hp)))).app ha, ?_⟩
    · simp only [List.mem_cons, List.mem_append] at hp
      rcases hp with h | h | h | h | h
      · exact s1 _ (by simp [h])
      · exact s1 _ (by simp [h])
      · exact s1 _ (by simp [h])
      · exact s2 _ h
      · exact s1 _ (by simp [h])
    · rcases List.mem_append.mp hp with hp | hp
      · exact ⟨above_off ab (o := oI) (by simp) p hp, above_off ab (o := oC) (by simp) p hp, above_off ab (o := lst ys) (by simp) p hp⟩
      · exact off.mem p hp
    · rw [range_snoc, List.append_assoc]
      exact (hd.mono fun p hp => List.mem_append_right _ hp).append (.one dd)
  · rintro ys _ hl ⟨objs, rfl, hc, ha, hd⟩
    exact fin ys objs hl hc ha hd
end
end Mine

end
section
open PySem PySem.W PyProof.Rows PySem.Calls PySem.Spec
namespace Mine
open LCg
section
variable {prog : Program} {w : World} {A : Around} {E : Value → Shared → Prop} {s : Shared} {h₀ : Heap} {L : Addr} {m : Str → Option Value} {env : Env}
end
end Mine

end
section
open PySem PySem.W PyProof.Rows PySem.Calls PySem.Spec
namespace Mine
open LCg
section
variable {prog : Program} {w : World} {A : Around} {E : Value → Shared → Prop} {s : Shared} {h₀ : Heap} {env : Env}
abbrev lobj (its : Array Value) (k : Nat) : Obj := { cls := .type "list", data := .seq its k }
/-- a for over a list of the ledger, by an invariant -/
theorem forList {target iter : PySem.Expr} {body : List Stmt} {pos : Pos} {m₀ : Str → Option Value} {Q : Flow → Shared → Prop} (hh : A.handled = none) (hgo : ∀ it v (s : Shared) (Q : Unit → Shared → Prop) (E : Value → Shared → Prop), Q () s → wpAny (model prog w) A (letOwnedTupleGo target it v) Q E s)
    (h : wpAny (model prog w) A (eval iter env) (fun xv s₁ => Stop (∃ ax its k m news, ∃ J : Nat → (Str → Option Value) → List (Addr × Obj) → Prop, xv = .ref ax ∧ Fr h₀ env.locals s₁.heap m ∧ News h₀ env.locals s₁.heap news ∧ J 0 m news ∧ (∀ i m news, J i m news → (ax, lobj its k) ∈ news) ∧
      (∀ (I : Addr) i v m' news' h tk it, (∀ p ∈ news, p.1 < I) → i < its.size → its[i]? = some v → ItOK it → J i m' news' → Fr h₀ env.locals h m' → News h₀ env.locals h ((I, it) :: news') → (∀ p ∈ news', p.1 ≠ I) →
        wpAny (model prog w) A (assign target env v) (fun _ s₂ => wpAny (model prog w) A (execs body env) (ForPost h₀ env.locals { s₁ with heap := h, toks := tk } I it (fun m' news' => J (i + 1) m' news') Q) E s₂) E { s₁ with heap := h, toks := tk }) ∧
      ∀ m news h tk, J its.size m news → Fr h₀ env.locals h m → News h₀ env.locals h news → Q .next { s₁ with heap := h, toks := tk })) E s)
    (hs : ∀ x, foldedSetIterable iter env x = pure x := by intro _; rfl)
    (hE : PassesOwn (model prog w) A env E := by passes_own) (F₀ : Fr h₀ env.locals s.heap m₀) :
    wpAny (model prog w) A (exec (.For target iter body [] pos) env) Q E s := by
  refine For_turns (h₀ := h₀) F₀ (wpAny_mono h (fun xv s₁ h₁ => ?_) fun _ _ e => e) hs hE
  obtain ⟨ax, its, k, m, news, J, rfl, F, N, j0, jm, step, fin⟩ := h₁.go
  have hax := N _ (jm 0 m news j0)
  have hl : s₁.heap.IsList ax its := ⟨_, hax.1, rfl, k, rfl⟩
  have hlt : ax < s₁.heap.objs.size := Heap.lt_size hax.1
  refine wpAny_pyIter_list hl ?_
  have W := KTurns.ofWalks (target := target) (Walks.list (prog := prog) (w := w) hh s₁.heap.objs.size ax (Nat.ne_of_lt hlt) its) (fun i v s Q E _ hQ => hgo _ _ s Q E hQ)
  have hnew := next_is_new F
  have hLI : env.locals ≠ s₁.heap.objs.size := Nat.ne_of_lt F.ns.lt
  have up : ∀ b o, s₁.heap.get? b = some o → (s₁.heap.push { cls := .type "list_iterator", data := .fields #[.ref ax, .int 0 0] }).get? b = some o := fun b o e => Heap.get?_push_of_some _ e
  refine ⟨_, _, _, its.size, _, _, _, m, news, J, rfl, W, ?_, ?_, ?_, ⟨⟨_, Heap.get?_push_size _ rfl, rfl, rfl⟩, hl.push _⟩, F.push _, (fun p hp => ⟨up _ _ (N p hp).1, (N p hp).2⟩), j0, ?_, ?_⟩
  · intro hm
    rcases List.mem_cons.mp hm with h | h
    · exact hLI h
    · exact hax.2.1 (List.mem_singleton.mp h).symm
  · intro b hb
    rw [List.mem_singleton.mp hb]
    exact hnew
  · intro p hp hI
    exact absurd (Heap.lt_size (N p hp).1) ((List.mem_singleton.mp hI) ▸ Nat.lt_irrefl _)
  · rintro i v m₁ news₁ h₁ tk₁ own hin hv hJ hoff hown hget hall hst F₁ N₁
    obtain ⟨it, hst', hok⟩ : ∃ it, h₁.get? s₁.heap.objs.size = some it ∧ ItOK it := by
      obtain ⟨o, e, _, d⟩ := hst.1
      exact ⟨o, e, fun vs q t e0 e1 => by rw [d] at e0; cases e0; simp at e1⟩
    have N₂ := fun (p : Addr × Obj) (hp : p ∈ (s₁.heap.objs.size, it) :: news₁) => (show h₁.get? p.1 = some p.2 ∧ p.1 ≠ env.locals ∧ h₀.get? p.1 = none from by
      rcases List.mem_cons.mp hp with rfl | hp
      · exact ⟨hst', Ne.symm hLI, hnew⟩
      · exact N₁ p (List.mem_append_right _ hp))
    have hax₁ := (N₁ _ (List.mem_append_right _ (jm i m₁ news₁ hJ))).1
    have ownAt : ∀ p ∈ own, p = (s₁.heap.objs.size, it) ∨ p = (ax, lobj its k) := fun p hp => by
      have e2 := hget p hp
      obtain ⟨p1, p2⟩ := p
      rcases List.mem_cons.mp (hown _ hp) with e1 | e1
      · have e1 : p1 = s₁.heap.objs.size := e1
        subst e1
        rw [hst'] at e2
        cases e2
        exact .inl rfl
      · have e1 : p1 = ax := List.mem_singleton.mp e1
        subst e1
        rw [hax₁] at e2
        cases e2
        exact .inr rfl
    have fin' : ∀ h₃' (m₂ : Str → Option Value) news₂, News h₀ env.locals h₃' ((s₁.heap.objs.size, it) :: news₂) → J (i + 1) m₂ news₂ → News h₀ env.locals h₃' (own ++ news₂) := fun h₃' m₂ news₂ N₃ hJ₃ p hp => by
      rcases List.mem_append.mp hp with hp | hp
      · rcases ownAt p hp with rfl | rfl
        · exact N₃ _ List.mem_cons_self
        · exact N₃ _ (List.mem_cons_of_mem _ (jm _ _ _ hJ₃))
      · exact N₃ p (List.mem_cons_of_mem _ hp)
    refine wpAny_mono (step s₁.heap.objs.size i v m₁ news₁ h₁ tk₁ it (fun p hp => Heap.lt_size (N p hp).1) hin hv hok hJ F₁ N₂ fun p hp hI => hoff p hp (by rw [hI]; exact List.mem_singleton.mpr rfl)) (fun _ s₂ h₂ => wpAny_mono h₂ (fun f s₃ h₃ => ?_) fun _ _ e => e) fun _ _ e => e
    cases f with
    | ret v => exact h₃
    | brk => exact h₃
    | cont =>
      obtain ⟨h₃', tk₃, m₂, news₂, rfl, F₃, N₃, ha₃, hJ₃⟩ := h₃
      exact ⟨rfl, h₃', tk₃, m₂, news₂, rfl, F₃, fin' _ _ _ N₃ hJ₃, fun p hp hI => ha₃ p hp (List.mem_singleton.mp hI), hJ₃⟩
    | next =>
      obtain ⟨h₃', tk₃, m₂, news₂, rfl, F₃, N₃, ha₃, hJ₃⟩ := h₃
      exact ⟨rfl, h₃', tk₃, m₂, news₂, rfl, F₃, fin' _ _ _ N₃ hJ₃, fun p hp hI => ha₃ p hp (List.mem_singleton.mp hI), hJ₃⟩
  · intro h' tk m' news' F' N' hoff hJ
    exact fin m' news' h' tk hJ F' N'
end
end Mine

end
section
open PySem PySem.W PyProof.Rows PySem.Calls PySem.Spec
namespace Mine
theorem fd_neg (a b : Int) : (-a).fdiv (-b) = a.fdiv b := Int.neg_fdiv_neg a b
theorem fm_neg (a b : Int) : (-a).fmod (-b) = -(a.fmod b) := by
  rw [Int.fmod_def, Int.fmod_def, fd_neg, Int.neg_mul]; omega
theorem fd_sg {sg : Int} (hs : sg = 1 ∨ sg = -1) (b wy a : Int) : (sg * b).fdiv (sg * wy * a) = b.fdiv (wy * a) := by
  rcases hs with rfl | rfl
  · simp
  · rw [Int.mul_assoc, Int.neg_one_mul, Int.neg_one_mul, fd_neg]
theorem fm_sg {sg : Int} (hs : sg = 1 ∨ sg = -1) (b wy a : Int) : (sg * b).fmod (sg * wy * a) = sg * b.fmod (wy * a) := by
  rcases hs with rfl | rfl
  · simp
  · rw [Int.mul_assoc, Int.neg_one_mul, Int.neg_one_mul, fm_neg, Int.neg_one_mul]
/-- one step of the run -/
theorem rem_step {wy a b : Int} (hw : wy = 1 ∨ wy = -1) (ha : 0 < a) : 0 ≤ wy * b.fmod (wy * a) ∧ wy * b.fmod (wy * a) < a ∧ wy * b.fmod (wy * a) = wy * b - (wy * b.fdiv (wy * a)) * (wy * a) := by
  have e := Int.mul_fdiv_add_fmod b (wy * a)
  have e3 : wy * b.fmod (wy * a) = wy * b - (wy * b.fdiv (wy * a)) * (wy * a) := by
    have : b.fmod (wy * a) = b - (wy * a) * b.fdiv (wy * a) := by omega
    rw [this, Int.mul_sub]; congr 1; ac_rfl
  refine ⟨?_, ?_, e3⟩
  · rcases hw with rfl | rfl
    · have := Int.fmod_nonneg_of_pos b ha; simpa using this
    · have h2 : b.fmod (-1 * a) = -((-b).fmod a) := by rw [Int.neg_one_mul]; have := fm_neg (-b) a; simpa using this
      have := Int.fmod_nonneg_of_pos (-b) ha; rw [h2]; omega
  · rcases hw with rfl | rfl
    · have := Int.fmod_lt_of_pos b ha; simpa using this
    · have h2 : b.fmod (-1 * a) = -((-b).fmod a) := by rw [Int.neg_one_mul]; have := fm_neg (-b) a; simpa using this
      have := Int.fmod_lt_of_pos (-b) ha; rw [h2]; omega
theorem fdiv_abs (b d : Int) (hd : d ≠ 0) : (b.fdiv d).natAbs ≤ b.natAbs := by
  have pos : ∀ b d : Int, 0 < d → (b.fdiv d).natAbs ≤ b.natAbs := by
    intro b d h
    rw [Int.fdiv_eq_ediv_of_nonneg _ (by omega)]
    exact Int.natAbs_ediv_le_natAbs b d
  by_cases h : 0 < d
  · exact pos b d h
  · have := pos (-b) (-d) (by omega)
    rw [fd_neg] at this; omega
theorem sz_unit {x : Int} (h : x = 1 ∨ x = -1) : Sz x 1 := by unfold Sz; rcases h with rfl | rfl <;> decide
theorem abs_mul {w x : Int} (h : w = 1 ∨ w = -1) : (w * x).natAbs = x.natAbs := by rcases h with rfl | rfl <;> simp
end Mine

end
section
open PySem PySem.W PyProof.Rows PySem.Calls PySem.Spec
namespace Mine
open LCg
section
variable {prog : Program} {w : World} {A : Around} {E : Value → Shared → Prop} {s : Shared} {h₀ : Heap} {env : Env}
/-- a for over a range of any step, by an invariant -/
theorem forStep {target iter : PySem.Expr} {body : List Stmt} {pos : Pos} {m₀ : Str → Option Value} {Q : Flow → Shared → Prop} (hh : A.handled = none) (hgo : ∀ it v (s : Shared) (Q : Unit → Shared → Prop) (E : Value → Shared → Prop), Q () s → wpAny (model prog w) A (letOwnedTupleGo target it v) Q E s)
    (h : wpAny (model prog w) A (eval iter env) (fun xv s₁ => Stop (∃ r a b c t u v n m news, ∃ J : Nat → (Str → Option Value) → List (Addr × Obj) → Prop, xv = .ref r ∧ IsRange s₁.heap r a b c t u v ∧ Builtin.Range.small a b c = true ∧ Builtin.Range.rangeSize a b c = ((n : Nat) : Int) ∧ Fr h₀ env.locals s₁.heap m ∧ News h₀ env.locals s₁.heap news ∧ J 0 m news ∧
      (∀ (I : Addr) i m' news' t h tk it, (∀ p ∈ news, p.1 < I) → i < n → ItOK it → J i m' news' → Fr h₀ env.locals h m' → News h₀ env.locals h ((I, it) :: news') → (∀ p ∈ news', p.1 ≠ I) →
        wpAny (model prog w) A (assign target env (.int (a + (i : Int) * c) t)) (fun _ s₂ => wpAny (model prog w) A (execs body env) (ForPost h₀ env.locals { s₁ with heap := h, toks := tk } I it (fun m' news' => J (i + 1) m' news') Q) E s₂) E { s₁ with heap := h, toks := tk }) ∧
      ∀ m news h tk, J n m news → Fr h₀ env.locals h m → News h₀ env.locals h news → Q .next { s₁ with heap := h, toks := tk })) E s)
    (hs : ∀ x, foldedSetIterable iter env x = pure x := by intro _; rfl)
    (hE : PassesOwn (model prog w) A env E := by passes_own) (F₀ : Fr h₀ env.locals s.heap m₀) :
    wpAny (model prog w) A (exec (.For target iter body [] pos) env) Q E s := by
  refine For_turns (h₀ := h₀) F₀ (wpAny_mono h (fun xv s₁ h₁ => ?_) fun _ _ e => e) hs hE
  obtain ⟨r, a, b, c, t, u, v, n, m, news, J, rfl, hr, hsm, hn, F, N, j0, step, fin⟩ := h₁.go
  refine wpAny_pyIter_range hr hsm ?_
  have W := KTurns.ofWalks (target := target) ((Walks.range (prog := prog) (w := w) hh s₁.heap.objs.size a c n).bound) (fun i v s Q E _ hQ => hgo _ _ s Q E hQ)
  have hnew := next_is_new F
  have hLI : env.locals ≠ s₁.heap.objs.size := Nat.ne_of_lt F.ns.lt
  refine ⟨_, _, _, n, _, _, _, m, news, J, rfl, W, ?_, ?_, ?_, (by show IsRangeIter _ _ _ _ _; rw [hn]; simpa using Heap.get?_push_size _ rfl), F.push _, (fun p hp => ⟨Heap.get?_push_of_some _ (N p hp).1, (N p hp).2⟩), j0, ?_, ?_⟩
  · intro hm
    exact hLI (List.mem_singleton.mp hm)
  · intro b hb
    rw [List.mem_singleton.mp hb]
    exact hnew
  · intro p hp hI
    exact absurd (Heap.lt_size (N p hp).1) ((List.mem_singleton.mp hI) ▸ Nat.lt_irrefl _)
  · rintro i v m₁ news₁ h₁ tk₁ own hin ⟨_, t', rfl⟩ hJ hoff hown hget hall hst F₁ N₁
    obtain ⟨it, hst', hok⟩ : ∃ it, h₁.get? s₁.heap.objs.size = some it ∧ ItOK it := ⟨_, hst, fun vs q t e e1 => by cases e; simp [rawInt] at e1⟩
    have N₂ := fun (p : Addr × Obj) (hp : p ∈ (s₁.heap.objs.size, it) :: news₁) => (show h₁.get? p.1 = some p.2 ∧ p.1 ≠ env.locals ∧ h₀.get? p.1 = none from by
      rcases List.mem_cons.mp hp with rfl | hp
      · exact ⟨hst', Ne.symm hLI, hnew⟩
      · exact N₁ p (List.mem_append_right _ hp))
    have ownAt : ∀ p ∈ own, (s₁.heap.objs.size, it) = p := fun p hp => by
      have e1 := List.mem_singleton.mp (hown p hp)
      have e2 := hget p hp
      rw [e1, hst'] at e2
      obtain ⟨p1, p2⟩ := p
      cases e1; cases e2; rfl
    have fin' : ∀ h₃' news₂, News h₀ env.locals h₃' ((s₁.heap.objs.size, it) :: news₂) → News h₀ env.locals h₃' (own ++ news₂) := fun h₃' news₂ N₃ p hp => by
      rcases List.mem_append.mp hp with hp | hp
      · exact ⟨(ownAt p hp) ▸ (N₃ _ List.mem_cons_self).1, (List.mem_singleton.mp (hown p hp)) ▸ Ne.symm hLI, (List.mem_singleton.mp (hown p hp)) ▸ hnew⟩
      · exact N₃ p (List.mem_cons_of_mem _ hp)
    refine wpAny_mono (step s₁.heap.objs.size i m₁ news₁ t' h₁ tk₁ it (fun p hp => Heap.lt_size (N p hp).1) hin hok hJ F₁ N₂ fun p hp hI => hoff p hp (by rw [hI]; exact List.mem_singleton.mpr rfl)) (fun _ s₂ h₂ => wpAny_mono h₂ (fun f s₃ h₃ => ?_) fun _ _ e => e) fun _ _ e => e
    cases f with
    | ret v => exact h₃
    | brk => exact h₃
    | cont =>
      obtain ⟨h₃', tk₃, m₂, news₂, rfl, F₃, N₃, ha₃, hJ₃⟩ := h₃
      exact ⟨rfl, h₃', tk₃, m₂, news₂, rfl, F₃, fin' _ _ N₃, fun p hp hI => ha₃ p hp (List.mem_singleton.mp hI), hJ₃⟩
    | next =>
      obtain ⟨h₃', tk₃, m₂, news₂, rfl, F₃, N₃, ha₃, hJ₃⟩ := h₃
      exact ⟨rfl, h₃', tk₃, m₂, news₂, rfl, F₃, fin' _ _ N₃, fun p hp hI => ha₃ p hp (List.mem_singleton.mp hI), hJ₃⟩
  · intro h' tk m' news' F' N' hoff hJ
    exact fin m' news' h' tk hJ F' N'
end
end Mine

end
section
open PySem PySem.W PyProof.Rows PySem.Calls PySem.Spec
namespace Mine
open LCg
section
variable {prog : Program} {w : World} {A : Around} {E : Value → Shared → Prop} {s : Shared} {h₀ : Heap} {L : Addr} {m : Str → Option Value} {env : Env}
noncomputable def SrcS (prog : Program) (w : World) (A : Around) (h₀ : Heap) (L : Addr) (m : Str → Option Value) (env : Env) (elt : PySem.Expr) (x : Str) (scope : Scope) (cl : List (Str × Addr)) (Fin : Shared → List Value → List (Addr × Obj) → Prop) (xv : Value) (s₁ : Shared) : Prop :=
  ∃ r a b c t u v n news, xv = .ref r ∧ A.handled = none ∧ Fr h₀ L s₁.heap m ∧ News h₀ L s₁.heap news ∧ IsRange s₁.heap r a b c t u v ∧ Builtin.Range.small a b c = true ∧ Builtin.Range.rangeSize a b c = ((n : Nat) : Int) ∧ n ≤ sizeLine ∧
      ∀ g, CompRest prog w A h₀ L m env elt x scope cl { s₁ with heap := g } (fun _ => True) (fun i v => i < n ∧ ∃ t, v = .int (a + (i : Int) * c) t) (Fin { s₁ with heap := g }) n 0 [] news
theorem SrcS.range {elt : PySem.Expr} {x : Str} {scope : Scope} {cl : List (Str × Addr)} {Fin : Shared → List Value → List (Addr × Obj) → Prop} {r : Addr} {a b c : Int} {t u v : Tok} {n : Nat} {news : List (Addr × Obj)} {s₁ : Shared}
    (hh : A.handled = none) (F : Fr h₀ L s₁.heap m) (N : News h₀ L s₁.heap news) (hr : IsRange s₁.heap r a b c t u v) (hsm : Builtin.Range.small a b c = true) (hn : Builtin.Range.rangeSize a b c = ((n : Nat) : Int)) (hsz : n ≤ sizeLine)
    (h : ∀ g, CompRest prog w A h₀ L m env elt x scope cl { s₁ with heap := g } (fun _ => True) (fun i v => i < n ∧ ∃ t, v = .int (a + (i : Int) * c) t) (Fin { s₁ with heap := g }) n 0 [] news) :
    SrcS prog w A h₀ L m env elt x scope cl Fin (.ref r) s₁ := ⟨r, a, b, c, t, u, v, n, news, rfl, hh, F, N, hr, hsm, hn, hsz, h⟩
theorem rangeS_st {I : Addr} {a c : Int} {n : Nat} : ∀ i (h h' : Heap) (o : Obj) (nw : List (Addr × Obj)), IsRangeIter h I (a + (i : Nat) * c) ((n : Int) - (i : Nat)) c → h.get? I = some o → h'.get? I = some o → (∀ b o, h₀.get? b = some o → h'.get? b = some o) → News h₀ L h' nw → True → IsRangeIter h' I (a + (i : Nat) * c) ((n : Int) - (i : Nat)) c :=
  fun i h h' o nw st e e' _ _ _ => by
    have st' : h.get? I = some _ := st
    show h'.get? I = some _
    rw [e', ← e]; exact st'
/-- a comprehension over a range of any step -/
theorem listComp_S {elt iter : PySem.Expr} {x : Str} {px : Pos} {scope : Scope} {cl : List (Str × Addr)} {pos : Pos} {Q : Value → Shared → Prop} (F₀ : Fr h₀ L s.heap m)
    (hclos : closureFor scope env = pure cl) (hcell : ∀ y ∈ scope.names, y.2 ≠ .cell) (hkind : scope.kind = .function)
    (hnames : ∀ y ∈ scope.names, y.2 = .local → scope.names.lookup y.1 = some .local) (hx : scope.names.lookup x = some .local)
    (h : wpAny (model prog w) A (eval iter env) (SrcS prog w A h₀ L m env elt x scope cl (fun s₂ => FinE h₀ L m s₂ Q)) E s)
    (hs : ∀ x, foldedSetIterable iter env x = pure x := by intro _; rfl) :
    wpAny (model prog w) A (eval (.ListComp elt [⟨.Name x px, iter, [], 0⟩] scope pos) env) Q E s := by
  rw [eval_ListComp]
  refine wpAny_comprehension_free (use := none) rfl hs hclos hkind hnames (wpAny_mono h (fun xv s₁ h₁ => ?_) fun _ _ e => e)
  obtain ⟨r, a, b, c, t, u, v, n, news, rfl, hh, F, N, hr, hsm, hn, hsz, R⟩ := h₁
  refine wpAny_pyIter_range hr hsm ?_
  refine block_U ((Walks.range (prog := prog) (w := w) hh s₁.heap.objs.size a c n).bound) hsz (fun i h st => ⟨_, st⟩) rangeS_st hcell hkind hx (by show IsRangeIter _ _ _ _ _; rw [hn]; simpa using Heap.get?_push_size _ rfl) (fun b hb => ?_)
    (F.keeps fun _ _ e => Heap.get?_push_of_some _ e) (N.grown fun _ _ e => Heap.get?_push_of_some _ e) (Nat.ne_of_lt F.ns.lt) (next_is_new F) (fun p hp => Nat.ne_of_lt (Heap.lt_size (N p hp).1)) trivial (R _) ?_
  · rw [List.mem_singleton.mp hb]
    show s₁.heap.objs.size < (s₁.heap.push _).objs.size
    rw [Heap.size_push]; exact Nat.lt_succ_self _
  · intro D C h tk m' ys news' F' N' o1 hn hC₀ hD₀ hCL hDL hCD offC fin
    refine ⟨m', hn, fun h'' hs'' => fin D h'' tk (F'.change hs'' hCL hC₀) (fun p hp => ?_) o1⟩
    refine ⟨hs''.extBut _ _ ?_ (N' p hp).1, (N' p hp).2⟩
    rcases List.mem_cons.mp hp with rfl | hp
    · exact Ne.symm hCD
    · exact offC p hp
end
end Mine

end
section
namespace Mine
open PySem PySem.W PyProof.Rows PySem.Calls PySem.Spec
open LCg
local macro_rules | `(tactic| k_mem) => `(tactic| first | exact List.mem_cons_self | with_reducible assumption | (refine' List.mem_cons_of_mem _ ?_; k_mem))
local macro_rules | `(tactic| k_lt $h:ident) => `(tactic| skip)
section

section
variable {prog : Program} {w : World} {A₀ A : Around} {s : Shared} {base h₀ : Heap} {L a : Addr} {m : Str → Option Value} {env : Env} {news : List (Addr × Obj)} {K : Frag} {p : Program} {loose : List Str} {mean : ExcName → Option Value} {mg mb : Str → Option Value}
    {R : Result → Shared → Prop} {name qual : Str} {params : Arguments} {body : List Stmt} {scope : Scope} {dV kV doc pm cdv ct oc : Value} {an od : Option Addr} {osl : Array (Option Value)} {f : Addr} {args : Args} {binds : List (Str × Value)}
theorem code_defSX (B : Below A₀ base [] h₀) (F : Fr h₀ L s.heap m) (X₀ : K.In h₀) (N : News h₀ L s.heap news) (T : Top p loose mean mg mb h₀) (hA : A.frames = some [env]) (hf : env.frame = some L) (hke : env.scope.kind = .function)
    (ho : K.lookup f = some ⟨oc, od, .func (fnOf name qual params body scope dV kV doc pm an cdv ct), osl⟩) (hcd : codeIn K cdv qual = true) (hroom : A.depth < recursionLimit)
    (hbind : BindsTo s (fnOf name qual params body scope dV kV doc pm an cdv ct) args binds) (hloc : ∀ y ∈ binds, scope.names.lookup y.1 = some .local)
    (h : ∀ g L' h₁, Fr h₀ L g m → Fr g L' h₁ (fun y => binds.reverse.lookup y) → News g L' h₁ news → Below A base [env] g → K.In g → Top p loose mean mg mb g → KtsDicts ([env].filterMap (·.frame)) g →
      wpAny (model prog w) (A.deeper (envOf qual scope L' f cdv)) (execs body (envOf qual scope L' f cdv))
        (fun fl s' => LeaveS0 ([env].filterMap (·.frame)) h₀ L m g R (match fl with | .ret v => v | _ => .none) s')
        (fun e s' => wpAny (model prog w) (A.deeper (envOf qual scope L' f cdv)) (leaving (envOf qual scope L' f cdv) e) (fun _ s'' => R (.error e) s'') (fun e' s'' => R (.error e') s'') s')
        { s with heap := h₁, toks := s.toks + binds.length })
    (hco : scope.isCoroutine = false) (hgen : scope.isGenerator = false) (hk : scope.kind = .function)
    (hcell : ∀ x ∈ scope.names, x.2 ≠ .cell) : codeAny (model prog w) A (.call (.ref f) args) R s := by
  have X := X₀.keeps F.keep
  refine codeAny_call_def (fd := fnOf name qual params body scope dV kV doc pm an cdv ct) (body := body) (binds := binds) hroom (X _ _ ho) rfl (T.nolimit.keeps F.keep) (codeRec_of X hcd) rfl hbind hcell hloc (fun h₁ hns hk₁ => ?_) hco hgen hk
  obtain ⟨Fg, B₂, st, _⟩ := groundX (R := R) B F N hA hf hke
  obtain ⟨oL, es, ep, hLg, hLd, hLk, hLf⟩ := id Fg.ns
  have hfm : ∀ b, b ∈ ([env].filterMap (·.frame)) → b = L := fun b hb => by
    simp [hf] at hb; exact hb
  refine wpAny_mono (h _ s.heap.objs.size h₁ Fg ⟨hns, fun b o e => hk₁ b o (of_hideAll _ e), Nat.le_of_eq (hideAll_size _ _)⟩
    (fun p hp => ⟨hk₁ _ _ (N p hp).1, Nat.ne_of_lt (Heap.lt_size (N p hp).1), hideAll_none _ (List.mem_map_of_mem hp)⟩) B₂ (X₀.keeps st) (T.keeps st) (fun b hb => by
      rw [hfm b hb]; exact ⟨oL, es, ep, hLg, hLd⟩)) (fun fl s' hl => ?_) fun _ _ y => y
  obtain ⟨g', L', m', news', T', F', N', k⟩ := hl
  have nL₀ : h₀.get? L = none := kts_self F
  obtain ⟨sl, hs⟩ := T'.up hLg
  refine k ⟨⟨_, es, ep, F'.keep _ _ hs, hLd, hLk, hLf⟩, fun b o e => F'.keep b o (T'.other b o (st b o e) (fun q => by
    rw [hfm b q, nL₀] at e
    cases e)), F.above⟩ fun p hp => ⟨(N' p hp).1, fun q => ?_, ?_⟩
  · have := (N' p hp).2.2; rw [q, hs] at this; cases this
  · cases q : h₀.get? p.1 with
    | none => rfl
    | some o =>
      obtain ⟨sl', hs'⟩ := T'.up (st _ _ q)
      have := (N' p hp).2.2
      rw [hs'] at this
      cases this
end

/-- the run over a fraction -/
noncomputable def runV : List Int → Int → Int → List Int
  | [], _, _ => []
  | w :: ws, a, b => if a = 0 then [] else (w * b.fdiv (w * a)) :: runV ws (w * b.fmod (w * a)) b
structure RunSt (W : List Int) (a₀ b sg : Int) (rest : Led) (i : Nat) (m : Str → Option Value) (news : Led) : Prop where
  go : ∃ D c items a row tb t1 t2 t3, m (Str.ofString "row") = some (.ref D) ∧ m (Str.ofString "above") = some (.int a t1) ∧ m (Str.ofString "below") = some (.int b t2) ∧ m (Str.ofString "sign") = some (.int sg t3) ∧
    IntsAre items row ∧ row.length = i ∧ runV W a₀ b = row ++ runV (W.drop i) a b ∧ 0 ≤ a ∧ a ≤ a₀ ∧ Tabs tb ∧ news = (D, listOf items.toArray c) :: (rest ++ tb)
theorem runV_cons {wy a b : Int} {ws : List Int} (h : a ≠ 0) : runV (wy :: ws) a b = (wy * b.fdiv (wy * a)) :: runV ws (wy * b.fmod (wy * a)) b := by rw [runV, if_neg h]
theorem runV_zero {W : List Int} {b : Int} : runV W 0 b = [] := by cases W <;> simp [runV]
theorem run_turn {W row : List Int} {a₀ a b wy : Int} {i : Nat} (h : runV W a₀ b = row ++ runV (W.drop i) a b) (hw : W[i]? = some wy) (ha : a ≠ 0) : runV W a₀ b = (row ++ [wy * b.fdiv (wy * a)]) ++ runV (W.drop (i + 1)) (wy * b.fmod (wy * a)) b := by
  obtain ⟨hl, e⟩ := List.getElem?_eq_some_iff.mp hw
  rw [h, List.drop_eq_getElem_cons hl, e, runV_cons ha, List.append_assoc]; rfl
theorem tabs_lt {tb : Led} {I : Addr} (T : Tabs tb) (h : ∀ p ∈ tb, p.1 < I) : (@Ne Nat I 30) ∧ (@Ne Nat I 37) := by
  obtain ⟨t1, t2, rfl, h1, h2⟩ := T
  have key : ∀ {P : Addr} {line col : Nat} {q : Str} {t : Led}, Tab1 P line col q t → (∀ p ∈ t, p.1 < I) → @Ne Nat I P := by
    intro P line col q t ht hl e
    subst e
    rcases ht with rfl | ⟨c', oc, vs, t, rfl, _, _, _⟩
    · exact absurd (hl _ List.mem_cons_self) (Nat.lt_irrefl _)
    · exact absurd (hl _ List.mem_cons_self) (Nat.lt_irrefl _)
  exact ⟨key h1 fun p hp => h p (List.mem_append_right _ hp), key h2 fun p hp => h p (List.mem_append_left _ hp)⟩
theorem tabs_offJ {h₀ h : Heap} {L I : Addr} {led tb : Led} {it : Obj} (T : Tabs tb) (N : News h₀ L h led) (hm : (I, it) ∈ led) (ok : ItOK it) (so : ∀ p ∈ tb, p ∈ led) (n30 : @Ne Nat I 30) (n37 : @Ne Nat I 37) : ∀ p ∈ tb, p.1 ≠ I := fun p hp q => by
  rcases tabs_off T hp with h | ⟨vs, qq, t, hdd, hv⟩
  · rcases h with h | h
    · exact n30 (q.symm.trans h)
    · exact n37 (q.symm.trans h)
  · have a := (N _ (so p hp)).1
    have b := (N _ hm).1
    rw [q, b] at a
    rw [← Option.some.inj a] at hdd
    exact ok _ _ _ hdd hv
theorem sgwy {sg : Int} (h : sg = 1 ∨ sg = -1) (wy r : Int) : sg * wy * (sg * r) = wy * r := by
  rcases h with rfl | rfl
  · rw [Int.one_mul, Int.one_mul]
  · rw [Int.neg_one_mul, Int.neg_one_mul, Int.neg_mul_neg]
theorem intsAre_at {vs : List Value} {xs : List Int} (h : IntsAre vs xs) : ∀ i, i < vs.length → ∃ x t, vs[i]? = some (.int x t) ∧ xs[i]? = some x := by
  induction h with
  | nil => intro i h; simp at h
  | cons n t _ ih => intro i h; cases i with
    | zero => exact ⟨n, t, rfl, rfl⟩
    | succ i => simpa using ih i (by simpa using h)
theorem forEnd_of {h₀ : Heap} {L I D : Addr} {it : Obj} {s₁ s₂ : Shared} {h' : Heap} {tk : Nat} {m' : Str → Option Value} {all R : Led} {its : List Value} {c : Nat} {J : (Str → Option Value) → Led → Prop} (hs : s₂ = { s₁ with heap := h', toks := tk }) (F : Fr h₀ L h' m') (N : News h₀ L h' all) (hJ : J m' ((D, listOf its.toArray c) :: R))
    (sub : ∀ p ∈ (I, it) :: (D, listOf its.toArray c) :: R, p ∈ all) (n : @Ne Nat D I) (off : ∀ p ∈ R, p.1 ≠ I) : ForEnd h₀ L s₁ I it J s₂ :=
  ⟨h', tk, m', _, hs, F, fun p hp => N p (sub p hp), fun p hp => by
    rcases List.mem_cons.mp hp with rfl | hp
    · exact n
    · exact off p hp, hJ⟩
set_option maxHeartbeats 24000000 in
theorem run_ct (w : World) (W : List Int) (a₀ b sg : Int) (hW : ∀ x ∈ W, x = 1 ∨ x = -1) (hWl : W.length ≤ 64) (ha : 0 ≤ a₀) (hza : Sz a₀ 1000) (hzb : Sz b 1000) (hsg : sg = 1 ∨ sg = -1) (p : Program) (loose : List Str) (mean : ExcName → Option Value) (mg mb : Str → Option Value)
    (dp un : Nat) (gd : Option (List Code)) (cn : Str) (cs : Scope) (ad : Addr) (ccd : Value) (cl : List (Str × Addr)) (A₀ : Around) (h₀ : Heap) (L : Addr) (m : Str → Option Value) (rest tb : List (Addr × Obj)) (s : Shared)
    (Q E : Value → Shared → Prop) (ta t2 t3 : Tok) (wA : Addr) (wvs : List Value) (wc : Nat)
    (B : Below A₀ h₀ [] h₀) (hC1 : CodeHd h₀ 34 30) (hC2 : CodeHd h₀ 41 37) (F : Fr h₀ L s.heap m) (X : (_root_.hd.heap_39 w.params).In h₀) (N : News h₀ L s.heap (rest ++ tb)) (T : Top p loose mean mg mb h₀) (hk : cs.kind = .function) (htb : Tabs tb) (hov : Over rest)
    (hwm : (wA, listOf wvs.toArray wc) ∈ rest) (hwi : IntsAre wvs W) (hroom : dp + 200 < recursionLimit) (hunits : un + 2000 < cLine)
    (hret : ∀ D items c h' tk' tb', Tabs tb' → IntsAre items (runV W a₀ b) → Fr h₀ L h' m → News h₀ L h' ((D, listOf items.toArray c) :: (rest ++ tb')) → Q (.ref D) { s with heap := h', toks := tk' }) :
    wpAny (model PySem.Challenge.rw_ta0142_01.row.prog w) (ktrTop dp un gd cn cs L ad ccd cl []) (call (.ref 63) [.int a₀ ta, .int b t2, .ref wA, .int sg t3]) Q E s := by
  revert X N T
  k_fill
  w_top off
  k_with_none
  k_with "exec For Name Name cons nil" => ((k_extra "myfor"))
  k_with "call ref" => ((k_here; k_extra "mycdv"))
  k_with "ForPost" => ((refine Stop.go ?_))
  k_with "leaving ref" => ((refine Stop.go ?_))
  k_with "binaryOp Mult int int" => ((with_reducible refine mul_int ?_ (mul_ok (by assumption) (by assumption) (by decide))))
  k_with "binaryOp Add ref ref" => ((k_here; k_extra "myadd"))
  k_with "exec Raise some none" => ((k_here; k_extra "myraise"))
  k_with "eval Name" => ((k_here; k_dflt (refine' nameX_L ?zqzF ?zqzv ?_ ?zqza ?zqzb; (case zqzF => k_asm); (case zqza => rfl); (case zqzb => rfl); (case zqzv => first | rfl | assumption); k_whole)))
  intro X N T
  refine wpAny_call ?_
  k_dflt (refine' code_defSX ?k1 ?k2 ?k3 ?k4 ?k5 ?kA ?kF ?kK ?k6 ?k7 ?k8 ?k9 ?kB ?_ ?c2 ?c3 ?c4 ?c5; (case kA => exact rfl); (case kF => exact rfl); (case kK => assumption); (case k1 => k_asm); (case k2 => k_asm); (case k3 => k_asm); (case k4 => k_asm); (case k5 => k_asm); (case k6 => k_is); (case k7 => k_is); (case k8 => ktr_room); (case k9 => exact BindsTo.of_eq rfl); (case c5 => decide); (case kB => exact locs rfl); (case c2 => exact rfl); (case c3 => exact rfl); (case c4 => exact rfl); k_whole; intro g' L' h' FG' F' N' B' X' T' D'; (try dsimp only); (try k_fold))
  k_with_none
  k_with "exec For Name Name cons nil" => ((k_extra "myfor"))
  k_with "call ref" => ((k_here; k_extra "mycdv"))
  k_with "ForPost" => ((refine Stop.go ?_))
  k_with "leaving ref" => ((refine Stop.go ?_))
  k_with "binaryOp Mult int int" => ((with_reducible refine mul_int ?_ (mul_ok (by assumption) (by assumption) (by decide))))
  k_with "binaryOp Add ref ref" => ((k_here; k_extra "myadd"))
  k_with "exec Raise some none" => ((k_here; k_extra "myraise"))
  k_with "eval Name" => ((k_here; k_dflt (refine' nameX_L ?zqzF ?zqzv ?_ ?zqza ?zqzb; (case zqzF => k_asm); (case zqza => rfl); (case zqzb => rfl); (case zqzv => first | rfl | assumption); k_whole)))
  k_with "myfor" => (refine forList rfl (fun _ _ _ _ _ h => wpAny_pure h) ?_ (F₀ := by k_asm))
  k_with "myadd" => (refine kmk_add_ints (by k_asm) (by k_asm) (News.isList (by k_asm) (by k_mem)) (News.isList (by k_asm) (by k_mem)) hit' (IntsAre.cons _ _ IntsAre.nil) ?_ (by rw [sizeLine_eq, hrl]; show i + 1 ≤ _; omega); intro D9 us9 h9 F9 N9 l9 i9)
  k_with "mycdv" => (refine' cdiv_use hCd (by k_asm) hC1 hC2 (by k_asm) (by k_asm) (by k_asm) (by k_asm) (by exact rfl) htb' hov' (by ktr_room) (by ktr_units) ?_; (intro D1 ta' tb1 c' h' tk' tbs' htbs' l1 F' N'); (try dsimp only); (try k_fold))
  k_steps
  refine Stop.mk ⟨wA, wvs.toArray, wc, _, _, RunSt W a₀ b sg rest, rfl, by k_asm, by k_asm, ?j0, ?jm, ?step, ?fin⟩
  case j0 => exact ⟨_, 0, [], a₀, [], tb, ta, t2, t3, rfl, rfl, rfl, rfl, .nil, rfl, rfl, ha, Int.le_refl _, htb, rfl⟩
  case jm =>
    intro i m news hJ
    obtain ⟨D, c, items, a, row, tb', t1, t2', t3', e1, e2, e3, e4, hit', hrl, hrun, ha0, hale, htb', rfl⟩ := hJ.go
    exact List.mem_cons_of_mem _ (List.mem_append_left _ hwm)
  case fin =>
    intro m news h tk hJ F N
    obtain ⟨D, c, items, a, row, tb', t1, t2', t3', e1, e2, e3, e4, hit', hrl, hrun, ha0, hale, htb', rfl⟩ := hJ.go
    (try dsimp only)
    k_steps
    have e : runV W a₀ b = row := by
      rw [hrun, List.drop_eq_nil_of_le (by have := hwi.length; simp; omega), runV, List.append_nil]
    exact hret _ items c _ _ tb' htb' (by rw [e]; exact hit') (by k_asm) (by k_asm)
  case step =>
    intro I i v m' news' h tk it l1 hi hv hok hJ F N off
    obtain ⟨D, c, items, a, row, tb', t1, t2', t3', e1, e2, e3, e4, hit', hrl, hrun, ha0, hale, htb', rfl⟩ := hJ.go
    have hiW : i < W.length := by have := hwi.length; simp at hi; omega
    obtain ⟨wy, tw, hv2, hwye⟩ := intsAre_at hwi i (by simpa using hi)
    obtain rfl : v = .int wy tw := by
      have hv3 : wvs[i]? = some v := by simpa using hv
      rw [hv2] at hv3; exact (Option.some.inj hv3).symm
    clear hv hv2
    have hwy : wy = 1 ∨ wy = -1 := hW _ (List.mem_of_getElem? hwye)
    have hI := tabs_lt htb (fun p hp => l1 p (List.mem_cons_of_mem _ (List.mem_append_right _ hp)))
    have hov' : Over ((I, it) :: (D, PySem.W.listOf items.toArray c) :: rest) := by
      intro p hp
      rcases List.mem_cons.mp hp with rfl | hp
      · exact hI
      rcases List.mem_cons.mp hp with rfl | hp
      · exact off_tab htb' N (fun p hp => List.mem_cons_of_mem _ (List.mem_cons_of_mem _ (List.mem_append_right _ hp))) (List.mem_cons_of_mem _ List.mem_cons_self) (by intro vs e; cases e)
      · exact hov p hp
    have offR : ∀ p ∈ rest, p.1 ≠ I := fun p hp => off p (List.mem_cons_of_mem _ (List.mem_append_left _ hp))
    by_cases hza0 : a = 0
    · subst hza0
      have z1 : Sz sg 1 := sz_unit hsg
      have z2 : Sz wy 1 := sz_unit hwy
      have z3 : Sz 0 1000 := Nat.lt_of_le_of_lt (Nat.zero_le _) hza
      have z4 : Sz (sg * wy) 1 := sz_unit (by rcases hsg with rfl | rfl <;> rcases hwy with rfl | rfl <;> simp)
      have hrow : runV W a₀ b = row := by rw [hrun, runV_zero, List.append_nil]
      k_with "mycdv" => ((rw [Int.mul_zero]); refine wpAny_call ?_; k_dflt (refine' code_def ?k1 ?k2 ?k3 ?k4 ?k5 ?kA ?kF ?kK ?k6 ?k7 ?k8 ?k9 ?kB ?_ ?c2 ?c3 ?c4 ?c5; (case kA => exact rfl); (case kF => exact rfl); (case kK => exact rfl); (case k1 => k_asm); (case k2 => k_asm); (case k3 => k_asm); (case k4 => k_asm); (case k5 => k_asm); (case k6 => k_is); (case k7 => k_is); (case k8 => ktr_room); (case k9 => exact BindsTo.of_eq rfl); (case c5 => decide); (case kB => exact locs rfl); (case c2 => exact rfl); (case c3 => exact rfl); (case c4 => exact rfl); k_whole; intro g2 L2 h2 FG2 F2 N2 B2 X2 T2; (try dsimp only); (try k_fold)))
      k_with "myraise" => (k_dflt (refine' Raise_classB ?hh excClass_ZeroDivisionError ?hs ?hx ?_; (case hh => rfl); (case hs => (rw [isSubtype_type]; kernel_rfl)); (case hx => (refine' name_B F2 ?n1 ?n2 ?n3 ?n4 ?n5 ?_; (case n1 => k_asm); (case n2 => k_asm); (case n3 => k_is); (case n4 => exact PyProof.Rows.Boot.«ZeroDivisionError»); (case n5 => decide); exact ⟨rfl, rfl⟩))); intro h3 e3 x3)
      (try dsimp only)
      k_steps
      refine Stop.mk ?_
      refine leave_newS B2 x3 F2 N2 fun h4 R4 _ U4 => ?_
      dsimp only
      refine caught_SN0 (T' := "ZeroDivisionError") R4 FG2 B' U4 X T D' .refl ?ex PyProof.Rows.Boot.«ZeroDivisionError» (by decide) PySem.F.isExc_ZeroDivisionError PySem.F.notTuple_ZeroDivisionError (by rw [isSubtype_type]; kernel_rfl) ?_
      case ex => k_is
      intro h5 g5 T5 F5 N5 B5 X5 P5 D5
      clear F2 N2 B2 X2 T2 x3 R4 U4 FG2
      clear B' X' T'
      (try dsimp only)
      k_steps
      exact hret _ _ _ _ _ tb' htb' (by rw [hrow]; exact hit') (by assumption) (fun p hp => (by assumption : News h₀ L _ ((I, it) :: (D, PySem.W.listOf items.toArray c) :: (rest ++ tb'))) p (List.mem_cons_of_mem _ hp))
    · have hapos : 0 < a := by omega
      have hne : sg * wy * a ≠ 0 := by rcases hsg with rfl | rfl <;> rcases hwy with rfl | rfl <;> omega
      have hne2 : wy * a ≠ 0 := by rcases hwy with rfl | rfl <;> omega
      have z1 : Sz sg 1 := sz_unit hsg
      have z2 : Sz wy 1 := sz_unit hwy
      have z3 : Sz a 1000 := Nat.lt_of_le_of_lt (show a.natAbs ≤ a₀.natAbs by omega) hza
      have z4 : Sz (sg * wy) 1 := sz_unit (by rcases hsg with rfl | rfl <;> rcases hwy with rfl | rfl <;> simp)
      have z5 : Sz (b.fdiv (wy * a)) 1000 := Nat.lt_of_le_of_lt (fdiv_abs b _ hne2) hzb
      have hr := rem_step (b := b) hwy hapos
      have z6 : Sz (sg * b.fmod (wy * a)) 1000 := by
        refine Nat.lt_of_le_of_lt ?_ z3
        rw [abs_mul hsg, ← abs_mul hwy]; omega
      have hCd : CtDiv w 56 (sg * b) (sg * wy * a) (b.fdiv (wy * a)) (sg * b.fmod (wy * a)) 130 1060 := by
        rw [← fd_sg hsg b wy a, ← fm_sg hsg b wy a]
        refine idiv_ct w _ _ hne ?_ ?_
        · have := bits_of_sz (x := sg * b) (k := 1000) (by unfold Sz; rw [abs_mul hsg]; exact hzb); omega
        · have := bits_of_sz (x := sg * wy * a) (k := 1000) (by unfold Sz; rw [Int.mul_assoc, abs_mul hsg, abs_mul hwy]; exact z3); omega
      replace hr := Stop.mk hr
      (try dsimp only)
      k_steps
      have hq := ‹IntsAre _ (row ++ [wy * b.fdiv (wy * a)])›
      refine' Stop.mk (forEnd_of rfl (by k_asm) (by k_asm) ?zJ ?zs ?zn ?zo)
      case zJ => exact ⟨_, 0, _, _, row ++ [wy * b.fdiv (wy * a)], tbs', _, _, _, rfl, rfl, e3, e4, hq, by simp [hrl], by rw [sgwy hsg]; exact run_turn hrun hwye hza0, by rw [sgwy hsg]; exact hr.go.1, by rw [sgwy hsg]; have := hr.go.2.1; omega, htbs', rfl⟩
      case zs =>
        intro p hp
        simp only [List.mem_cons, List.mem_append, List.cons_append] at hp ⊢
        rcases hp with hp | hp | hp | hp <;> simp only [hp, true_or, or_true]
      case zn => exact Nat.ne_of_gt ((by assumption : ∀ (p : Addr × Obj), p ∈ _ → p.1 < _) (I, it) (by k_mem))
      case zo =>
        intro p hp
        rcases List.mem_append.mp hp with hp | hp
        · exact offR p hp
        · refine tabs_offJ htbs' (by assumption) (it := it) (by k_mem) hok (fun p hp => ?_) hI.1 hI.2 p hp
          simp only [List.mem_cons, List.mem_append, List.cons_append] at hp ⊢
          simp only [hp, true_or, or_true]

end
section
/-- how much the k-th number is to be above the one ahead -/
noncomputable def riseV (W : List Int) (k many : Nat) : Int := (if W.getD (k - 1) 0 = 1 then 2 else 0) - (if W.getD k 0 = 1 ∧ k + 1 < many then 1 else 0)
theorem intsAre_get {vs : List Value} {xs : List Int} (h : IntsAre vs xs) {i : Nat} {x : Int} (hx : xs[i]? = some x) : ∃ t, vs[i]? = some (.int x t) := by
  have hl : i < vs.length := by rw [h.length]; exact (List.getElem?_eq_some_iff.mp hx).1
  obtain ⟨y, t, e, e2⟩ := intsAre_at h i hl
  rw [hx] at e2; cases e2; exact ⟨t, e⟩
theorem q_of {Q : Value → Shared → Prop} {a b : Int} {t : Tok} {s : Shared} (e : a = b) (h : Q (.int a t) s) : Q (.int b t) s := e ▸ h
set_option maxHeartbeats 8000000 in
theorem rise_ct (w : World) (W : List Int) (k many : Nat) (x y : Int) (hx : W[k - 1]? = some x) (hy : W[k]? = some y) (h1 : 1 ≤ k) (hk64 : k < 64) (hm64 : many < 64) (p : Program) (loose : List Str) (mean : ExcName → Option Value) (mg mb : Str → Option Value)
    (dp un : Nat) (gd : Option (List Code)) (cn : Str) (cs : Scope) (ad : Addr) (ccd : Value) (cl : List (Str × Addr)) (outer : List Env) (A₀ : Around) (base h₀ : Heap) (L : Addr) (m : Str → Option Value) (news : Led) (s : Shared)
    (Q E : Value → Shared → Prop) (t1 t2 : Tok) (wA : Addr) (wvs : List Value) (wc : Nat)
    (B : Below A₀ base outer h₀) (F : Fr h₀ L s.heap m) (X : (_root_.hd.heap_39 w.params).In h₀) (N : News h₀ L s.heap news) (T : Top p loose mean mg mb h₀) (hkf : cs.kind = .function)
    (hwm : (wA, listOf wvs.toArray wc) ∈ news) (hwi : IntsAre wvs W) (hroom : dp + 100 < recursionLimit) (hunits : un + 200 < cLine)
    (hret : ∀ t h' tk', Fr h₀ L h' m → News h₀ L h' news → Q (.int (riseV W k many) t) { s with heap := h', toks := tk' }) :
    wpAny (model PySem.Challenge.rw_ta0142_01.row.prog w) (ktrTop dp un gd cn cs L ad ccd cl outer) (call (.ref 70) [.ref wA, .int (k : Nat) t1, .int (many : Nat) t2]) Q E s := by
  revert X N T
  k_fill
  w_top off
  k_with_none
  k_with "subscriptTail Name BinOp ref int" => ((k_here; k_extra "mysb"))
  k_with "subscriptTail Name Name ref int" => ((k_here; k_extra "mysn"))
  intro X N T
  have e1 : (((k : Nat) : Int) - 1).toNat = k - 1 := by omega
  obtain ⟨tx, hxv⟩ := intsAre_get hwi hx
  obtain ⟨ty, hyv⟩ := intsAre_get hwi hy
  have eR : riseV W k many = (if x = 1 then 2 else 0) - (if y = 1 ∧ k + 1 < many then 1 else 0) := by
    unfold riseV; rw [List.getD_eq_getElem?_getD, List.getD_eq_getElem?_getD, hx, hy]; rfl
  refine wpAny_call ?_
  k_dflt ktr_enter
  k_with_none
  k_with "subscriptTail Name BinOp ref int" => ((k_here; k_extra "mysb"))
  k_with "subscriptTail Name Name ref int" => ((k_here; k_extra "mysn"))
  k_with "mysb" => (refine my_item (by k_asm) hwm (k := ((k : Nat) : Int) - 1) (by simp only [Bool.and_eq_true, decide_eq_true_eq]; omega) (x := .int x tx) (by rw [e1]; exact hxv) ?_ (by with_unfolding_all rfl))
  k_with "mysn" => (refine my_item (by k_asm) hwm (k := ((k : Nat) : Int)) (by simp only [Bool.and_eq_true, decide_eq_true_eq]; omega) (x := .int y ty) (by exact hyv) ?_ (by with_unfolding_all rfl))
  k_steps
  all_goals (refine q_of (a := riseV W k many) ?_ (hret _ _ _ (by k_asm) (by k_asm)); rw [eR]; grind)

end
section

/-- a row, nested from its end -/
noncomputable def nestP : List Int → List Int → Int × Int
  | [], _ => (0, 1)
  | q :: qs, W => ((nestP qs (W.drop 1)).2 - W.getD 0 0 * (nestP qs (W.drop 1)).1, (nestP qs (W.drop 1)).2 * q)
theorem nestP_cons (q : Int) (qs W : List Int) : nestP (q :: qs) W = ((nestP qs (W.drop 1)).2 - W.getD 0 0 * (nestP qs (W.drop 1)).1, (nestP qs (W.drop 1)).2 * q) := rfl
structure NestSt (row W : List Int) (wA rA : Addr) (news₀ : Led) (i : Nat) (m : Str → Option Value) (news : Led) : Prop where
  go : ∃ t1 t2, m (Str.ofString "above") = some (.int (nestP (row.drop (row.length - i)) (W.drop (row.length - i))).1 t1) ∧ m (Str.ofString "below") = some (.int (nestP (row.drop (row.length - i)) (W.drop (row.length - i))).2 t2) ∧
    m (Str.ofString "ways") = some (.ref wA) ∧ m (Str.ofString "row") = some (.ref rA) ∧ news = news₀
section
variable {prog : Program} {w : World} {A : Around} {E : Value → Shared → Prop} {s : Shared} {h₀ : Heap} {L : Addr} {m : Str → Option Value} {env : Env} {news : Led}
theorem my_lenI {l : Addr} {vs : List Value} {c n : Nat} {Q : Value → Shared → Prop} (N : News h₀ L s.heap news) (hm : (l, listOf vs.toArray c) ∈ news) (hn : vs.length = n) (hz : n < 1000)
    (h : Q (.int (n : Int) (s.toks + 1)) { s with toks := s.toks + 1 + 1 }) : wpAny (model prog w) A (call (.builtin "len") [.ref l]) Q E s := by
  have hl : s.heap.IsList l vs.toArray := ⟨_, (N _ hm).1, rfl, c, rfl⟩
  have e : vs.toArray.size = n := by rw [List.size_toArray, hn]
  exact len_list hl (by rw [e]; omega) (by rw [e]; exact h)
end
theorem nest_sz {W : List Int} (hW : ∀ x ∈ W, x = 1 ∨ x = -1) : ∀ {row : List Int}, (∀ x ∈ row, Sz x 100) → Sz (nestP row W).1 (101 * row.length + 1) ∧ Sz (nestP row W).2 (101 * row.length + 1) := by
  intro row
  induction row generalizing W with
  | nil => intro _; unfold nestP Sz; decide
  | cons q qs ih =>
    intro hq
    obtain ⟨i1, i2⟩ := ih (W := W.drop 1) (fun x hx => hW x (List.mem_of_mem_drop hx)) (fun x hx => hq x (List.mem_cons_of_mem _ hx))
    have zw : (W.getD 0 0 * (nestP qs (W.drop 1)).1).natAbs ≤ (nestP qs (W.drop 1)).1.natAbs := by
      cases W with
      | nil => simp
      | cons w ws => rcases hW w List.mem_cons_self with rfl | rfl <;> simp
    rw [nestP_cons]
    exact ⟨(i2.sub (i1.of_le zw)).mono (by simp only [List.length_cons]; omega), (i2.mul (hq q List.mem_cons_self)).mono (by simp only [List.length_cons]; omega)⟩
theorem forEnd_gen {h₀ : Heap} {L I : Addr} {it : Obj} {s₁ s₂ : Shared} {h' : Heap} {tk : Nat} {m' : Str → Option Value} {all R : Led} {J : (Str → Option Value) → Led → Prop} (hs : s₂ = { s₁ with heap := h', toks := tk }) (F : Fr h₀ L h' m') (N : News h₀ L h' all) (hJ : J m' R)
    (sub : ∀ p ∈ (I, it) :: R, p ∈ all) (off : ∀ p ∈ R, p.1 ≠ I) : ForEnd h₀ L s₁ I it J s₂ :=
  ⟨h', tk, m', _, hs, F, fun p hp => N p (sub p hp), off, hJ⟩
theorem nest_step {row W : List Int} {i : Nat} {x y : Int} (hi : i < row.length) (hx : row[row.length - 1 - i]? = some x) (hy : W[row.length - 1 - i]? = some y) :
    nestP (row.drop (row.length - (i + 1))) (W.drop (row.length - (i + 1))) = ((nestP (row.drop (row.length - i)) (W.drop (row.length - i))).2 - y * (nestP (row.drop (row.length - i)) (W.drop (row.length - i))).1, (nestP (row.drop (row.length - i)) (W.drop (row.length - i))).2 * x) := by
  have e : row.length - (i + 1) = row.length - 1 - i := by rw [Nat.sub_sub, Nat.add_comm 1 i]
  have e2 : row.length - i = row.length - 1 - i + 1 := by rw [Nat.sub_sub, Nat.add_comm 1 i, ← Nat.sub_sub, Nat.sub_add_cancel (Nat.sub_pos_of_lt hi)]
  obtain ⟨h1, e3⟩ := List.getElem?_eq_some_iff.mp hx
  rw [e, List.drop_eq_getElem_cons h1, e3, ← e2, nestP_cons]
  rw [List.drop_drop, List.getD_eq_getElem?_getD, List.getElem?_drop, ← e2]
  simp only [Nat.add_zero, hy, Option.getD_some]
theorem rsizeD : ∀ n : Fin 41, Builtin.Range.small (((n.val : Nat) : Int) - 1) (-1) (-1) = true ∧ Builtin.Range.rangeSize (((n.val : Nat) : Int) - 1) (-1) (-1) = ((n.val : Nat) : Int) := by decide
set_option maxHeartbeats 8000000 in
theorem nested_ct (w : World) (row W : List Int) (hW : ∀ x ∈ W, x = 1 ∨ x = -1) (hrow : ∀ x ∈ row, Sz x 100) (hrl : row.length ≤ W.length) (hr40 : row.length ≤ 40) (p : Program) (loose : List Str) (mean : ExcName → Option Value) (mg mb : Str → Option Value)
    (dp un : Nat) (gd : Option (List Code)) (cn : Str) (cs : Scope) (ad : Addr) (ccd : Value) (cl : List (Str × Addr)) (outer : List Env) (A₀ : Around) (base h₀ : Heap) (L : Addr) (m : Str → Option Value) (news : Led) (s : Shared)
    (Q E : Value → Shared → Prop) (wA rA : Addr) (wvs rvs : List Value) (wc rc : Nat)
    (B : Below A₀ base outer h₀) (F : Fr h₀ L s.heap m) (X : (_root_.hd.heap_39 w.params).In h₀) (N : News h₀ L s.heap news) (T : Top p loose mean mg mb h₀) (hkf : cs.kind = .function)
    (hwm : (wA, listOf wvs.toArray wc) ∈ news) (hwi : IntsAre wvs W) (hrm : (rA, listOf rvs.toArray rc) ∈ news) (hri : IntsAre rvs row) (hroom : dp + 100 < recursionLimit) (hunits : un + 200 < cLine)
    (hret : ∀ D t1 t2 c h' tk', Fr h₀ L h' m → News h₀ L h' ((D, ({ cls := .type "tuple", data := .seq #[.int (nestP row W).1 t1, .int (nestP row W).2 t2] c } : Obj)) :: news) → Q (.ref D) { s with heap := h', toks := tk' }) :
    wpAny (model PySem.Challenge.rw_ta0142_01.row.prog w) (ktrTop dp un gd cn cs L ad ccd cl outer) (call (.ref 84) [.ref rA, .ref wA]) Q E s := by
  revert X N T
  k_fill
  w_top off
  k_with_none
  k_with "subscriptTail Name Name ref int" => ((k_here; k_extra "mysn"))
  k_with "exec For Name Call cons nil" => ((k_extra "myfor"))
  k_with "call builtin:len" => ((k_here; k_extra "mylen"))
  k_with "ForPost" => ((refine Stop.go ?_))
  k_with "binaryOp Mult int int" => ((with_reducible refine mul_int ?_ (mul_ok (by assumption) (by assumption) (by decide))))
  k_with "eval Name" => ((k_here; k_dflt (refine' nameX_L ?zqzF ?zqzv ?_ ?zqza ?zqzb; (case zqzF => k_asm); (case zqza => rfl); (case zqzb => rfl); (case zqzv => first | rfl | assumption); k_whole)))
  intro X N T
  refine wpAny_call ?_
  k_dflt ktr_enter
  k_with_none
  k_with "subscriptTail Name Name ref int" => ((k_here; k_extra "mysn"))
  k_with "exec For Name Call cons nil" => ((k_extra "myfor"))
  k_with "call builtin:len" => ((k_here; k_extra "mylen"))
  k_with "ForPost" => ((refine Stop.go ?_))
  k_with "binaryOp Mult int int" => ((with_reducible refine mul_int ?_ (mul_ok (by assumption) (by assumption) (by decide))))
  k_with "eval Name" => ((k_here; k_dflt (refine' nameX_L ?zqzF ?zqzv ?_ ?zqza ?zqzb; (case zqzF => k_asm); (case zqza => rfl); (case zqzb => rfl); (case zqzv => first | rfl | assumption); k_whole)))
  k_with "mylen" => (k_dflt (refine my_lenI (n := row.length) (by k_asm) (by k_mem) (by rw [hri.length]) (by omega) ?_))
  k_with "myfor" => (k_dflt (refine forStep rfl (fun _ _ _ _ _ h => wpAny_pure h) ?_ (F₀ := by k_asm)))
  k_steps
  have hrz := rsizeD ⟨row.length, by omega⟩
  refine Stop.mk ⟨_, ((row.length : Nat) : Int) - 1, -1, -1, _, _, _, row.length, _, news, NestSt row W wA rA news, rfl, by assumption, hrz.1, hrz.2, by k_asm, fun p hp => (by k_asm : News _ _ _ (_ :: news)) p (List.mem_cons_of_mem _ hp), ?j0, ?step, ?fin⟩
  case j0 => exact ⟨_, _, by rw [Nat.sub_zero, List.drop_length]; rfl, by rw [Nat.sub_zero, List.drop_length]; rfl, rfl, rfl, rfl⟩
  case fin =>
    intro m news' h tk hJ F N
    obtain ⟨t1, t2, e1, e2, e3, e4, rfl⟩ := hJ.go
    simp only [Nat.sub_self, List.drop_zero] at e1 e2
    (try dsimp only)
    k_steps
    exact hret _ _ _ _ _ _ (by k_asm) (by k_asm)
  case step =>
    intro I i m' news' t h tk it l1 hi hok hJ F N off
    obtain ⟨t1, t2, e1, e2, e3, e4, rfl⟩ := hJ.go
    obtain ⟨k, hk⟩ : ∃ k, k = row.length - 1 - i := ⟨_, rfl⟩
    have hkl : k < row.length := by omega
    have hk40 : k < 40 := by omega
    have ek : ((row.length : Nat) : Int) - 1 + ((i : Nat) : Int) * (-1) = ((k : Nat) : Int) := by omega
    rw [ek]
    obtain ⟨x, hx⟩ : ∃ x, row[k]? = some x := ⟨_, List.getElem?_eq_getElem hkl⟩
    obtain ⟨y, hy⟩ : ∃ y, W[k]? = some y := ⟨_, List.getElem?_eq_getElem (by omega)⟩
    have zx : Sz x 100 := hrow _ (List.mem_of_getElem? hx)
    have zy : Sz y 1 := sz_unit (hW _ (List.mem_of_getElem? hy))
    have hns := nest_step hi (by rw [← hk]; exact hx) (by rw [← hk]; exact hy)
    obtain ⟨tx, hxv⟩ := intsAre_get hri hx
    obtain ⟨ty, hyv⟩ := intsAre_get hwi hy
    have zz := nest_sz (W := W.drop (row.length - i)) (row := row.drop (row.length - i)) (fun x hx => hW x (List.mem_of_mem_drop hx)) (fun x hx => hrow x (List.mem_of_mem_drop hx))
    rw [List.length_drop] at zz
    generalize hpr : nestP (row.drop (row.length - i)) (W.drop (row.length - i)) = pr at hns e1 e2 zz
    have z1 : Sz pr.1 5000 := zz.1.mono (by omega)
    have z2 : Sz pr.2 5000 := zz.2.mono (by omega)
    clear zz
    k_with "mysn" => (k_dflt (refine my_item (by k_asm) (by k_mem) (k := ((k : Nat) : Int)) (by simp only [Bool.and_eq_true, decide_eq_true_eq]; omega) (x := .int y ty) (by exact hyv) ?_ (by with_unfolding_all rfl)))
    k_with "mysn" => (k_dflt (refine my_item (by k_asm) (by k_mem) (k := ((k : Nat) : Int)) (by simp only [Bool.and_eq_true, decide_eq_true_eq]; omega) (x := .int x tx) (by exact hxv) ?_ (by with_unfolding_all rfl)))
    (try dsimp only)
    k_steps
    refine' Stop.mk (forEnd_gen rfl (by k_asm) (by k_asm) (R := news') ?zJ ?zs off)
    case zJ => exact ⟨_, _, by simp only [hns]; rfl, by simp only [hns]; rfl, e3, e4, rfl⟩
    case zs =>
      intro p hp
      simp only [List.mem_cons, List.mem_append, List.cons_append] at hp ⊢
      rcases hp with hp | hp <;> simp only [hp, true_or, or_true]

end
section

/-- the next number of the other row -/
noncomputable def nextV (W : List Int) (many : Nat) (row : List Int) (num : Int) : Int := num.fmod 6 + (if row.length = 0 then 2 else row.getD (row.length - 1) 0 + riseV W row.length many)
noncomputable def otherV (W : List Int) (many : Nat) : Nat → List Int → Int → List Int
  | 0, row, _ => row
  | n + 1, row, num => otherV W many n (row ++ [nextV W many row num]) (num.fdiv 6)
structure OthSt (W : List Int) (many : Nat) (row₀ : List Int) (num₀ : Int) (wA : Addr) (rest : Led) (i : Nat) (m : Str → Option Value) (news : Led) : Prop where
  go : ∃ D c items row num t1 t2, m (Str.ofString "row") = some (.ref D) ∧ m (Str.ofString "number") = some (.int num t1) ∧ m (Str.ofString "many") = some (.int (many : Nat) t2) ∧ m (Str.ofString "ways") = some (.ref wA) ∧
    IntsAre items row ∧ row.length = row₀.length + i ∧ otherV W many (many - row₀.length) row₀ num₀ = otherV W many (many - row.length) row num ∧ news = (D, listOf items.toArray c) :: rest
theorem rsizeU : ∀ a b : Fin 24, a.val ≤ b.val → Builtin.Range.small ((a.val : Nat) : Int) ((b.val : Nat) : Int) 1 = true ∧ Builtin.Range.rangeSize ((a.val : Nat) : Int) ((b.val : Nat) : Int) 1 = ((b.val - a.val : Nat) : Int) := by decide
theorem other_step {W r : List Int} {many : Nat} {nm z : Int} (h : r.length < many) (hz : z = nextV W many r nm) : otherV W many (many - r.length) r nm = otherV W many (many - (r ++ [z]).length) (r ++ [z]) (nm.fdiv 6) := by
  rw [List.length_append, show many - r.length = many - (r.length + [z].length) + 1 by rw [show [z].length = 1 from rfl, ← Nat.sub_sub, Nat.sub_add_cancel (Nat.sub_pos_of_lt h)], otherV, hz]
set_option maxHeartbeats 8000000 in
theorem other_ct (w : World) (row W : List Int) (many : Nat) (num : Int) (hrl : row.length ≤ many) (hmW : many ≤ W.length) (hm20 : many ≤ 20) (p : Program) (loose : List Str) (mean : ExcName → Option Value) (mg mb : Str → Option Value)
    (dp un : Nat) (gd : Option (List Code)) (cn : Str) (cs : Scope) (ad : Addr) (ccd : Value) (cl : List (Str × Addr)) (outer : List Env) (A₀ : Around) (base h₀ : Heap) (L : Addr) (m : Str → Option Value) (news : Led) (s : Shared)
    (Q E : Value → Shared → Prop) (tm tn : Tok) (wA rA : Addr) (wvs rvs : List Value) (wc rc : Nat)
    (B : Below A₀ base outer h₀) (F : Fr h₀ L s.heap m) (X : (_root_.hd.heap_39 w.params).In h₀) (N : News h₀ L s.heap news) (T : Top p loose mean mg mb h₀) (hkf : cs.kind = .function)
    (hwm : (wA, listOf wvs.toArray wc) ∈ news) (hwi : IntsAre wvs W) (hrm : (rA, listOf rvs.toArray rc) ∈ news) (hri : IntsAre rvs row) (hroom : dp + 120 < recursionLimit) (hunits : un + 400 < cLine)
    (hret : ∀ D items c h' tk', IntsAre items (otherV W many (many - row.length) row num) → Fr h₀ L h' m → News h₀ L h' ((D, listOf items.toArray c) :: news) → Q (.ref D) { s with heap := h', toks := tk' }) :
    wpAny (model PySem.Challenge.rw_ta0142_01.row.prog w) (ktrTop dp un gd cn cs L ad ccd cl outer) (call (.ref 77) [.ref rA, .int (many : Nat) tm, .int num tn, .ref wA]) Q E s := by
  revert X N T
  k_fill
  w_top off
  k_with_none
  k_with "subscriptTail Name BinOp ref int" => ((k_here; k_extra "mysb"))
  k_with "exec For Name Call cons nil" => ((k_extra "myfor"))
  k_with "call builtin:len" => ((k_here; k_extra "mylen"))
  k_with "call ref" => ((k_here; k_extra "mycall"))
  k_with "ForPost" => ((refine Stop.go ?_))
  k_with "loadName" => ((k_here; k_dflt (refine ldn (by k_asm) (by first | rfl | assumption) ?_)))
  k_with "eval Name" => ((k_here; k_dflt (refine' nameX_L ?zqzF ?zqzv ?_ ?zqza ?zqzb; (case zqzF => k_asm); (case zqza => rfl); (case zqzb => rfl); (case zqzv => first | rfl | assumption); k_whole)))
  intro X N T
  refine wpAny_call ?_
  k_dflt ktr_enter
  k_with_none
  k_with "subscriptTail Name BinOp ref int" => ((k_here; k_extra "mysb"))
  k_with "exec For Name Call cons nil" => ((k_extra "myfor"))
  k_with "call builtin:len" => ((k_here; k_extra "mylen"))
  k_with "call ref" => ((k_here; k_extra "mycall"))
  k_with "ForPost" => ((refine Stop.go ?_))
  k_with "loadName" => ((k_here; k_dflt (refine ldn (by k_asm) (by first | rfl | assumption) ?_)))
  k_with "eval Name" => ((k_here; k_dflt (refine' nameX_L ?zqzF ?zqzv ?_ ?zqza ?zqzb; (case zqzF => k_asm); (case zqza => rfl); (case zqzb => rfl); (case zqzv => first | rfl | assumption); k_whole)))
  k_with "mylen" => (k_dflt (refine my_lenI (n := row.length) (by k_asm) (by k_mem) (by rw [hri.length]) (by omega) ?_))
  k_with "myfor" => (k_dflt (refine forStep rfl (fun _ _ _ _ _ h => wpAny_pure h) ?_ (F₀ := by k_asm)))
  k_steps
  have hrz := rsizeU ⟨row.length, by omega⟩ ⟨many, by omega⟩ hrl
  refine Stop.mk ⟨_, ((row.length : Nat) : Int), ((many : Nat) : Int), 1, _, _, _, many - row.length, _, (rA, listOf rvs.toArray rc) :: news, OthSt W many row num wA news, rfl, by assumption, hrz.1, hrz.2, by k_asm, fun p hp => (by k_asm : News _ _ _ news) p ?n0, ?j0, ?step, ?fin⟩
  case n0 =>
    rcases List.mem_cons.mp hp with rfl | hp
    · exact hrm
    · exact hp
  case j0 => exact ⟨_, _, _, _, _, _, _, rfl, rfl, rfl, rfl, hri, rfl, rfl, rfl⟩
  case fin =>
    intro m news' h tk hJ F N
    obtain ⟨D, c, items, r, nm, t1, t2, e1, e2, e3, e4, hit, hl, ho, rfl⟩ := hJ.go
    (try dsimp only)
    k_steps
    have e : otherV W many (many - row.length) row num = r := by rw [ho, show many - r.length = 0 by omega]; rfl
    exact hret _ _ _ _ _ (by rw [e]; exact hit) (by k_asm) (by k_asm)
  case step =>
    intro I i m' news' t h tk it l1 hi hok hJ F N off
    obtain ⟨D, c, items, r, nm, t1, t2, e1, e2, e3, e4, hit, hl, ho, rfl⟩ := hJ.go
    obtain ⟨k, hk⟩ : ∃ k, k = r.length := ⟨_, rfl⟩
    have ek : ((row.length : Nat) : Int) + ((i : Nat) : Int) * 1 = ((k : Nat) : Int) := by omega
    rw [ek]
    have hkm : k < many := by omega
    (try dsimp only)
    have hprev : k ≠ 0 → ∃ v tv, items[k - 1]? = some (.int v tv) ∧ r[k - 1]? = some v := fun h0 => by
      obtain ⟨v, tv, h1, h2⟩ := intsAre_at hit (k - 1) (by rw [hit.length]; omega)
      exact ⟨v, tv, h1, h2⟩
    obtain ⟨y, hy⟩ : ∃ y, W[k]? = some y := ⟨_, List.getElem?_eq_getElem (by omega)⟩
    obtain ⟨x, hx⟩ : ∃ x, W[k - 1]? = some x := ⟨_, List.getElem?_eq_getElem (by omega)⟩
    k_with "mysb" => (obtain ⟨v, tv, hv2, hv1⟩ := hprev (by omega); k_dflt (refine my_item (by k_asm) (by k_mem) (k := ((k : Nat) : Int) - 1) (by simp only [Bool.and_eq_true, decide_eq_true_eq]; omega) (x := .int v tv) (by rw [show (((k : Nat) : Int) - 1).toNat = k - 1 by omega]; exact hv2) ?_ (by with_unfolding_all rfl)))
    k_with "mycall" => (k_dflt (refine rise_ct w W k many x y hx hy (by omega) (by omega) (by omega) _ _ _ _ _ _ _ _ _ _ _ _ _ _ _ _ _ _ _ _ _ _ _ _ _ _ _ _ (by k_asm) (by k_asm) (by k_asm) (by k_asm) (by k_asm) (by exact rfl) (by k_mem) hwi (by ktr_room) (by ktr_units) ?_); intro t5 h5 tk5 F5 N5; (try dsimp only); (try k_fold))
    k_steps
    all_goals (
      have hq := ‹IntsAre _ (r ++ [_])›
      refine' Stop.mk (forEnd_of rfl (by k_asm) (by k_asm) ?zJ ?zs ?zn ?zo)
      case zJ => exact ⟨_, 0, _, _, _, _, _, rfl, rfl, e3, e4, hq, by rw [List.length_append, hl]; rfl, by
        rw [ho]; refine other_step (by omega) ?_
        unfold nextV
        first
        | (rw [if_pos (by omega)])
        | (rw [if_neg (by omega), ← hk, List.getD_eq_getElem?_getD, (by assumption : r[k - 1]? = some _)]; rfl), rfl⟩
      case zn => exact Nat.ne_of_gt ((by assumption : ∀ (p : Addr × Obj), p ∈ _ → p.1 < _) (I, it) (by k_mem))
      case zs =>
        intro p hp
        simp only [List.mem_cons, List.mem_append, List.cons_append] at hp ⊢
        rcases hp with hp | hp | hp <;> simp only [hp, true_or, or_true]
      case zo => exact fun p hp => off p (List.mem_cons_of_mem _ hp))

end
open PySem PySem.W PyProof.Rows
/-! the plain law: rows and fractions -/
section
theorem div_unique {w a b q R : Int} (hw : w = 1 ∨ w = -1) (ha : 0 < a) (h : b = q * a + w * R) (h0 : 0 ≤ R) (h1 : R < a) : w * b.fdiv (w * a) = q ∧ w * b.fmod (w * a) = R := by
  obtain ⟨r0, r1, e⟩ := rem_step (b := b) hw ha
  generalize w * b.fmod (w * a) = R' at *
  generalize w * b.fdiv (w * a) = q' at *
  have e2 : (q - q') * a = w * (R' - R) := by
    rcases hw with rfl | rfl <;> grind
  have e3 : q = q' := by
    rcases hw with rfl | rfl
    · have l1 : (q - q') * a < 1 * a := by omega
      have l2 : (-1) * a < (q - q') * a := by omega
      have := Int.lt_of_mul_lt_mul_right l1 (by omega)
      have := Int.lt_of_mul_lt_mul_right l2 (by omega)
      omega
    · have l1 : (q - q') * a < 1 * a := by omega
      have l2 : (-1) * a < (q - q') * a := by omega
      have := Int.lt_of_mul_lt_mul_right l1 (by omega)
      have := Int.lt_of_mul_lt_mul_right l2 (by omega)
      omega
  subst e3
  refine ⟨rfl, ?_⟩
  rw [Int.sub_self, Int.zero_mul] at e2
  rcases hw with rfl | rfl <;> omega
/-- one step, as facts -/
theorem run_facts {w a b : Int} (hw : w = 1 ∨ w = -1) (ha : 0 < a) : ∃ q R, w * b.fdiv (w * a) = q ∧ w * b.fmod (w * a) = R ∧ b = q * a + w * R ∧ 0 ≤ R ∧ R < a := by
  obtain ⟨r0, r1, e⟩ := rem_step (b := b) hw ha
  refine ⟨_, _, rfl, rfl, ?_, r0, r1⟩
  generalize w * b.fmod (w * a) = R' at *
  generalize w * b.fdiv (w * a) = q' at *
  rcases hw with rfl | rfl <;> grind
theorem run_scale {c : Int} (hc : 0 < c) : ∀ {W : List Int} {a b : Int}, (∀ x ∈ W, x = 1 ∨ x = -1) → 0 ≤ a → runV W (c * a) (c * b) = runV W a b := by
  intro W
  induction W with
  | nil => intros; rfl
  | cons w W ih =>
    intro a b hW ha
    by_cases h0 : a = 0
    · subst h0; rw [Int.mul_zero, runV_zero, runV_zero]
    · have hw := hW w List.mem_cons_self
      obtain ⟨q, R, e1, e2, e3, h1, h2⟩ := run_facts (b := b) hw (show 0 < a by omega)
      have hca : 0 < c * a := Int.mul_pos hc (by omega)
      have l1 : 0 ≤ c * R := Int.mul_nonneg (by omega) h1
      have l2 : c * R < c * a := Int.mul_lt_mul_of_pos_left h2 hc
      obtain ⟨f1, f2⟩ := div_unique (b := c * b) (q := q) (R := c * R) hw hca (by rw [e3]; grind) l1 l2
      rw [runV_cons h0, runV_cons (by omega), f1, f2, e1, e2, ih (fun x hx => hW x (List.mem_cons_of_mem _ hx)) h1]
/-- a row that rises as the ways want -/
noncomputable def Adm : Int → List Int → List Int → Prop
  | _, _, [] => True
  | _, [], _ :: _ => False
  | M, w :: W, q :: qs => q ≥ M + 1 - (if w = 1 ∧ qs ≠ [] then 1 else 0) ∧ Adm (q + w) W qs
theorem runV_nil_of {W : List Int} {a b : Int} (h : runV W a b = []) (hl : a.toNat ≤ W.length) (ha : 0 ≤ a) : a = 0 := by
  cases W with
  | nil => simp at hl; omega
  | cons w W =>
    by_cases h0 : a = 0
    · exact h0
    · rw [runV_cons h0] at h; cases h
theorem adm_run : ∀ {W : List Int} {a b M : Int}, (∀ x ∈ W, x = 1 ∨ x = -1) → 0 ≤ a → a.toNat ≤ W.length → 1 ≤ M → a * M < b → Adm M W (runV W a b) := by
  intro W
  induction W with
  | nil => intro a b M _ _ _ _ _; unfold runV Adm; trivial
  | cons w W ih =>
    intro a b M hW ha hl hM hlt
    by_cases h0 : a = 0
    · subst h0; rw [runV_zero]; unfold Adm; trivial
    · have hw := hW w List.mem_cons_self
      obtain ⟨q, R, e1, e2, e3, h1, h2⟩ := run_facts (b := b) hw (show 0 < a by omega)
      have hl' : R.toNat ≤ W.length := by simp only [List.length_cons] at hl; omega
      rw [runV_cons h0, e1, e2]
      unfold Adm
      have hq : q ≥ M + 1 - (if w = 1 ∧ runV W R b ≠ [] then 1 else 0) := by
        rcases hw with rfl | rfl
        · by_cases hn : runV W R b = []
          · have hR := runV_nil_of hn hl' h1
            subst hR
            rw [if_neg (by simp [hn])]
            have : M * a < q * a := by rw [Int.mul_comm M]; omega
            have := Int.lt_of_mul_lt_mul_right this (by omega)
            omega
          · rw [if_pos ⟨rfl, hn⟩]
            have : M * a < (q + 1) * a := by rw [Int.mul_comm M, Int.add_mul]; omega
            have := Int.lt_of_mul_lt_mul_right this (by omega)
            omega
        · rw [if_neg (by simp)]
          have : M * a < q * a := by rw [Int.mul_comm M]; omega
          have := Int.lt_of_mul_lt_mul_right this (by omega)
          omega
      have hq1 : 0 < q := by split at hq <;> omega
      refine ⟨hq, ih (fun x hx => hW x (List.mem_cons_of_mem _ hx)) h1 hl' ?_ ?_⟩
      · rcases hw with rfl | rfl
        · omega
        · rw [if_neg (by simp)] at hq; omega
      · have : q * R < q * a := Int.mul_lt_mul_of_pos_left h2 hq1
        rcases hw with rfl | rfl
        · rw [e3, Int.mul_add, Int.mul_comm R q]; omega
        · rw [e3, Int.mul_add, Int.mul_comm R q]; omega

end
section
theorem nest_run : ∀ {W : List Int} {a b : Int}, (∀ x ∈ W, x = 1 ∨ x = -1) → 0 ≤ a → a.toNat ≤ W.length → (nestP (runV W a b) W).1 * b = a * (nestP (runV W a b) W).2 := by
  intro W
  induction W with
  | nil =>
    intro a b _ ha hl
    have : a = 0 := by simp at hl; omega
    subst this; simp [runV, nestP]
  | cons w W ih =>
    intro a b hW ha hl
    by_cases h0 : a = 0
    · subst h0; rw [runV_zero]; simp [nestP]
    · have hw := hW w List.mem_cons_self
      obtain ⟨q, R, e1, e2, e3, h1, h2⟩ := run_facts (b := b) hw (show 0 < a by omega)
      have hl' : R.toNat ≤ W.length := by simp only [List.length_cons] at hl; omega
      have i := ih (b := b) (fun x hx => hW x (List.mem_cons_of_mem _ hx)) h1 hl'
      rw [runV_cons h0, e1, e2, nestP_cons]
      simp only [List.drop_succ_cons, List.drop_zero, List.getD_cons_zero]
      generalize nestP (runV W R b) W = p at *
      rcases hw with rfl | rfl <;> grind
theorem run_nest : ∀ {row W : List Int} {M : Int}, (∀ x ∈ W, x = 1 ∨ x = -1) → 1 ≤ M → Adm M W row →
    0 < (nestP row W).2 ∧ 0 ≤ (nestP row W).1 ∧ (nestP row W).1 * M < (nestP row W).2 ∧ (row ≠ [] → 0 < (nestP row W).1) ∧ (∀ q ∈ row, 0 < q) ∧ runV W (nestP row W).1 (nestP row W).2 = row := by
  intro row
  induction row with
  | nil => intro W M hW hM _; simp [nestP, runV_zero]
  | cons q qs ih =>
    intro W M hW hM hA
    cases W with
    | nil => exact absurd hA (by unfold Adm; simp)
    | cons w W =>
      unfold Adm at hA
      obtain ⟨hq, hA⟩ := hA
      have hw := hW w List.mem_cons_self
      have hM' : 1 ≤ q + w := by
        rcases hw with rfl | rfl
        · split at hq <;> omega
        · rw [if_neg (by simp)] at hq; omega
      have hqp : 0 < q := by split at hq <;> omega
      have hW' := fun x hx => hW x (List.mem_cons_of_mem w hx)
      obtain ⟨i1, i2, i3, i4, i5, i6⟩ := ih hW' hM' hA
      rw [nestP_cons]
      simp only [List.drop_succ_cons, List.drop_zero, List.getD_cons_zero]
      generalize hp : nestP qs W = p at *
      obtain ⟨A, B⟩ := p
      simp only at *
      have hAB : q * A + w * A < B := by rw [Int.mul_add] at i3; rw [Int.mul_comm q, Int.mul_comm w]; omega
      have hqA : 0 ≤ q * A := Int.mul_nonneg (by omega) i2
      have hA0 : 0 < B - w * A := by rcases hw with rfl | rfl <;> omega
      have hlt : q * A < B - w * A := by rcases hw with rfl | rfl <;> omega
      have hrun : runV (w :: W) (B - w * A) (B * q) = q :: qs := by
        obtain ⟨f1, f2⟩ := div_unique (w := w) (a := B - w * A) (b := B * q) (q := q) (R := q * A) hw hA0 (by rcases hw with rfl | rfl <;> grind) hqA hlt
        rw [runV_cons (by omega), f1, f2, Int.mul_comm B q, run_scale hqp hW' i2, i6]
      refine ⟨Int.mul_pos i1 hqp, by omega, ?_, fun _ => hA0, fun x hx => by
        rcases List.mem_cons.mp hx with rfl | hx
        · exact hqp
        · exact i5 x hx, hrun⟩
      rcases hw with rfl | rfl
      · by_cases hn : qs = []
        · subst hn
          rw [if_neg (by simp)] at hq
          simp only [nestP, Prod.mk.injEq] at hp
          obtain ⟨rfl, rfl⟩ := hp
          omega
        · rw [if_pos ⟨rfl, hn⟩] at hq
          have hA1 := i4 hn
          have z1 : (B - 1 * A) * M ≤ (B - 1 * A) * q := Int.mul_le_mul_of_nonneg_left (by omega) (by omega)
          have z2 : (B - 1 * A) * q = B * q - q * A := by grind
          have z3 : 0 < q * A := Int.mul_pos hqp hA1
          omega
      · rw [if_neg (by simp)] at hq
        have z1 : (B - -1 * A) * M ≤ (B - -1 * A) * (q - 1) := Int.mul_le_mul_of_nonneg_left (by omega) (by omega)
        have z2 : (B - -1 * A) * (q - 1) = B * q - B + q * A - A := by grind
        omega
/-! half-way -/
theorem run_mid_same {w a b c d q : Int} (hw : w = 1 ∨ w = -1) (ha : 0 < a) (hc : 0 < c) (hb : 0 < b) (hd : 0 < d) (h1 : w * b.fdiv (w * a) = q) (h2 : w * d.fdiv (w * c) = q) :
    w * (2 * b * d).fdiv (w * (a * d + c * b)) = q ∧ w * (2 * b * d).fmod (w * (a * d + c * b)) = (w * b.fmod (w * a)) * d + (w * d.fmod (w * c)) * b := by
  obtain ⟨q1, R1, e1, e2, e3, r1, r2⟩ := run_facts (b := b) hw ha
  obtain ⟨q2, R2, f1, f2, f3, s1, s2⟩ := run_facts (b := d) hw hc
  have eq1 : q1 = q := by rw [← e1, h1]
  have eq2 : q2 = q := by rw [← f1, h2]
  subst eq1; subst eq2
  rw [e2, f2]
  have p1 := Int.mul_pos ha hd
  have p2 := Int.mul_pos hc hb
  have t1 : 0 ≤ R1 * d := Int.mul_nonneg r1 (by omega)
  have t2 : 0 ≤ R2 * b := Int.mul_nonneg s1 (by omega)
  have t3 : R1 * d < a * d := Int.mul_lt_mul_of_pos_right r2 hd
  have t4 : R2 * b < c * b := Int.mul_lt_mul_of_pos_right s2 hb
  exact div_unique hw (by omega) (by
    have : 2 * b * d = b * d + d * b := by grind
    rw [this]
    conv => lhs; rw [show b * d = (q2 * a + w * R1) * d by rw [← e3], show d * b = (q2 * c + w * R2) * b by rw [← f3]]
    grind) (by omega) (by omega)
/-- a quotient falls when the number above grows -/
theorem quo_mono {w a b c d : Int} (hw : w = 1 ∨ w = -1) (ha : 0 < a) (hc : 0 < c) (hb : 0 < b) (hd : 0 < d) (h : d * a ≤ b * c) : w * d.fdiv (w * c) ≤ w * b.fdiv (w * a) := by
  obtain ⟨q1, R1, e1, e2, e3, r1, r2⟩ := run_facts (b := b) hw ha
  obtain ⟨q2, R2, f1, f2, f3, s1, s2⟩ := run_facts (b := d) hw hc
  rw [e1, f1]
  refine Int.not_lt.mp fun hlt => ?_
  have p := Int.mul_pos ha hc
  have k1 : (q1 + 1) * (a * c) ≤ q2 * (a * c) := Int.mul_le_mul_of_nonneg_right (by omega) (by omega)
  have k2 : d * a = q2 * (a * c) + w * (R2 * a) := by rw [f3]; grind
  have k3 : b * c = q1 * (a * c) + w * (R1 * c) := by rw [e3]; grind
  have t1 : R1 * c < a * c := Int.mul_lt_mul_of_pos_right r2 hc
  have t2 : R2 * a < c * a := Int.mul_lt_mul_of_pos_right s2 ha
  have t3 : 0 ≤ R1 * c := Int.mul_nonneg r1 (by omega)
  have t4 : 0 ≤ R2 * a := Int.mul_nonneg s1 (by omega)
  rw [Int.mul_comm c a] at t2
  rw [Int.add_mul] at k1
  rcases hw with rfl | rfl <;> omega

end
section
noncomputable def comm : List Int → List Int → Nat
  | x :: xs, y :: ys => if x = y then comm xs ys + 1 else 0
  | _, _ => 0
noncomputable def MidEnd : Option Int → Option Int → List Int → Prop
  | none, none, Z => Z = []
  | some e, none, Z => ∃ z, Z = [z] ∧ e ≤ z
  | none, some e, Z => ∃ z, Z = [z] ∧ e ≤ z
  | some e, some f, Z => ∃ z, Z = [z] ∧ (e ≤ z ∧ z ≤ f ∨ f ≤ z ∧ z ≤ e)
theorem runV_one {w a b : Int} (h : a ≠ 0) : runV [w] a b = [w * b.fdiv (w * a)] := by rw [runV_cons h]; rfl
theorem mid_le {a b c d : Int} (hb : 0 < b) (h : d * a ≤ b * c) : 2 * b * d * a ≤ b * (a * d + c * b) := by
  have := Int.mul_le_mul_of_nonneg_left h (Int.le_of_lt hb)
  have e1 : 2 * b * d * a = b * (d * a) + b * (d * a) := by grind
  have e2 : b * (a * d + c * b) = b * (d * a) + b * (b * c) := by grind
  omega
theorem mid_run : ∀ {W : List Int} {a b c d : Int}, (∀ x ∈ W, x = 1 ∨ x = -1) → 0 ≤ a → 0 ≤ c → 0 < b → 0 < d → (runV W a b).length < W.length → (runV W c d).length < W.length →
    ∃ Z, runV (W.take (comm (runV W a b) (runV W c d) + 1)) (a * d + c * b) (2 * b * d) = (runV W a b).take (comm (runV W a b) (runV W c d)) ++ Z ∧
      MidEnd (runV W a b)[comm (runV W a b) (runV W c d)]? (runV W c d)[comm (runV W a b) (runV W c d)]? Z := by
  intro W
  induction W with
  | nil => intro a b c d _ _ _ _ _ h _; simp at h
  | cons w W ih =>
    intro a b c d hW ha hc hb hd hl1 hl2
    have hw := hW w List.mem_cons_self
    have hW' := fun x hx => hW x (List.mem_cons_of_mem w hx)
    by_cases a0 : a = 0
    · subst a0
      rw [runV_zero]
      by_cases c0 : c = 0
      · subst c0
        rw [runV_zero]
        refine ⟨[], ?_, ?_⟩
        · simp [comm, runV]
        · simp [comm, MidEnd]
      · have hcb : 0 < c * b := Int.mul_pos (by omega) hb
        refine ⟨[w * (2 * b * d).fdiv (w * (c * b))], ?_, ?_⟩
        · rw [show comm [] (runV (w :: W) c d) = 0 by simp [comm], List.take_succ_cons, List.take_zero, Int.zero_mul, Int.zero_add, runV_one (by omega)]
          rfl
        · rw [runV_cons c0]
          simp only [comm, List.getElem?_nil, List.getElem?_cons_zero, MidEnd]
          refine ⟨_, rfl, quo_mono hw hcb (by omega) (Int.mul_pos (by omega) hd) hd ?_⟩
          have : 0 < d * (c * b) := Int.mul_pos hd hcb
          have e : 2 * b * d * c = d * (c * b) + d * (c * b) := by grind
          omega
    · by_cases c0 : c = 0
      · subst c0
        have had : 0 < a * d := Int.mul_pos (by omega) hd
        refine ⟨[w * (2 * b * d).fdiv (w * (a * d))], ?_, ?_⟩
        · rw [runV_zero, runV_cons a0]
          simp only [comm]
          rw [List.take_succ_cons, List.take_zero, Int.zero_mul, Int.add_zero, runV_one (by omega)]
          rfl
        · rw [runV_zero, runV_cons a0]
          simp only [comm, List.getElem?_nil, List.getElem?_cons_zero, MidEnd]
          refine ⟨_, rfl, quo_mono hw had (by omega) (Int.mul_pos (by omega) hd) hb ?_⟩
          have : 0 < b * (a * d) := Int.mul_pos hb had
          have e : 2 * b * d * a = b * (a * d) + b * (a * d) := by grind
          omega
      · have had : 0 < a * d := Int.mul_pos (by omega) hd
        have hcb : 0 < c * b := Int.mul_pos (by omega) hb
        obtain ⟨q1, R1, e1, e2, e3, r1, r2⟩ := run_facts (b := b) hw (show 0 < a by omega)
        obtain ⟨q2, R2, f1, f2, f3, s1, s2⟩ := run_facts (b := d) hw (show 0 < c by omega)
        by_cases hq : q1 = q2
        · subst hq
          obtain ⟨m1, m2⟩ := run_mid_same hw (show 0 < a by omega) (show 0 < c by omega) hb hd e1 f1
          rw [e2, f2] at m2
          rw [runV_cons a0, e1, e2] at hl1
          rw [runV_cons c0, f1, f2] at hl2
          rw [runV_cons a0, runV_cons c0, e1, e2, f1, f2]
          simp only [List.length_cons] at hl1 hl2
          obtain ⟨Z, i1, i2⟩ := ih (a := R1) (b := b) (c := R2) (d := d) hW' r1 s1 hb hd (by omega) (by omega)
          refine ⟨Z, ?_, ?_⟩
          · simp only [comm, if_true]
            rw [List.take_succ_cons, List.take_succ_cons, runV_cons (by omega), m1, m2, i1]
            rfl
          · simpa only [comm, if_true, List.getElem?_cons_succ] using i2
        · rw [runV_cons a0, runV_cons c0, e1, e2, f1, f2]
          simp only [comm, if_neg hq, List.take_succ_cons, List.take_zero, List.getElem?_cons_zero, MidEnd, List.nil_append]
          refine ⟨_, runV_one (by omega), _, rfl, ?_⟩
          have h2bd : 0 < 2 * b * d := Int.mul_pos (by omega) hd
          rcases Int.le_total (d * a) (b * c) with h | h
          · refine .inr ⟨?_, ?_⟩
            · rw [← f1]
              refine quo_mono hw (by omega) (by omega) h2bd hd ?_
              have := Int.mul_le_mul_of_nonneg_left h (Int.le_of_lt hd)
              have e4 : d * (a * d + c * b) = d * (d * a) + d * (b * c) := by grind
              have e5 : 2 * b * d * c = d * (b * c) + d * (b * c) := by grind
              omega
            · rw [← e1]
              exact quo_mono hw (by omega) (by omega) hb h2bd (mid_le hb h)
          · refine .inl ⟨?_, ?_⟩
            · rw [← e1]
              refine quo_mono hw (by omega) (by omega) h2bd hb ?_
              have := Int.mul_le_mul_of_nonneg_left h (Int.le_of_lt hb)
              have e4 : b * (a * d + c * b) = b * (d * a) + b * (b * c) := by grind
              have e5 : 2 * b * d * a = b * (d * a) + b * (d * a) := by grind
              omega
            · rw [← f1]
              refine quo_mono hw (by omega) (by omega) hd h2bd ?_
              have := Int.mul_le_mul_of_nonneg_left h (Int.le_of_lt hd)
              have e4 : d * (a * d + c * b) = d * (d * a) + d * (b * c) := by grind
              have e5 : 2 * b * d * c = d * (b * c) + d * (b * c) := by grind
              omega

end
section
noncomputable def prevV (M : Int) (W row : List Int) (k : Nat) : Int := if k = 0 then M else row.getD (k - 1) 0 + W.getD (k - 1) 0
/-- admissible, told by places; 'many' numbers in all -/
noncomputable def AdmI (M : Int) (W row : List Int) (many : Nat) : Prop := ∀ k, k < row.length → row.getD k 0 ≥ prevV M W row k + 1 - (if W.getD k 0 = 1 ∧ k + 1 < many then 1 else 0)
theorem adm_of : ∀ {row W : List Int} {M : Int}, row.length ≤ W.length → AdmI M W row row.length → Adm M W row := by
  intro row
  induction row with
  | nil => intros; unfold Adm; trivial
  | cons q qs ih =>
    intro W M hl h
    cases W with
    | nil => simp at hl
    | cons w W =>
      unfold Adm
      refine ⟨?_, ih (by simpa using hl) fun k hk => ?_⟩
      · have := h 0 (by simp)
        simp only [List.getD_cons_zero, prevV, if_true, List.length_cons] at this
        have e : (w = 1 ∧ 0 + 1 < qs.length + 1) ↔ (w = 1 ∧ qs ≠ []) := by cases qs <;> simp
        simpa only [e] using this
      · have := h (k + 1) (by simpa using hk)
        simp only [List.getD_cons_succ, prevV, List.length_cons, Nat.add_one_ne_zero, if_false, Nat.add_sub_cancel] at this
        cases k with
        | zero =>
          have e3 : (0 + 1 + 1 < qs.length + 1) ↔ (0 + 1 < qs.length) := by omega
          simp only [List.getD_cons_zero, e3] at this; simp only [prevV, if_true]; simpa using this
        | succ k => simp only [List.getD_cons_succ] at this; simp only [prevV, Nat.add_one_ne_zero, if_false, Nat.add_sub_cancel]; simpa using this
theorem adm_to : ∀ {row W : List Int} {M : Int}, Adm M W row → AdmI M W row row.length := by
  intro row
  induction row with
  | nil => intro W M _ k hk; simp at hk
  | cons q qs ih =>
    intro W M h k hk
    cases W with
    | nil => exact absurd h (by unfold Adm; simp)
    | cons w W =>
      unfold Adm at h
      have e : (w = 1 ∧ 0 + 1 < qs.length + 1) ↔ (w = 1 ∧ qs ≠ []) := by cases qs <;> simp
      cases k with
      | zero =>
        simp only [List.getD_cons_zero, prevV, if_true, List.length_cons, e]
        exact h.1
      | succ k =>
        have i := ih h.2 k (by simpa using hk)
        simp only [List.getD_cons_succ, prevV, List.length_cons, Nat.add_one_ne_zero, if_false, Nat.add_sub_cancel]
        cases k with
        | zero =>
          have e3 : (0 + 1 + 1 < qs.length + 1) ↔ (0 + 1 < qs.length) := by omega
          simp only [prevV, if_true] at i; simp only [e3]; simpa using i
        | succ k => simp only [prevV, Nat.add_one_ne_zero, if_false, Nat.add_sub_cancel] at i; simpa using i
theorem run_len : ∀ {W : List Int} {a b : Int}, (∀ x ∈ W, x = 1 ∨ x = -1) → 0 ≤ a → (runV W a b).length ≤ a.toNat := by
  intro W
  induction W with
  | nil => intros; simp [runV]
  | cons w W ih =>
    intro a b hW ha
    by_cases h0 : a = 0
    · subst h0; rw [runV_zero]; simp
    · obtain ⟨q, R, e1, e2, e3, h1, h2⟩ := run_facts (b := b) (hW w List.mem_cons_self) (show 0 < a by omega)
      rw [runV_cons h0, e2]
      have := ih (b := b) (fun x hx => hW x (List.mem_cons_of_mem _ hx)) h1
      simp only [List.length_cons]; omega
theorem run_bound : ∀ {W : List Int} {a b : Int}, (∀ x ∈ W, x = 1 ∨ x = -1) → 0 ≤ a → ∀ q ∈ runV W a b, q.natAbs ≤ b.natAbs := by
  intro W
  induction W with
  | nil => intro a b _ _ q hq; simp [runV] at hq
  | cons w W ih =>
    intro a b hW ha q hq
    by_cases h0 : a = 0
    · subst h0; rw [runV_zero] at hq; simp at hq
    · have hw := hW w List.mem_cons_self
      obtain ⟨_, R, _, e2, _, h1, h2⟩ := run_facts (b := b) hw (show 0 < a by omega)
      rw [runV_cons h0] at hq
      rcases List.mem_cons.mp hq with rfl | hq
      · rw [abs_mul hw]; exact fdiv_abs _ _ (by rcases hw with rfl | rfl <;> omega)
      · rw [e2] at hq; exact ih (fun x hx => hW x (List.mem_cons_of_mem _ hx)) h1 q hq
theorem getD_app {r : List Int} {z : Int} {k : Nat} (h : k < r.length) : (r ++ [z]).getD k 0 = r.getD k 0 := by
  rw [List.getD_eq_getElem?_getD, List.getD_eq_getElem?_getD, List.getElem?_append_left h]
theorem getD_end {r : List Int} {z : Int} : (r ++ [z]).getD r.length 0 = z := by
  rw [List.getD_eq_getElem?_getD, List.getElem?_append_right (Nat.le_refl _)]; simp
theorem way_at {W : List Int} (hW : ∀ x ∈ W, x = 1 ∨ x = -1) {k : Nat} (h : k < W.length) : W.getD k 0 = 1 ∨ W.getD k 0 = -1 := by
  rw [List.getD_eq_getElem?_getD, List.getElem?_eq_getElem h]; exact hW _ (List.getElem_mem h)
theorem rise_eq {W : List Int} (hW : ∀ x ∈ W, x = 1 ∨ x = -1) {k many : Nat} (h1 : 1 ≤ k) (h : k < W.length) : riseV W k many = W.getD (k - 1) 0 + 1 - (if W.getD k 0 = 1 ∧ k + 1 < many then 1 else 0) := by
  unfold riseV
  rcases way_at hW (show k - 1 < W.length by omega) with e | e <;> rw [e] <;> simp
theorem other_adm {W : List Int} (hW : ∀ x ∈ W, x = 1 ∨ x = -1) {many : Nat} (hm : many ≤ W.length) : ∀ {n : Nat} {row : List Int} {num : Int}, row.length + n = many → AdmI 1 W row many →
    (otherV W many n row num).length = many ∧ AdmI 1 W (otherV W many n row num) many := by
  intro n
  induction n with
  | zero => intro row num h hA; exact ⟨by unfold otherV; omega, by unfold otherV; exact hA⟩
  | succ n ih =>
    intro row num h hA
    unfold otherV
    refine ih (by simp only [List.length_append, List.length_cons, List.length_nil]; omega) fun k hk => ?_
    simp only [List.length_append, List.length_cons, List.length_nil] at hk
    have hp : prevV 1 W (row ++ [nextV W many row num]) k = prevV 1 W row k := by
      unfold prevV
      split
      · rfl
      · rw [getD_app (by omega)]
    rw [hp]
    by_cases hkl : k < row.length
    · rw [getD_app hkl]; exact hA k hkl
    · have e : k = row.length := by omega
      subst e
      rw [getD_end]
      have m0 : 0 ≤ num.fmod 6 := Int.fmod_nonneg_of_pos _ (by decide)
      unfold nextV prevV
      by_cases h0 : row.length = 0
      · rw [if_pos h0, if_pos h0]; split <;> omega
      · rw [if_neg h0, if_neg h0, rise_eq hW (by omega) (by omega)]; omega
theorem take_adm {W told : List Int} {kept many : Nat} (h : AdmI 1 W told told.length) (hk : kept ≤ told.length) (hm : kept < many) : AdmI 1 W (told.take kept) many := by
  intro k hkl
  rw [List.length_take] at hkl
  have g : ∀ j, j < kept → (told.take kept).getD j 0 = told.getD j 0 := fun j hj => by
    rw [List.getD_eq_getElem?_getD, List.getD_eq_getElem?_getD, List.getElem?_take, if_pos hj]
  have hp : prevV 1 W (told.take kept) k = prevV 1 W told k := by
    unfold prevV
    split
    · rfl
    · rw [g _ (by omega)]
  rw [hp, g _ (by omega)]
  have := h k (by omega)
  have e : W.getD k 0 = 1 → (W.getD k 0 = 1 ∧ k + 1 < many) := fun h => ⟨h, by omega⟩
  by_cases hw : W.getD k 0 = 1
  · rw [if_pos (e hw)]; split at this <;> omega
  · rw [if_neg fun h => hw h.1]; rw [if_neg fun h => hw h.1] at this; exact this
theorem other_bound {W : List Int} (hW : ∀ x ∈ W, x = 1 ∨ x = -1) {many : Nat} : ∀ {n : Nat} {row : List Int} {num : Int} {K : Nat}, many ≤ W.length → row.length + n = many → (∀ x ∈ row, x.natAbs ≤ K) → ∀ x ∈ otherV W many n row num, x.natAbs ≤ K + 10 * n := by
  intro n
  induction n with
  | zero => intro row num K _ _ h x hx; exact h x hx
  | succ n ih =>
    intro row num K hmW hl h x hx
    have hz : (nextV W many row num).natAbs ≤ K + 10 := by
      have m0 : 0 ≤ num.fmod 6 := Int.fmod_nonneg_of_pos _ (by decide)
      have m1 : num.fmod 6 < 6 := Int.fmod_lt_of_pos _ (by decide)
      unfold nextV
      by_cases h0 : row.length = 0
      · rw [if_pos h0]; omega
      · rw [if_neg h0]
        have hp : (row.getD (row.length - 1) 0).natAbs ≤ K := by
          rw [List.getD_eq_getElem?_getD, List.getElem?_eq_getElem (by omega)]; exact h _ (List.getElem_mem _)
        have hr : -1 ≤ riseV W row.length many ∧ riseV W row.length many ≤ 2 := by unfold riseV; split <;> split <;> omega
        omega
    have := ih (row := row ++ [nextV W many row num]) (num := num.fdiv 6) (K := K + 10) hmW (by simp only [List.length_append, List.length_cons, List.length_nil]; omega) (fun y hy => by
      rcases List.mem_append.mp hy with hy | hy
      · have := h y hy; omega
      · rw [List.mem_singleton.mp hy]; exact hz) x hx
    omega

end
section
theorem dat_of_ints {news : Led} : ∀ {vs : List Value} {ns : List Int}, IntsAre vs ns → DatAll news vs (ns.map Dat.int)
  | _, _, .nil => .nil
  | _, _, .cons _ _ r => .cons (.int _ _) (dat_of_ints r)
theorem off_cell {h₀ h : Heap} {L : Addr} {led R tb : Led} {c : Addr} {o : Obj} {v : Option Value} (N : News h₀ L h led) (hm : (c, o) ∈ led) (hd : o.data = .cell v) (S : Seqs R) (T : Tabs tb) (l50 : @LT.lt Nat _ 50 c) (s : ∀ p ∈ R ++ tb, p ∈ led) : ∀ p ∈ R ++ tb, p.1 ≠ c := fun p hp => by
  rcases List.mem_append.mp hp with h | h
  · exact seqs_cell S N hm hd (fun q hq => s q (List.mem_append_left _ hq)) p h
  · exact tabs_cell T N hm hd (fun q hq => s q (List.mem_append_right _ hq)) l50 p h
theorem ne_offI {I : Addr} {l : Led} {c : Addr} {o : Obj} (h : ∀ p ∈ l, p.1 ≠ I) (hm : (c, o) ∈ l) : @Ne Nat c I := h _ hm
theorem ne_offI' {I : Addr} {l : Led} {c : Addr} {o : Obj} (h : ∀ p ∈ l, p.1 ≠ I) (hm : (c, o) ∈ l) : @Ne Nat I c := Ne.symm (h _ hm)
section
variable {prog : Program} {w : World} {A : Around} {E : Value → Shared → Prop} {s : Shared} {h₀ : Heap} {L : Addr} {m : Str → Option Value} {env : Env} {news led : Led}
theorem my_itemI {value slice : PySem.Expr} {l : Addr} {vs : List Value} {ns : List Int} {c : Nat} {k : Int} {u : Tok} {Q : Value → Shared → Prop} (N : News h₀ L s.heap news) (hm : (l, listOf vs.toArray c) ∈ news) (hi : IntsAre vs ns)
    (h0 : 0 ≤ k) (h1 : k < (ns.length : Int)) (hz : k < 64) (h : ∀ t, Q (.int (ns.getD k.toNat 0) t) s)
    (hs : subscripted slice false (.ref l) (.int k u) = operate [.ref l, .int k u] (getItem (.ref l) (.int k u)) := by with_unfolding_all rfl) :
    wpAny (model prog w) A (subscriptTail value slice (.ref l) (.int k u)) Q E s := by
  refine kd_item N hm (dat_of_ints (news := news) hi) h0 (by simpa using h1) (by omega) (fun v d hk _ hD => ?_) hs
  rw [List.getElem?_map] at hk
  have hlt : k.toNat < ns.length := by omega
  rw [List.getElem?_eq_getElem hlt] at hk
  cases hk
  cases hD
  have := h (by assumption)
  rwa [List.getD_eq_getElem?_getD, List.getElem?_eq_getElem hlt] at this
theorem my_itemN {value slice : PySem.Expr} {l : Addr} {vs : List Value} {ns : List Int} {c : Nat} {k : Int} {u : Tok} {Q : Value → Shared → Prop} (N : News h₀ L s.heap news) (hm : (l, listOf vs.toArray c) ∈ news) (hi : IntsAre vs ns)
    (j : Nat) (hk : k = (j : Nat)) (h1 : j < ns.length) (hz : j < 64) (h : ∀ t, Q (.int (ns.getD j 0) t) s)
    (hs : subscripted slice false (.ref l) (.int k u) = operate [.ref l, .int k u] (getItem (.ref l) (.int k u)) := by with_unfolding_all rfl) :
    wpAny (model prog w) A (subscriptTail value slice (.ref l) (.int k u)) Q E s := by
  subst hk
  exact my_itemI N hm hi (by omega) (by omega) (by omega) (fun t => by rw [Int.toNat_natCast]; exact h t) hs
/-- all turns of a comprehension over a range with a test: the test's truth and the element are told by functions -/
theorem rest_filt {ct elt : PySem.Expr} {x : Str} {scope : Scope} {cl : List (Str × Addr)} {S : Led → Prop} {P : Nat → Value → Prop} {Fin : List Value → Led → Prop} {n : Nat} {mid₀ : Led} (p : Nat → Bool) (f : Nat → Int) (hS : S mid₀)
    (step : ∀ i led v C oC m₂ h tk (E' : Value → Shared → Prop), i < n → P i v → NsObj oC m₂ → m₂ x = some v → Fr h₀ L h m → News h₀ L h ((C, oC) :: led) → (∀ p ∈ mid₀, p ∈ led) →
      wpAny (model prog w) A (isTrue ct (compEnvC scope cl C env) (eval ct (compEnvC scope cl C env))) (fun ok s₂ => Stop (ok = p i ∧ ∃ h' tk' led', s₂ = { s with heap := h', toks := tk' } ∧ Fr h₀ L h' m ∧ News h₀ L h' led' ∧ ∀ p ∈ (C, oC) :: led, p ∈ led')) E' { s with heap := h, toks := tk })
    (est : ∀ i led v C oC m₂ h tk (E' : Value → Shared → Prop), i < n → P i v → NsObj oC m₂ → m₂ x = some v → Fr h₀ L h m → News h₀ L h ((C, oC) :: led) → (∀ p ∈ mid₀, p ∈ led) →
      wpAny (model prog w) A (eval elt (compEnvC scope cl C env)) (fun y s₂ => Stop (∃ t, y = .int (f i) t ∧ ∃ h' tk' led', s₂ = { s with heap := h', toks := tk' } ∧ Fr h₀ L h' m ∧ News h₀ L h' led' ∧ ∀ p ∈ (C, oC) :: led, p ∈ led')) E' { s with heap := h, toks := tk })
    (fin : ∀ ys, IntsAre ys (((List.range n).filter p).map f) → Fin ys mid₀) : LCt.CompRestT prog w A h₀ L m env ct elt x scope cl s S P Fin n 0 [] mid₀ := by
  have key : ∀ k i ys, i + k = n → IntsAre ys (((List.range i).filter p).map f) → LCt.CompRestT prog w A h₀ L m env ct elt x scope cl s S P Fin k i ys mid₀ := by
    intro k
    induction k with
    | zero =>
      intro i ys hi hy
      obtain rfl : n = i := by omega
      exact LCt.CompRestT.zero (fin ys hy)
    | succ k ih =>
      intro i ys hi hy
      refine LCt.CompRestT.succ fun v I oI C oC D m₂ h tk E' hP hC hx F N off ne => ?_
      have hsub : ∀ p ∈ (C, oC) :: ((I, oI) :: (D, lst ys) :: mid₀), p ∈ (I, oI) :: (C, oC) :: (D, lst ys) :: mid₀ := fun p hp => by
        simp only [List.mem_cons] at hp ⊢
        rcases hp with h | h | h
        · exact .inr (.inl h)
        · exact .inl h
        · exact .inr (.inr h)
      have hsub' : ∀ p ∈ (I, oI) :: (C, oC) :: (D, lst ys) :: mid₀, p ∈ (C, oC) :: ((I, oI) :: (D, lst ys) :: mid₀) := fun p hp => by
        simp only [List.mem_cons] at hp ⊢
        rcases hp with h | h | h
        · exact .inr (.inl h)
        · exact .inl h
        · exact .inr (.inr h)
      refine wpAny_mono (step i ((I, oI) :: (D, lst ys) :: mid₀) v C oC m₂ h tk E' (by omega) hP hC hx F (fun p hp => N p (hsub p hp)) (fun p hp => List.mem_cons_of_mem _ (List.mem_cons_of_mem _ hp))) (fun ok s₂ hq => ?_) fun _ _ e => e
      obtain ⟨rfl, h', tk', led', rfl, F', N', s1⟩ := hq.go
      have N1 : News h₀ L h' ((C, oC) :: ((I, oI) :: (D, lst ys) :: mid₀)) := fun p hp => N' p (s1 p hp)
      cases hp : p i with
      | true =>
        rw [if_pos rfl]
        refine wpAny_mono (est i ((I, oI) :: (D, lst ys) :: mid₀) v C oC m₂ h' tk' E' (by omega) hP hC hx F' N1 (fun p hp => List.mem_cons_of_mem _ (List.mem_cons_of_mem _ hp))) (fun y s₂ hq => ?_) fun _ _ e => e
        obtain ⟨t, rfl, h2, tk2, led2, rfl, F2, N2, s2⟩ := hq.go
        refine ⟨h2, tk2, mid₀, rfl, F2, fun p hp => N2 p (s2 p (hsub' p hp)), off, hS, ih (i + 1) _ (by omega) ?_⟩
        rw [List.range_succ, List.filter_append, List.map_append]
        simp only [List.filter_cons, hp, if_true, List.filter_nil, List.map_cons, List.map_nil]
        exact hy.append (.cons _ _ .nil)
      | false =>
        rw [if_neg (by simp)]
        refine ⟨h', tk', mid₀, rfl, F', fun p hp => N1 p (hsub' p hp), off, hS, ih (i + 1) _ (by omega) ?_⟩
        rw [List.range_succ, List.filter_append, List.map_append]
        simpa only [List.filter_cons, hp, Bool.false_eq_true, if_false, List.filter_nil, List.map_nil, List.append_nil] using hy
  exact key n 0 [] (by omega) .nil
end
theorem in6 {c1 c2 c3 c4 c5 c6 : Addr × Obj} {l : Led} : ∀ p ∈ l, p ∈ c1 :: c2 :: c3 :: c4 :: c5 :: c6 :: l := fun p hp => by simp [hp]
theorem in7 {c0 c1 c2 c3 c4 c5 c6 : Addr × Obj} {l : Led} : ∀ p ∈ l, p ∈ c0 :: c1 :: c2 :: c3 :: c4 :: c5 :: c6 :: l := fun p hp => by simp [hp]
/-- a new object of the law's frame goes behind the cells -/
theorem mvs {h₀ h : Heap} {L : Addr} (es cs : Led) {T : Led} (N : News h₀ L h (es ++ (cs ++ T))) : News h₀ L h (cs ++ (es ++ T)) := fun p hp => N p ((List.perm_append_comm_assoc cs es T).mem_iff.mp hp)
theorem canon6 {h₀ h : Heap} {L : Addr} {e c1 c2 c3 c4 c5 c6 : Addr × Obj} {R tb : Led} (N : News h₀ L h (e :: c1 :: c2 :: c3 :: c4 :: c5 :: c6 :: (R ++ tb))) : News h₀ L h (c1 :: c2 :: c3 :: c4 :: c5 :: c6 :: ((e :: R) ++ tb)) := mvs [e] [c1, c2, c3, c4, c5, c6] N

end
section
section
variable {w : World} {p : Program} {loose : List Str} {mean : ExcName → Option Value} {mg mb : Str → Option Value}
    {dp un : Nat} {gd : Option (List Code)} {cn : Str} {cs : Scope} {ad : Addr} {ccd : Value} {cl : List (Str × Addr)} {outer : List Env} {A₀ : Around} {base h₀ : Heap} {L : Addr} {m : Str → Option Value} {rest tb news : Led} {s : Shared} {Q E : Value → Shared → Prop} {ta t2 t3 : Tok}
theorem run_use {W : List Int} {a₀ b sg : Int} (hW : ∀ x ∈ W, x = 1 ∨ x = -1) (hWl : W.length ≤ 64) (ha : 0 ≤ a₀) (hza : Sz a₀ 1000) (hzb : Sz b 1000) (hsg : sg = 1 ∨ sg = -1) {wA : Addr} {wvs : List Value} {wc : Nat}
    (B : Below A₀ h₀ [] h₀) (hC1 : CodeHd h₀ 34 30) (hC2 : CodeHd h₀ 41 37) (F : Fr h₀ L s.heap m) (X : (_root_.hd.heap_39 w.params).In h₀) (N : News h₀ L s.heap (rest ++ tb)) (T : Top p loose mean mg mb h₀) (hk : cs.kind = .function) (htb : Tabs tb) (hov : Over rest)
    (hwm : (wA, listOf wvs.toArray wc) ∈ rest) (hwi : IntsAre wvs W) (hroom : dp + 200 < recursionLimit) (hunits : un + 2000 < cLine)
    (hret : ∀ D items c h' tk' tb', Tabs tb' → IntsAre items (runV W a₀ b) → Fr h₀ L h' m → News h₀ L h' ((D, listOf items.toArray c) :: (rest ++ tb')) → Q (.ref D) { s with heap := h', toks := tk' }) :
    wpAny (model PySem.Challenge.rw_ta0142_01.row.prog w) (ktrTop dp un gd cn cs L ad ccd cl []) (call (.ref 63) [.int a₀ ta, .int b t2, .ref wA, .int sg t3]) Q E s :=
  run_ct w W a₀ b sg hW hWl ha hza hzb hsg _ _ _ _ _ _ _ _ _ _ _ _ _ _ _ _ _ _ _ _ _ _ _ _ _ _ _ _ B hC1 hC2 F X N T hk htb hov hwm hwi hroom hunits hret
theorem rise_use {W : List Int} {k many : Nat} {x y : Int} (hx : W[k - 1]? = some x) (hy : W[k]? = some y) (h1 : 1 ≤ k) (hk64 : k < 64) (hm64 : many < 64) {wA : Addr} {wvs : List Value} {wc : Nat}
    (B : Below A₀ base outer h₀) (F : Fr h₀ L s.heap m) (X : (_root_.hd.heap_39 w.params).In h₀) (N : News h₀ L s.heap news) (T : Top p loose mean mg mb h₀) (hkf : cs.kind = .function)
    (hwm : (wA, listOf wvs.toArray wc) ∈ news) (hwi : IntsAre wvs W) (hroom : dp + 100 < recursionLimit) (hunits : un + 200 < cLine)
    (hret : ∀ t h' tk', Fr h₀ L h' m → News h₀ L h' news → Q (.int (riseV W k many) t) { s with heap := h', toks := tk' }) :
    wpAny (model PySem.Challenge.rw_ta0142_01.row.prog w) (ktrTop dp un gd cn cs L ad ccd cl outer) (call (.ref 70) [.ref wA, .int (k : Nat) ta, .int (many : Nat) t2]) Q E s :=
  rise_ct w W k many x y hx hy h1 hk64 hm64 _ _ _ _ _ _ _ _ _ _ _ _ _ _ _ _ _ _ _ _ _ _ _ _ _ _ _ _ B F X N T hkf hwm hwi hroom hunits hret
theorem nested_use {row W : List Int} (hW : ∀ x ∈ W, x = 1 ∨ x = -1) (hrow : ∀ x ∈ row, Sz x 100) (hrl : row.length ≤ W.length) (hr40 : row.length ≤ 40) {wA rA : Addr} {wvs rvs : List Value} {wc rc : Nat}
    (B : Below A₀ base outer h₀) (F : Fr h₀ L s.heap m) (X : (_root_.hd.heap_39 w.params).In h₀) (N : News h₀ L s.heap news) (T : Top p loose mean mg mb h₀) (hkf : cs.kind = .function)
    (hwm : (wA, listOf wvs.toArray wc) ∈ news) (hwi : IntsAre wvs W) (hrm : (rA, listOf rvs.toArray rc) ∈ news) (hri : IntsAre rvs row) (hroom : dp + 100 < recursionLimit) (hunits : un + 200 < cLine)
    (hret : ∀ D t1 t2 c h' tk', Fr h₀ L h' m → News h₀ L h' ((D, ({ cls := .type "tuple", data := .seq #[.int (nestP row W).1 t1, .int (nestP row W).2 t2] c } : Obj)) :: news) → Q (.ref D) { s with heap := h', toks := tk' }) :
    wpAny (model PySem.Challenge.rw_ta0142_01.row.prog w) (ktrTop dp un gd cn cs L ad ccd cl outer) (call (.ref 84) [.ref rA, .ref wA]) Q E s :=
  nested_ct w row W hW hrow hrl hr40 _ _ _ _ _ _ _ _ _ _ _ _ _ _ _ _ _ _ _ _ _ _ _ _ _ _ _ _ _ B F X N T hkf hwm hwi hrm hri hroom hunits hret
theorem other_use {row W : List Int} {many : Nat} {num : Int} (hrl : row.length ≤ many) (hmW : many ≤ W.length) (hm20 : many ≤ 20) {wA rA : Addr} {wvs rvs : List Value} {wc rc : Nat}
    (B : Below A₀ base outer h₀) (F : Fr h₀ L s.heap m) (X : (_root_.hd.heap_39 w.params).In h₀) (N : News h₀ L s.heap news) (T : Top p loose mean mg mb h₀) (hkf : cs.kind = .function)
    (hwm : (wA, listOf wvs.toArray wc) ∈ news) (hwi : IntsAre wvs W) (hrm : (rA, listOf rvs.toArray rc) ∈ news) (hri : IntsAre rvs row) (hroom : dp + 120 < recursionLimit) (hunits : un + 400 < cLine)
    (hret : ∀ D items c h' tk', IntsAre items (otherV W many (many - row.length) row num) → Fr h₀ L h' m → News h₀ L h' ((D, listOf items.toArray c) :: news) → Q (.ref D) { s with heap := h', toks := tk' }) :
    wpAny (model PySem.Challenge.rw_ta0142_01.row.prog w) (ktrTop dp un gd cn cs L ad ccd cl outer) (call (.ref 77) [.ref rA, .int (many : Nat) ta, .int num t2, .ref wA]) Q E s :=
  other_ct w row W many num hrl hmW hm20 _ _ _ _ _ _ _ _ _ _ _ _ _ _ _ _ _ _ _ _ _ _ _ _ _ _ _ _ _ _ _ B F X N T hkf hwm hwi hrm hri hroom hunits hret
end
theorem sz20 {x : Int} (h : x.natAbs < 1048576) {k : Nat} (hk : 20 ≤ k) : Sz x k := (show Sz x 20 from h).mono hk
theorem canonD6 {h₀ h : Heap} {L : Addr} {d e c1 c2 c3 c4 c5 c6 : Addr × Obj} {R tb : Led} (N : News h₀ L h (d :: ((e :: c1 :: c2 :: c3 :: c4 :: c5 :: c6 :: R) ++ tb))) : News h₀ L h (c1 :: c2 :: c3 :: c4 :: c5 :: c6 :: ((d :: e :: R) ++ tb)) := mvs [d, e] [c1, c2, c3, c4, c5, c6] N
theorem over_cons {p : Addr × Obj} {l : Led} (h : @LT.lt Nat _ 50 p.1) (k : Over l) : Over (p :: l) := fun q hq => by
  rcases List.mem_cons.mp hq with rfl | hq
  · exact over50 h
  · exact k q hq
/-- the six cells and what stands behind them are over the tables -/
theorem over6 {h₀ h : Heap} {L : Addr} {o1 o2 o3 o4 o5 o6 : Obj} {X R tb led : Led} (l50 : @LT.lt Nat _ 50 L) (sX : Seqs X) (sR : Seqs R) (T : Tabs tb) (N : News h₀ L h led) (s : ∀ p ∈ X ++ (R ++ tb), p ∈ led) :
    Over (X ++ ((L + 1 + 1 + 1 + 1 + 1 + 1, o1) :: (L + 1 + 1 + 1 + 1 + 1, o2) :: (L + 1 + 1 + 1 + 1, o3) :: (L + 1 + 1 + 1, o4) :: (L + 1 + 1, o5) :: (L + 1, o6) :: R)) := by
  have hX : Over X := seqs_over sX T N (fun p hp => s p (List.mem_append_right _ (List.mem_append_right _ hp))) (fun p hp => s p (List.mem_append_left _ hp))
  have hR : Over R := seqs_over sR T N (fun p hp => s p (List.mem_append_right _ (List.mem_append_right _ hp))) (fun p hp => s p (List.mem_append_right _ (List.mem_append_left _ hp)))
  intro p hp
  rcases List.mem_append.mp hp with hp | hp
  · exact hX p hp
  · refine over_cons ?_ (over_cons ?_ (over_cons ?_ (over_cons ?_ (over_cons ?_ (over_cons ?_ hR))))) p hp
    all_goals (dsimp only; omega)
theorem over7 {h₀ h : Heap} {L : Addr} {o1 o2 o3 o4 o5 o6 : Obj} {x : Addr × Obj} {R tb : Led} (l50 : @LT.lt Nat _ 50 L) (sx : ∃ a n, x.2.data = .seq a n) (sR : Seqs R) (T : Tabs tb)
    (N : News h₀ L h (x :: (L + 1 + 1 + 1 + 1 + 1 + 1, o1) :: (L + 1 + 1 + 1 + 1 + 1, o2) :: (L + 1 + 1 + 1 + 1, o3) :: (L + 1 + 1 + 1, o4) :: (L + 1 + 1, o5) :: (L + 1, o6) :: (R ++ tb))) :
    Over (x :: (L + 1 + 1 + 1 + 1 + 1 + 1, o1) :: (L + 1 + 1 + 1 + 1 + 1, o2) :: (L + 1 + 1 + 1 + 1, o3) :: (L + 1 + 1 + 1, o4) :: (L + 1 + 1, o5) :: (L + 1, o6) :: R) :=
  over6 (X := [x]) l50 (.cons sx .nil) sR T N (fun p hp => by
    simp only [List.mem_cons, List.mem_append, List.not_mem_nil, or_false] at hp ⊢
    rcases hp with h | h | h <;> simp [h])
/-- a called run's list: the ledger anew, the new list and the object ahead behind the cells -/
theorem packD6 {h₀ h : Heap} {L : Addr} {d x c1 c2 c3 c4 c5 c6 : Addr × Obj} {R tb : Led} (N : News h₀ L h (d :: ((x :: c1 :: c2 :: c3 :: c4 :: c5 :: c6 :: R) ++ tb))) (sd : ∃ a n, d.2.data = .seq a n) (sx : ∃ a n, x.2.data = .seq a n) (sR : Seqs R) :
    ∃ R', News h₀ L h (c1 :: c2 :: c3 :: c4 :: c5 :: c6 :: (R' ++ tb)) ∧ Seqs R' ∧ d ∈ R' ∧ x ∈ R' ∧ ∀ p ∈ R, p ∈ R' :=
  ⟨d :: x :: R, canonD6 N, .cons sd (.cons sx sR), List.mem_cons_self, List.mem_cons_of_mem _ List.mem_cons_self, fun _ h => List.mem_cons_of_mem _ (List.mem_cons_of_mem _ h)⟩
theorem cut_at {y : Int} {n : Nat} (h : 0 ≤ y) : max 0 (min y (n : Int)) = ((min y.toNat n : Nat) : Int) := by
  rcases Int.le_total y n with hle | hle
  · rw [Int.min_eq_left hle, Nat.min_eq_left (Int.toNat_le.mpr hle), Int.toNat_of_nonneg h, Int.max_eq_right h]
  · rw [Int.min_eq_right hle, Nat.min_eq_right ((Int.le_toNat h).mpr hle), Int.max_eq_right (Int.natCast_nonneg _)]
theorem pick_to {vs : List Value} {ns : List Int} {y : Int} (hi : IntsAre vs ns) (h : 0 ≤ y) : IntsAre (slicePick vs.toArray none (some y) none).toList (ns.take y.toNat) := by
  have e : sliceBounds none (some y) none vs.toArray.size = (((0 : Nat) : Int), ((min y.toNat vs.toArray.size : Nat) : Int), 1) := by
    simp only [sliceBounds, Option.getD_none, show (1 : Int) > 0 by decide, if_true, if_neg (show ¬ (y < 0) by omega)]
    congr 1
    congr 1
    exact cut_at h
  rw [kmk_pick_nat _ e]
  show IntsAre ((vs.drop 0).take (min y.toNat vs.toArray.size - 0)) _
  rw [List.size_toArray, List.drop_zero, Nat.sub_zero]
  have e2 : vs.take (min y.toNat vs.length) = vs.take y.toNat := by rw [← List.take_take, List.take_length]
  rw [e2]
  exact hi.take _
theorem size_ok {vs : List Value} {ns : List Int} (h : IntsAre vs ns) (hl : ns.length ≤ 64) : vs.toArray.size ≤ sizeLine := by
  rw [List.size_toArray, h.length, sizeLine_eq]; exact Nat.le_trans hl (by decide)
structure StopNow : Prop where
theorem stopIf {P : Prop} (_ : StopNow) (h : Stop P) : P := h.go

end
section
theorem run_ne {W : List Int} {a b : Int} (hW : W ≠ []) (ha : a ≠ 0) : 1 ≤ (runV W a b).length := by
  cases W with
  | nil => exact absurd rfl hW
  | cons w W => rw [runV_cons ha]; simp
theorem adm_rise {W row : List Int} (hW : ∀ x ∈ W, x = 1 ∨ x = -1) (hA : AdmI 1 W row row.length) (hl : row.length ≤ W.length) {k : Nat} (h1 : 1 ≤ k) (h2 : k < row.length) : row.getD (k - 1) 0 + riseV W k row.length ≤ row.getD k 0 := by
  have := hA k h2
  rw [rise_eq hW h1 (by omega)]
  unfold prevV at this
  rw [if_neg (by omega)] at this
  omega
/-- all that is asked of a run: a fraction below one, few places -/
structure Told (W : List Int) (a b : Int) (told : List Int) : Prop where
  len : told.length ≤ 12
  pos : 1 ≤ told.length
  bd : ∀ x ∈ told, x.natAbs ≤ 1021
  adm : AdmI 1 W told told.length
  run : runV W a b = told
  nest : (nestP told W).1 * b = a * (nestP told W).2
theorem told_of {W : List Int} {a b : Int} (hW : ∀ x ∈ W, x = 1 ∨ x = -1) (hl : W.length = 30) (ha : 1 ≤ a ∧ a ≤ 12) (hb : 14 ≤ b ∧ b ≤ 1021) : Told W a b (runV W a b) := by
  have h1 := run_len (b := b) hW (show 0 ≤ a by omega)
  refine ⟨by omega, run_ne (by intro h; rw [h] at hl; cases hl) (by omega), fun x hx => ?_, adm_to (adm_run hW (by omega) (by omega) (by omega) (by omega)), rfl, nest_run hW (by omega) (by omega)⟩
  have := run_bound (b := b) hW (show 0 ≤ a by omega) x hx
  omega

end
section
/-- all that is asked of the other row -/
structure RowOk (W row : List Int) : Prop where
  len : row.length ≤ 8
  pos : 1 ≤ row.length
  bd : ∀ x ∈ row, x.natAbs ≤ 1101
  n1 : 0 ≤ (nestP row W).1
  n2 : 0 < (nestP row W).2
  run : runV W (nestP row W).1 (nestP row W).2 = row
theorem row_of {W told : List Int} {a b : Int} {K M : Nat} (num : Int) (hW : ∀ x ∈ W, x = 1 ∨ x = -1) (hl : W.length = 30) (h : Told W a b told) (hK : K ≤ told.length) (hK5 : K ≤ 5) (hKM : K < M) (hM : M ≤ K + 3) : RowOk W (otherV W M (M - (told.take K).length) (told.take K) num) := by
  have hlt : (told.take K).length = K := by rw [List.length_take]; omega
  have h1 := take_adm (kept := K) (many := M) h.adm hK hKM
  obtain ⟨h2, h3⟩ := other_adm (many := M) (n := M - (told.take K).length) (row := told.take K) (num := num) hW (by omega) (by omega) h1
  have h4 := other_bound (many := M) (n := M - (told.take K).length) (row := told.take K) (num := num) (K := 1021) hW (by omega) (by omega) (fun x hx => h.bd x (List.mem_of_mem_take hx))
  generalize otherV W M (M - (told.take K).length) (told.take K) num = row at *
  rw [← h2] at h3
  obtain ⟨r1, r2, r3, r4, r5, r6⟩ := run_nest hW (Int.le_refl 1) (adm_of (by omega) h3)
  exact ⟨by omega, by omega, fun x hx => by have := h4 x hx; omega, r2, r1, r6⟩

end
section
theorem comm_filter : ∀ xs ys : List Int, ((List.range (min xs.length ys.length)).filter fun k => decide (xs.take (k + 1) = ys.take (k + 1))).length = comm xs ys := by
  intro xs
  induction xs with
  | nil => intro ys; simp [comm]
  | cons x xs ih =>
    intro ys
    cases ys with
    | nil => simp [comm]
    | cons y ys =>
      have key : (fun k => decide ((x :: xs).take (k + 1) = (y :: ys).take (k + 1))) ∘ Nat.succ = fun k => decide (x = y) && decide (xs.take (k + 1) = ys.take (k + 1)) := by
        funext k
        show decide ((x :: xs).take (k + 1 + 1) = (y :: ys).take (k + 1 + 1)) = _
        rw [List.take_succ_cons, List.take_succ_cons]
        by_cases h : x = y
        · simp [h]
        · simp [h]
      rw [List.length_cons, List.length_cons, Nat.add_min_add_right, List.range_succ_eq_map, List.filter_cons, List.filter_map, key]
      by_cases h : x = y
      · subst h
        simp only [decide_true, Bool.true_and, Nat.zero_add, List.take_succ_cons, List.take_zero, if_true, List.length_cons, List.length_map, comm]
        rw [ih ys]
      · simp [h, comm]
theorem mnl (x y : Nat) : (if ((y : Nat) : Int) < ((x : Nat) : Int) then ((y : Nat) : Int) else ((x : Nat) : Int)) = ((min x y : Nat) : Int) := by split <;> omega
theorem comm_le : ∀ xs ys : List Int, comm xs ys ≤ xs.length ∧ comm xs ys ≤ ys.length := by
  intro xs
  induction xs with
  | nil => intro ys; simp [comm]
  | cons x xs ih =>
    intro ys
    cases ys with
    | nil => simp [comm]
    | cons y ys =>
      have := ih ys
      simp only [comm, List.length_cons]
      split <;> omega

end
section
theorem cut1 (xs : List Int) (c : Nat) : (xs.drop c).take 1 = xs[c]?.toList := by
  induction xs generalizing c with
  | nil => simp
  | cons x xs ih => cases c with
    | zero => simp
    | succ c => simpa using ih c
theorem cut1' (xs : List Int) (c : Nat) : (xs.drop c).take (min (c + 1) xs.length - c) = (xs.drop c).take 1 := by
  rcases Nat.lt_or_ge c xs.length with h | h
  · rw [Nat.min_eq_left (show c + 1 ≤ xs.length from h), Nat.add_sub_cancel_left]
  · rw [List.drop_eq_nil_of_le h, List.take_nil, List.take_nil]
theorem sorted2 {ns : List Int} {e f : Int} (hp : ns.Perm [e, f]) (hs : ns.Pairwise (· ≤ ·)) : ∃ x y, ns = [x, y] ∧ x ≤ y ∧ (x = e ∧ y = f ∨ x = f ∧ y = e) := by
  have hl := hp.length_eq
  match ns, hl with
  | [x, y], _ =>
    refine ⟨x, y, rfl, ?_, ?_⟩
    · simpa using hs
    · have h1 : x ∈ [e, f] := hp.subset (by simp)
      have h2 : y ∈ [e, f] := hp.subset (by simp)
      have h3 : e ∈ [x, y] := hp.symm.subset (by simp)
      have h4 : f ∈ [x, y] := hp.symm.subset (by simp)
      simp only [List.mem_cons, List.not_mem_nil, or_false] at h1 h2 h3 h4
      cases h1 with
      | inl a => cases h2 with
        | inr b => exact .inl ⟨a, b⟩
        | inl b => exact .inl ⟨a, h4.elim (fun q => b.trans (a.symm.trans q.symm)) Eq.symm⟩
      | inr a => cases h2 with
        | inl b => exact .inr ⟨a, b⟩
        | inr b => exact .inr ⟨a, h3.elim (fun q => b.trans (a.symm.trans q.symm)) Eq.symm⟩
inductive EndsOk (E Z : List Int) : Prop
  | none (h : E = []) (hz : Z = [])
  | one (e z : Int) (h : E = [e]) (hz : Z = [z]) (le : e ≤ z)
  | two (e f z : Int) (h : E = [e, f]) (hz : Z = [z]) (le : e ≤ z) (le' : z ≤ f)
theorem EndsOk.form {E Z : List Int} (h : EndsOk E Z) : (E = [] ∧ Z = []) ∨ ∃ e F z, E = e :: F ∧ Z = [z] ∧ e ≤ z ∧ z ≤ ((e :: F) ++ [z]).getD 1 0 ∧ F.length ≤ 1 := by
  cases h with
  | none h hz => exact .inl ⟨h, hz⟩
  | one e z h hz le => exact .inr ⟨e, [], z, h, hz, le, Int.le_refl z, Nat.zero_le _⟩
  | two e f z h hz le le' => exact .inr ⟨e, [f], z, h, hz, le, le', Nat.le_refl _⟩
theorem ends_of {told row ns Z : List Int} {c : Nat} (h : MidEnd told[c]? row[c]? Z) (hp : ns.Perm ((told.drop c).take 1 ++ (row.drop c).take 1)) (hs : ns.Pairwise (· ≤ ·)) : EndsOk ns Z := by
  rw [cut1, cut1] at hp
  generalize told[c]? = x at *
  generalize row[c]? = y at *
  match x, y, h, hp with
  | none, none, h, hp =>
    exact .none (by simpa using hp) h
  | some e, none, h, hp =>
    obtain ⟨z, rfl, hz⟩ := h
    exact .one e z (by simpa using hp) rfl hz
  | none, some e, h, hp =>
    obtain ⟨z, rfl, hz⟩ := h
    exact .one e z (by simpa using hp) rfl hz
  | some e, some f, h, hp =>
    obtain ⟨z, rfl, hz⟩ := h
    obtain ⟨x, y, rfl, hxy, hc⟩ := sorted2 (by simpa using hp) hs
    exact .two x y z rfl rfl (by omega) (by omega)
/-- the run half-way, as the law wants it -/
theorem mid_law {W told row : List Int} {a b P V : Int} (hW : ∀ x ∈ W, x = 1 ∨ x = -1) (hl : W.length = 30) (ha : 1 ≤ a) (hb : 14 ≤ b) (hP : 0 ≤ P) (hV : 0 < V) (h1 : told.length ≤ 12) (h2 : row.length ≤ 8) (r1 : runV W a b = told) (r2 : runV W P V = row) :
    ∃ Z, runV (W.take (comm told row + 1)) (a * V + P * b) (2 * b * V) = told.take (comm told row) ++ Z ∧ MidEnd told[comm told row]? row[comm told row]? Z := by
  have := mid_run (W := W) (a := a) (b := b) (c := P) (d := V) hW (by omega) hP (by omega) hV (by rw [r1]; omega) (by rw [r2]; omega)
  rwa [r1, r2] at this

end
local macro_rules | `(tactic| k_ne) => `(tactic| (refine neN ?_; (try dsimp only); first
  | (k_extra "kne")
  | (exact ne_offI (by with_reducible assumption) (by k_mem))
  | (exact ne_offI' (by with_reducible assumption) (by k_mem))
  | (exact ne_above (by with_reducible assumption) (by k_mem))
  | (exact ne_below (by with_reducible assumption) (by k_mem))
  | (exact ne_off1' (by with_reducible assumption) (by k_mem))
  | (exact ne_off1 (by with_reducible assumption) (by k_mem))
  | (simp only [ne_eq, Nat.add_left_cancel_iff, Nat.add_assoc, Nat.reduceAdd, Nat.reduceEqDiff, not_false_eq_true]; done)
  | omega))
local macro_rules | `(tactic| lcg_sub) => `(tactic| repeat (first | (with_reducible exact sub_self) | refine sub_tail ?_))
local macro_rules | `(tactic| k_all) => `(tactic| first | with_reducible assumption | k_extra "kall")
section
theorem swaps_cell {e : PySem.Expr} {g : List Comprehension} {sc : Scope} {p q : Pos} {t : Str} {line : Nat} {env : Env} {k : Option NameKind} (hk : env.kindOf t = k) (hne : (k == some .local) = false) :
    swapsWith (.ListComp e g sc p) (some (.Name t q)) line env = pure false := by
  subst hk
  show (pure (env.blockKind == .function && env.kindOf t == some .local && q.line == (PySem.Expr.ListComp e g sc p).pos.line && !(sc.names.any fun (n, k) => n == t && (k == .local || k == .cell))) : Sem Bool) = pure false
  rw [hne, Bool.and_false, Bool.false_and, Bool.false_and]
theorem grown_of {h₀ h : Heap} {L : Addr} {tb : List (Addr × Obj)} (N : News h₀ L h tb) (T : Tabs tb) : GrownAll [(41, 37), (34, 30)] h := by
  obtain ⟨t1, t2, rfl, h1, h2⟩ := T
  obtain ⟨p1, m1⟩ := tab1_head h1
  obtain ⟨p2, m2⟩ := tab1_head h2
  exact ⟨⟨p2, (N _ (List.mem_append_left _ m2)).1⟩, ⟨p1, (N _ (List.mem_append_right _ m1)).1⟩, trivial⟩
/-- how many of the script's numbers come to the k-th cell -/
noncomputable def cntI (ns : List Int) (k : Nat) : Nat := (min ns.length 60 - k + 4) / 5
theorem cntI_le (ns : List Int) (k : Nat) : cntI ns k ≤ 12 := Nat.le_of_lt_succ (Nat.div_lt_of_lt_mul (Nat.lt_succ_of_le (Nat.add_le_add_right (Nat.le_trans (Nat.sub_le _ _) (Nat.min_le_right _ _)) 4)))
noncomputable def base5 : List Int := [1007, 10, 52, 23, 8]
noncomputable def cellI (ns : List Int) (k : Nat) : Int := base5.getD k 0 + ((List.range (cntI ns k)).map fun i => (ns.getD (k + 5 * i) 0).fmod 5040).sum
theorem ints_of_dat {news : Led} : ∀ {vs : List Value} {ns : List Int}, DatAll news vs (ns.map Dat.int) → IntsAre vs ns
  | [], [], _ => .nil
  | [], _ :: _, h => by cases h
  | _ :: _, [], h => by cases h
  | _ :: _, _ :: _, h => by
    cases h with
    | cons h r => cases h; exact .cons _ _ (ints_of_dat r)
theorem int_dat1 {l : Led} {a b : Int} {t : Tok} (h : a = b) : DatIn l (.int a t) (.int b) := h ▸ .int _ _
theorem drop_objs {h₀ h : Heap} {L : Addr} {d : Addr × Obj} {objs mid : Led} (N : News h₀ L h (d :: (objs ++ mid))) : News h₀ L h (d :: mid) := fun p hp => N p (by
  simp only [List.mem_cons, List.mem_append] at hp ⊢
  rcases hp with h | h <;> simp [h])
theorem drop_off {D : Addr} : ∀ {objs mid : Led}, Off1 D (objs ++ mid) → Off1 D mid
  | [], _, h => h
  | _ :: objs, mid, h => drop_off (objs := objs) h.2
noncomputable def wayI (c : Int) (k : Nat) : Int := if (c.fdiv (2 ^ (((k : Nat) : Int).fmod 7).toNat)).fmod 2 = 1 then -1 else 1
theorem rsize5 : ∀ k : Fin 5, ∀ b : Fin 61, Builtin.Range.small ((k.val : Nat) : Int) ((b.val : Nat) : Int) 5 = true ∧ Builtin.Range.rangeSize ((k.val : Nat) : Int) ((b.val : Nat) : Int) 5 = (((b.val - k.val + 4) / 5 : Nat) : Int) := by decide
theorem up60 (n : Nat) : (if (60 : Int) < ((n : Nat) : Int) then (60 : Int) else ((n : Nat) : Int)) = ((min n 60 : Nat) : Int) := by split <;> omega
theorem my_itemF {prog : Program} {w : World} {A : Around} {E : Value → Shared → Prop} {s : Shared} {value slice : PySem.Expr} {l : Addr} {items : List Value} {k : Int} {u : Tok} {x : Value} {Q : Value → Shared → Prop} (hl : s.heap.IsList l items.toArray)
    (hk : (decide (0 ≤ k) && decide (k < 64)) = true) (hx : items[k.toNat]? = some x) (h : Q x s)
    (hs : subscripted slice false (.ref l) (.int k u) = operate [.ref l, .int k u] (getItem (.ref l) (.int k u)) := by with_unfolding_all rfl) :
    wpAny (model prog w) A (subscriptTail value slice (.ref l) (.int k u)) Q E s := by
  simp only [Bool.and_eq_true, decide_eq_true_eq] at hk
  exact item_listR hl hk.1 (by have := hk.2; omega) (by simpa using hx) h hs
theorem sum_bd {f : Nat → Int} (h : ∀ i, 0 ≤ f i ∧ f i < 5040) : ∀ n : Nat, 0 ≤ ((List.range n).map f).sum ∧ ((List.range n).map f).sum ≤ 5040 * n := by
  intro n
  induction n with
  | zero => simp
  | succ n ih =>
    rw [List.range_succ, List.map_append, List.sum_append]
    have := h n
    simp only [List.map_cons, List.map_nil, List.sum_cons, List.sum_nil]
    omega
theorem cell_bd (ns : List Int) (k : Nat) (hk : k < 5) : 0 ≤ cellI ns k ∧ cellI ns k < 100000 := by
  have hb : ∀ k : Fin 5, 0 ≤ base5.getD k.val 0 ∧ base5.getD k.val 0 ≤ 1007 := by decide
  have h1 := hb ⟨k, hk⟩
  have h2 := sum_bd (f := fun i => (ns.getD (k + 5 * i) 0).fmod 5040) (fun i => ⟨Int.fmod_nonneg_of_pos _ (by decide), Int.fmod_lt_of_pos _ (by decide)⟩) (cntI ns k)
  have h3 := cntI_le ns k
  unfold cellI
  dsimp only at h1
  omega
theorem packW {h₀ h : Heap} {L : Addr} {e1 e2 e3 c1 c2 c3 c4 c5 c6 t1 t2 : Addr × Obj} (N : News h₀ L h (e1 :: e2 :: e3 :: c1 :: c2 :: c3 :: c4 :: c5 :: c6 :: [t1, t2])) : News h₀ L h (c1 :: c2 :: c3 :: c4 :: c5 :: c6 :: ([e1, e2, e3] ++ [t1, t2])) := mvs [e1, e2, e3] [c1, c2, c3, c4, c5, c6] N
noncomputable def RetOK (h₀ : Heap) (L : Addr) (s : Shared) (Q : Flow → Shared → Prop) : Prop := ∀ h' tk' m' tb, Fr h₀ L h' m' → News h₀ L h' tb → Tabs tb → Q (.ret (.bool true)) { s with heap := h', toks := tk' }
/-- the law behind its ways -/
noncomputable def RestP (nm : Str) (sc : Scope) (body : List Stmt) : Prop :=
  ∀ (w : World) (p : Program) (loose : List Str) (mean : ExcName → Option Value) (mg mb : Str → Option Value) (fa : Addr) (cd : Value) (h₀ : Heap) (L : Addr) (gg : Array GenState) (dd : Drawn) (os : OsState) (c0 c1 c2 c3 c4 : Int) (W : List Int),
    (_root_.hd.heap_39 w.params).In h₀ → Top p loose mean mg mb h₀ → Below callerA h₀ [] h₀ → CodeHd h₀ 41 37 → CodeHd h₀ 34 30 → (@LT.lt Nat _ 50 L) →
    (0 ≤ c0 ∧ c0 < 100000) → (0 ≤ c1 ∧ c1 < 100000) → (0 ≤ c2 ∧ c2 < 100000) → (0 ≤ c3 ∧ c3 < 100000) → (0 ≤ c4 ∧ c4 < 100000) → (∀ x ∈ W, x = 1 ∨ x = -1) → W.length = 30 →
    ∀ (Q : Flow → Shared → Prop) (E' : Value → Shared → Prop) (h : Heap) (tk : Nat) (o1 o2 o3 o4 o5 o6 : Obj) (R tb : Led) (cA wA : Addr) (cvs wvs : List Value) (cc wc : Nat) (v5 v6 : Option Value),
      RetOK h₀ L { heap := h, gens := gg, drawn := dd, toks := tk, os := os } Q → Tabs tb → Seqs R → o1.data = .cell none → o2.data = .cell none → o3.data = .cell (some (.ref wA)) → o4.data = .cell (some (.ref cA)) → o5.data = .cell v5 → o6.data = .cell v6 →
      (cA, listOf cvs.toArray cc) ∈ R → IntsAre cvs [c0, c1, c2, c3, c4] → (wA, listOf wvs.toArray wc) ∈ R → IntsAre wvs W → Fr h₀ L h (fun _ => none) →
      News h₀ L h ((L + 1 + 1 + 1 + 1 + 1 + 1, o1) :: (L + 1 + 1 + 1 + 1 + 1, o2) :: (L + 1 + 1 + 1 + 1, o3) :: (L + 1 + 1 + 1, o4) :: (L + 1 + 1, o5) :: (L + 1, o6) :: (R ++ tb)) →
      wpAny (model PySem.Challenge.rw_ta0142_01.row.prog w) (callerA.deeper (envOfC nm sc L fa cd)) (execs body (envOfC nm sc L fa cd)) Q E' { heap := h, gens := gg, drawn := dd, toks := tk, os := os }
set_option maxHeartbeats 24000000 in
noncomputable def pre0 : (d : Str × Scope × List Stmt) ×' (Stop (RestP d.1 d.2.1 d.2.2) → PySem.Challenge.rw_ta0142_01.Holds) :=
  ⟨⟨_, _, _⟩, fun contP => _root_.hd (by
  k_with_none
  k_with "eval ListComp" => ((k_extra "mycomp"))
  k_with "exec Assign cons ListComp" => ((k_dflt (refine wpAny_Assign_Name ?_ (swaps_cell (k := some .cell) (by rfl) (by rfl)))))
  k_with "exec For Name Call cons nil" => ((k_extra "myfor"))
  k_with "SrcT" => ((refine Stop.go ?_))
  k_with "call type:enumerate" => ((k_extra "myenum"))
  k_with "subscriptTail Name Slice ref ref" => ((k_here; k_extra "mysl"))
  k_with "call builtin:sum" => ((k_here; k_extra "mysum"))
  k_with "eval Name" => ((k_here; (with_reducible show wpAny _ _ (eval (Expr.Name _ _) (compEnvC _ _ _ _)) _ _ _); k_extra "mycell"))
  k_with "eval ListComp" => ((refine Stop.go ?_))
  k_with "subscriptTail Name Name ref int" => ((k_here; k_extra "itN"))
  k_with "call ref" => ((refine Stop.go ?_))
  k_with "SrcS" => ((refine Stop.go ?_))
  k_with "CompSrc BinOp cons ref" => ((refine Stop.go ?_))
  k_with "CompSrc" => ((refine Stop.go ?_))
  k_go0
  all_goals try k_fold
  rename_i o1 o2 o3 o4 o5 o6 d1 d2 d3 d4 d5 d6 XX0 XX TT KK FF cH1 NN ll
  replace FF := (show Fr _ _ _ (fun _ => none) from FF)
  replace d1 := (show o1.data = .cell none from d1)
  replace d2 := (show o2.data = .cell none from d2)
  replace d3 := (show o3.data = .cell none from d3)
  replace d4 := (show o4.data = .cell none from d4)
  replace d5 := (show o5.data = .cell none from d5)
  replace d6 := (show o6.data = .cell (some (.ref _)) from d6)
  clear XX0
  have l37 : @LT.lt Nat _ 37 _ := (allLt_of ll).1
  have l30 : @LT.lt Nat _ 30 _ := (allLt_of ll).2.1
  rename List Int => ns
  rename List Value => vs
  rename World => w
  rename IntsAre _ _ => hI
  rename_i s₀ s₁ mg mb G Y fa ofa pm cd doc ho hcd hg X V T B TE TW hs hl0 hL hr1 hl2 as1 as2 lA as3 hLl ra w1 r0 hr hc1 hc2 hD h₁ tk₁
  refine wpAny_mono (Q := fun f s' => Stop (f = Flow.ret (.bool true) ∧ ∃ h' tk' m' tb, s' = { heap := h', gens := s₁.gens, drawn := s₁.drawn, toks := tk', os := s₁.os } ∧ Fr (ghostOf s₁.heap [(41, 37), (34, 30)]) s₁.heap.objs.size h' m' ∧ News (ghostOf s₁.heap [(41, 37), (34, 30)]) s₁.heap.objs.size h' tb ∧ Tabs tb)) (E := fun _ _ => False) ?walk ?post ?err
  case err => exact fun _ _ e => e.elim
  case post =>
    rintro f s' ⟨rfl, h', tk', m', tb, rfl, hF, hN, hT⟩
    exact ⟨⟨.inl ⟨.bool true, .bool true, [], rfl, fun _ => rfl, .bool true, (by with_unfolding_all rfl), fun h => ⟨List.nodup_nil, fun _ h => nomatch h⟩⟩, hF.keep, rfl, hg⟩, grown_of hN hT⟩
  case walk =>
    clear G Y ho hcd hg X V T B TE TW hs hl0 hr1 hl2 hLl ra w1 r0 hr hD hc2
    generalize ghostOf s₁.heap [(41, 37), (34, 30)] = h₀ at *
    generalize s₁.heap.objs.size = L at *
    have l50 : @LT.lt Nat _ 50 L := Nat.lt_of_lt_of_le (Nat.lt_trans (by decide : 50 < 70) (Heap.lt_size (XX 70 _ (by k_is)))) FF.above
    k_with "mycell" => (k_dflt (refine' kcf_cell ?zN ?zc ?zm ?zd ?_ ?za ?zb; (case za => rfl); (case zb => rfl); (case zN => k_asm); (case zc => rfl); (case zm => k_mem); (case zd => assumption); k_whole))
    k_steps
    refine Stop.mk (LCg.ListComp_U (F₀ := by k_asm) (by rfl) (by decide) (by rfl) (by decide) (by rfl) ?_)
    k_steps
    refine Stop.mk (LCg.CompSrc.range (a := 0) (n := 5) (by rfl) (by k_asm) (by k_asm) (by assumption) (by decide) (by decide) (by rw [sizeLine_eq]; omega) ?_)
    intro g2
    refine rest_data [] (fun k => .int (cellI ns k)) (fun _ => trivial) ?istep ?ifin
    case istep =>
      intro k objs led v C oC m2 h tk E' hk hv hNs hx F N hsub
      obtain ⟨t, rfl⟩ := hv
      rw [Int.zero_add] at hx
      rename (Obj.data _ = Data.cell (some (Value.ref _))) => d5
      have mB := hsub (L + 1 + 1, _) (List.mem_append_right _ (by k_mem))
      have mS := hsub (L + 1, _) (List.mem_append_right _ (by k_mem))
      have mT := hsub (_, _) (List.mem_append_right _ List.mem_cons_self)
      clear hsub
      (try dsimp only)
      k_steps
      refine Stop.mk (listComp_S (F₀ := by k_asm) (by rfl) (by decide) (by rfl) (by decide) (by rfl) ?_)
      k_steps
      have hr5 := rsize5 ⟨k, hk⟩ ⟨min ns.length 60, by omega⟩
      rw [up60] at *
      refine Stop.mk (SrcS.range (n := cntI ns k) (by rfl) (by k_asm) (by k_asm) (by assumption) hr5.1 hr5.2 (by rw [sizeLine_eq]; exact Nat.le_trans (cntI_le ns k) (by decide)) ?_)
      intro g3
      refine rest_data [] (fun i => .int ((ns.getD (k + 5 * i) 0).fmod 5040)) (fun _ => trivial) ?jstep ?jfin
      case jstep =>
        intro i objs2 led2 v2 C2 oC2 m3 h2 tk2 E2 hi hv2 hNs2 hx2 F2 N2 hsub2
        obtain ⟨_, t2, rfl⟩ := hv2
        have mS2 := hsub2 _ (List.mem_append_right _ (List.mem_cons_of_mem _ mS))
        clear hsub2
        have hj : k + 5 * i < min ns.length 60 := by unfold cntI at hi; omega
        have hj60 := Nat.lt_of_lt_of_le hj (Nat.min_le_right _ _)
        replace hj := Nat.lt_of_lt_of_le hj (Nat.min_le_left _ _)
        have ej : ((k : Nat) : Int) + ((i : Nat) : Int) * 5 = ((k + 5 * i : Nat) : Int) := by omega
        rw [ej] at hx2
        obtain ⟨y, hy⟩ : ∃ y, ns[k + 5 * i]? = some y := ⟨_, List.getElem?_eq_getElem hj⟩
        have ey : ns.getD (k + 5 * i) 0 = y := by rw [List.getD_eq_getElem?_getD, hy]; rfl
        obtain ⟨ty, hyv⟩ := intsAre_get hI hy
        k_with "itN" => (k_dflt (refine my_itemF (Fr.lst (by k_asm) lifted) (k := ((k + 5 * i : Nat) : Int)) (by simp only [Bool.and_eq_true, decide_eq_true_eq]; omega) (x := .int y ty) (by exact hyv) ?_ (by with_unfolding_all rfl)))
        (try dsimp only)
        k_steps
        exact Stop.mk (DatEnd.intro [] [] (by k_asm) (by k_asm) rfl (by lcg_sub) (fun _ h => nomatch h) (fun _ h => nomatch h) .nil .nil (by rw [ey]; exact .int _ _))
      case jfin =>
        intro ys objs3 hl3 hs3 ha3 hd3
        unfold FinE
        intro D3 h3 tk3 F3 N3 off3
        replace N3 : News h₀ L h3 ((D3, lst ys) :: (C, oC) :: led) := fun p hp => N3 p (by
          simp only [List.mem_cons, List.mem_append] at hp ⊢
          rcases hp with h | h | h <;> simp [h])
        have hys : IntsAre ys ((List.range (cntI ns k)).map fun i => (ns.getD (k + 5 * i) 0).fmod 5040) := ints_of_dat (by rw [List.map_map]; exact hd3)
        clear hd3 hs3 ha3 off3
        k_with "mysum" => (k_dflt (refine sumK (by rfl) (by k_asm) (by k_asm) (News.isList (by k_asm) (by k_mem)) (by assumption) ?_); intro h' tk' t' F' N')
        (try dsimp only)
        k_steps
        exact Stop.mk (DatEnd.intro [] [] (by k_asm) (by k_asm) rfl (by lcg_sub) (fun _ h => nomatch h) (fun _ h => nomatch h) .nil .nil (int_dat1 rfl))
    case ifin =>
      intro ys objs hl hs ha hd
      unfold FinE
      intro D4 h4 tk4 F4 N4 off4
      rename (Obj.data _ = Data.cell (some (Value.ref _))) => d5
      replace N4 := drop_objs N4
      replace off4 := drop_off off4
      have hys : IntsAre ys ((List.range 5).map (cellI ns)) := ints_of_dat (by rw [List.map_map]; exact hd)
      clear hd hs ha
      (try dsimp only)
      k_steps
      refine Stop.mk (LCg.ListComp_U (F₀ := by k_asm) (by rfl) (by decide) (by rfl) (by decide) (by rfl) ?_)
      k_steps
      refine Stop.mk (LCg.CompSrc.range (a := 0) (n := 30) (by rfl) (by k_asm) (by k_asm) (by assumption) (by decide) (by decide) (by rw [sizeLine_eq]; omega) ?_)
      intro g5
      refine rest_data [] (fun k => .int (wayI (cellI ns 2) k)) (fun _ => trivial) ?wstep ?wfin
      case wstep =>
        intro k objs led v C oC m2 h tk E' hk hv hNs hx F N hsub
        obtain ⟨t, rfl⟩ := hv
        rw [Int.zero_add] at hx
        rename (Obj.data _ = Data.cell (some (Value.ref D4))) => d4
        have mC := hsub (L + 1 + 1 + 1, _) (List.mem_append_right _ (by k_mem))
        have mL := hsub (D4, _) (List.mem_append_right _ (by k_mem))
        clear hsub
        (try dsimp only)
        k_steps
        all_goals exact Stop.mk (DatEnd.intro [] [] (by k_asm) (by k_asm) rfl (by lcg_sub) (fun _ h => nomatch h) (fun _ h => nomatch h) .nil .nil (int_dat1 (by
          unfold wayI
          first
          | exact (if_pos (by assumption)).symm
          | exact (if_neg (by assumption)).symm)))
      case wfin =>
        intro ws objs hlw hs ha hd
        unfold FinE
        intro D5 h5 tk5 F5 N5 off5
        replace N5 := drop_objs N5
        replace off5 := drop_off off5
        have hws : IntsAre ws ((List.range 30).map (wayI (cellI ns 2))) := ints_of_dat (by rw [List.map_map]; exact hd)
        clear hd hs ha
        have hW : ∀ x ∈ (List.range 30).map (wayI (cellI ns 2)), x = 1 ∨ x = -1 := by
          intro x hx
          obtain ⟨k, _, rfl⟩ := List.mem_map.mp hx
          unfold wayI; split
          · exact .inr rfl
          · exact .inl rfl
        have hWl : ((List.range 30).map (wayI (cellI ns 2))).length = 30 := by rw [List.length_map, List.length_range]
        generalize (List.range 30).map (wayI (cellI ns 2)) = W at hws hW hWl
        (try dsimp only)
        generalize s₁.gens = gg, s₁.drawn = dd, s₁.os = os at *
        rename (Obj.data _ = Data.cell (some (Value.ref D4))) => d4'
        k_with "execs cons" => (refine Stop.go ?_)
        k_steps
        rename News _ _ _ _ => N6
        rename Fr _ _ _ _ => F6
        rename (Obj.data _ = Data.cell (some (Value.ref D5))) => d3'
        refine Stop.mk (contP.go w _ _ _ _ _ fa cd h₀ L gg dd os _ _ _ _ _ W XX TT KK cH1 codeHd l50 (cell_bd ns 0 (by decide)) (cell_bd ns 1 (by decide)) (cell_bd ns 2 (by decide)) (cell_bd ns 3 (by decide)) (cell_bd ns 4 (by decide)) hW hWl _ _ _ _ _ _ _ _ _ _ _ _ _ _ _ _ _ _ _ _ ?ret ⟨[(30, tabObj #[])], [(37, tabObj #[])], rfl, .inl rfl, .inl rfl⟩ (.cons ⟨_, _, rfl⟩ (.cons ⟨_, _, rfl⟩ (.cons ⟨_, _, rfl⟩ .nil))) d1 d2 d3' d4' d5 d6 (List.mem_cons_of_mem _ List.mem_cons_self) hys List.mem_cons_self hws F6 (packW N6))
        intro h' tk' m' tb' F' N' T'
        exact ⟨⟨rfl, _, _, _, _, rfl, F', N', T'⟩⟩
    )⟩

end
section
theorem ints5 {cvs : List Value} {c0 c1 c2 c3 c4 : Int} (h : IntsAre cvs [c0, c1, c2, c3, c4]) : ∃ t0 t1 t2 t3 t4, cvs = [.int c0 t0, .int c1 t1, .int c2 t2, .int c3 t3, .int c4 t4] := by
  cases h with | cons _ _ h => cases h with | cons _ _ h => cases h with | cons _ _ h => cases h with | cons _ _ h => cases h with | cons _ _ h => cases h; exact ⟨_, _, _, _, _, rfl⟩
/-- the law behind the first check -/
noncomputable def Rest2P (nm : Str) (sc : Scope) (body : List Stmt) : Prop :=
  ∀ (w : World) (p : Program) (loose : List Str) (mean : ExcName → Option Value) (mg mb : Str → Option Value) (fa : Addr) (cd : Value) (h₀ : Heap) (L : Addr) (gg : Array GenState) (dd : Drawn) (os : OsState) (c0 c1 c2 c3 c4 : Int) (W : List Int) (a b : Int) (told : List Int),
    (_root_.hd.heap_39 w.params).In h₀ → Top p loose mean mg mb h₀ → Below callerA h₀ [] h₀ → CodeHd h₀ 41 37 → CodeHd h₀ 34 30 → (@LT.lt Nat _ 50 L) →
    (0 ≤ c3 ∧ c3 < 100000) → (0 ≤ c4 ∧ c4 < 100000) → (∀ x ∈ W, x = 1 ∨ x = -1) → W.length = 30 → (1 ≤ a ∧ a ≤ 12) → (14 ≤ b ∧ b ≤ 1021) → Told W a b told →
    ∀ (Q : Flow → Shared → Prop) (E' : Value → Shared → Prop) (h : Heap) (tk : Nat) (o1 o2 o3 o4 o5 o6 : Obj) (R tb : Led) (cA wA tA : Addr) (cvs wvs tvs : List Value) (cc wc tc : Nat) (v5 v6 : Option Value) (ta t2 : Tok),
      RetOK h₀ L { heap := h, gens := gg, drawn := dd, toks := tk, os := os } Q → Tabs tb → Seqs R → o1.data = .cell none → o2.data = .cell (some (.ref tA)) → o3.data = .cell (some (.ref wA)) → o4.data = .cell (some (.ref cA)) → o5.data = .cell v5 → o6.data = .cell v6 →
      (cA, listOf cvs.toArray cc) ∈ R → IntsAre cvs [c0, c1, c2, c3, c4] → (wA, listOf wvs.toArray wc) ∈ R → IntsAre wvs W → (tA, listOf tvs.toArray tc) ∈ R → IntsAre tvs told → Fr h₀ L h (fun y => if y = Str.ofString "above" then some (.int a ta) else if y = Str.ofString "below" then some (.int b t2) else none) →
      News h₀ L h ((L + 1 + 1 + 1 + 1 + 1 + 1, o1) :: (L + 1 + 1 + 1 + 1 + 1, o2) :: (L + 1 + 1 + 1 + 1, o3) :: (L + 1 + 1 + 1, o4) :: (L + 1 + 1, o5) :: (L + 1, o6) :: (R ++ tb)) →
      wpAny (model PySem.Challenge.rw_ta0142_01.row.prog w) (callerA.deeper (envOfC nm sc L fa cd)) (execs body (envOfC nm sc L fa cd)) Q E' { heap := h, gens := gg, drawn := dd, toks := tk, os := os }
theorem pack2 {h₀ h : Heap} {L : Addr} {e1 e2 c1 c2 c3 c4 c5 c6 : Addr × Obj} {R tb : Led} (N : News h₀ L h (e1 :: e2 :: c1 :: c2 :: c3 :: c4 :: c5 :: c6 :: (R ++ tb))) (s1 : ∃ a n, e1.2.data = .seq a n) (s2 : ∃ a n, e2.2.data = .seq a n) (sR : Seqs R) :
    ∃ R', News h₀ L h (c1 :: c2 :: c3 :: c4 :: c5 :: c6 :: (R' ++ tb)) ∧ Seqs R' ∧ e1 ∈ R' ∧ e2 ∈ R' ∧ ∀ p ∈ R, p ∈ R' :=
  ⟨e1 :: e2 :: R, mvs [e1, e2] [c1, c2, c3, c4, c5, c6] N, .cons s1 (.cons s2 sR), List.mem_cons_self, List.mem_cons_of_mem _ List.mem_cons_self, fun _ h => List.mem_cons_of_mem _ (List.mem_cons_of_mem _ h)⟩
set_option maxHeartbeats 24000000 in
noncomputable def pre1 : (d : Str × Scope × List Stmt) ×' (Stop (Rest2P d.1 d.2.1 d.2.2) → RestP pre0.1.1 pre0.1.2.1 pre0.1.2.2) := ⟨⟨_, _, _⟩, fun contP => by
  unfold pre0
  dsimp only
  unfold RestP
  k_fill
  w_top off
  k_with_none
  k_with "eval ListComp" => ((refine Stop.go ?_))
  k_with "exec Assign cons ListComp" => ((refine Stop.go ?_))
  k_with "call ref" => ((refine Stop.go ?_))
  k_with "binaryOp Add ref ref" => ((k_here; k_extra "myadd"))
  k_with "compareOp NotEq ref ref" => ((refine Stop.go ?_))
  k_with "compareOp Eq ref ref" => ((refine Stop.go ?_))
  k_with "CompSrc" => ((refine Stop.go ?_))
  k_with "CompSrcT" => ((refine Stop.go ?_))
  k_with "subscriptTail Name Slice ref ref" => ((k_here; k_extra "mysl"))
  k_with "subscriptTail Name Name ref int" => ((k_here; k_extra "itN"))
  k_with "subscriptTail Name BinOp ref int" => ((k_here; k_extra "itB"))
  k_with "subscriptTail Name Constant ref int" => ((k_here; k_extra "itC"))
  k_with "binaryOp Mult int int" => ((k_extra "mymul"))
  k_with "call builtin:len" => ((k_extra "mylen"))
  k_with "call builtin:sorted" => ((k_extra "mysort"))
  k_with "eval Name" => ((k_here; (with_reducible show wpAny _ _ (eval (Expr.Name _ _) (compEnvC _ _ _ _)) _ _ _); k_extra "mycell"))
  intro w p loose mean mg mb fa cd h₀ L gg dd os c0 c1 c2 c3 c4 W X T B hC1 hC2 l50 b0 b1 b2 b3 b4 hW hWl Q E' h tk o1 o2 o3 o4 o5 o6 R tb cA wA cvs wvs cc wc v5 v6 hret hT sR d1 d2 d3 d4 d5 d6 hcm hci hwm hwi F N
  obtain ⟨t0, t1, t2, t3, t4, rfl⟩ := ints5 hci
  clear hci
  have f2 := off_cell N (by k_mem) d2 sR hT (by omega) in6
  k_with "mycell" => (k_dflt (refine' kcf_cell ?zN ?zc ?zm ?zd ?_ ?za ?zb; (case za => rfl); (case zb => rfl); (case zN => k_asm); (case zc => rfl); (case zm => k_mem); (case zd => assumption); k_whole))
  k_with "itC" => (k_dflt (first | (refine my_item (by k_asm) (List.mem_cons_of_mem _ (in6 _ (List.mem_append_left _ hcm))) (by decide) (by rfl) ?_) | (refine my_item (by k_asm) (in6 _ (List.mem_append_left _ hcm)) (by decide) (by rfl) ?_)))
  have hA : 1 ≤ 1 + c1.fmod 12 ∧ 1 + c1.fmod 12 ≤ 12 := by
    have := Int.fmod_nonneg_of_pos c1 (show 0 < 12 by decide); have := Int.fmod_lt_of_pos c1 (show 0 < 12 by decide); omega
  have hB : 14 ≤ 14 + c0.fmod 1008 ∧ 14 + c0.fmod 1008 ≤ 1021 := by
    have := Int.fmod_nonneg_of_pos c0 (show 0 < 1008 by decide); have := Int.fmod_lt_of_pos c0 (show 0 < 1008 by decide); omega
  k_steps
  generalize 1 + c1.fmod 12 = a at *
  generalize 14 + c0.fmod 1008 = b at *
  rename News _ _ _ _ => N1
  rename Fr _ _ _ _ => F1
  have hov := over7 l50 ⟨_, _, rfl⟩ sR hT N1
  refine Stop.mk (run_use hW (by omega) (by omega) (sz20 (by omega) (by decide)) (sz20 (by omega) (by decide)) (.inl rfl) B hC2 hC1 F1 X (rest := (_, _) :: (L + 1 + 1 + 1 + 1 + 1 + 1, o1) :: (L + 1 + 1 + 1 + 1 + 1, o2) :: (L + 1 + 1 + 1 + 1, o3) :: (L + 1 + 1 + 1, o4) :: (L + 1 + 1, o5) :: (L + 1, o6) :: R) (tb := tb) N1 T rfl hT hov (List.mem_cons_of_mem _ (in6 _ hwm)) hwi (by ktr_room) (by ktr_units) ?_)
  intro tA tvs tc h2 tk2 tb2 hT2 hti F2 N2
  have hTo := told_of hW hWl hA hB
  generalize runV W a b = told at *
  obtain ⟨R2, N3, sR2, htm, _, hRR⟩ := packD6 N2 ⟨_, _, rfl⟩ ⟨_, _, rfl⟩ sR
  replace hwm := hRR _ hwm
  replace hcm := hRR _ hcm
  clear hov f2 N1 F1 hRR sR hT N2
  have f2 := off_cell N3 (by k_mem) d2 sR2 hT2 (by omega) in6
  (try dsimp only)
  k_steps
  rename News _ _ _ _ => N4
  rename Fr _ _ _ _ => F4
  rename (Obj.data _ = Data.cell (some (Value.ref tA))) => d2'
  rename Obj => o2'
  refine Stop.mk (LCt.ListComp_T (F₀ := F4) (by with_unfolding_all rfl) (by decide) (by rfl) (by decide) (by rfl) ?_)
  have hTl := hTo.len
  have hTp := hTo.pos
  k_with "mylen" => (k_dflt (refine my_lenI (n := told.length) (by k_asm) (in6 _ (List.mem_append_left _ htm)) (by rw [hti.length]) (by omega) ?_))
  k_steps
  have hrz := rsizeU ⟨1, by decide⟩ ⟨told.length, by omega⟩ hTp
  refine Stop.mk (LCt.CompSrcT.range (a := 1) (n := told.length - 1) (by rfl) (by k_asm) (by k_asm) (by assumption) hrz.1 hrz.2 (by rw [sizeLine_eq]; omega) ?_)
  intro g2
  refine rest_filt (fun _ => false) (fun i => 1 + (i : Int)) trivial ?cstep ?cest ?cfin
  case cstep =>
    intro i led v C oC m₂ h tk E' hi hv hNs hx F N hsub
    obtain ⟨t, rfl⟩ := hv
    have mT := hsub (L + 1 + 1 + 1 + 1 + 1, o2') (by k_mem)
    have mW := hsub (L + 1 + 1 + 1 + 1, o3) (by k_mem)
    replace htm := hsub _ (in6 _ (List.mem_append_left _ htm))
    replace hwm := hsub _ (in6 _ (List.mem_append_left _ hwm))
    clear hsub hcm
    have ek : (1 : Int) + ((i : Nat) : Int) = ((1 + i : Nat) : Int) := by omega
    rw [ek] at hx
    have hrise := adm_rise (k := 1 + i) hW hTo.adm (by omega) (by omega) (by omega)
    have hWx : W[1 + i - 1]? = some _ := List.getElem?_eq_getElem (by omega)
    have hWy : W[1 + i]? = some _ := List.getElem?_eq_getElem (by omega)
    k_with "itN" => (k_dflt (refine my_itemN (by k_asm) (by k_mem) hti (1 + i) rfl (by omega) (by omega) ?_); intro tk1)
    k_with "itB" => (k_dflt (refine my_itemN (by k_asm) (by k_mem) hti (1 + i - 1) (by omega) (by omega) (by omega) ?_); intro tk1)
    k_with "mylen" => (k_dflt (refine my_lenI (n := told.length) (by k_asm) (by k_mem) (by rw [hti.length]) (by omega) ?_))
    (try dsimp only)
    k_steps
    refine Stop.mk (rise_use hWx hWy (by omega) (by omega) (by omega) B (by k_asm) X (by k_asm) T rfl (by k_mem) hwi (by ktr_room) (by ktr_units) ?_)
    intro t5 h5 tk5 F5 N5
    (try dsimp only)
    k_steps
    exact Stop.mk ⟨decide_eq_false (by omega), _, _, _, rfl, by k_asm, by k_asm, fun _ h => h⟩
  case cest =>
    intro i led v C oC m₂ h tk E' hi hv hNs hx F N hsub
    obtain ⟨t, rfl⟩ := hv
    clear hsub hcm
    (try dsimp only)
    k_steps
    exact Stop.mk ⟨t, rfl, _, _, _, rfl, by k_asm, by k_asm, fun _ h => h⟩
  case cfin =>
    intro ys hys
    unfold FinE
    intro D5 h5 tk5 F5 N5 off5
    replace hys : IntsAre ys [] := by
      have e : (List.range (told.length - 1)).filter (fun _ => false) = [] := by simp
      rw [e] at hys
      exact hys
    clear f2
    (try dsimp only)
    k_steps
    have e : (!decide (([] : List Int) = [])) = false := rfl
    refine Stop.mk (ne_intsK (ns := []) (ms := []) (News.isList (by k_asm) (by k_mem)) hys (News.isList (items := #[]) (by k_asm) List.mem_cons_self) .nil (by ktr_units) ?_)
    rw [e]
    k_with "execs cons" => (refine Stop.go ?_)
    k_steps
    rename News _ _ _ _ => N6
    rename Fr _ _ _ _ => F6
    obtain ⟨R3, N7, sR3, _, _, hRR⟩ := pack2 N6 ⟨_, _, rfl⟩ ⟨_, _, rfl⟩ sR2
    refine Stop.mk (contP.go w _ _ _ _ _ fa cd h₀ L gg dd os c0 c1 c2 c3 c4 W a b told X T B hC1 hC2 l50 b3 b4 hW hWl hA hB hTo _ _ _ _ _ _ _ _ _ _ _ _ _ _ _ _ _ _ _ _ _ _ _ _ _ ?ret hT2 sR3 d1 d2' d3 d4 d5 d6 (hRR _ hcm) (.cons _ _ (.cons _ _ (.cons _ _ (.cons _ _ (.cons _ _ .nil))))) (hRR _ hwm) hwi (hRR _ htm) hti F6 N7)
    exact hret⟩

end
section
theorem kept_of (c : Int) (n : Nat) : ∃ K : Nat, (if ((n : Nat) : Int) < c.fmod 6 then ((n : Nat) : Int) else c.fmod 6) = (K : Int) ∧ K ≤ n ∧ K ≤ 5 := by
  have h0 := Int.fmod_nonneg_of_pos c (show 0 < 6 by decide)
  have h1 := Int.fmod_lt_of_pos c (show 0 < 6 by decide)
  split
  · exact ⟨n, rfl, Nat.le_refl _, by omega⟩
  · exact ⟨(c.fmod 6).toNat, by omega, by omega, by omega⟩
theorem many_of (c : Int) (K : Nat) : ∃ M : Nat, (K : Int) + 1 + (c.fdiv 6).fmod 3 = (M : Int) ∧ K < M ∧ M ≤ K + 3 := by
  have h0 := Int.fmod_nonneg_of_pos (c.fdiv 6) (show 0 < 3 by decide)
  have h1 := Int.fmod_lt_of_pos (c.fdiv 6) (show 0 < 3 by decide)
  exact ⟨((K : Int) + 1 + (c.fdiv 6).fmod 3).toNat, by omega, by omega, by omega⟩
/-- the law behind the other row -/
noncomputable def Rest3P (nm : Str) (sc : Scope) (body : List Stmt) : Prop :=
  ∀ (w : World) (p : Program) (loose : List Str) (mean : ExcName → Option Value) (mg mb : Str → Option Value) (fa : Addr) (cd : Value) (h₀ : Heap) (L : Addr) (gg : Array GenState) (dd : Drawn) (os : OsState) (W : List Int) (a b x1 x2 x3 : Int) (told row : List Int),
    (_root_.hd.heap_39 w.params).In h₀ → Top p loose mean mg mb h₀ → Below callerA h₀ [] h₀ → CodeHd h₀ 41 37 → CodeHd h₀ 34 30 → (@LT.lt Nat _ 50 L) →
    (∀ x ∈ W, x = 1 ∨ x = -1) → W.length = 30 → (1 ≤ a ∧ a ≤ 12) → (14 ≤ b ∧ b ≤ 1021) → Told W a b told → RowOk W row →
    ∀ (Q : Flow → Shared → Prop) (E' : Value → Shared → Prop) (h : Heap) (tk : Nat) (o1 o2 o3 o4 o5 o6 : Obj) (R tb : Led) (wA tA rA : Addr) (wvs tvs rvs : List Value) (wc tc rc : Nat) (v4 v5 v6 : Option Value) (y1 y2 y3 ta t2 : Tok),
      RetOK h₀ L { heap := h, gens := gg, drawn := dd, toks := tk, os := os } Q → Tabs tb → Seqs R → o1.data = .cell (some (.ref rA)) → o2.data = .cell (some (.ref tA)) → o3.data = .cell (some (.ref wA)) → o4.data = .cell v4 → o5.data = .cell v5 → o6.data = .cell v6 →
      (wA, listOf wvs.toArray wc) ∈ R → IntsAre wvs W → (tA, listOf tvs.toArray tc) ∈ R → IntsAre tvs told → (rA, listOf rvs.toArray rc) ∈ R → IntsAre rvs row → Fr h₀ L h (fun y => if y = Str.ofString "kept" then some (.int x1 y1) else if y = Str.ofString "whole" then some (.int x2 y2) else if y = Str.ofString "part" then some (.int x3 y3) else if y = Str.ofString "above" then some (.int a ta) else if y = Str.ofString "below" then some (.int b t2) else none) →
      News h₀ L h ((L + 1 + 1 + 1 + 1 + 1 + 1, o1) :: (L + 1 + 1 + 1 + 1 + 1, o2) :: (L + 1 + 1 + 1 + 1, o3) :: (L + 1 + 1 + 1, o4) :: (L + 1 + 1, o5) :: (L + 1, o6) :: (R ++ tb)) →
      wpAny (model PySem.Challenge.rw_ta0142_01.row.prog w) (callerA.deeper (envOfC nm sc L fa cd)) (execs body (envOfC nm sc L fa cd)) Q E' { heap := h, gens := gg, drawn := dd, toks := tk, os := os }
theorem pack3 {h₀ h : Heap} {L : Addr} {e1 e2 e3 c1 c2 c3 c4 c5 c6 : Addr × Obj} {R tb : Led} (N : News h₀ L h (e1 :: e2 :: e3 :: c1 :: c2 :: c3 :: c4 :: c5 :: c6 :: (R ++ tb))) (s1 : ∃ a n, e1.2.data = .seq a n) (s2 : ∃ a n, e2.2.data = .seq a n) (s3 : ∃ a n, e3.2.data = .seq a n) (sR : Seqs R) :
    ∃ R', News h₀ L h (c1 :: c2 :: c3 :: c4 :: c5 :: c6 :: (R' ++ tb)) ∧ Seqs R' ∧ e1 ∈ R' ∧ ∀ p ∈ R, p ∈ R' :=
  ⟨e1 :: e2 :: e3 :: R, mvs [e1, e2, e3] [c1, c2, c3, c4, c5, c6] N, .cons s1 (.cons s2 (.cons s3 sR)), List.mem_cons_self, fun _ h => List.mem_cons_of_mem _ (List.mem_cons_of_mem _ (List.mem_cons_of_mem _ h))⟩
set_option maxHeartbeats 24000000 in
noncomputable def pre2 : (d : Str × Scope × List Stmt) ×' (Stop (Rest3P d.1 d.2.1 d.2.2) → Rest2P pre1.1.1 pre1.1.2.1 pre1.1.2.2) := ⟨⟨_, _, _⟩, fun contP => by
  unfold pre1
  dsimp only
  unfold Rest2P
  k_fill
  w_top off
  k_with_none
  k_with "eval ListComp" => ((refine Stop.go ?_))
  k_with "exec Assign cons ListComp" => ((refine Stop.go ?_))
  k_with "call ref" => ((refine Stop.go ?_))
  k_with "binaryOp Add ref ref" => ((k_here; k_extra "myadd"))
  k_with "compareOp NotEq ref ref" => ((refine Stop.go ?_))
  k_with "compareOp Eq ref ref" => ((refine Stop.go ?_))
  k_with "CompSrc" => ((refine Stop.go ?_))
  k_with "CompSrcT" => ((refine Stop.go ?_))
  k_with "subscriptTail Name Slice ref ref" => ((k_here; k_extra "mysl"))
  k_with "subscriptTail Name Name ref int" => ((k_here; k_extra "itN"))
  k_with "subscriptTail Name BinOp ref int" => ((k_here; k_extra "itB"))
  k_with "subscriptTail Name Constant ref int" => ((k_here; k_extra "itC"))
  k_with "binaryOp Mult int int" => ((k_extra "mymul"))
  k_with "call builtin:len" => ((k_extra "mylen"))
  k_with "call builtin:sorted" => ((k_extra "mysort"))
  k_with "eval Name" => ((k_here; (with_reducible show wpAny _ _ (eval (Expr.Name _ _) (compEnvC _ _ _ _)) _ _ _); k_extra "mycell"))
  intro w p loose mean mg mb fa cd h₀ L gg dd os c0 c1 c2 c3 c4 W a b told X T B hC1 hC2 l50 b3 b4 hW hWl hA hB hTo Q E' h tk o1 o2 o3 o4 o5 o6 R tb cA wA tA cvs wvs tvs cc wc tc v5 v6 ta t2 hret hT sR d1 d2 d3 d4 d5 d6 hcm hci hwm hwi htm hti F N
  obtain ⟨s0, s1, s2, s3, s4, rfl⟩ := ints5 hci
  clear hci
  have f1 := off_cell N (by k_mem) d1 sR hT (by omega) in6
  have hTl := hTo.len
  have hTp := hTo.pos
  have hTz : ∀ x ∈ told, Sz x 100 := fun x hx => sz20 (by have := hTo.bd x hx; omega) (by decide)
  have hnz := nest_sz hW hTz
  have hn := hTo.nest
  k_with "mycell" => (k_dflt (refine' kcf_cell ?zN ?zc ?zm ?zd ?_ ?za ?zb; (case za => rfl); (case zb => rfl); (case zN => k_asm); (case zc => rfl); (case zm => k_mem); (case zd => assumption); k_whole))
  k_steps
  refine Stop.mk (nested_use hW hTz (by omega) (by omega) B (by k_asm) X (by k_asm) T rfl (in6 _ (List.mem_append_left _ hwm)) hwi (in6 _ (List.mem_append_left _ htm)) hti (by ktr_room) (by ktr_units) ?_)
  intro D1 u1 u2 pc h1 tk1 F1 N1
  generalize nestP told W = pr at *
  have z1 : Sz pr.1 2000 := hnz.1.mono (by omega)
  have z2 : Sz pr.2 2000 := hnz.2.mono (by omega)
  have z3 : Sz a 2000 := sz20 (by omega) (by decide)
  have z4 : Sz b 2000 := sz20 (by omega) (by decide)
  clear hnz
  k_with "mymul" => (with_reducible refine mul_int ?_ (mul_ok (by assumption) (by assumption) (by decide)))
  have hst : StopNow := ⟨⟩
  k_with "execs nil" => (refine stopIf (by with_reducible assumption) ?_)
  (try dsimp only)
  k_steps
  · exact absurd hn (by assumption)
  refine Stop.mk ?_
  clear hn hst
  k_with "itC" => (k_dflt (first | (refine my_item (by k_asm) (in7 _ (List.mem_append_left _ hcm)) (by decide) (by rfl) ?_) | (refine my_item (by k_asm) (List.mem_cons_of_mem _ (in7 _ (List.mem_append_left _ hcm))) (by decide) (by rfl) ?_) | (refine my_item (by k_asm) (List.mem_cons_of_mem _ (List.mem_cons_of_mem _ (in7 _ (List.mem_append_left _ hcm)))) (by decide) (by rfl) ?_)))
  k_with "mylen" => (k_dflt (refine my_lenI (n := told.length) (by k_asm) (in7 _ (List.mem_append_left _ htm)) (by rw [hti.length]) (by omega) ?_))
  k_with "mysl" => (refine Stop.go ?_)
  k_steps
  obtain ⟨K, hK, hKn, hK5⟩ := kept_of c4 told.length
  rename Fr _ _ _ _ => F2
  rename News _ _ _ _ => N2
  rw [hK] at F2 ⊢
  have htk : IntsAre (slicePick tvs.toArray none (some ((K : Nat) : Int)) none).toList (told.take K) := by
    have := pick_to hti (y := ((K : Nat) : Int)) (by omega)
    rwa [Int.toNat_natCast] at this
  refine Stop.mk (kmk_slice_ints F2 N2 (News.isList N2 (in7 _ (List.mem_append_left _ htm))) IsPart.none (IsPart.int _ _) hti htk rfl ?_ (by with_unfolding_all rfl) (by kmk_pure) (size_ok hti (Nat.le_trans hTl (by decide))))
  intro kA kvs h3 F3 N3 l3 hki _ _
  (try dsimp only)
  k_with "itC" => (k_dflt (first | (refine my_item (by k_asm) (List.mem_cons_of_mem _ (in7 _ (List.mem_append_left _ hcm))) (by decide) (by rfl) ?_)))
  k_steps
  obtain ⟨M, hM, hKM, hM3⟩ := many_of c4 K
  rw [hM]
  have hkl : (told.take K).length = K := by rw [List.length_take]; omega
  refine Stop.mk (other_use (by omega) (by omega) (by omega) B (by k_asm) X (by k_asm) T rfl (List.mem_cons_of_mem _ (in7 _ (List.mem_append_left _ hwm))) hwi List.mem_cons_self hki (by ktr_room) (by ktr_units) ?_)
  intro rA rvs rc h4 tk4 hri F4 N4
  have hrow := row_of c3 hW hWl hTo hKn hK5 hKM hM3
  generalize otherV W M (M - (told.take K).length) (told.take K) c3 = row at *
  obtain ⟨R2, N5, sR2, hrm, hRR⟩ := pack3 N4 ⟨_, _, rfl⟩ ⟨_, _, rfl⟩ ⟨_, _, rfl⟩ sR
  clear f1 N4 l3 hki
  have f1 := off_cell N5 (by k_mem) d1 sR2 hT (by omega) in6
  (try dsimp only)
  k_with "execs cons" => (refine Stop.go ?_)
  k_steps
  rename News _ _ _ _ => N6
  rename Fr _ _ _ _ => F6
  rename (Obj.data _ = Data.cell (some (Value.ref rA))) => d1'
  refine Stop.mk (contP.go w _ _ _ _ _ fa cd h₀ L gg dd os W a b _ _ _ told row X T B hC1 hC2 l50 hW hWl hA hB hTo hrow _ _ _ _ _ _ _ _ _ _ _ _ _ _ _ _ _ _ _ _ _ _ _ _ _ _ _ _ _ ?ret hT sR2 d1' d2 d3 d4 d5 d6 (hRR _ hwm) hwi (hRR _ htm) hti hrm hri F6 N6)
  exact hret⟩

end
section
/-- the law behind the second check -/
noncomputable def Rest4P (nm : Str) (sc : Scope) (body : List Stmt) : Prop :=
  ∀ (w : World) (p : Program) (loose : List Str) (mean : ExcName → Option Value) (mg mb : Str → Option Value) (fa : Addr) (cd : Value) (h₀ : Heap) (L : Addr) (gg : Array GenState) (dd : Drawn) (os : OsState) (W : List Int) (a b P V x1 x2 x3 : Int) (told row : List Int),
    (_root_.hd.heap_39 w.params).In h₀ → Top p loose mean mg mb h₀ → Below callerA h₀ [] h₀ → CodeHd h₀ 41 37 → CodeHd h₀ 34 30 → (@LT.lt Nat _ 50 L) →
    (∀ x ∈ W, x = 1 ∨ x = -1) → W.length = 30 → (1 ≤ a ∧ a ≤ 12) → (14 ≤ b ∧ b ≤ 1021) → 0 ≤ P → 0 < V → Sz P 900 → Sz V 900 → told.length ≤ 12 → row.length ≤ 8 → runV W a b = told → runV W P V = row →
    ∀ (Q : Flow → Shared → Prop) (E' : Value → Shared → Prop) (h : Heap) (tk : Nat) (o1 o2 o3 o4 o5 o6 : Obj) (R tb : Led) (wA tA rA : Addr) (wvs tvs rvs : List Value) (wc tc rc : Nat) (v4 v5 v6 : Option Value) (y1 y2 y3 y4 y5 ta t2 : Tok),
      RetOK h₀ L { heap := h, gens := gg, drawn := dd, toks := tk, os := os } Q → Tabs tb → Seqs R → o1.data = .cell (some (.ref rA)) → o2.data = .cell (some (.ref tA)) → o3.data = .cell (some (.ref wA)) → o4.data = .cell v4 → o5.data = .cell v5 → o6.data = .cell v6 →
      (wA, listOf wvs.toArray wc) ∈ R → IntsAre wvs W → (tA, listOf tvs.toArray tc) ∈ R → IntsAre tvs told → (rA, listOf rvs.toArray rc) ∈ R → IntsAre rvs row →
      Fr h₀ L h (fun y => if y = Str.ofString "whole" then some (.int V y4) else if y = Str.ofString "part" then some (.int P y5) else if y = Str.ofString "kept" then some (.int x1 y1) else if y = Str.ofString "whole" then some (.int x2 y2) else if y = Str.ofString "part" then some (.int x3 y3) else if y = Str.ofString "above" then some (.int a ta) else if y = Str.ofString "below" then some (.int b t2) else none) →
      News h₀ L h ((L + 1 + 1 + 1 + 1 + 1 + 1, o1) :: (L + 1 + 1 + 1 + 1 + 1, o2) :: (L + 1 + 1 + 1 + 1, o3) :: (L + 1 + 1 + 1, o4) :: (L + 1 + 1, o5) :: (L + 1, o6) :: (R ++ tb)) →
      wpAny (model PySem.Challenge.rw_ta0142_01.row.prog w) (callerA.deeper (envOfC nm sc L fa cd)) (execs body (envOfC nm sc L fa cd)) Q E' { heap := h, gens := gg, drawn := dd, toks := tk, os := os }
set_option maxHeartbeats 24000000 in
noncomputable def pre3 : (d : Str × Scope × List Stmt) ×' (Stop (Rest4P d.1 d.2.1 d.2.2) → Rest3P pre2.1.1 pre2.1.2.1 pre2.1.2.2) := ⟨⟨_, _, _⟩, fun contP => by
  unfold pre2
  dsimp only
  unfold Rest3P
  k_fill
  w_top off
  k_with_none
  k_with "eval ListComp" => ((refine Stop.go ?_))
  k_with "exec Assign cons ListComp" => ((refine Stop.go ?_))
  k_with "call ref" => ((refine Stop.go ?_))
  k_with "binaryOp Add ref ref" => ((k_here; k_extra "myadd"))
  k_with "compareOp NotEq ref ref" => ((refine Stop.go ?_))
  k_with "compareOp Eq ref ref" => ((refine Stop.go ?_))
  k_with "CompSrc" => ((refine Stop.go ?_))
  k_with "CompSrcT" => ((refine Stop.go ?_))
  k_with "subscriptTail Name Slice ref ref" => ((k_here; k_extra "mysl"))
  k_with "subscriptTail Name Name ref int" => ((k_here; k_extra "itN"))
  k_with "subscriptTail Name BinOp ref int" => ((k_here; k_extra "itB"))
  k_with "subscriptTail Name Constant ref int" => ((k_here; k_extra "itC"))
  k_with "binaryOp Mult int int" => ((k_extra "mymul"))
  k_with "call builtin:len" => ((k_extra "mylen"))
  k_with "call builtin:sorted" => ((k_extra "mysort"))
  k_with "eval Name" => ((k_here; (with_reducible show wpAny _ _ (eval (Expr.Name _ _) (compEnvC _ _ _ _)) _ _ _); k_extra "mycell"))
  intro w p loose mean mg mb fa cd h₀ L gg dd os W a b x1 x2 x3 told row X T B hC1 hC2 l50 hW hWl hA hB hTo hRo Q E' h tk o1 o2 o3 o4 o5 o6 R tb wA tA rA wvs tvs rvs wc tc rc v4 v5 v6 y1 y2 y3 ta t2 hret hT sR d1 d2 d3 d4 d5 d6 hwm hwi htm hti hrm hri F N
  have hRl := hRo.len
  have hRp := hRo.pos
  have hRz : ∀ x ∈ row, Sz x 100 := fun x hx => sz20 (by have := hRo.bd x hx; omega) (by decide)
  have hnz := nest_sz hW hRz
  have hr1 := hRo.n1
  have hr2 := hRo.n2
  have hr3 := hRo.run
  k_with "mycell" => (k_dflt (refine' kcf_cell ?zN ?zc ?zm ?zd ?_ ?za ?zb; (case za => rfl); (case zb => rfl); (case zN => k_asm); (case zc => rfl); (case zm => k_mem); (case zd => assumption); k_whole))
  k_steps
  refine Stop.mk (nested_use hW hRz (by omega) (by omega) B (by k_asm) X (by k_asm) T rfl (in6 _ (List.mem_append_left _ hwm)) hwi (in6 _ (List.mem_append_left _ hrm)) hri (by ktr_room) (by ktr_units) ?_)
  intro D1 u1 u2 pc h1 tk1 F1 N1
  generalize nestP row W = pr at *
  have z1 : Sz pr.1 900 := hnz.1.mono (by omega)
  have z2 : Sz pr.2 900 := hnz.2.mono (by omega)
  clear hnz
  (try dsimp only)
  k_steps
  rename News _ _ _ _ => N2
  rename Fr _ _ _ _ => F2
  have hov := over7 l50 ⟨_, _, rfl⟩ sR hT N2
  refine Stop.mk (run_use hW (by omega) hr1 (z1.mono (by decide)) (z2.mono (by decide)) (.inr rfl) B hC2 hC1 F2 X (rest := (_, _) :: (L + 1 + 1 + 1 + 1 + 1 + 1, o1) :: (L + 1 + 1 + 1 + 1 + 1, o2) :: (L + 1 + 1 + 1 + 1, o3) :: (L + 1 + 1 + 1, o4) :: (L + 1 + 1, o5) :: (L + 1, o6) :: R) (tb := tb) N2 T rfl hT hov (List.mem_cons_of_mem _ (in6 _ hwm)) hwi (by ktr_room) (by ktr_units) ?_)
  intro sA svs sc h3 tk3 tb3 hT3 hsi F3 N3
  rw [hr3] at hsi
  obtain ⟨R2, N4, sR2, hsm, _, hRR⟩ := packD6 N3 ⟨_, _, rfl⟩ ⟨_, _, rfl⟩ sR
  clear hov N3
  (try dsimp only)
  k_steps
  have e : (!decide (row = row)) = false := by simp
  refine Stop.mk (ne_intsK (ns := row) (ms := row) (News.isList N4 (in6 _ (List.mem_append_left _ hsm))) hsi (News.isList N4 (in6 _ (List.mem_append_left _ (hRR _ hrm)))) hri (by ktr_units) ?_)
  rw [e]
  k_with "execs cons" => (refine Stop.go ?_)
  k_steps
  rename News _ _ _ _ => N6
  rename Fr _ _ _ _ => F6
  refine Stop.mk (contP.go w _ _ _ _ _ fa cd h₀ L gg dd os W a b pr.1 pr.2 _ _ _ told row X T B hC1 hC2 l50 hW hWl hA hB hr1 hr2 z1 z2 hTo.len hRl hTo.run hr3 _ _ _ _ _ _ _ _ _ _ _ _ _ _ _ _ _ _ _ _ _ _ _ _ _ _ _ _ _ _ _ ?ret hT3 sR2 d1 d2 d3 d4 d5 d6 (hRR _ hwm) hwi (hRR _ htm) hti (hRR _ hrm) hri F6 N6)
  exact hret⟩

end
section
/-- the law behind what both rows have in common -/
noncomputable def Rest5P (nm : Str) (sc : Scope) (body : List Stmt) : Prop :=
  ∀ (w : World) (p : Program) (loose : List Str) (mean : ExcName → Option Value) (mg mb : Str → Option Value) (fa : Addr) (cd : Value) (h₀ : Heap) (L : Addr) (gg : Array GenState) (dd : Drawn) (os : OsState) (W : List Int) (a b P V x1 x2 x3 : Int) (told row : List Int) (c : Nat),
    (_root_.hd.heap_39 w.params).In h₀ → Top p loose mean mg mb h₀ → Below callerA h₀ [] h₀ → CodeHd h₀ 41 37 → CodeHd h₀ 34 30 → (@LT.lt Nat _ 50 L) →
    (∀ x ∈ W, x = 1 ∨ x = -1) → W.length = 30 → (1 ≤ a ∧ a ≤ 12) → (14 ≤ b ∧ b ≤ 1021) → 0 ≤ P → 0 < V → Sz P 900 → Sz V 900 → told.length ≤ 12 → row.length ≤ 8 → runV W a b = told → runV W P V = row → comm told row = c →
    ∀ (Q : Flow → Shared → Prop) (E' : Value → Shared → Prop) (h : Heap) (tk : Nat) (o1 o2 o3 o4 o5 o6 : Obj) (R tb : Led) (wA tA rA : Addr) (wvs tvs rvs : List Value) (wc tc rc : Nat) (v4 v5 v6 : Option Value) (y1 y2 y3 y4 y5 y6 ta t2 : Tok),
      RetOK h₀ L { heap := h, gens := gg, drawn := dd, toks := tk, os := os } Q → Tabs tb → Seqs R → o1.data = .cell (some (.ref rA)) → o2.data = .cell (some (.ref tA)) → o3.data = .cell (some (.ref wA)) → o4.data = .cell v4 → o5.data = .cell v5 → o6.data = .cell v6 →
      (wA, listOf wvs.toArray wc) ∈ R → IntsAre wvs W → (tA, listOf tvs.toArray tc) ∈ R → IntsAre tvs told → (rA, listOf rvs.toArray rc) ∈ R → IntsAre rvs row →
      Fr h₀ L h (fun y => if y = Str.ofString "common" then some (.int (c : Nat) y6) else if y = Str.ofString "whole" then some (.int V y4) else if y = Str.ofString "part" then some (.int P y5) else if y = Str.ofString "kept" then some (.int x1 y1) else if y = Str.ofString "whole" then some (.int x2 y2) else if y = Str.ofString "part" then some (.int x3 y3) else if y = Str.ofString "above" then some (.int a ta) else if y = Str.ofString "below" then some (.int b t2) else none) →
      News h₀ L h ((L + 1 + 1 + 1 + 1 + 1 + 1, o1) :: (L + 1 + 1 + 1 + 1 + 1, o2) :: (L + 1 + 1 + 1 + 1, o3) :: (L + 1 + 1 + 1, o4) :: (L + 1 + 1, o5) :: (L + 1, o6) :: (R ++ tb)) →
      wpAny (model PySem.Challenge.rw_ta0142_01.row.prog w) (callerA.deeper (envOfC nm sc L fa cd)) (execs body (envOfC nm sc L fa cd)) Q E' { heap := h, gens := gg, drawn := dd, toks := tk, os := os }
theorem pack1 {h₀ h : Heap} {L : Addr} {e1 c1 c2 c3 c4 c5 c6 : Addr × Obj} {R tb : Led} (N : News h₀ L h (e1 :: c1 :: c2 :: c3 :: c4 :: c5 :: c6 :: (R ++ tb))) (s1 : ∃ a n, e1.2.data = .seq a n) (sR : Seqs R) :
    ∃ R', News h₀ L h (c1 :: c2 :: c3 :: c4 :: c5 :: c6 :: (R' ++ tb)) ∧ Seqs R' ∧ e1 ∈ R' ∧ ∀ p ∈ R, p ∈ R' :=
  ⟨e1 :: R, canon6 N, .cons s1 sR, List.mem_cons_self, fun _ h => List.mem_cons_of_mem _ h⟩
set_option maxHeartbeats 24000000 in
noncomputable def pre4 : (d : Str × Scope × List Stmt) ×' (Stop (Rest5P d.1 d.2.1 d.2.2) → Rest4P pre3.1.1 pre3.1.2.1 pre3.1.2.2) := ⟨⟨_, _, _⟩, fun contP => by
  unfold pre3
  dsimp only
  unfold Rest4P
  k_fill
  w_top off
  k_with_none
  k_with "eval ListComp" => ((refine Stop.go ?_))
  k_with "exec Assign cons ListComp" => ((refine Stop.go ?_))
  k_with "call ref" => ((refine Stop.go ?_))
  k_with "binaryOp Add ref ref" => ((k_here; k_extra "myadd"))
  k_with "compareOp NotEq ref ref" => ((refine Stop.go ?_))
  k_with "compareOp Eq ref ref" => ((refine Stop.go ?_))
  k_with "CompSrc" => ((refine Stop.go ?_))
  k_with "CompSrcT" => ((refine Stop.go ?_))
  k_with "subscriptTail Name Slice ref ref" => ((k_here; k_extra "mysl"))
  k_with "subscriptTail Name Name ref int" => ((k_here; k_extra "itN"))
  k_with "subscriptTail Name BinOp ref int" => ((k_here; k_extra "itB"))
  k_with "subscriptTail Name Constant ref int" => ((k_here; k_extra "itC"))
  k_with "binaryOp Mult int int" => ((k_extra "mymul"))
  k_with "call builtin:len" => ((k_extra "mylen"))
  k_with "call builtin:sorted" => ((k_extra "mysort"))
  k_with "eval Name" => ((k_here; (with_reducible show wpAny _ _ (eval (Expr.Name _ _) (compEnvC _ _ _ _)) _ _ _); k_extra "mycell"))
  intro w p loose mean mg mb fa cd h₀ L gg dd os W a b P V x1 x2 x3 told row X T B hC1 hC2 l50 hW hWl hA hB hP hV zP zV hTl hRl hrT hrR Q E' h tk o1 o2 o3 o4 o5 o6 R tb wA tA rA wvs tvs rvs wc tc rc v4 v5 v6 y1 y2 y3 y4 y5 ta t2 hret hT sR d1 d2 d3 d4 d5 d6 hwm hwi htm hti hrm hri F N
  k_with "mycell" => (k_dflt (refine' kcf_cell ?zN ?zc ?zm ?zd ?_ ?za ?zb; (case za => rfl); (case zb => rfl); (case zN => k_asm); (case zc => rfl); (case zm => k_mem); (case zd => assumption); k_whole))
  k_with "mylen" => (k_dflt (first | (refine my_lenI (n := told.length) (by k_asm) (in6 _ (List.mem_append_left _ htm)) (by rw [hti.length]) (by omega) ?_) | (refine my_lenI (n := row.length) (by k_asm) (in6 _ (List.mem_append_left _ hrm)) (by rw [hri.length]) (by omega) ?_)))
  k_with "mysl" => (refine Stop.go ?_)
  k_steps
  refine Stop.mk (LCt.ListComp_T (F₀ := by k_asm) (by with_unfolding_all rfl) (by decide) (by rfl) (by decide) (by rfl) ?_)
  k_steps
  rw [mnl] at *
  have hn : min told.length row.length ≤ 8 := by omega
  have hrz := rsizeU ⟨0, by decide⟩ ⟨min told.length row.length, by omega⟩ (Nat.zero_le _)
  refine Stop.mk (LCt.CompSrcT.range (a := 0) (n := min told.length row.length) (by rfl) (by k_asm) (by k_asm) (by assumption) hrz.1 hrz.2 (by rw [sizeLine_eq]; omega) ?_)
  intro g2
  refine rest_filt (fun k => decide (told.take (k + 1) = row.take (k + 1))) (fun i => 0 + (i : Int)) trivial ?cstep ?cest ?cfin
  case cstep =>
    intro i led v C oC m₂ h tk E' hi hv hNs hx F N hsub
    obtain ⟨t, rfl⟩ := hv
    have mT := hsub (L + 1 + 1 + 1 + 1 + 1, o2) (by k_mem)
    have mR := hsub (L + 1 + 1 + 1 + 1 + 1 + 1, o1) (by k_mem)
    replace htm := hsub _ (in6 _ (List.mem_append_left _ htm))
    replace hrm := hsub _ (in6 _ (List.mem_append_left _ hrm))
    clear hsub
    have ek : (0 : Int) + ((i : Nat) : Int) = ((i : Nat) : Int) := by omega
    rw [ek] at hx
    (try dsimp only)
    k_steps
    have e1 : (((i : Nat) : Int) + 1).toNat = i + 1 := by omega
    have hs1 := pick_to hti (y := ((i : Nat) : Int) + 1) (by omega)
    have hs2 := pick_to hri (y := ((i : Nat) : Int) + 1) (by omega)
    rw [e1] at hs1 hs2
    refine Stop.mk (kmk_slice_ints (by k_asm) (by k_asm) (News.isList (by k_asm) (by k_mem)) IsPart.none (IsPart.int _ _) hti hs1 rfl ?_ (by with_unfolding_all rfl) (by kmk_pure) (size_ok hti (Nat.le_trans hTl (by decide))))
    intro aA avs h3 F3 N3 l3 hai _ _
    (try dsimp only)
    k_steps
    refine Stop.mk (kmk_slice_ints (by k_asm) (by k_asm) (News.isList (by k_asm) (by k_mem)) IsPart.none (IsPart.int _ _) hri hs2 rfl ?_ (by with_unfolding_all rfl) (by kmk_pure) (size_ok hri (Nat.le_trans hRl (by decide))))
    intro bA bvs h4 F4 N4 l4 hbi _ _
    (try dsimp only)
    k_steps
    refine Stop.mk (eq_intsK (News.isList N4 (by k_mem)) hai (News.isList N4 (by k_mem)) hbi (by ktr_units) ?_)
    k_steps
    exact Stop.mk ⟨rfl, _, _, _, rfl, by k_asm, by k_asm, fun p hp => List.mem_cons_of_mem _ (List.mem_cons_of_mem _ hp)⟩
  case cest =>
    intro i led v C oC m₂ h tk E' hi hv hNs hx F N hsub
    obtain ⟨t, rfl⟩ := hv
    clear hsub
    (try dsimp only)
    k_steps
    exact Stop.mk ⟨t, rfl, _, _, _, rfl, by k_asm, by k_asm, fun _ h => h⟩
  case cfin =>
    intro ys hys
    unfold FinE
    intro D5 h5 tk5 F5 N5 off5
    have hyl : ys.length = comm told row := by rw [hys.length, List.length_map, comm_filter]
    clear hys
    have hcl := comm_le told row
    generalize hc : comm told row = c at *
    (try dsimp only)
    k_with "mylen" => (k_dflt (refine my_lenI (n := c) (by k_asm) (by k_mem) hyl (by omega) ?_))
    k_with "execs cons" => (refine Stop.go ?_)
    k_steps
    rename News _ _ _ _ => N6
    rename Fr _ _ _ _ => F6
    obtain ⟨R2, N7, sR2, _, hRR⟩ := pack1 N6 ⟨_, _, rfl⟩ sR
    refine Stop.mk (contP.go w _ _ _ _ _ fa cd h₀ L gg dd os W a b P V _ _ _ told row c X T B hC1 hC2 l50 hW hWl hA hB hP hV zP zV hTl hRl hrT hrR hc _ _ _ _ _ _ _ _ _ _ _ _ _ _ _ _ _ _ _ _ _ _ _ _ _ _ _ _ _ _ _ _ ?ret hT sR2 d1 d2 d3 d4 d5 d6 (hRR _ hwm) hwi (hRR _ htm) hti (hRR _ hrm) hri F6 N7)
    exact hret⟩

end
section
theorem pack4 {h₀ h : Heap} {L : Addr} {e1 e2 e3 e4 c1 c2 c3 c4 c5 c6 : Addr × Obj} {R tb : Led} (N : News h₀ L h (e1 :: e2 :: e3 :: e4 :: c1 :: c2 :: c3 :: c4 :: c5 :: c6 :: (R ++ tb))) (s1 : ∃ a n, e1.2.data = .seq a n) (s2 : ∃ a n, e2.2.data = .seq a n) (s3 : ∃ a n, e3.2.data = .seq a n) (s4 : ∃ a n, e4.2.data = .seq a n) (sR : Seqs R) :
    ∃ R', News h₀ L h (c1 :: c2 :: c3 :: c4 :: c5 :: c6 :: (R' ++ tb)) ∧ Seqs R' ∧ e1 ∈ R' ∧ ∀ p ∈ R, p ∈ R' :=
  ⟨e1 :: e2 :: e3 :: e4 :: R, mvs [e1, e2, e3, e4] [c1, c2, c3, c4, c5, c6] N, .cons s1 (.cons s2 (.cons s3 (.cons s4 sR))), List.mem_cons_self, fun _ h => List.mem_cons_of_mem _ (List.mem_cons_of_mem _ (List.mem_cons_of_mem _ (List.mem_cons_of_mem _ h)))⟩
set_option maxHeartbeats 24000000 in
theorem pre4_rest : Rest5P pre4.1.1 pre4.1.2.1 pre4.1.2.2 := by
  unfold pre4
  dsimp only
  unfold Rest5P
  k_fill
  w_top off
  k_with_none
  k_with "eval ListComp" => ((refine Stop.go ?_))
  k_with "exec Assign cons ListComp" => ((refine Stop.go ?_))
  k_with "call ref" => ((refine Stop.go ?_))
  k_with "binaryOp Add ref ref" => ((k_here; k_extra "myadd"))
  k_with "compareOp NotEq ref ref" => ((refine Stop.go ?_))
  k_with "compareOp Eq ref ref" => ((refine Stop.go ?_))
  k_with "CompSrc" => ((refine Stop.go ?_))
  k_with "CompSrcT" => ((refine Stop.go ?_))
  k_with "subscriptTail Name Slice ref ref" => ((k_here; k_extra "mysl"))
  k_with "subscriptTail Name Name ref int" => ((k_here; k_extra "itN"))
  k_with "subscriptTail Name BinOp ref int" => ((k_here; k_extra "itB"))
  k_with "subscriptTail Name Constant ref int" => ((k_here; k_extra "itC"))
  k_with "subscriptTail Name UnaryOp ref int" => ((k_here; k_extra "itU"))
  k_with "subscriptTail BinOp Name Add Subscript Constant ref int" => ((k_here; k_extra "itX"))
  k_with "binaryOp Mult int int" => ((k_extra "mymul"))
  k_with "call builtin:len" => ((k_extra "mylen"))
  k_with "call builtin:sorted" => ((k_extra "mysort"))
  k_with "eval Name" => ((k_here; (with_reducible show wpAny _ _ (eval (Expr.Name _ _) (compEnvC _ _ _ _)) _ _ _); k_extra "mycell"))
  intro w p loose mean mg mb fa cd h₀ L gg dd os W a b P V x1 x2 x3 told row c X T B hC1 hC2 l50 hW hWl hA hB hP hV zP zV hTl hRl hrT hrR hc Q E' h tk o1 o2 o3 o4 o5 o6 R tb wA tA rA wvs tvs rvs wc tc rc v4 v5 v6 y1 y2 y3 y4 y5 y6 ta t2 hret hT sR d1 d2 d3 d4 d5 d6 hwm hwi htm hti hrm hri F N
  obtain ⟨Z, hZ, hM⟩ := mid_law hW hWl hA.1 hB.1 hP hV hTl hRl hrT hrR
  have hcl := comm_le told row
  rw [hc] at hZ hM hcl
  have ec : (((c : Nat) : Int)).toNat = c := Int.toNat_natCast c
  have ec1 : (((c : Nat) : Int) + 1).toNat = c + 1 := by omega
  have sl1 := kmk_run hti (x := ((c : Nat) : Int)) (y := ((c : Nat) : Int) + 1) (by omega) (by omega)
  have sl2 := kmk_run hri (x := ((c : Nat) : Int)) (y := ((c : Nat) : Int) + 1) (by omega) (by omega)
  rw [ec, ec1, cut1'] at sl1 sl2
  k_with "mycell" => (k_dflt (refine' kcf_cell ?zN ?zc ?zm ?zd ?_ ?za ?zb; (case za => rfl); (case zb => rfl); (case zN => k_asm); (case zc => rfl); (case zm => k_mem); (case zd => assumption); k_whole))
  k_with "mysl" => (refine Stop.go ?_)
  k_with "myadd" => (refine Stop.go ?_)
  k_with "mysort" => (refine Stop.go ?_)
  k_steps
  refine Stop.mk (kmk_slice_ints (by k_asm) (by k_asm) (News.isList (by k_asm) (in6 _ (List.mem_append_left _ htm))) (IsPart.int _ _) (IsPart.int _ _) hti sl1 rfl ?_ (by with_unfolding_all rfl) (by kmk_pure) (size_ok hti (Nat.le_trans hTl (by decide))))
  intro aA avs h3 F3 N3 l3 hai _ _
  (try dsimp only)
  k_steps
  refine Stop.mk (kmk_slice_ints (by k_asm) (by k_asm) (News.isList (by k_asm) (in7 _ (List.mem_append_left _ hrm))) (IsPart.int _ _) (IsPart.int _ _) hri sl2 rfl ?_ (by with_unfolding_all rfl) (by kmk_pure) (size_ok hri (Nat.le_trans hRl (by decide))))
  intro bA bvs h4 F4 N4 l4 hbi _ _
  (try dsimp only)
  k_steps
  have cl1 : ((told.drop c).take 1).length ≤ 1 := by rw [List.length_take]; omega
  have cl2 : ((row.drop c).take 1).length ≤ 1 := by rw [List.length_take]; omega
  refine Stop.mk (kmk_add_ints (by k_asm) (by k_asm) (News.isList (by k_asm) (by k_mem)) (News.isList (by k_asm) (by k_mem)) hai hbi ?_ (by rw [sizeLine_eq]; omega))
  intro dA dvs h5 F5 N5 l5 hdi
  (try dsimp only)
  k_steps
  refine Stop.mk (kso_sorted (by k_asm) (by k_asm) (News.isList (by k_asm) (by k_mem)) hdi (by rw [List.length_append]; omega) ?_)
  intro eA evs es ec' h6 F6 N6 l6 hei hel hep hes _
  have hok := ends_of hM hep hes
  clear hep hes hel hM hdi hai hbi sl1 sl2 cl1 cl2 l3 l4 l5 l6
  obtain ⟨R2, N7, sR2, hem, hRR⟩ := pack4 N6 ⟨_, _, rfl⟩ ⟨_, _, rfl⟩ ⟨_, _, rfl⟩ ⟨_, _, rfl⟩ sR
  replace hwm := hRR _ hwm
  replace htm := hRR _ htm
  replace hrm := hRR _ hrm
  clear hRR N6 N5 N4 N3 F3 F4 F5 N F sR
  (try dsimp only)
  have sl3 := pick_to hwi (y := ((c : Nat) : Int) + 1) (by omega)
  rw [ec1] at sl3
  have q1 : Sz a 20 := sz20 (by omega) (by decide)
  have q2 : Sz b 20 := sz20 (by omega) (by decide)
  have q3 : Sz (2 * b) 20 := sz20 (by omega) (by decide)
  have q4 : Sz 2 20 := by unfold Sz; decide
  k_with "mymul" => (with_reducible refine mul_int ?_ (mul_ok (by assumption) (by assumption) (by decide)))
  k_steps
  refine Stop.mk (kmk_slice_ints (by k_asm) (by k_asm) (News.isList (by k_asm) (in6 _ (List.mem_append_left _ hwm))) IsPart.none (IsPart.int _ _) hwi sl3 rfl ?_ (by with_unfolding_all rfl) (by kmk_pure) (size_ok hwi (by rw [hWl]; decide)))
  intro uA uvs h7 F7 N7 l7 hui _ _
  (try dsimp only)
  k_steps
  have hov := over7 l50 ⟨_, _, rfl⟩ sR2 hT N7
  refine Stop.mk (run_use (fun x hx => hW x (List.mem_of_mem_take hx)) (by rw [List.length_take]; omega) (Int.add_nonneg (Int.mul_nonneg (by omega) (by omega)) (Int.mul_nonneg (by omega) (by omega))) (((q1.mul zV).add (zP.mul q2)).mono (by decide)) ((q3.mul zV).mono (by decide)) (.inl rfl) B hC2 hC1 (by k_asm) X (rest := (_, _) :: (L + 1 + 1 + 1 + 1 + 1 + 1, o1) :: (L + 1 + 1 + 1 + 1 + 1, o2) :: (L + 1 + 1 + 1 + 1, o3) :: (L + 1 + 1 + 1, o4) :: (L + 1 + 1, o5) :: (L + 1, o6) :: R2) (tb := tb) N7 T rfl hT hov List.mem_cons_self hui (by ktr_room) (by ktr_units) ?_)
  intro bA bvs bc h8 tk8 tb8 hT8 hbi F8 N8
  rw [hZ] at hbi
  obtain ⟨R3, N9, sR3, hbm, _, hRR⟩ := packD6 N8 ⟨_, _, rfl⟩ ⟨_, _, rfl⟩ sR2
  replace hem := hRR _ hem
  replace htm := hRR _ htm
  clear hwm hrm hRR N8 N7 hov F7 hui l7 sl3 q1 q2 q3 q4 hZ sR2 hT
  have tcl : (told.take c).length = c := by rw [List.length_take]; omega
  have hB1 : (told.take c ++ Z).take c = told.take c := by rw [List.take_append_of_le_length (by omega), List.take_of_length_le (by omega)]
  have hB2 : (told.take c ++ Z).length = c + Z.length := by rw [List.length_append, tcl]
  have hform := hok.form
  clear hok
  have hZ1 : Z.length ≤ 1 := by
    rcases hform with ⟨_, h⟩ | ⟨_, _, _, _, h, _⟩ <;> rw [h]
    · exact Nat.zero_le _
    · exact Nat.le_refl _
  have hel2 : es.length ≤ 2 := by
    rcases hform with ⟨h, _⟩ | ⟨_, _, _, h, _, _, _, k⟩ <;> rw [h]
    · exact Nat.zero_le _
    · exact Nat.succ_le_succ k
  have hBl : (told.take c ++ Z).length ≤ 64 := by rw [hB2]; omega
  have sl4 := pick_to hbi (y := ((c : Nat) : Int)) (by omega)
  have sl5 := pick_to hti (y := ((c : Nat) : Int)) (by omega)
  have sl6 := pick_to hei (y := 1) (by omega)
  rw [ec] at sl4 sl5
  rw [hB1] at sl4
  have hlen : (es.take (1 : Int).toNat).length = Z.length := by
    rcases hform with ⟨h, k⟩ | ⟨_, _, _, h, k, _⟩ <;> rw [h, k] <;> rfl
  (try dsimp only)
  k_steps
  refine Stop.mk (kmk_slice_ints (by k_asm) (by k_asm) (News.isList (by k_asm) (in6 _ (List.mem_append_left _ hbm))) IsPart.none (IsPart.int _ _) hbi sl4 rfl ?_ (by with_unfolding_all rfl) (by kmk_pure) (size_ok hbi hBl))
  intro cA cvs h9 F9 N9 l9 hci _ _
  (try dsimp only)
  k_steps
  refine Stop.mk (kmk_slice_ints (by k_asm) (by k_asm) (News.isList (by k_asm) (in7 _ (List.mem_append_left _ htm))) IsPart.none (IsPart.int _ _) hti sl5 rfl ?_ (by with_unfolding_all rfl) (by kmk_pure) (size_ok hti (Nat.le_trans hTl (by decide))))
  intro gA gvs h10 F10 N10 l10 hgi _ _
  (try dsimp only)
  k_steps
  have e0 : (!decide (told.take c = told.take c)) = false := by simp
  refine Stop.mk (ne_intsK (News.isList N10 (by k_mem)) hci (News.isList N10 (by k_mem)) hgi (by ktr_units) ?_)
  rw [e0]
  k_with "mylen" => (refine Stop.go ?_)
  k_steps
  refine Stop.mk (my_lenI (n := c + Z.length) N10 (List.mem_cons_of_mem _ (in7 _ (List.mem_append_left _ hbm))) (by rw [hbi.length, hB2]) (by omega) ?_)
  k_steps
  refine Stop.mk (kmk_slice_ints (by k_asm) (by k_asm) (News.isList (by k_asm) (List.mem_cons_of_mem _ (in7 _ (List.mem_append_left _ hem)))) IsPart.none (IsPart.int _ _) hei sl6 rfl ?_ (by with_unfolding_all rfl) (by kmk_pure) (size_ok hei (Nat.le_trans hel2 (by decide))))
  intro jA jvs h11 F11 N11 l11 hji _ _
  (try dsimp only)
  k_steps
  refine Stop.mk (my_lenI (n := Z.length) N11 (by k_mem) (by rw [hji.length, hlen]) (by omega) ?_)
  clear l9 l10 l11 hci hgi hji N9 N10 F9 F10 sl4 sl5 sl6
  have hst : StopNow := ⟨⟩
  k_with "isTrue BoolOp Or nil" => (refine stopIf (by with_reducible assumption) ?_)
  k_steps
  · exact absurd rfl (by assumption)
  refine Stop.mk ?_
  clear hst
  k_steps
  rename News _ _ _ _ => N12
  rename Fr _ _ _ _ => F12
  refine Stop.mk (eq_intsK (ns := es) (ms := []) (News.isList N12 (List.mem_cons_of_mem _ (List.mem_cons_of_mem _ (List.mem_cons_of_mem _ (in7 _ (List.mem_append_left _ hem)))))) hei (News.isList (items := #[]) N12 List.mem_cons_self) .nil (by ktr_units) ?_)
  obtain ⟨R4, N13, sR4, _, hRR⟩ := pack4 N12 ⟨_, _, rfl⟩ ⟨_, _, rfl⟩ ⟨_, _, rfl⟩ ⟨_, _, rfl⟩ sR3
  replace hem := hRR _ hem
  replace hbm := hRR _ hbm
  clear N12 sR3 hRR htm hlen hel2 hZ1 hB1 hti hri hwi hW hWl zP zV d1 d2 d3 d4 d5 d6
  generalize told.take c = tk12 at *
  rcases hform with ⟨h, _⟩ | ⟨e, F, z, h, hz, le, le', hF⟩
  · subst h
    rw [show decide (([] : List Int) = []) = true from rfl]
    k_steps
    exact hret _ _ _ _ F12 (fun p hp => N13 p (in6 _ (List.mem_append_right _ hp))) hT8
  · subst h; subst hz
    rw [show decide ((e :: F) = []) = false from rfl]
    have g1 : ((-1 : Int) + ((tk12 ++ [z]).length : Int)).toNat = tk12.length := by simp only [List.length_append, List.length_cons, List.length_nil]; omega
    have g2 : (tk12 ++ [z]).getD tk12.length 0 = z := getD_end
    have g3 : (tk12 ++ [z]).drop ((tk12 ++ [z]).length - (-(-1 : Int)).toNat) = [z] := by
      rw [show (tk12 ++ [z]).length - (-(-1 : Int)).toNat = tk12.length by simp]; simp
    have sl7 := kmk_from_neg hbi (x := -1) (by decide)
    rw [g3] at sl7
    k_with "itC" => (refine Stop.go ?_)
    k_with "itU" => (k_dflt (refine item_list_ints_negR (News.isList (by k_asm) (in6 _ (List.mem_append_left _ hbm))) hbi (by decide) (by simp only [List.length_append, List.length_cons, List.length_nil]; omega) (by decide) ?_); intro ti; rw [g1, g2])
    k_steps
    refine Stop.mk (my_itemN N13 (in6 _ (List.mem_append_left _ hem)) hei 0 rfl (by simp) (by decide) ?_)
    intro ti
    k_steps
    refine Stop.mk (kmk_slice_ints (by k_asm) (by k_asm) (News.isList (by k_asm) (in6 _ (List.mem_append_left _ hbm))) (IsPart.int _ _) IsPart.none hbi sl7 rfl ?_ (by with_unfolding_all rfl) (by kmk_pure) (size_ok hbi hBl))
    intro mA mvs h14 F14 N14 l14 hmi _ _
    (try dsimp only)
    k_steps
    refine Stop.mk (kmk_add_ints (by k_asm) (by k_asm) (News.isList N14 (List.mem_cons_of_mem _ (in6 _ (List.mem_append_left _ hem)))) (News.isList N14 (by k_mem)) hei hmi ?_ (by rw [sizeLine_eq]; simp only [List.length_cons, List.length_nil]; omega))
    intro nA nvs h15 F15 N15 l15 hni
    (try dsimp only)
    k_with "itX" => (k_dflt (refine my_itemN (by k_asm) List.mem_cons_self hni 1 rfl (by simp) (by decide) ?_); intro ti)
    k_steps
    rw [show decide (z ≤ ((e :: F) ++ [z]).getD 1 0) = true from decide_eq_true le']
    exact hret _ _ _ _ F15 (fun p hp => N15 p (List.mem_cons_of_mem _ (List.mem_cons_of_mem _ (in6 _ (List.mem_append_right _ hp))))) hT8
theorem fin : PySem.Challenge.rw_ta0142_01.Holds := pre0.2 ⟨pre1.2 ⟨pre2.2 ⟨pre3.2 ⟨pre4.2 ⟨pre4_rest⟩⟩⟩⟩⟩

end
end Mine
end
end
theorem PySem.Challenge.cw_ta0142_01_holds : PySem.Challenge.rw_ta0142_01.Holds := by
  exact Mine.fin
