/- Powers of ten as floats; whole numbers as floats. No program in sight. -/
import Derived.Test.YtggemljdmoegnaaDoorNear
import Derived.Laws.FloatArith
namespace Go.Proofs.YtggemljdmoegnaaDoor
open Ieee
set_option linter.unusedVariables false
attribute [local irreducible] K

/-- Is the float about N? -/
def okW (w N : Nat) : Bool :=
  match double.read w with
  | .number false m e => m != 0 && decide (-100 ≤ e) && decide (e ≤ 700) &&
      decide (2 ^ 50 * (m * 2 ^ (e + 100).toNat) ≤ 2 ^ 50 * (N * 2 ^ 100) + N * 2 ^ 100) && decide (2 ^ 50 * (N * 2 ^ 100) ≤ 2 ^ 50 * (m * 2 ^ (e + 100).toNat) + N * 2 ^ 100)
  | _ => false
theorem okW_ap {w N : Nat} (h : okW w N = true) : Ap 1 false w N 1 := by
  have hK := K_eq
  unfold okW at h
  split at h
  · rename_i m e hr
    simp only [Bool.and_eq_true, bne_iff_ne, ne_eq, decide_eq_true_eq] at h
    obtain ⟨⟨⟨⟨h1, h2⟩, h3⟩, h4⟩, h5⟩ := h
    refine ⟨m, e, hr, h1, by omega, by omega, ?_⟩
    have hR : Rel 1 (m * 2 ^ (e + 100).toNat) (N * 2 ^ 100) := ⟨by rw [Nat.one_mul]; exact h4, by rw [Nat.one_mul]; exact h5⟩
    have := hR.scale (2 ^ (K - 100))
    have e1 : m * 2 ^ (e + 100).toNat * 2 ^ (K - 100) = sv m e * 1 := by
      unfold sv
      rw [Nat.mul_assoc, ← Nat.pow_add, Nat.mul_one, pow2_eq (show (e + 100).toNat + (K - 100) = (e + (K : Int)).toNat by omega)]
    have e2 : N * 2 ^ 100 * 2 ^ (K - 100) = N * 2 ^ K := by
      rw [Nat.mul_assoc, ← Nat.pow_add, pow2_eq (show 100 + (K - 100) = K by omega)]
    rwa [e1, e2] at this
  · cases h
/-- The float 10. -/
def cTen : Nat := 4621819117588971520
theorem ap_ten : Ap 1 false cTen 10 1 := okW_ap (by decide +kernel)
theorem ap_one : Ap 1 false 4607182418800017408 1 1 := okW_ap (by decide +kernel)
theorem rg_ten : Rg 10 1 := by unfold Rg; decide
theorem rg_one : Rg 1 1 := by unfold Rg; decide
theorem ap_int {n : Nat} (h0 : 0 < n) (hn : n ≤ 2 ^ 60) : Ap 1 false (floatOfInt .f64 (n : Int)) n 1 := by
  have hK := K_eq
  have e0 : floatOfInt .f64 (n : Int) = double.nearest (decide ((n : Int) < 0)) (n : Int).natAbs 0 := rfl
  rw [e0, decide_eq_false (by omega), Int.natAbs_natCast]
  have hl : n.log2 ≤ 60 := by
    have h1 : 2 ^ n.log2 ≤ n := Nat.log2_self_le (by omega)
    exact (Nat.pow_le_pow_iff_right (show 1 < 2 by omega)).1 (Nat.le_trans h1 hn)
  obtain ⟨m', e', hread, e1, e2, hm', hR⟩ := near_rel false n 0 (by omega) (by omega) (by omega) (by omega)
  refine ⟨m', e', hread, hm', by omega, by omega, ?_⟩
  rw [Nat.mul_one]
  have e3 : sv n 0 = n * 2 ^ K := by
    unfold sv
    rw [pow2_eq (show (0 + (K : Int)).toNat = K by omega)]
  rwa [e3] at hR
theorem pow10_le {i j : Nat} (h : i ≤ j) : 10 ^ i ≤ 10 ^ j := Nat.pow_le_pow_right (by decide) h
theorem rg_mul {n i : Nat} (h0 : 0 < n) (hn : n ≤ 10 ^ 15) (hi : i ≤ 31) : Rg (n * 10 ^ i) 1 := by
  have h1 : 0 < 10 ^ i := Nat.pos_of_ne_zero (by simp)
  have h2 : n * 10 ^ i ≤ 10 ^ 15 * 10 ^ 31 := Nat.mul_le_mul hn (pow10_le hi)
  have h3 : 0 < n * 10 ^ i := Nat.mul_pos h0 h1
  refine ⟨h3, by decide, by omega, by omega⟩
theorem rg_div {n i : Nat} (h0 : 0 < n) (hn : n ≤ 10 ^ 15) (hi : i ≤ 51) : Rg n (10 ^ i) := by
  have h1 : 0 < 10 ^ i := Nat.pos_of_ne_zero (by simp)
  have h2 : 10 ^ i ≤ 10 ^ 51 := pow10_le hi
  refine ⟨h0, h1, ?_, ?_⟩
  · have : 2 ^ 200 * 1 ≤ 2 ^ 200 * 10 ^ i := Nat.mul_le_mul_left _ h1
    omega
  · have : 2 ^ 200 * 1 ≤ 2 ^ 200 * n := Nat.mul_le_mul_left _ h0
    omega
theorem ap_step_mul {n i k x : Nat} {s : Bool} (h : Ap k s x (n * 10 ^ i) 1) (hk : k ≤ 390) (h0 : 0 < n) (hn : n ≤ 10 ^ 15) (hi : i ≤ 31) : ∃ r, double.mul x cTen = some r ∧ Ap (k + 4) s r (n * 10 ^ (i + 1)) 1 := by
  obtain ⟨r, hr, ha⟩ := h.mul ap_ten (by omega) (by omega) (rg_mul h0 hn hi) rg_ten
  rw [Bool.xor_false] at ha
  refine ⟨r, hr, ?_⟩
  rw [Nat.pow_succ, ← Nat.mul_assoc]
  exact ha
theorem ap_step_div {n i k x : Nat} {s : Bool} (h : Ap k s x n (10 ^ i)) (hk : k ≤ 390) (h0 : 0 < n) (hn : n ≤ 10 ^ 15) (hi : i ≤ 51) : ∃ r, double.div x cTen = some r ∧ Ap (k + 7) s r n (10 ^ (i + 1)) := by
  obtain ⟨r, hr, ha⟩ := h.div ap_ten (by omega) (by omega) (rg_div h0 hn hi) rg_ten
  rw [Bool.xor_false] at ha
  refine ⟨r, hr, ?_⟩
  rw [Nat.pow_succ]
  rwa [Nat.mul_one] at ha
theorem zero_mul_ten : double.mul 0 cTen = some 0 := by decide +kernel
theorem zero_div_ten : double.div 0 cTen = some 0 := by decide +kernel
theorem int_zero : floatOfInt .f64 0 = 0 := by decide +kernel
end Go.Proofs.YtggemljdmoegnaaDoor
