/- Floats that are about a fraction: products, quotients, differences and how they stand to each other. No program in sight. -/
import Derived.Test.YtggemljdmoegnaaDoorRel
namespace Go.Proofs.YtggemljdmoegnaaDoor
open Ieee
set_option linter.unusedVariables false
attribute [local irreducible] K

/-- The float w is N/D, of sign s, up to k parts of 2^50. -/
def Ap (k : Nat) (s : Bool) (w N D : Nat) : Prop := ∃ m e, double.read w = .number s m e ∧ m ≠ 0 ∧ -800 ≤ e ∧ e ≤ 800 ∧ Rel k (sv m e * D) (N * 2 ^ K)
/-- A fraction that is neither too great nor too small. -/
def Rg (N D : Nat) : Prop := 0 < N ∧ 0 < D ∧ N ≤ 2 ^ 200 * D ∧ D ≤ 2 ^ 200 * N
theorem pow2_eq {a b : Nat} (h : a = b) : 2 ^ a = 2 ^ b := by rw [h]
theorem rg_size {k m N D : Nat} {e : Int} (hk : k ≤ 1000) (h : Rel k (sv m e * D) (N * 2 ^ K)) (rg : Rg N D) : sv m e ≤ 2 ^ (K + 201) ∧ 2 ^ (K - 201) ≤ sv m e := by
  have hK := K_eq
  obtain ⟨r1, r2, r3, r4⟩ := rg
  obtain ⟨h1, h2⟩ := h
  have hkk : k * (N * 2 ^ K) ≤ 1000 * (N * 2 ^ K) := Nat.mul_le_mul_right _ hk
  have e1 : 2 ^ (K + 201) = 2 ^ K * 2 ^ 201 := Nat.pow_add ..
  have e2 : 2 ^ K = 2 ^ (K - 201) * 2 ^ 201 := by rw [← Nat.pow_add]; exact pow2_eq (by omega)
  have u1 : sv m e * D ≤ 2 * (N * 2 ^ K) := by omega
  have u2 : N * 2 ^ K ≤ 2 * (sv m e * D) := by omega
  constructor
  · refine Nat.le_of_mul_le_mul_right (c := D) ?_ r2
    refine Nat.le_trans u1 ?_
    rw [e1]
    have := Nat.mul_le_mul_right (2 ^ K) r3
    have e3 : 2 ^ K * 2 ^ 201 * D = 2 * (2 ^ 200 * D * 2 ^ K) := by
      generalize 2 ^ K = x
      rw [show (2 : Nat) ^ 201 = 2 * 2 ^ 200 by omega, Nat.mul_comm x, Nat.mul_assoc, Nat.mul_assoc, Nat.mul_assoc, Nat.mul_comm x D]
    rw [e3]
    omega
  · refine Nat.le_of_mul_le_mul_right (c := 2 ^ 201 * N) ?_ (Nat.mul_pos (Nat.two_pow_pos _) r1)
    have e3 : 2 ^ (K - 201) * (2 ^ 201 * N) = N * 2 ^ K := by
      rw [← Nat.mul_assoc, ← e2, Nat.mul_comm]
    rw [e3]
    refine Nat.le_trans u2 ?_
    have h3 := Nat.mul_le_mul_left (sv m e) r4
    have e4 : sv m e * (2 ^ 201 * N) = 2 * (sv m e * (2 ^ 200 * N)) := by
      generalize sv m e = x
      rw [show (2 : Nat) ^ 201 = 2 * 2 ^ 200 by omega, Nat.mul_assoc 2, Nat.mul_left_comm]
    rw [e4]
    omega
theorem Ap.mono {a b w N D : Nat} {s : Bool} (h : Ap a s w N D) (hab : a ≤ b) : Ap b s w N D := by
  obtain ⟨m, e, h1, h2, h3, h4, h5⟩ := h
  exact ⟨m, e, h1, h2, h3, h4, h5.mono hab⟩
/-- One form of a fraction for another. -/
theorem Ap.same {a w N D N' D' : Nat} {s : Bool} (h : Ap a s w N D) (hD : 0 < D) (e : N * D' = N' * D) : Ap a s w N' D' := by
  obtain ⟨m, i, h1, h2, h3, h4, h5⟩ := h
  refine ⟨m, i, h1, h2, h3, h4, Rel.cancel hD ?_⟩
  have := h5.scale D'
  have e1 : sv m i * D * D' = sv m i * D' * D := by rw [Nat.mul_assoc, Nat.mul_comm D, ← Nat.mul_assoc]
  have e2 : N * 2 ^ K * D' = N' * 2 ^ K * D := by
    generalize 2 ^ K = x
    rw [Nat.mul_assoc, Nat.mul_comm x, ← Nat.mul_assoc, e, Nat.mul_assoc, Nat.mul_comm D, ← Nat.mul_assoc]
  rwa [e1, e2] at this
theorem Rel.zero {a x : Nat} (h : Rel a 0 x) (ha : a ≤ 1000) : x = 0 := by
  have := h.2
  have := Nat.mul_le_mul_right x ha
  omega

theorem Ap.mul {a b w w' N D N' D' : Nat} {s t : Bool} (h : Ap a s w N D) (h' : Ap b t w' N' D') (ha : a ≤ 400) (hb : b ≤ 400) (rg : Rg N D) (rg' : Rg N' D') :
    ∃ r, double.mul w w' = some r ∧ Ap (a + b + 3) (s ^^ t) r (N * N') (D * D') := by
  have hK := K_eq
  obtain ⟨m, i, hr, hm, i1, i2, hA⟩ := h
  obtain ⟨n, j, hr', hn, j1, j2, hB⟩ := h'
  have hmn : m * n ≠ 0 := Nat.mul_ne_zero hm hn
  obtain ⟨a1, a2⟩ := rg_size (by omega) hA rg
  obtain ⟨b1, b2⟩ := rg_size (by omega) hB rg'
  have hs := sv_mul (m := m) (n := n) (i := i) (j := j) (by omega) (by omega)
  have up : sv (m * n) (i + j) ≤ 2 ^ (K + 402) := by
    refine Nat.le_of_mul_le_mul_right (c := 2 ^ K) ?_ (Nat.two_pow_pos _)
    rw [hs, ← Nat.pow_add]
    refine Nat.le_trans (Nat.mul_le_mul a1 b1) ?_
    rw [← Nat.pow_add]
    exact Nat.pow_le_pow_right (by omega) (by omega)
  have lo : 2 ^ (K - 402) ≤ sv (m * n) (i + j) := by
    refine Nat.le_of_mul_le_mul_right (c := 2 ^ K) ?_ (Nat.two_pow_pos _)
    rw [hs, ← Nat.pow_add]
    refine Nat.le_trans ?_ (Nat.mul_le_mul a2 b2)
    rw [← Nat.pow_add]
    exact Nat.pow_le_pow_right (by omega) (by omega)
  have u1 := sv_up hmn up (by omega)
  have u2 := sv_lo lo (by omega)
  obtain ⟨m', e', hread, e1, e2, hm', hR⟩ := near_rel (s ^^ t) (m * n) (i + j) hmn (by omega) (by omega) (by omega)
  refine ⟨double.nearest (s ^^ t) (m * n) (i + j), ?_, m', e', hread, hm', by omega, by omega, ?_⟩
  · unfold Format.mul
    rw [hr, hr']
    rfl
  · refine Rel.cancel (Nat.two_pow_pos K) ?_
    have r1 := hR.scale (D * D' * 2 ^ K)
    have r2 := hA.mul hB (by omega) (by omega)
    have e3 : sv (m * n) (i + j) * (D * D' * 2 ^ K) = sv m i * D * (sv n j * D') := by
      rw [Nat.mul_comm (D * D'), ← Nat.mul_assoc, hs]
      generalize sv m i = x
      generalize sv n j = y
      rw [Nat.mul_assoc, Nat.mul_assoc, Nat.mul_left_comm y D D']
    rw [e3] at r1
    have r3 := r1.trans r2 (by omega) (by omega)
    have e4 : N * 2 ^ K * (N' * 2 ^ K) = N * N' * 2 ^ K * 2 ^ K := by
      generalize 2 ^ K = x
      rw [Nat.mul_assoc, Nat.mul_left_comm x, ← Nat.mul_assoc, ← Nat.mul_assoc]
    have e5 : sv m' e' * (D * D' * 2 ^ K) = sv m' e' * (D * D') * 2 ^ K := (Nat.mul_assoc _ _ _).symm
    rw [e4, e5] at r3
    exact r3.mono (by omega)

/-- The quotient's digits. -/
theorem quot_rel (m n : Nat) (hm : m ≠ 0) (hn : n ≠ 0) (more : Nat) (hmore : more = 54 + n.log2 - m.log2) :
    Rel 1 ((2 * (m <<< more / n) + (m <<< more % n != 0).toNat) * n) (2 * (m <<< more)) ∧ 1 ≤ m <<< more / n := by
  rw [Nat.shiftLeft_eq]
  have h1 : 2 ^ m.log2 ≤ m := Nat.log2_self_le hm
  have h2 : n < 2 ^ (n.log2 + 1) := Nat.lt_log2_self
  have h3 : 2 ^ (53 + (n.log2 + 1)) ≤ m * 2 ^ more := by
    refine Nat.le_trans ?_ (Nat.mul_le_mul_right (2 ^ more) h1)
    rw [← Nat.pow_add]
    exact Nat.pow_le_pow_right (by omega) (by omega)
  rw [Nat.pow_add] at h3
  have h4 : 2 ^ 53 * n ≤ m * 2 ^ more := Nat.le_trans (Nat.mul_le_mul_left _ (Nat.le_of_lt h2)) h3
  obtain ⟨d, hd⟩ : ∃ d, m * 2 ^ more = d := ⟨_, rfl⟩
  rw [hd] at h4 ⊢
  have hdm := Nat.div_add_mod d n
  have hml := Nat.mod_lt d (Nat.pos_of_ne_zero hn)
  have hb : (d % n != 0).toNat ≤ 1 := by cases (d % n != 0) <;> decide
  obtain ⟨q, hq⟩ : ∃ q, d / n = q := ⟨_, rfl⟩
  obtain ⟨b, hbb⟩ : ∃ b, (d % n != 0).toNat = b := ⟨_, rfl⟩
  rw [hbb] at hb ⊢
  rw [hq] at hdm ⊢
  have hbn : b * n ≤ n := by
    have := Nat.mul_le_mul_right n hb
    rwa [Nat.one_mul] at this
  have e1 : (2 * q + b) * n = 2 * (n * q) + b * n := by rw [Nat.add_mul, Nat.mul_assoc, Nat.mul_comm q]
  refine ⟨?_, ?_⟩
  · rw [e1]
    generalize n * q = p at *
    generalize b * n = r at *
    generalize d % n = z at *
    exact ⟨by omega, by omega⟩
  · rcases Nat.eq_zero_or_pos q with h0 | h0
    · subst h0
      omega
    · exact h0

theorem Ap.div {a b w w' N D N' D' : Nat} {s t : Bool} (h : Ap a s w N D) (h' : Ap b t w' N' D') (ha : a ≤ 400) (hb : b ≤ 400) (rg : Rg N D) (rg' : Rg N' D') :
    ∃ r, double.div w w' = some r ∧ Ap (a + b + 6) (s ^^ t) r (N * D') (D * N') := by
  have hK := K_eq
  obtain ⟨m, i, hr, hm, i1, i2, hA⟩ := h
  obtain ⟨n, j, hr', hn, j1, j2, hB⟩ := h'
  obtain ⟨a1, a2⟩ := rg_size (by omega) hA rg
  obtain ⟨b1, b2⟩ := rg_size (by omega) hB rg'
  have v1 := sv_up hn b1 (by omega)
  obtain ⟨more, hmore⟩ : ∃ more, more = 54 + n.log2 - m.log2 := ⟨_, rfl⟩
  obtain ⟨hq, hq1⟩ := quot_rel m n hm hn more hmore
  obtain ⟨M, hM⟩ : ∃ M, 2 * (m <<< more / n) + (m <<< more % n != 0).toNat = M := ⟨_, rfl⟩
  obtain ⟨p, hp⟩ : ∃ p : Int, i - j - (more : Int) - 1 = p := ⟨_, rfl⟩
  rw [hM] at hq
  have hM0 : M ≠ 0 := by omega
  have hpl : -3900 ≤ p := by omega
  -- the digits at their place
  have hsc : Rel 1 (sv M p * sv n j) (sv m i * 2 ^ K) := by
    have r := hq.scale (2 ^ (p + (K : Int)).toNat * 2 ^ (j + (K : Int)).toNat)
    have e1 : M * n * (2 ^ (p + (K : Int)).toNat * 2 ^ (j + (K : Int)).toNat) = sv M p * sv n j := by
      unfold sv
      generalize 2 ^ (p + (K : Int)).toNat = x
      generalize 2 ^ (j + (K : Int)).toNat = y
      rw [Nat.mul_assoc, Nat.mul_assoc, Nat.mul_left_comm n x y]
    have e2 : 2 * (m <<< more) * (2 ^ (p + (K : Int)).toNat * 2 ^ (j + (K : Int)).toNat) = sv m i * 2 ^ K := by
      unfold sv
      rw [Nat.shiftLeft_eq]
      have e : 2 ^ (more + 1 + (p + (K : Int)).toNat + (j + (K : Int)).toNat) = 2 ^ ((i + (K : Int)).toNat + K) := pow2_eq (by omega)
      rw [Nat.pow_add, Nat.pow_add, Nat.pow_add, Nat.pow_add] at e
      generalize 2 ^ (p + (K : Int)).toNat = x at *
      generalize 2 ^ (j + (K : Int)).toNat = y at *
      generalize 2 ^ (i + (K : Int)).toNat = z at *
      generalize 2 ^ more = v at *
      generalize 2 ^ K = k at *
      have e3 : 2 * (m * v) * (x * y) = m * (v * 2 ^ 1 * x * y) := by rw [Nat.pow_one]; ac_rfl
      rw [e3, e]
      ac_rfl
    rwa [e1, e2] at r
  have up : sv M p ≤ 2 ^ (K + 403) := by
    refine Nat.le_of_mul_le_mul_right (c := 2 ^ (K - 201)) ?_ (Nat.two_pow_pos _)
    refine Nat.le_trans (Nat.mul_le_mul_left _ b2) ?_
    have h1 : sv M p * sv n j ≤ 2 * (sv m i * 2 ^ K) := by have := hsc.1; omega
    refine Nat.le_trans h1 ?_
    have h2 : sv m i * 2 ^ K ≤ 2 ^ (K + 201) * 2 ^ K := Nat.mul_le_mul_right _ a1
    rw [← Nat.pow_add] at h2
    have h3 : 2 * 2 ^ (K + 201 + K) = 2 ^ (K + 403) * 2 ^ (K - 201) := by
      rw [← Nat.pow_succ', ← Nat.pow_add]
      exact pow2_eq (by omega)
    omega
  have lo : 2 ^ (K - 403) ≤ sv M p := by
    refine Nat.le_of_mul_le_mul_right (c := 2 ^ (K + 202)) ?_ (Nat.two_pow_pos _)
    have h1 : sv m i * 2 ^ K ≤ 2 * (sv M p * sv n j) := by have := hsc.2; omega
    have h2 : 2 ^ (K - 201) * 2 ^ K ≤ sv m i * 2 ^ K := Nat.mul_le_mul_right _ a2
    have h3 : sv M p * sv n j ≤ sv M p * 2 ^ (K + 201) := Nat.mul_le_mul_left _ b1
    have h4 : sv M p * 2 ^ (K + 202) = 2 * (sv M p * 2 ^ (K + 201)) := by
      rw [show K + 202 = K + 201 + 1 by omega, Nat.pow_succ, Nat.mul_comm (2 ^ (K + 201)) 2, Nat.mul_left_comm]
    have h5 : 2 ^ (K - 403) * 2 ^ (K + 202) = 2 ^ (K - 201) * 2 ^ K := by
      rw [← Nat.pow_add, ← Nat.pow_add]
      exact pow2_eq (by omega)
    omega
  have u1 := sv_up hM0 up (by omega)
  have u2 := sv_lo lo (by omega)
  obtain ⟨m', e', hread, e1, e2, hm', hR⟩ := near_rel (s ^^ t) M p hM0 (by omega) (by omega) (by omega)
  refine ⟨double.nearest (s ^^ t) M p, ?_, m', e', hread, hm', by omega, by omega, ?_⟩
  · unfold Format.div
    rw [hr, hr']
    simp only [Datum.quotient, if_neg hn, dbl_frac]
    rw [show 52 + 2 + n.log2 - m.log2 = more by omega, hM, hp]
    rfl
  · refine Rel.cancel (Nat.two_pow_pos K) ?_
    have r1 := (hR.scale (sv n j)).trans hsc (by omega) (by omega)
    have r2 := r1.scale (D * D')
    have e3 : sv m i * 2 ^ K * (D * D') = sv m i * D * (2 ^ K * D') := by
      generalize sv m i = x
      generalize 2 ^ K = y
      rw [Nat.mul_assoc, Nat.mul_assoc, Nat.mul_left_comm y D D']
    have r3 := hA.scale (2 ^ K * D')
    rw [e3] at r2
    have r4 := r2.trans r3 (by omega) (by omega)
    have e4 : sv m' e' * sv n j * (D * D') = sv n j * D' * (sv m' e' * D) := by
      generalize sv m' e' = x
      generalize sv n j = y
      rw [Nat.mul_comm x y, Nat.mul_assoc, Nat.mul_assoc, Nat.mul_left_comm D' x D, Nat.mul_comm D' D]
    have r5 := (hB.symm (by omega)).scale (sv m' e' * D)
    rw [e4] at r4
    have r6 := r5.trans r4 (by omega) (by omega)
    have e5 : N' * 2 ^ K * (sv m' e' * D) = sv m' e' * (D * N') * 2 ^ K := by
      generalize sv m' e' = x
      generalize 2 ^ K = y
      rw [Nat.mul_comm, Nat.mul_assoc, ← Nat.mul_assoc D, ← Nat.mul_assoc]
    have e6 : N * 2 ^ K * (2 ^ K * D') = N * D' * 2 ^ K * 2 ^ K := by
      generalize 2 ^ K = y
      rw [Nat.mul_comm y D', ← Nat.mul_assoc, Nat.mul_assoc N, Nat.mul_comm y D', ← Nat.mul_assoc]
    rw [e5, e6] at r6
    exact r6.mono (by omega)
end Go.Proofs.YtggemljdmoegnaaDoor
