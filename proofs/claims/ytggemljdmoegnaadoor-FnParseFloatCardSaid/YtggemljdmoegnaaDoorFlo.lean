/- Bounds of floating-point results: a number of size at most 2^k, and what sums and products of such are. No program in sight. -/
import Derived.Test.YtggemljdmoegnaaDoorChecked
import Ieee.Arith
namespace Go.Proofs.YtggemljdmoegnaaDoor
open Ieee
set_option linter.unusedVariables false

/-- The magnitude is at most 2^k. -/
def Bd (k w : Nat) : Prop := w % double.signWeight ≤ (k + 1023) * 2 ^ 52
/-- m * 2^e is at most 2^k. -/
def MB (k m : Nat) (e : Int) : Prop := e ≤ k ∧ m ≤ 2 ^ ((k : Int) - e).toNat
theorem Bd.mono {k k' w : Nat} (h : Bd k w) (hk : k ≤ k') : Bd k' w := by
  unfold Bd at *
  exact Nat.le_trans h (Nat.mul_le_mul_right _ (by omega))
theorem dbl_sw : double.signWeight = 2 ^ 63 := rfl
theorem dbl_bin : double.binade = 2 ^ 52 := rfl
theorem dbl_inf : double.infRung = 2047 * 2 ^ 52 := rfl
theorem dbl_least : double.leastPlace = -1074 := rfl
theorem dbl_frac : double.fractionBits = 52 := rfl
theorem read_key (k : Nat) (b : Bool) (hk : k ≤ 1000) (r : Nat) (h : r ≤ (k + 1023) * 2 ^ 52) :
    ∃ s m e, (if r < 2 ^ 52 then Datum.number b r (-1074) else if r < 2047 * 2 ^ 52 then .number b (2 ^ 52 + r % 2 ^ 52) (-1074 + ((r / 2 ^ 52 - 1 : Nat) : Int)) else if r = 2047 * 2 ^ 52 then .infinity b else .nan b (r - 2047 * 2 ^ 52)) = .number s m e ∧ MB k m e := by
  by_cases h1 : r < 2 ^ 52
  · rw [if_pos h1]
    refine ⟨_, _, _, rfl, by omega, ?_⟩
    have : 2 ^ 52 ≤ 2 ^ ((k : Int) - -1074).toNat := Nat.pow_le_pow_right (by omega) (by omega)
    omega
  · rw [if_neg h1]
    have h2 : r < 2047 * 2 ^ 52 := by omega
    rw [if_pos h2]
    have hd := Nat.div_add_mod r (2 ^ 52)
    have hm := Nat.mod_lt r (show 0 < 2 ^ 52 by omega)
    obtain ⟨E, hE0⟩ : ∃ E, r / 2 ^ 52 = E := ⟨_, rfl⟩
    obtain ⟨F, hF0⟩ : ∃ F, r % 2 ^ 52 = F := ⟨_, rfl⟩
    rw [hE0, hF0] at hd
    rw [hF0] at hm
    rw [hE0, hF0]
    have hE : 1 ≤ E := by omega
    have hE2 : E ≤ k + 1023 := by omega
    refine ⟨_, _, _, rfl, by omega, ?_⟩
    have e1 : ((k : Int) - (-1074 + ((E - 1 : Nat) : Int))).toNat = k + 1075 - E := by omega
    rw [e1]
    by_cases hc : E = k + 1023
    · have : k + 1075 - E = 52 := by omega
      rw [this]
      omega
    · have : 2 ^ 53 ≤ 2 ^ (k + 1075 - E) := Nat.pow_le_pow_right (by omega) (by omega)
      omega
theorem Bd.read {k w : Nat} (h : Bd k w) (hk : k ≤ 1000) : ∃ s m e, double.read w = .number s m e ∧ MB k m e :=
  read_key k (w / double.signWeight % 2 == 1) hk (w % double.signWeight) h
theorem cut_le (neg : Bool) (n drop : Nat) : Toward.even.cut neg n drop ≤ n / 1 <<< min drop (n.log2 + 2) + 1 := by
  unfold Toward.cut
  simp only
  have : ∀ b : Bool, b.toNat ≤ 1 := fun b => by cases b <;> decide
  have := this (1 <<< min drop (n.log2 + 2) < 2 * (n % 1 <<< min drop (n.log2 + 2)) || (1 <<< min drop (n.log2 + 2) == 2 * (n % 1 <<< min drop (n.log2 + 2)) && n / 1 <<< min drop (n.log2 + 2) % 2 == 1))
  omega
theorem cut_zero (neg : Bool) (n : Nat) : Toward.even.cut neg n 0 = n := by
  unfold Toward.cut
  simp [Nat.mod_one]
theorem kept_le (neg : Bool) (m : Nat) (place last : Int) (hm : m ≠ 0) (h : place + m.log2 - 52 ≤ last) : Toward.even.cut neg (m <<< (place - last).toNat) (last - place).toNat ≤ 2 ^ 53 := by
  have hl : m < 2 ^ (m.log2 + 1) := Nat.lt_log2_self
  by_cases hlt : place < last
  · have e0 : (place - last).toNat = 0 := by omega
    rw [e0, Nat.shiftLeft_zero]
    refine Nat.le_trans (cut_le _ _ _) ?_
    rw [Nat.shiftLeft_eq, Nat.one_mul]
    rcases Nat.le_total (last - place).toNat (m.log2 + 2) with h1 | h1
    · rw [Nat.min_eq_left h1]
      have : m / 2 ^ (last - place).toNat < 2 ^ 53 := by
        rw [Nat.div_lt_iff_lt_mul (Nat.two_pow_pos _), ← Nat.pow_add]
        exact Nat.lt_of_lt_of_le hl (Nat.pow_le_pow_right (by omega) (by omega))
      omega
    · rw [Nat.min_eq_right h1]
      have : m / 2 ^ (m.log2 + 2) = 0 := Nat.div_eq_of_lt (Nat.lt_of_lt_of_le hl (Nat.pow_le_pow_right (by omega) (by omega)))
      omega
  · have e0 : (last - place).toNat = 0 := by omega
    rw [e0, cut_zero, Nat.shiftLeft_eq]
    have h2 : m * 2 ^ (place - last).toNat < 2 ^ (m.log2 + 1) * 2 ^ (place - last).toNat := Nat.mul_lt_mul_of_pos_right hl (Nat.two_pow_pos _)
    rw [← Nat.pow_add] at h2
    have h3 : 2 ^ (m.log2 + 1 + (place - last).toNat) ≤ 2 ^ 53 := Nat.pow_le_pow_right (by omega) (by omega)
    omega
theorem word_mod (neg : Bool) (r : Nat) (h : r < double.signWeight) : double.word neg r % double.signWeight = r := by
  unfold Format.word
  cases neg
  · simp [Nat.mod_eq_of_lt h]
  · simp [Nat.mod_eq_of_lt h]
theorem near_bd {k m : Nat} {e : Int} (neg : Bool) (h : MB k m e) (hk : k ≤ 900) : Bd (k + 1) (double.nearest neg m e) := by
  unfold Bd Format.nearest
  by_cases hm : m = 0
  · rw [if_pos hm, word_mod _ _ (by rw [dbl_sw]; omega)]
    omega
  · rw [if_neg hm]
    simp only [dbl_bin, dbl_inf, dbl_least, dbl_frac]
    have hlog : (m.log2 : Int) + e ≤ k := by
      have h1 : 2 ^ m.log2 ≤ m := Nat.log2_self_le hm
      have h2 := Nat.le_trans h1 h.2
      have h3 := (Nat.pow_le_pow_iff_right (show 1 < 2 by omega)).1 h2
      have := h.1
      omega
    have hkept := kept_le neg m e (max (e + m.log2 - ((52 : Nat) : Int)) (-1074)) hm (by omega)
    generalize Toward.even.cut neg _ _ = kp at *
    have hr : (max (e + m.log2 - ((52 : Nat) : Int)) (-1074) - -1074).toNat * 2 ^ 52 + kp ≤ (k + 1 + 1023) * 2 ^ 52 := by omega
    have h47 : (k + 1 + 1023) * 2 ^ 52 < 2047 * 2 ^ 52 := by omega
    rw [word_mod _ _ (by rw [dbl_sw]; omega)]
    omega
theorem signed_abs (s : Bool) (m u : Nat) : (signed s m u).natAbs = m * 2 ^ u := by
  unfold signed
  cases s
  · rw [if_neg (by simp), Int.natAbs_natCast, Nat.shiftLeft_eq]
  · rw [if_pos rfl, Int.natAbs_neg, Int.natAbs_natCast, Nat.shiftLeft_eq]
theorem MB.lift {k m : Nat} {e b : Int} (h : MB k m e) (hb : b ≤ e) : m * 2 ^ (e - b).toNat ≤ 2 ^ ((k : Int) - b).toNat := by
  have h1 := Nat.mul_le_mul_right (2 ^ (e - b).toNat) h.2
  rw [← Nat.pow_add] at h1
  have h2 := h.1
  rwa [show ((k : Int) - e).toNat + (e - b).toNat = ((k : Int) - b).toNat by omega] at h1
theorem add_bd {k a b : Nat} (ha : Bd k a) (hb : Bd k b) (hk : k ≤ 800) : ∃ r, double.add a b = some r ∧ Bd (k + 2) r := by
  obtain ⟨s, m, i, ea, ma⟩ := ha.read (by omega)
  obtain ⟨t, n, j, eb, mb⟩ := hb.read (by omega)
  refine ⟨_, by unfold Format.add; rw [ea, eb]; simp only [Datum.sum, Option.map_some]; rfl, ?_⟩
  refine near_bd _ ⟨?_, ?_⟩ (by omega)
  · have := ma.1; omega
  · have h1 := ma.lift (b := min i j) (by omega)
    have h2 := mb.lift (b := min i j) (by omega)
    have h3 := Int.natAbs_add_le (signed s m (i - min i j).toNat) (signed t n (j - min i j).toNat)
    rw [signed_abs, signed_abs] at h3
    have h4 : 2 ^ (((k + 1 : Nat) : Int) - min i j).toNat = 2 * 2 ^ ((k : Int) - min i j).toNat := by
      rw [show (((k + 1 : Nat) : Int) - min i j).toNat = ((k : Int) - min i j).toNat + 1 by have := ma.1; omega, Nat.pow_succ]
      omega
    omega
theorem sub_bd {k a b : Nat} (ha : Bd k a) (hb : Bd k b) (hk : k ≤ 800) : ∃ r, double.sub a b = some r ∧ Bd (k + 2) r := by
  obtain ⟨s, m, i, ea, ma⟩ := ha.read (by omega)
  obtain ⟨t, n, j, eb, mb⟩ := hb.read (by omega)
  refine ⟨_, by unfold Format.sub; rw [ea, eb]; simp only [Datum.opposite, Datum.sum, Option.map_some]; rfl, ?_⟩
  refine near_bd _ ⟨?_, ?_⟩ (by omega)
  · have := ma.1; omega
  · have h1 := ma.lift (b := min i j) (by omega)
    have h2 := mb.lift (b := min i j) (by omega)
    have h3 := Int.natAbs_add_le (signed s m (i - min i j).toNat) (signed (!t) n (j - min i j).toNat)
    rw [signed_abs, signed_abs] at h3
    have h4 : 2 ^ (((k + 1 : Nat) : Int) - min i j).toNat = 2 * 2 ^ ((k : Int) - min i j).toNat := by
      rw [show (((k + 1 : Nat) : Int) - min i j).toNat = ((k : Int) - min i j).toNat + 1 by have := ma.1; omega, Nat.pow_succ]
      omega
    omega
theorem mul_bd {k k' a b : Nat} (ha : Bd k a) (hb : Bd k' b) (hk : k + k' ≤ 800) : ∃ r, double.mul a b = some r ∧ Bd (k + k' + 1) r := by
  obtain ⟨s, m, i, ea, ma⟩ := ha.read (by omega)
  obtain ⟨t, n, j, eb, mb⟩ := hb.read (by omega)
  refine ⟨_, by unfold Format.mul; rw [ea, eb]; simp only [Datum.product, Option.map_some]; rfl, ?_⟩
  refine near_bd _ ⟨?_, ?_⟩ (by omega)
  · have := ma.1; have := mb.1; omega
  · have h1 := Nat.mul_le_mul ma.2 mb.2
    rw [← Nat.pow_add] at h1
    rwa [show ((k : Int) - i).toNat + ((k' : Int) - j).toNat = (((k + k' : Nat) : Int) - (i + j)).toNat by have := ma.1; have := mb.1; omega] at h1
theorem sub_self {k a : Nat} (ha : Bd k a) (hk : k ≤ 1000) : double.sub a a = some 0 := by
  obtain ⟨s, m, i, ea, ma⟩ := ha.read hk
  unfold Format.sub
  rw [ea]
  have e1 : signed s m (i - min i i).toNat + signed (!s) m (i - min i i).toNat = 0 := by unfold signed; cases s <;> simp <;> omega
  simp only [Datum.opposite, Datum.sum, Option.map_some, e1]
  cases s <;> rfl
/-! The operations as total functions. -/
def fadd (a b : Nat) : Nat := (double.add a b).getD 0
def fsub (a b : Nat) : Nat := (double.sub a b).getD 0
def fmul (a b : Nat) : Nat := (double.mul a b).getD 0
theorem fadd_bd {k a b : Nat} (ha : Bd k a) (hb : Bd k b) (hk : k ≤ 800) : double.add a b = some (fadd a b) ∧ Bd (k + 2) (fadd a b) := by
  obtain ⟨r, e, h⟩ := add_bd ha hb hk
  unfold fadd
  rw [e]
  exact ⟨rfl, h⟩
theorem fsub_bd {k a b : Nat} (ha : Bd k a) (hb : Bd k b) (hk : k ≤ 800) : double.sub a b = some (fsub a b) ∧ Bd (k + 2) (fsub a b) := by
  obtain ⟨r, e, h⟩ := sub_bd ha hb hk
  unfold fsub
  rw [e]
  exact ⟨rfl, h⟩
theorem fmul_bd {k k' a b : Nat} (ha : Bd k a) (hb : Bd k' b) (hk : k + k' ≤ 800) : double.mul a b = some (fmul a b) ∧ Bd (k + k' + 1) (fmul a b) := by
  obtain ⟨r, e, h⟩ := mul_bd ha hb hk
  unfold fmul
  rw [e]
  exact ⟨rfl, h⟩
theorem fsub_self {k a : Nat} (ha : Bd k a) (hk : k ≤ 1000) : double.sub a a = some 0 := sub_self ha hk
end Go.Proofs.YtggemljdmoegnaaDoor
