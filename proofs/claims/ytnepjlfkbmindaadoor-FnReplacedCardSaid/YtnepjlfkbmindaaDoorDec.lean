/- Numbers in decimal: the digits of a number, and what digits mean. Plain lists, no program. -/
import Derived.Test.YtnepjlfkbmindaaDoorWords
namespace Go.Proofs.YtnepjlfkbmindaaDoor

def isDig (c : UInt8) : Bool := 48 ≤ c && c ≤ 57
/-- The digits of a number in decimal. -/
def dec (n : Nat) : List UInt8 := if _h : n < 10 then [UInt8.ofNat (48 + n)] else dec (n / 10) ++ [UInt8.ofNat (48 + n % 10)]
termination_by n
decreasing_by omega
def dval (l : List UInt8) : Nat := l.foldl (fun n c => n * 10 + (c.toNat - 48)) 0
theorem dec_lt {n : Nat} (h : n < 10) : dec n = [UInt8.ofNat (48 + n)] := by rw [dec, dif_pos h]
theorem dec_ge {n : Nat} (h : 10 ≤ n) : dec n = dec (n / 10) ++ [UInt8.ofNat (48 + n % 10)] := by rw [dec, dif_neg (by omega)]
theorem dval_snoc (l : List UInt8) (c : UInt8) : dval (l ++ [c]) = dval l * 10 + (c.toNat - 48) := by simp [dval]
theorem digit_toNat {d : Nat} (h : d < 10) : (UInt8.ofNat (48 + d)).toNat = 48 + d := by rw [UInt8.toNat_ofNat']; omega
theorem dval_dec (n : Nat) : dval (dec n) = n := by
  induction n using Nat.strongRecOn with
  | _ n ih =>
    by_cases h : n < 10
    · rw [dec_lt h]; simp only [dval, List.foldl_cons, List.foldl_nil]; rw [digit_toNat h]; omega
    · rw [dec_ge (by omega), dval_snoc, ih (n / 10) (by omega), digit_toNat (by omega)]; omega
theorem isDig_digit {d : Nat} (h : d < 10) : isDig (UInt8.ofNat (48 + d)) = true := by
  simp only [isDig, Bool.and_eq_true, decide_eq_true_eq, UInt8.le_iff_toNat_le]; rw [digit_toNat h]; simp; omega
theorem dec_digits (n : Nat) : ∀ c ∈ dec n, isDig c = true := by
  induction n using Nat.strongRecOn with
  | _ n ih =>
    by_cases h : n < 10
    · rw [dec_lt h]; intro c hc; rw [List.mem_singleton.1 hc]; exact isDig_digit h
    · rw [dec_ge (by omega)]; intro c hc
      rcases List.mem_append.1 hc with hc | hc
      · exact ih _ (by omega) c hc
      · rw [List.mem_singleton.1 hc]; exact isDig_digit (by omega)
theorem dec_ne (n : Nat) : 0 < (dec n).length := by
  by_cases h : n < 10
  · rw [dec_lt h]; simp
  · rw [dec_ge (by omega)]; simp
theorem dec_len_le (k : Nat) : ∀ n, n < 10 ^ (k + 1) → (dec n).length ≤ k + 1 := by
  induction k with
  | zero => intro n h; rw [dec_lt (by simpa using h)]; simp
  | succ k ih =>
    intro n h
    by_cases h10 : n < 10
    · rw [dec_lt h10]; simp
    · rw [dec_ge (by omega)]; simp
      have := ih (n / 10) (by rw [Nat.pow_succ] at h; omega)
      exact this
theorem dec_len_ge (k : Nat) : ∀ n, 10 ^ k ≤ n → k + 1 ≤ (dec n).length := by
  induction k with
  | zero => intro n h; have := dec_ne n; omega
  | succ k ih =>
    intro n h
    have h10 : 10 ≤ n := by
      have : 10 ^ 1 ≤ 10 ^ (k + 1) := Nat.pow_le_pow_right (by omega) (by omega)
      omega
    rw [dec_ge h10]; simp
    exact ih (n / 10) (by rw [Nat.pow_succ] at h; omega)
theorem dec_len (k n : Nat) (h : 10 ^ k ≤ n) (h2 : n < 10 ^ (k + 1)) : (dec n).length = k + 1 := Nat.le_antisymm (dec_len_le k n h2) (dec_len_ge k n h)

/-- Where the writing of a number stands: m is still to be written in front of the bytes that are there. -/
def DecSt (n m : Nat) (out : List UInt8) : Prop := if m = 0 then out = dec n else dec m ++ out = dec n
theorem DecSt.start (n : Nat) : DecSt n (n / 10) [UInt8.ofNat (48 + n % 10)] := by
  unfold DecSt
  by_cases h : n < 10
  · rw [if_pos (by omega), dec_lt h, Nat.mod_eq_of_lt h]
  · rw [if_neg (by omega), ← dec_ge (by omega)]
theorem DecSt.step {n m : Nat} {out : List UInt8} (hm : 0 < m) (h : DecSt n m out) : DecSt n (m / 10) (UInt8.ofNat (48 + m % 10) :: out) := by
  unfold DecSt at h ⊢
  rw [if_neg (by omega)] at h
  by_cases h1 : m < 10
  · rw [if_pos (by omega), ← h, dec_lt h1, Nat.mod_eq_of_lt h1]; rfl
  · rw [if_neg (by omega), ← h, dec_ge (n := m) (by omega), List.append_assoc]; rfl
theorem DecSt.done {n : Nat} {out : List UInt8} (h : DecSt n 0 out) : out = dec n := by
  unfold DecSt at h
  rwa [if_pos rfl] at h
theorem DecSt.len {n m : Nat} {out : List UInt8} (h : DecSt n m out) : out.length ≤ (dec n).length := by
  unfold DecSt at h
  split at h
  · rw [h]; exact Nat.le_refl _
  · rw [← h]; simp
theorem dec_len20 (n : Nat) (h : n < 18446744073709551616) : (dec n).length ≤ 20 := dec_len_le 19 n (by simp only [Nat.reduceAdd, Nat.reducePow]; omega)
theorem digitI {d : Nat} (h : d < 10) : ((UInt8.ofNat (48 + d)).toNat : Int) = 48 + (d : Int) := by rw [digit_toNat h]; omega
end Go.Proofs.YtnepjlfkbmindaaDoor
