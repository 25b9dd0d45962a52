/- A text that begins with digits and a point among them: what stands where, and what is read up to a place. Plain lists, no program. -/
import Derived.Test.YtggemljdmoegnaaDoorNum
namespace Go.Proofs.YtggemljdmoegnaaDoor
set_option linter.unusedVariables false

theorem dig_ge {c : UInt8} (h : isDig c = true) : (48 : Int) ≤ (c.toNat : Int) := by
  simp only [isDig, Bool.and_eq_true, decide_eq_true_eq, UInt8.le_iff_toNat_le] at h
  have := h.1
  simp at this
  omega
theorem dig_le {c : UInt8} (h : isDig c = true) : (c.toNat : Int) ≤ 57 := by
  simp only [isDig, Bool.and_eq_true, decide_eq_true_eq, UInt8.le_iff_toNat_le] at h
  have := h.2
  simp at this
  omega
theorem notdig {c : UInt8} (h : isDig c = false) : (c.toNat : Int) < 48 ∨ 57 < (c.toNat : Int) := by
  rcases Nat.lt_or_ge c.toNat 48 with h1 | h1
  · left; omega
  · rcases Nat.lt_or_ge 57 c.toNat with h2 | h2
    · right; omega
    · exfalso
      have : isDig c = true := by
        simp only [isDig, Bool.and_eq_true, decide_eq_true_eq, UInt8.le_iff_toNat_le]
        simp
        omega
      rw [h] at this
      cases this
/-- The digits of a number, so many at least. -/
def padded (n k : Nat) : List UInt8 := List.replicate (k - (dec n).length) 48 ++ dec n
/-- The digits of a number with a point in front of the last d ones. -/
def pointed (n d : Nat) : List UInt8 := if d = 0 then dec n else (padded n (d + 1)).take ((padded n (d + 1)).length - d) ++ 46 :: (padded n (d + 1)).drop ((padded n (d + 1)).length - d)
/-- The text b begins with the digits P, of which a stand in front of the point, and goes on behind T with what is none. -/
structure PtText (b P : List UInt8) (a T : Nat) : Prop where
  dig : ∀ c ∈ P, isDig c = true
  a1 : 1 ≤ a
  aL : a ≤ P.length
  tt : T = if a = P.length then P.length else P.length + 1
  at1 : ∀ i, i < a → b[i]? = P[i]?
  dot : a < P.length → b[a]? = some 46
  at2 : ∀ i, a < i → i < T → b[i]? = P[i - 1]?
  fin : ∀ c, b[T]? = some c → isDig c = false ∧ c ≠ 46
  len : T ≤ b.length
theorem padded_len (n k : Nat) : (padded n k).length = max k (dec n).length := by unfold padded; simp; omega
theorem padded_dig (n k : Nat) : ∀ c ∈ padded n k, isDig c = true := fun c hc => by
  unfold padded at hc
  rcases List.mem_append.1 hc with h | h
  · rw [(List.mem_replicate.1 h).2]; rfl
  · exact dec_digits n c h
theorem dval_zeros (j : Nat) (l : List UInt8) : dval (List.replicate j 48 ++ l) = dval l := by
  induction j with
  | zero => rfl
  | succ j ih =>
    rw [List.replicate_succ, List.cons_append]
    simpa [dval] using ih
theorem padded_val (n k : Nat) : dval (padded n k) = n := by unfold padded; rw [dval_zeros, dval_dec]
theorem pointed_len (n d : Nat) : (pointed n d).length = if d = 0 then (dec n).length else (padded n (d + 1)).length + 1 := by
  unfold pointed
  split
  · rfl
  · have := padded_len n (d + 1)
    simp
    omega
/-- A text that begins with a number with a point. -/
theorem pointed_text (n d : Nat) (rest : List UInt8) (hr : ∀ c, rest[0]? = some c → isDig c = false ∧ c ≠ 46) :
    PtText (pointed n d ++ rest) (padded n (d + 1)) ((padded n (d + 1)).length - d) (pointed n d).length := by
  have hl := padded_len n (d + 1)
  have hd := dec_ne n
  have hpl := pointed_len n d
  refine ⟨padded_dig _ _, by omega, by omega, ?_, ?_, ?_, ?_, ?_, by simp⟩
  · rw [hpl]
    by_cases h : d = 0
    · rw [if_pos h, if_pos (by omega), hl]; omega
    · rw [if_neg h, if_neg (by omega)]
  · intro i hi
    rw [List.getElem?_append_left (by rw [hpl]; split <;> omega)]
    unfold pointed
    split
    · rename_i h0
      unfold padded
      rw [h0, show 0 + 1 - (dec n).length = 0 by omega]
      rfl
    · rw [List.getElem?_append_left (by simp; omega), List.getElem?_take, if_pos hi]
  · intro h
    have h0 : d ≠ 0 := by omega
    rw [List.getElem?_append_left (by rw [hpl, if_neg h0]; omega)]
    unfold pointed
    rw [if_neg h0, List.getElem?_append_right (by simp)]
    simp
  · intro i h1 h2
    have h0 : d ≠ 0 := by
      intro e
      rw [hpl, if_pos e] at h2
      omega
    rw [List.getElem?_append_left h2]
    unfold pointed
    rw [if_neg h0, List.getElem?_append_right (by simp; omega)]
    have e : ((padded n (d + 1)).take ((padded n (d + 1)).length - d)).length = (padded n (d + 1)).length - d := by simp
    rw [e]
    obtain ⟨j, rfl⟩ : ∃ j, i = (padded n (d + 1)).length - d + 1 + j := ⟨i - ((padded n (d + 1)).length - d + 1), by omega⟩
    rw [show (padded n (d + 1)).length - d + 1 + j - ((padded n (d + 1)).length - d) = j + 1 by omega, List.getElem?_cons_succ, List.getElem?_drop]
    congr 1
    omega
  · intro c hc
    rw [List.getElem?_append_right (by omega), Nat.sub_self] at hc
    exact hr c hc
/-- How many digits stand in front of place i. -/
def cnt (a i : Nat) : Nat := if i ≤ a then i else i - 1
section
variable {b P : List UInt8} {a T i : Nat}
theorem PtText.tle (h : PtText b P a T) : cnt a T = P.length := by
  have := h.tt
  have := h.aL
  unfold cnt
  split <;> split at * <;> omega
/-- Either the point, or a digit. -/
theorem PtText.here (h : PtText b P a T) (hi : i < T) : (i = a ∧ a < P.length ∧ b[i]? = some 46 ∧ cnt a (i + 1) = cnt a i) ∨
    (i ≠ a ∧ ∃ c, b[i]? = some c ∧ P[cnt a i]? = some c ∧ isDig c = true ∧ cnt a (i + 1) = cnt a i + 1) := by
  have ht := h.tt
  have hL := h.aL
  by_cases he : i = a
  · subst he
    have hlt : i < P.length := by split at ht <;> omega
    exact .inl ⟨rfl, hlt, h.dot hlt, by unfold cnt; rw [if_neg (by omega), if_pos (Nat.le_refl _)]; rfl⟩
  · right
    refine ⟨he, ?_⟩
    have hk : cnt a i < P.length := by unfold cnt; split <;> split at ht <;> omega
    refine ⟨P[cnt a i], ?_, List.getElem?_eq_getElem hk, h.dig _ (List.getElem_mem hk), ?_⟩
    · rw [← List.getElem?_eq_getElem hk]
      unfold cnt
      split
      · exact h.at1 i (by omega)
      · exact h.at2 i (by omega) hi
    · unfold cnt
      split <;> split <;> omega
end
theorem dval_takeS {P : List UInt8} {k : Nat} {c : UInt8} (h : P[k]? = some c) : dval (P.take (k + 1)) = dval (P.take k) * 10 + (c.toNat - 48) := by
  obtain ⟨hk, e⟩ := List.getElem?_eq_some_iff.1 h
  rw [List.take_succ_eq_append_getElem hk, dval_snoc, e]
theorem dval_app (m : List UInt8) : ∀ l, dval l ≤ dval (l ++ m) := by
  induction m with
  | nil => intro l; simp
  | cons c m ih =>
    intro l
    have h1 := ih (l ++ [c])
    have h2 := dval_snoc l c
    rw [List.append_assoc] at h1
    have : l ++ c :: m = l ++ ([c] ++ m) := rfl
    rw [this]
    omega
theorem dval_take_le (P : List UInt8) (k : Nat) : dval (P.take k) ≤ dval P := by
  have := dval_app (P.drop k) (P.take k)
  rwa [List.take_append_drop] at this
theorem dec_more {n v : Nat} (h0 : 0 < n) (hv : v < 10) : (dec (n * 10 + v)).length = (dec n).length + 1 := by
  rw [dec_ge (by omega), List.length_append, show (n * 10 + v) / 10 = n by omega]
  rfl
/-- Where the first digit that is not 0 stands. -/
def FirstAt (P : List UInt8) (a i n : Nat) (s0 : Nat) : Prop := s0 < i ∧ s0 ≠ a ∧ (dec n).length + cnt a s0 = cnt a i ∧ 0 < n
theorem FirstAt.new {P : List UInt8} {a i v : Nat} (hv : v < 10) (h0 : 0 < v) (hia : i ≠ a) (hc : cnt a (i + 1) = cnt a i + 1) : FirstAt P a (i + 1) v i :=
  ⟨by omega, hia, by rw [dec_lt hv, hc]; simp; omega, h0⟩
theorem FirstAt.dig {P : List UInt8} {a i n v s0 : Nat} (h : FirstAt P a i n s0) (hv : v < 10) (hc : cnt a (i + 1) = cnt a i + 1) : FirstAt P a (i + 1) (n * 10 + v) s0 := by
  obtain ⟨h1, h2, h3, h4⟩ := h
  exact ⟨by omega, h2, by rw [dec_more h4 hv, hc]; omega, by omega⟩
theorem FirstAt.dot {P : List UInt8} {a i n s0 : Nat} (h : FirstAt P a i n s0) (hc : cnt a (i + 1) = cnt a i) : FirstAt P a (i + 1) n s0 := by
  obtain ⟨h1, h2, h3, h4⟩ := h
  exact ⟨by omega, h2, by rw [hc]; exact h3, h4⟩
theorem FirstAt.near {P : List UInt8} {a i n s0 : Nat} (h : FirstAt P a i n s0) (hn : n ≤ 1000000000000000) : i ≤ s0 + 17 := by
  obtain ⟨h1, h2, h3, h4⟩ := h
  have hl : (dec n).length ≤ 16 := dec_len_le 15 n (by simp only [Nat.reduceAdd, Nat.reducePow]; omega)
  unfold cnt at h3
  split at h3 <;> split at h3 <;> omega
end Go.Proofs.YtggemljdmoegnaaDoor
