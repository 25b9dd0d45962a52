/- Numbers with decimals and groups of digits: the text of a number, its length, and what is read from it. Plain lists, no program. -/
import Derived.Test.YtgalfebplancdaaDoorDec
namespace Go.Proofs.YtgalfebplancdaaDoor
set_option linter.unusedVariables false

/-- The last digit of a number. -/
def lastD (m : Nat) : UInt8 := UInt8.ofNat (48 + m % 10)
theorem lastD_toNat (m : Nat) : (lastD m).toNat = 48 + m % 10 := digit_toNat (by omega)
/-- So many digits of a number in front of what is there. -/
def decs : Nat → Nat → List UInt8 → List UInt8
  | 0, _, out => out
  | d + 1, m, out => decs d (m / 10) (lastD m :: out)
/-- The digits of a number in front of what is there; so many stand there already since the point. -/
def ints (size count m : Nat) (out : List UInt8) : List UInt8 :=
  if h : m = 0 then out else ints size (count + 1) (m / 10) (lastD m :: (if count % size = 0 then 44 :: out else out))
termination_by m
decreasing_by omega
theorem ints_zero (size count : Nat) (out : List UInt8) : ints size count 0 out = out := by rw [ints, dif_pos rfl]
theorem ints_pos {size count m : Nat} {out : List UInt8} (h : 0 < m) : ints size count m out = ints size (count + 1) (m / 10) (lastD m :: (if count % size = 0 then 44 :: out else out)) := by rw [ints, dif_neg (by omega)]
/-- The decimals with their point. -/
def frac (m d : Nat) : List UInt8 := if d = 0 then [] else 46 :: decs d m []
/-- The text of a number. -/
def groupedU (m d size : Nat) : List UInt8 := ints size 1 (m / 10 ^ d / 10) (lastD (m / 10 ^ d) :: frac m d)

theorem decs_len (d : Nat) : ∀ m out, (decs d m out).length = d + out.length := by
  induction d with
  | zero => intro m out; simp [decs]
  | succ d ih => intro m out; rw [decs, ih]; simp; omega
theorem frac_len (m d : Nat) : (frac m d).length = if d = 0 then 0 else d + 1 := by
  unfold frac
  split
  · rfl
  · simp [decs_len]
theorem div_step (c s : Nat) (hs : 0 < s) (hc : 0 < c) : c / s = (c - 1) / s + (if c % s = 0 then 1 else 0) := by
  obtain ⟨a, rfl⟩ : ∃ a, c = a + 1 := ⟨c - 1, by omega⟩
  rw [Nat.add_sub_cancel]
  have h1 := Nat.div_add_mod a s
  have h2 := Nat.mod_lt a hs
  by_cases h : a % s + 1 = s
  · have e : a + 1 = s * (a / s + 1) := by rw [Nat.mul_add, Nat.mul_one]; omega
    rw [e, Nat.mul_mod_right, if_pos rfl, Nat.mul_div_cancel_left _ hs]
  · have e : a + 1 = s * (a / s) + (a % s + 1) := by omega
    have h3 : a % s + 1 < s := by omega
    have e1 : (a + 1) / s = a / s := by
      rw [e, Nat.mul_add_div hs, Nat.div_eq_of_lt h3, Nat.add_zero]
    have e2 : (a + 1) % s = a % s + 1 := by
      rw [e, Nat.mul_add_mod, Nat.mod_eq_of_lt h3]
    rw [e1, e2, if_neg (by omega)]
    rfl
theorem ints_len (size : Nat) (hs : 0 < size) (m : Nat) : ∀ count out, 0 < count → 0 < m → (ints size count m out).length + (count - 1) / size = out.length + (dec m).length + (count + (dec m).length - 1) / size := by
  induction m using Nat.strongRecOn with
  | _ m ih =>
    intro count out hc hm
    rw [ints_pos hm]
    have hd := div_step count size hs hc
    by_cases h10 : m < 10
    · rw [show m / 10 = 0 by omega, ints_zero, dec_lt h10]
      simp only [List.length_cons, List.length_nil]
      rw [show count + (0 + 1) - 1 = count by omega]
      split <;> rename_i h <;> simp only [h, if_true, if_false] at hd <;> simp <;> omega
    · have := ih (m / 10) (by omega) (count + 1) (lastD m :: (if count % size = 0 then 44 :: out else out)) (by omega) (by omega)
      rw [Nat.add_sub_cancel] at this
      rw [dec_ge (n := m) (by omega), List.length_append]
      simp only [List.length_cons, List.length_nil] at this ⊢
      rw [show count + 1 + (dec (m / 10)).length - 1 = count + (dec (m / 10)).length by omega] at this
      rw [show count + ((dec (m / 10)).length + (0 + 1)) - 1 = count + (dec (m / 10)).length by omega]
      by_cases h : count % size = 0
      · rw [if_pos h] at hd this ⊢
        simp only [List.length_cons] at this
        omega
      · rw [if_neg h] at hd this ⊢
        omega
theorem dec_div_len (d : Nat) : ∀ m, (dec (m / 10 ^ d)).length = if d < (dec m).length then (dec m).length - d else 1 := by
  induction d with
  | zero =>
    intro m
    have := dec_ne m
    rw [if_pos this, Nat.pow_zero, Nat.div_one, Nat.sub_zero]
  | succ d ih =>
    intro m
    have e : m / 10 ^ (d + 1) = m / 10 / 10 ^ d := by rw [Nat.pow_succ, Nat.mul_comm, Nat.div_div_eq_div_mul]
    rw [e, ih (m / 10)]
    by_cases h10 : m < 10
    · rw [show m / 10 = 0 by omega, dec_lt h10, dec_lt (by omega)]
      simp only [List.length_cons, List.length_nil]
      rw [if_neg (by omega : ¬ d + 1 < 0 + 1)]
      split <;> omega
    · rw [dec_ge (n := m) (by omega), List.length_append]
      simp only [List.length_cons, List.length_nil]
      split <;> split <;> omega
theorem groupedU_len (m d size : Nat) (hs : 0 < size) : (groupedU m d size).length = (dec (m / 10 ^ d)).length + ((dec (m / 10 ^ d)).length - 1) / size + (if d = 0 then 0 else d + 1) := by
  unfold groupedU
  generalize hq : m / 10 ^ d = q
  by_cases h10 : q < 10
  · rw [show q / 10 = 0 by omega, ints_zero, dec_lt h10, List.length_cons, frac_len]
    simp only [List.length_cons, List.length_nil]
    rw [show 0 + 1 - 1 = 0 by omega, Nat.zero_div]
    omega
  · have := ints_len size hs (q / 10) 1 (lastD q :: frac m d) (by omega) (by omega)
    rw [Nat.sub_self, Nat.zero_div] at this
    rw [dec_ge (n := q) (by omega), List.length_append]
    rw [List.length_cons, frac_len] at this
    simp only [List.length_cons, List.length_nil]
    rw [show (dec (q / 10)).length + (0 + 1) - 1 = 1 + (dec (q / 10)).length - 1 by omega]
    omega
/-- What the program reckons. -/
theorem grouped_reckon (m d size : Nat) (hs : 0 < size) :
    (d < (dec m).length → (groupedU m d size).length = (dec m).length + ((dec m).length - d - 1) / size + (if d = 0 then 0 else 1)) ∧ (¬ d < (dec m).length → (groupedU m d size).length = 1 + d + 1) := by
  have h := groupedU_len m d size hs
  have h2 := dec_div_len d m
  have := dec_ne m
  constructor
  · intro hd
    rw [if_pos hd] at h2
    rw [h, h2]
    split <;> omega
  · intro hd
    rw [if_neg hd] at h2
    rw [h, h2, if_neg (by omega), Nat.sub_self, Nat.zero_div]
    omega

/-! Reading. -/
def runO : Nat → Nat → Bool → List UInt8 → Option (Nat × Nat × Bool)
  | n, k, h, [] => some (n, k, h)
  | n, k, h, c :: l => if isDig c then runO (n * 10 + (c.toNat - 48)) (if h then k + 1 else k) h l else if (c == 44 || c == 46) && !h then runO n k (c == 46) l else none
theorem runO_dig {n k : Nat} {h : Bool} {c : UInt8} {l : List UInt8} (hc : isDig c = true) : runO n k h (c :: l) = runO (n * 10 + (c.toNat - 48)) (if h then k + 1 else k) h l := by rw [runO, if_pos hc]
theorem runO_sep {n k : Nat} {c : UInt8} {l : List UInt8} (hc : c = 44 ∨ c = 46) : runO n k false (c :: l) = runO n k (c == 46) l := by
  rcases hc with rfl | rfl
  · rw [runO, if_neg (by decide), if_pos (by decide)]
  · rw [runO, if_neg (by decide), if_pos (by decide)]
theorem runO_lastD (n k : Nat) (h : Bool) (m : Nat) (l : List UInt8) : runO (m / 10) k h (lastD m :: l) = runO m (if h then k + 1 else k) h l := by
  rw [runO_dig (show isDig (lastD m) = true from isDig_digit (by omega)), lastD_toNat, show m / 10 * 10 + (48 + m % 10 - 48) = m by omega]
theorem runO_le (l : List UInt8) : ∀ {n k : Nat} {h : Bool} {N K : Nat} {H : Bool}, runO n k h l = some (N, K, H) → n ≤ N ∧ k ≤ K ∧ K ≤ k + l.length := by
  induction l with
  | nil => intro n k h N K H e; rw [runO] at e; simp at e; omega
  | cons c l ih =>
    intro n k h N K H e
    rw [runO] at e
    split at e
    · have := ih e
      simp only [List.length_cons]
      split at this <;> omega
    · split at e
      · have := ih e
        simp only [List.length_cons]
        omega
      · cases e
theorem run_decs (d : Nat) : ∀ (m : Nat) (out : List UInt8) (N K : Nat), (∀ a, runO m a true out = some (N, a + K, true)) → ∀ a, runO (m / 10 ^ d) a true (decs d m out) = some (N, a + K + d, true) := by
  induction d with
  | zero => intro m out N K h a; rw [Nat.pow_zero, Nat.div_one, decs, h]; rfl
  | succ d ih =>
    intro m out N K h a
    have e : m / 10 ^ (d + 1) = m / 10 / 10 ^ d := by rw [Nat.pow_succ, Nat.mul_comm, Nat.div_div_eq_div_mul]
    rw [e, decs, ih (m / 10) (lastD m :: out) N (K + 1) (fun b => by rw [runO_lastD 0, if_pos rfl, h, show b + 1 + K = b + (K + 1) by omega])]
    rw [show a + (K + 1) + d = a + K + (d + 1) by omega]
theorem run_frac (m d : Nat) : ∃ H, runO (m / 10 ^ d) 0 false (frac m d) = some (m, d, H) := by
  unfold frac
  split
  · rename_i h; subst h
    exact ⟨false, by rw [Nat.pow_zero, Nat.div_one, runO]⟩
  · refine ⟨true, ?_⟩
    rw [runO_sep (.inr rfl), show ((46 : UInt8) == 46) = true from rfl, run_decs d m [] m 0 (fun a => by rw [runO]; rfl)]
    simp
theorem run_ints (size : Nat) (m : Nat) : ∀ (count : Nat) (out : List UInt8), runO 0 0 false (ints size count m out) = runO m 0 false out := by
  induction m using Nat.strongRecOn with
  | _ m ih =>
    intro count out
    by_cases h : m = 0
    · subst h; rw [ints_zero]
    · rw [ints_pos (by omega), ih (m / 10) (by omega), runO_lastD 0, if_neg (by simp)]
      split
      · rw [runO_sep (.inl rfl)]; rfl
      · rfl
theorem run_grouped (m d size : Nat) : ∃ H, runO 0 0 false (groupedU m d size) = some (m, d, H) := by
  obtain ⟨H, h⟩ := run_frac m d
  refine ⟨H, ?_⟩
  unfold groupedU
  rw [run_ints, runO_lastD 0, if_neg (by simp), h]

/-! Writing, from the back. -/
/-- Where the writing of the digits in front of the point stands. -/
def ints0 (size j q : Nat) (out : List UInt8) : List UInt8 := if j = 0 then ints size 1 (q / 10) (lastD q :: out) else ints size j q out
theorem ints0_start (m d size : Nat) : ints0 size 0 (m / 10 ^ d) (frac m d) = groupedU m d size := rfl
theorem ints0_step {size j q : Nat} {out : List UInt8} (hq : 0 < q ∨ j = 0) : ints0 size j q out = ints0 size (j + 1) (q / 10) (lastD q :: (if 0 < j ∧ j % size = 0 then 44 :: out else out)) := by
  unfold ints0
  by_cases hj : j = 0
  · subst hj
    simp
  · rw [if_neg hj, if_neg (by omega), ints_pos (by omega)]
    congr 2
    by_cases h : j % size = 0
    · rw [if_pos h, if_pos ⟨by omega, h⟩]
    · rw [if_neg h, if_neg (fun e => h e.2)]
theorem ints0_done {size j : Nat} {out : List UInt8} (hj : 0 < j) : ints0 size j 0 out = out := by
  unfold ints0
  rw [if_neg (by omega), ints_zero]
theorem ints_suffix (size : Nat) (m : Nat) : ∀ (count : Nat) (out : List UInt8), ∃ p, ints size count m out = p ++ out := by
  induction m using Nat.strongRecOn with
  | _ m ih =>
    intro count out
    by_cases h : m = 0
    · subst h; exact ⟨[], by rw [ints_zero]; rfl⟩
    · rw [ints_pos (by omega)]
      obtain ⟨p, hp⟩ := ih (m / 10) (by omega) (count + 1) (lastD m :: (if count % size = 0 then 44 :: out else out))
      rw [hp]
      split
      · exact ⟨p ++ [lastD m, 44], by simp⟩
      · exact ⟨p ++ [lastD m], by simp⟩
theorem ints0_room {size j q : Nat} {out G : List UInt8} (hq : 0 < q ∨ j = 0) (h : ints0 size j q out = G) : out.length + (if 0 < j ∧ j % size = 0 then 2 else 1) ≤ G.length := by
  rw [ints0_step hq] at h
  unfold ints0 at h
  rw [if_neg (by omega)] at h
  obtain ⟨p, hp⟩ := ints_suffix size (q / 10) (j + 1) (lastD q :: (if 0 < j ∧ j % size = 0 then 44 :: out else out))
  rw [hp] at h
  rw [← h, List.length_append, List.length_cons]
  split <;> simp <;> omega
theorem groupedU_le (m d size : Nat) (hs : 0 < size) (hm : m < 1000000000000000) : (groupedU m d size).length ≤ 32 + d := by
  have h := groupedU_len m d size hs
  have h2 := dec_div_len d m
  have h3 := dec_len_le 14 m (by simpa using hm)
  have h4 : ((dec (m / 10 ^ d)).length - 1) / size ≤ (dec (m / 10 ^ d)).length - 1 := Nat.div_le_self _ _
  split at h2 <;> split at h <;> omega
/-- Where the writing of the decimals stands. -/
def DecsAt (m d i q : Nat) (out : List UInt8) : Prop := i ≤ d ∧ out.length = i ∧ decs (d - i) q out = decs d m [] ∧ q / 10 ^ (d - i) = m / 10 ^ d
theorem DecsAt.start (m d : Nat) : DecsAt m d 0 m [] := ⟨Nat.zero_le _, rfl, rfl, rfl⟩
theorem DecsAt.step {m d i q : Nat} {out : List UInt8} (h : DecsAt m d i q out) (hi : i < d) : DecsAt m d (i + 1) (q / 10) (lastD q :: out) := by
  obtain ⟨h1, h2, h3, h4⟩ := h
  obtain ⟨e, he⟩ : ∃ e, d - i = e + 1 := ⟨d - i - 1, by omega⟩
  have he2 : d - (i + 1) = e := by omega
  rw [he] at h3 h4
  refine ⟨by omega, by simp [h2], ?_, ?_⟩
  · rw [he2, ← h3, decs]
  · rw [he2, ← h4, Nat.pow_succ, Nat.mul_comm, Nat.div_div_eq_div_mul]
theorem DecsAt.done {m d q : Nat} {out : List UInt8} (h : DecsAt m d d q out) : out = decs d m [] ∧ q = m / 10 ^ d := by
  obtain ⟨_, _, h3, h4⟩ := h
  rw [Nat.sub_self] at h3 h4
  rw [decs] at h3
  rw [Nat.pow_zero, Nat.div_one] at h4
  exact ⟨h3, h4⟩
/-- Where the writing of the digits in front of the point stands. -/
def IntsAt (m d size j q : Nat) (out : List UInt8) : Prop := j ≤ out.length ∧ ints0 size j q out = groupedU m d size
theorem IntsAt.start (m d size : Nat) : IntsAt m d size 0 (m / 10 ^ d) (frac m d) := ⟨Nat.zero_le _, rfl⟩
theorem IntsAt.step {m d size j q : Nat} {out : List UInt8} (h : IntsAt m d size j q out) (hq : 0 < q ∨ j = 0) : IntsAt m d size (j + 1) (q / 10) (lastD q :: (if 0 < j ∧ j % size = 0 then 44 :: out else out)) := by
  obtain ⟨h1, h2⟩ := h
  refine ⟨?_, by rw [← ints0_step hq]; exact h2⟩
  split <;> simp <;> omega
theorem IntsAt.room {m d size j q : Nat} {out : List UInt8} (h : IntsAt m d size j q out) (hq : 0 < q ∨ j = 0) : out.length + (if 0 < j ∧ j % size = 0 then 2 else 1) ≤ (groupedU m d size).length := ints0_room hq h.2
theorem IntsAt.done {m d size j : Nat} {out : List UInt8} (h : IntsAt m d size j 0 out) (hj : 0 < j) : out = groupedU m d size := by
  rw [← h.2, ints0_done hj]
end Go.Proofs.YtgalfebplancdaaDoor
