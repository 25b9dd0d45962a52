/- How long a number at the beginning of a text is: runs of bytes, and what does not go on with a number. Plain lists, no program. -/
import Derived.Test.YtggemljdmoegnaaDoorDec
namespace Go.Proofs.YtggemljdmoegnaaDoor

def isSgn (c : UInt8) : Bool := c == 43 || c == 45
def isExp (c : UInt8) : Bool := c == 101 || c == 69
def isLet (c : UInt8) : Bool := (97 ≤ c && c ≤ 122) || (65 ≤ c && c ≤ 90)
/-- How many bytes from place i on meet p. -/
def run (p : UInt8 → Bool) (b : List UInt8) (i : Nat) : Nat := ((b.drop i).takeWhile p).length
/-- Does the byte at place i meet p? -/
def at_ (p : UInt8 → Bool) (b : List UInt8) (i : Nat) : Bool := match b[i]? with | some c => p c | none => false
def sgn (b : List UInt8) (i : Nat) : Nat := if at_ isSgn b i then 1 else 0
def dg (b : List UInt8) (i : Nat) : Nat := run isDig b i
def mant (b : List UInt8) (i : Nat) : Nat :=
  if at_ (· == 46) b (i + dg b i) = true ∧ 0 < dg b (i + dg b i + 1) then dg b i + 1 + dg b (i + dg b i + 1) else dg b i
def expo (b : List UInt8) (i : Nat) : Nat :=
  if at_ isExp b i = true ∧ 0 < dg b (i + 1 + sgn b (i + 1)) then 1 + sgn b (i + 1) + dg b (i + 1 + sgn b (i + 1)) else 0
def numLen (b : List UInt8) : Nat :=
  if mant b (sgn b 0) = 0 then 0 else sgn b 0 + mant b (sgn b 0) + expo b (sgn b 0 + mant b (sgn b 0))

theorem at_none {p : UInt8 → Bool} {b : List UInt8} {i : Nat} (h : b.length ≤ i) : at_ p b i = false := by
  unfold at_; rw [List.getElem?_eq_none h]
theorem at_some {p : UInt8 → Bool} {b : List UInt8} {i : Nat} {c : UInt8} (h : b[i]? = some c) : at_ p b i = p c := by
  unfold at_; rw [h]
theorem at_lt {p : UInt8 → Bool} {b : List UInt8} {i : Nat} (h : at_ p b i = true) : i < b.length := by
  rcases Nat.lt_or_ge i b.length with h1 | h1
  · exact h1
  · rw [at_none h1] at h; cases h
theorem run_yes {p : UInt8 → Bool} {b : List UInt8} {i : Nat} (h : at_ p b i = true) : run p b i = 1 + run p b (i + 1) := by
  have hi := at_lt h
  unfold run
  rw [List.drop_eq_getElem_cons hi]
  rw [at_some (List.getElem?_eq_getElem hi)] at h
  rw [List.takeWhile_cons, if_pos h]; simp; omega
theorem run_no {p : UInt8 → Bool} {b : List UInt8} {i : Nat} (h : at_ p b i = false) : run p b i = 0 := by
  unfold run
  rcases Nat.lt_or_ge i b.length with hi | hi
  · rw [List.drop_eq_getElem_cons hi]
    rw [at_some (List.getElem?_eq_getElem hi)] at h
    rw [List.takeWhile_cons, if_neg (by simp [h])]; rfl
  · rw [List.drop_eq_nil_of_le hi]; rfl
theorem run_pos {p : UInt8 → Bool} {b : List UInt8} {i : Nat} : 0 < run p b i ↔ at_ p b i = true := by
  constructor
  · intro h
    cases h1 : at_ p b i
    · rw [run_no h1] at h; omega
    · rfl
  · intro h; rw [run_yes h]; omega
theorem run_le {p : UInt8 → Bool} {b : List UInt8} {i : Nat} (h : i ≤ b.length) : i + run p b i ≤ b.length := by
  unfold run
  have : ((b.drop i).takeWhile p).length ≤ (b.drop i).length := (List.takeWhile_sublist p).length_le
  simp at this; omega
theorem run_bd {p : UInt8 → Bool} {b : List UInt8} {i : Nat} : run p b i ≤ b.length := by
  unfold run
  have : ((b.drop i).takeWhile p).length ≤ (b.drop i).length := (List.takeWhile_sublist p).length_le
  simp at this; omega

/-- A text that is followed by something which does not meet p (or by nothing) keeps its runs. -/
theorem at_app {p : UInt8 → Bool} (b r : List UInt8) (hr : at_ p r 0 = false) (i : Nat) (hi : i ≤ b.length) : at_ p (b ++ r) i = at_ p b i := by
  rcases Nat.lt_or_ge i b.length with h | h
  · unfold at_; rw [List.getElem?_append_left h]
  · have : i = b.length := by omega
    subst this
    rw [at_none (Nat.le_refl _)]
    unfold at_ at hr ⊢
    rw [List.getElem?_append_right (Nat.le_refl _)]; simpa using hr
theorem run_app {p : UInt8 → Bool} (b r : List UInt8) (hr : at_ p r 0 = false) : ∀ (k i : Nat), b.length - i = k → i ≤ b.length → run p (b ++ r) i = run p b i := by
  intro k
  induction k with
  | zero =>
    intro i h1 h2
    have h3 : i = b.length := by omega
    subst h3
    rw [run_no (at_none (b := b) (Nat.le_refl _)), run_no]
    rw [at_app b r hr _ (Nat.le_refl _), at_none (Nat.le_refl _)]
  | succ k ih =>
    intro i h1 h2
    cases ha : at_ p b i
    · rw [run_no ha, run_no (by rw [at_app b r hr i h2]; exact ha)]
    · rw [run_yes ha, run_yes (by rw [at_app b r hr i h2]; exact ha), ih (i + 1) (by omega) (by omega)]
/-- What can go on with a number. -/
def goesOn (c : UInt8) : Bool := isDig c || isSgn c || isExp c || c == 46
theorem numLen_app (b r : List UInt8) (hr : at_ goesOn r 0 = false) : numLen (b ++ r) = numLen b := by
  have h1 : at_ isDig r 0 = false ∧ at_ isSgn r 0 = false ∧ at_ isExp r 0 = false ∧ at_ (· == 46) r 0 = false := by
    unfold at_ at hr ⊢
    cases hh : r[0]? with
    | none => simp
    | some c => rw [hh] at hr; simp only [goesOn, Bool.or_eq_false_iff] at hr; simp [hr]
  obtain ⟨hd, hs, he, hp⟩ := h1
  have sg : ∀ i, i ≤ b.length → sgn (b ++ r) i = sgn b i := fun i hi => by unfold sgn; rw [at_app b r hs i hi]
  have dgg : ∀ i, i ≤ b.length → dg (b ++ r) i = dg b i := fun i hi => run_app b r hd _ i rfl hi
  have dl : ∀ i, i ≤ b.length → i + dg b i ≤ b.length := fun i hi => run_le hi
  have s0 : sgn b 0 ≤ b.length := by unfold sgn; split; · have := at_lt (p := isSgn) ‹_›; omega
                                     · omega
  have hm : ∀ i, i ≤ b.length → mant (b ++ r) i = mant b i := fun i hi => by
    unfold mant
    rw [dgg i hi, at_app b r hp _ (dl i hi)]
    by_cases h : at_ (· == 46) b (i + dg b i) = true
    · have := at_lt h
      rw [dgg _ (by omega)]
    · rw [if_neg (fun x => h x.1), if_neg (fun x => h x.1)]
  have hx : ∀ i, i ≤ b.length → expo (b ++ r) i = expo b i := fun i hi => by
    unfold expo
    rw [at_app b r he i hi]
    by_cases h : at_ isExp b i = true
    · have := at_lt h
      have h2 : i + 1 + sgn b (i + 1) ≤ b.length := by
        unfold sgn; split
        · have := at_lt (p := isSgn) ‹_›; omega
        · omega
      rw [sg _ (by omega), dgg _ h2]
    · rw [if_neg (fun x => h x.1), if_neg (fun x => h x.1)]
  have ml : sgn b 0 + mant b (sgn b 0) ≤ b.length := by
    have d1 := dl _ s0
    unfold mant; split
    · rename_i h
      have := at_lt h.1
      have d2 := dl (sgn b 0 + dg b (sgn b 0) + 1) (by omega)
      omega
    · exact d1
  unfold numLen
  rw [sg 0 (by omega), hm _ s0, hx _ ml]

theorem dig_bd {c : UInt8} (h : isDig c = true) : 48 ≤ c.toNat ∧ c.toNat ≤ 57 := by
  simp only [isDig, Bool.and_eq_true, decide_eq_true_eq, UInt8.le_iff_toNat_le] at h
  simpa using h
theorem dig_of {c : UInt8} (h1 : 48 ≤ c.toNat) (h2 : c.toNat ≤ 57) : isDig c = true := by
  simp only [isDig, Bool.and_eq_true, decide_eq_true_eq, UInt8.le_iff_toNat_le]
  exact ⟨by simpa using h1, by simpa using h2⟩
theorem dig_not {c : UInt8} (h : isDig c = false) : ¬ (48 ≤ c.toNat ∧ c.toNat ≤ 57) := fun x => by rw [dig_of x.1 x.2] at h; cases h
theorem dig_no {c : UInt8} (h : ¬ (48 ≤ c.toNat ∧ c.toNat ≤ 57)) : isDig c = false := by
  cases hb : isDig c with
  | false => rfl
  | true => exact absurd (dig_bd hb) h
theorem u8_beq (c d : UInt8) : (c == d) = decide (c.toNat = d.toNat) := by rw [Bool.eq_iff_iff]; simp [← UInt8.toNat_inj]
theorem dval_nil : dval [] = 0 := rfl
theorem dval_take {l : List UInt8} {k : Nat} {c : UInt8} (h : l[k]? = some c) : dval (l.take (k + 1)) = dval (l.take k) * 10 + (c.toNat - 48) := by
  obtain ⟨hk, e⟩ := List.getElem?_eq_some_iff.1 h
  rw [List.take_succ_eq_append_getElem hk, e, dval_snoc]
theorem dval_mono (l : List UInt8) : ∀ (j k : Nat), k + j = l.length → dval (l.take k) ≤ dval l := by
  intro j
  induction j with
  | zero => intro k h; rw [List.take_of_length_le (by omega)]; exact Nat.le_refl _
  | succ j ih =>
    intro k h
    have h1 := dval_take (l := l) (k := k) (List.getElem?_eq_getElem (by omega))
    have h2 := ih (k + 1) (by omega)
    omega
theorem dval_le {l : List UInt8} {k : Nat} (h : k ≤ l.length) : dval (l.take k) ≤ dval l := dval_mono l (l.length - k) k (by omega)
end Go.Proofs.YtggemljdmoegnaaDoor
