/- Blanks: which bytes are blanks, and a text without the blanks at its ends. Plain lists, no program. -/
import Derived.Test.YtnepjlfkbmindaaDoorWords
namespace Go.Proofs.YtnepjlfkbmindaaDoor

def isBl (c : UInt8) : Bool := c == 32 || c == 10 || c == 13 || c == 9 || c == 12
def isNl (c : UInt8) : Bool := c == 10 || c == 13
/-- Without the blanks at both ends. -/
def trim (l : List UInt8) : List UInt8 := ((l.dropWhile isBl).reverse.dropWhile isBl).reverse
/-- A part of a text whose ends are no blanks, with blanks alone around it, is the trimmed text. -/
theorem trim_of (l : List UInt8) (s e : Nat) (hs : s ≤ e) (he : e ≤ l.length) (h1 : ∀ j c, j < s → l[j]? = some c → isBl c = true) (h2 : ∀ j c, e ≤ j → l[j]? = some c → isBl c = true)
    (h3 : s < e → (∀ c, l[s]? = some c → isBl c = false) ∧ (∀ c, l[e - 1]? = some c → isBl c = false)) : (l.drop s).take (e - s) = trim l := by
  have dw : ∀ (a b : List UInt8), (∀ c ∈ a, isBl c = true) → (a ++ b).dropWhile isBl = b.dropWhile isBl := by
    intro a b ha
    induction a with
    | nil => rfl
    | cons x a ih => rw [List.cons_append, List.dropWhile_cons, if_pos (ha x (by simp)), ih (fun c hc => ha c (by simp [hc]))]
  have dn : ∀ (b : List UInt8), (∀ c, b.head? = some c → isBl c = false) → b.dropWhile isBl = b := by
    intro b hb
    cases b with
    | nil => rfl
    | cons x b => rw [List.dropWhile_cons, if_neg (by rw [hb x rfl]; simp)]
  have e0 : l = l.take s ++ ((l.drop s).take (e - s) ++ l.drop e) := by
    have : l.drop s = (l.drop s).take (e - s) ++ l.drop e := by
      conv => lhs; rw [← List.take_append_drop (e - s) (l.drop s)]
      rw [List.drop_drop, show s + (e - s) = e by omega]
    rw [← this, List.take_append_drop]
  have b1 : ∀ c ∈ l.take s, isBl c = true := by
    intro c hc
    obtain ⟨j, hj, rfl⟩ := List.getElem_of_mem hc
    simp only [List.length_take] at hj
    exact h1 j _ (by omega) (by rw [List.getElem_take]; exact List.getElem?_eq_getElem (by omega))
  have b2 : ∀ c ∈ (l.drop e).reverse, isBl c = true := by
    intro c hc
    rw [List.mem_reverse] at hc
    obtain ⟨j, hj, rfl⟩ := List.getElem_of_mem hc
    simp only [List.length_drop] at hj
    exact h2 (e + j) _ (by omega) (by rw [List.getElem_drop]; exact List.getElem?_eq_getElem (by omega))
  unfold trim
  generalize hm : (l.drop s).take (e - s) = m at *
  rw [e0, dw _ _ b1]
  rcases Nat.eq_or_lt_of_le hs with h | h
  · have : m = [] := by rw [← hm]; simp [h]
    subst this
    have := dw (l.drop e) [] (fun c hc => b2 c (List.mem_reverse.2 hc))
    simp at this
    simp [this]
  · have hl : m.length = e - s := by rw [← hm]; simp; omega
    have hd : (m ++ l.drop e).dropWhile isBl = m ++ l.drop e := by
      refine dn _ fun c hc => ?_
      refine (h3 h).1 c ?_
      rw [List.head?_append] at hc
      have : m.head? = l[s]? := by rw [← hm]; rw [List.head?_take, if_neg (by omega), List.head?_drop]
      rw [this, List.getElem?_eq_getElem (show s < l.length by omega)] at hc
      rw [List.getElem?_eq_getElem (show s < l.length by omega)]
      simpa using hc
    rw [hd, List.reverse_append, dw _ _ b2, dn, List.reverse_reverse]
    intro c hc
    refine (h3 h).2 c ?_
    rw [List.head?_reverse, List.getLast?_eq_getElem?, hl, ← hm] at hc
    rw [List.getElem?_take, if_pos (by omega), List.getElem?_drop] at hc
    rw [← hc]; congr 1; omega

theorem trim_nil_iff (l : List UInt8) : ((trim l).length == 0) = l.all isBl := by
  rw [Bool.eq_iff_iff, beq_iff_eq, List.all_eq_true]
  unfold trim
  rw [List.length_reverse]
  constructor
  · intro h
    have h1 := List.eq_nil_of_length_eq_zero h
    have h2 : ∀ (m : List UInt8), m.dropWhile isBl = [] → ∀ c ∈ m, isBl c = true := by
      intro m
      induction m with
      | nil => intro _ c hc; cases hc
      | cons x m ih =>
        intro hm c hc
        rw [List.dropWhile_cons] at hm
        split at hm
        · rename_i hx
          rcases List.mem_cons.1 hc with rfl | hc
          · exact hx
          · exact ih hm c hc
        · cases hm
    have h3 := h2 _ h1
    have h4 : l.dropWhile isBl = [] := by
      cases hd : l.dropWhile isBl with
      | nil => rfl
      | cons x m =>
        exfalso
        have hx : isBl x = false := by
          have : ∀ (m' : List UInt8) y r, m'.dropWhile isBl = y :: r → isBl y = false := by
            intro m'
            induction m' with
            | nil => intro y r h; cases h
            | cons z m' ih =>
              intro y r h
              rw [List.dropWhile_cons] at h
              split at h
              · exact ih y r h
              · rename_i hz
                cases h
                simpa using hz
          exact this _ _ _ hd
        have := h3 x (by rw [hd]; simp)
        rw [hx] at this
        cases this
    exact h2 _ h4
  · intro h
    have : l.dropWhile isBl = [] := by
      have : ∀ (m : List UInt8), (∀ c ∈ m, isBl c = true) → m.dropWhile isBl = [] := by
        intro m
        induction m with
        | nil => intro _; rfl
        | cons x m ih => intro hm; rw [List.dropWhile_cons, if_pos (hm x (by simp))]; exact ih fun c hc => hm c (by simp [hc])
      exact this _ h
    rw [this]
    rfl
theorem isBl_eq (c : UInt8) : isBl c = (decide (c.toNat = 32) || decide (c.toNat = 10) || decide (c.toNat = 13) || decide (c.toNat = 9) || decide (c.toNat = 12)) := by
  have e : ∀ d : UInt8, (c == d) = decide (c.toNat = d.toNat) := fun d => by rw [Bool.eq_iff_iff]; simp [← UInt8.toNat_inj]
  simp only [isBl, e]
  rfl
theorem isNl_eq (c : UInt8) : isNl c = (decide (c.toNat = 10) || decide (c.toNat = 13)) := by
  have e : ∀ d : UInt8, (c == d) = decide (c.toNat = d.toNat) := fun d => by rw [Bool.eq_iff_iff]; simp [← UInt8.toNat_inj]
  simp only [isNl, e]
  rfl
theorem isBl_true {c : UInt8} (h : c.toNat = 32 ∨ c.toNat = 10 ∨ c.toNat = 13 ∨ c.toNat = 9 ∨ c.toNat = 12) : isBl c = true := by
  rw [isBl_eq]
  simp only [Bool.or_eq_true, decide_eq_true_eq]
  omega
theorem isBl_beq (c : UInt8) : ((c.toNat : Int) == 32 || (c.toNat : Int) == 10 || (c.toNat : Int) == 13 || (c.toNat : Int) == 9 || (c.toNat : Int) == 12) = isBl c := by
  rw [isBl_eq, Bool.eq_iff_iff]
  simp only [Bool.or_eq_true, decide_eq_true_eq, beq_iff_eq]
  omega
theorem isNl_true {c : UInt8} (h : c.toNat = 10 ∨ c.toNat = 13) : isNl c = true := by
  rw [isNl_eq]
  simp only [Bool.or_eq_true, decide_eq_true_eq]
  omega
theorem isNl_beq (c : UInt8) : ((c.toNat : Int) == 10 || (c.toNat : Int) == 13) = isNl c := by
  rw [isNl_eq, Bool.eq_iff_iff]
  simp only [Bool.or_eq_true, decide_eq_true_eq, beq_iff_eq]
  omega
end Go.Proofs.YtnepjlfkbmindaaDoor
