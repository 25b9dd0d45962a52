/- Small letters: what the functions on single bytes and the two tests whether a text is another one in small letters do. Conditions: the lists are shorter than 2^31. -/
import Derived.Test.YtfghakcgpomdkaaDoorWords
namespace Go.Proofs.YtfghakcgpomdkaaDoor
open Go.RowKit
set_option linter.unusedVariables false

/-- A byte as a small letter. -/
def lowB (c : UInt8) : UInt8 := if 65 ≤ c ∧ c ≤ 90 then c + 32 else c
theorem lowB_yes {c : UInt8} (h1 : 65 ≤ c.toNat) (h2 : c.toNat ≤ 90) : ((lowB c).toNat : Int) = (c.toNat : Int) + 97 - 65 := by
  unfold lowB
  rw [if_pos ⟨by rw [UInt8.le_iff_toNat_le]; simpa using h1, by rw [UInt8.le_iff_toNat_le]; simpa using h2⟩]
  have : (c + 32).toNat = c.toNat + 32 := by rw [UInt8.toNat_add]; simp; omega
  omega
theorem lowB_no {c : UInt8} (h : ¬ (65 ≤ c.toNat ∧ c.toNat ≤ 90)) : lowB c = c := by
  unfold lowB
  rw [if_neg]
  rintro ⟨h1, h2⟩
  rw [UInt8.le_iff_toNat_le] at h1 h2
  exact h ⟨by simpa using h1, by simpa using h2⟩

theorem lower_any (c : UInt8) (w : World) :
    Calls Tryd.prog 6 #[.int .u8 (c.toNat : Int)] w fun e w' => e = .returned (.int .u8 ((lowB c).toNat : Int)) ∧ w = w' := by
  have hc : c.toNat < 256 := c.toNat_lt
  by_cases h : 65 ≤ c.toNat ∧ c.toNat ≤ 90
  · obtain ⟨h1, h2⟩ := h
    have H := hide (lowB_yes h1 h2)
    go_enter Tryd.func6, Tryd.ntmps6
    go_wp2
    go_ret
    exact ⟨congrArg (fun n => Ending.returned (.int .u8 n)) H.out.symm, rfl⟩
  · have H := hide (lowB_no h)
    by_cases h1 : 65 ≤ c.toNat
    · have h2 : ¬ c.toNat ≤ 90 := fun x => h ⟨h1, x⟩
      clear h
      go_enter Tryd.func6, Tryd.ntmps6
      go_wp2
      go_ret
      exact ⟨by rw [H.out]; rfl, rfl⟩
    · clear h
      go_enter Tryd.func6, Tryd.ntmps6
      go_wp2
      go_ret
      exact ⟨by rw [H.out]; rfl, rfl⟩

/-- Are the two texts of one length, and does f hold of each pair of bytes at one place? -/
def eqBy (f : UInt8 → UInt8 → Bool) (s t : List UInt8) : Bool := s.length == t.length && (s.zip t).all fun x => f x.1 x.2
def EqTo (f : UInt8 → UInt8 → Bool) (s t : List UInt8) (k : Nat) : Prop := ∀ j, j < k → ∀ d c, s[j]? = some d → t[j]? = some c → f d c = true
theorem EqTo.zero (f : UInt8 → UInt8 → Bool) (s t : List UInt8) : EqTo f s t 0 := fun j h => absurd h (by omega)
theorem EqTo.succ {f : UInt8 → UInt8 → Bool} {s t : List UInt8} {k : Nat} {d c : UInt8} (h : EqTo f s t k) (hd : s[k]? = some d) (hc : t[k]? = some c) (hf : f d c = true) : EqTo f s t (k + 1) := fun j hj d' c' h1 h2 => by
  rcases Nat.lt_or_ge j k with hlt | hge
  · exact h j hlt d' c' h1 h2
  · obtain rfl : j = k := by omega
    rw [hd] at h1
    rw [hc] at h2
    cases h1
    cases h2
    exact hf
theorem eqBy_true {f : UInt8 → UInt8 → Bool} {s t : List UInt8} {k : Nat} (hl : s.length = t.length) (hk : t.length ≤ k) (h : EqTo f s t k) : eqBy f s t = true := by
  unfold eqBy
  rw [Bool.and_eq_true, beq_iff_eq, List.all_eq_true]
  refine ⟨hl, fun x hx => ?_⟩
  obtain ⟨j, hj, rfl⟩ := List.getElem_of_mem hx
  rw [List.length_zip] at hj
  rw [List.getElem_zip]
  exact h j (by omega) _ _ (List.getElem?_eq_getElem (by omega)) (List.getElem?_eq_getElem (by omega))
theorem eqBy_false {f : UInt8 → UInt8 → Bool} {s t : List UInt8} {k : Nat} {d c : UInt8} (hd : s[k]? = some d) (hc : t[k]? = some c) (hf : f d c = false) : eqBy f s t = false := by
  cases hb : eqBy f s t with
  | false => rfl
  | true =>
    unfold eqBy at hb
    rw [Bool.and_eq_true, List.all_eq_true] at hb
    obtain ⟨h1, e1⟩ := List.getElem?_eq_some_iff.1 hd
    obtain ⟨h2, e2⟩ := List.getElem?_eq_some_iff.1 hc
    have h3 : k < (s.zip t).length := by rw [List.length_zip]; omega
    have := hb.2 _ (List.getElem_mem h3)
    rw [List.getElem_zip] at this
    simp only [e1, e2] at this
    rw [hf] at this
    cases this
theorem eqBy_len {f : UInt8 → UInt8 → Bool} {s t : List UInt8} (h : ¬ s.length = t.length) : eqBy f s t = false := by
  unfold eqBy
  rw [beq_eq_false_iff_ne.2 h]
  rfl

/-- The package's test of a pair of bytes. -/
def okI (d c : UInt8) : Bool := d == c || (65 ≤ d && d ≤ 90 && d + 32 == c)
theorem okI_same (c : UInt8) : okI c c = true := by simp [okI]
theorem okI_cap {d c : UInt8} (h1 : 65 ≤ d.toNat) (h2 : d.toNat ≤ 90) (h : (d.toNat : Int) + 32 = c.toNat) : okI d c = true := by
  have : d + 32 = c := by
    rw [← UInt8.toNat_inj, UInt8.toNat_add]
    simp
    omega
  simp only [okI, Bool.or_eq_true, Bool.and_eq_true, beq_iff_eq, decide_eq_true_eq, UInt8.le_iff_toNat_le]
  exact Or.inr ⟨⟨by simpa using h1, by simpa using h2⟩, this⟩
theorem okI_not {d c : UInt8} (hne : d.toNat ≠ c.toNat) (h : ¬ (65 ≤ d.toNat ∧ d.toNat ≤ 90 ∧ (d.toNat : Int) + 32 = c.toNat)) : okI d c = false := by
  cases hb : okI d c with
  | false => rfl
  | true =>
    simp only [okI, Bool.or_eq_true, Bool.and_eq_true, beq_iff_eq, decide_eq_true_eq, UInt8.le_iff_toNat_le] at hb
    rcases hb with rfl | ⟨⟨h1, h2⟩, rfl⟩
    · exact absurd rfl hne
    · exfalso
      apply h
      have h1' : 65 ≤ d.toNat := by simpa using h1
      have h2' : d.toNat ≤ 90 := by simpa using h2
      refine ⟨h1', h2', ?_⟩
      rw [UInt8.toNat_add]
      simp
      omega
/-- The reference's test of a pair of bytes. -/
def okS (d c : UInt8) : Bool := lowB d == c
theorem ok_same {d c : UInt8} (hc : lowB c = c) : okI d c = okS d c := by
  have h0 : ∀ x : UInt8, lowB x = x ∨ (65 ≤ x.toNat ∧ x.toNat ≤ 90 ∧ lowB x = x + 32) := fun x => by
    by_cases h : 65 ≤ x.toNat ∧ x.toNat ≤ 90
    · right
      refine ⟨h.1, h.2, ?_⟩
      unfold lowB
      rw [if_pos ⟨by rw [UInt8.le_iff_toNat_le]; simpa using h.1, by rw [UInt8.le_iff_toNat_le]; simpa using h.2⟩]
    · exact Or.inl (lowB_no h)
  have hcap : ¬ (65 ≤ c.toNat ∧ c.toNat ≤ 90) := by
    rintro ⟨h1, h2⟩
    have := lowB_yes h1 h2
    rw [hc] at this
    omega
  by_cases hdc : d = c
  · subst hdc
    simp [okI, okS, hc]
  · by_cases hd : 65 ≤ d.toNat ∧ d.toNat ≤ 90
    · rcases h0 d with h | ⟨_, _, h⟩
      · have := lowB_yes hd.1 hd.2
        rw [h] at this
        omega
      · simp only [okI, okS, h]
        have e1 : (65 ≤ d && d ≤ 90) = true := by
          simp only [Bool.and_eq_true, decide_eq_true_eq, UInt8.le_iff_toNat_le]
          exact ⟨by simpa using hd.1, by simpa using hd.2⟩
        have e2 : (d == c) = false := by simpa using hdc
        rw [e1, e2]
        rfl
    · rw [okI_not (fun h => hdc (UInt8.toNat_inj.1 h)) (fun h => hd ⟨h.1, h.2.1⟩)]
      unfold okS
      rw [lowB_no hd]
      exact (beq_eq_false_iff_ne.2 hdc).symm
theorem eqBy_lower {s t : List UInt8} (ht : ∀ c ∈ t, lowB c = c) : eqBy okI s t = eqBy okS s t := by
  unfold eqBy
  congr 1
  rw [Bool.eq_iff_iff, List.all_eq_true, List.all_eq_true]
  constructor <;> intro h x hx
  · rw [← ok_same (ht _ (List.of_mem_zip hx).2)]; exact h x hx
  · rw [ok_same (ht _ (List.of_mem_zip hx).2)]; exact h x hx
end Go.Proofs.YtfghakcgpomdkaaDoor
