/- A text that has, from some place on, a number with a point, and an exponent behind it or none. Plain lists, no program. -/
import Derived.Test.YtggemljdmoegnaaDoorPt
import Derived.Test.YtggemljdmoegnaaDoorIntg
namespace Go.Proofs.YtggemljdmoegnaaDoor
set_option linter.unusedVariables false

/-- How many digits stand in front of place i. -/
def ct (q p i : Nat) : Nat := cnt (p - q) (i - q)
/-- The text b has from place q on the digits P with the point at p (d of them behind it), up to I1. -/
structure FText (b P : List UInt8) (q p I1 d : Nat) : Prop where
  here : ∀ i, q ≤ i → i < I1 → (i = p ∧ b[i]? = some 46 ∧ ct q p (i + 1) = ct q p i ∧ 0 < d) ∨ (i ≠ p ∧ ∃ c, b[i]? = some c ∧ P[ct q p i]? = some c ∧ isDig c = true ∧ ct q p (i + 1) = ct q p i + 1)
  qp : q + 1 ≤ p
  hI : I1 = if d = 0 then p else p + 1 + d
  len : I1 ≤ b.length
  fin : ∀ c, b[I1]? = some c → isDig c = false ∧ c ≠ 46
  full : ct q p I1 = P.length
theorem ct_zero (q p : Nat) : ct q p q = 0 := by unfold ct cnt; simp
theorem FText.of (n d q : Nat) (b R : List UInt8) (hb : b.drop q = pointed n d ++ R) (hq : q ≤ b.length) (hr : ∀ c, R[0]? = some c → isDig c = false ∧ c ≠ 46) :
    FText b (padded n (d + 1)) q (q + ((padded n (d + 1)).length - d)) (q + (pointed n d).length) d := by
  have h := pointed_text n d R hr
  rw [← hb] at h
  have hpl := pointed_len n d
  have hpd := padded_len n (d + 1)
  have e1 : q + ((padded n (d + 1)).length - d) - q = (padded n (d + 1)).length - d := by omega
  have hdl := dec_ne n
  have hat : ∀ j, (b.drop q)[j]? = b[q + j]? := fun j => List.getElem?_drop
  refine ⟨fun i h1 h2 => ?_, ?_, ?_, ?_, fun c hc => ?_, ?_⟩
  · obtain ⟨j, rfl⟩ : ∃ j, i = q + j := ⟨i - q, by omega⟩
    have e2 : q + j + 1 - q = j + 1 := by omega
    have e3 : q + j - q = j := by omega
    unfold ct
    rw [e1, e2, e3, ← hat]
    rcases h.here (i := j) (by omega) with ⟨ha, hb, hc, hd⟩ | ⟨ha, c, hc⟩
    · left
      refine ⟨by omega, hc, hd, ?_⟩
      omega
    · exact .inr ⟨by omega, c, hc⟩
  · omega
  · rw [hpl]
    split
    · rename_i h0
      subst h0
      omega
    · omega
  · have := h.len
    simp at this
    omega
  · rw [← hat] at hc
    exact h.fin c hc
  · unfold ct
    rw [e1, show q + (pointed n d).length - q = (pointed n d).length by omega]
    exact h.tle
/-- Behind place I1 stands an exponent, or nothing of a number; L is where it ends. -/
def ETail (b : List UInt8) (I1 : Nat) (x : Int) (L : Nat) : Prop :=
  (x = 0 ∧ L = I1 ∧ ∀ c, b[I1]? = some c → c ≠ 101 ∧ c ≠ 69) ∨ (∃ r, b.drop I1 = 101 :: (decI x ++ r) ∧ at_ isDig r 0 = false ∧ L = I1 + 1 + (decI x).length)
end Go.Proofs.YtggemljdmoegnaaDoor
