/- Whether all bytes of a text are such: what a loop over it knows. Plain lists, no program. -/
import Derived.Test.YtnepjlfkbmindaaDoorWords
namespace Go.Proofs.YtnepjlfkbmindaaDoor
/-- Are all bytes such that f? -/
def AllTo (f : UInt8 → Bool) (s : List UInt8) (k : Nat) : Prop := ∀ j, j < k → ∀ d, s[j]? = some d → f d = true
theorem AllTo.zero (f : UInt8 → Bool) (s : List UInt8) : AllTo f s 0 := fun j h => absurd h (by omega)
theorem AllTo.succ {f : UInt8 → Bool} {s : List UInt8} {k : Nat} {d : UInt8} (h : AllTo f s k) (hd : s[k]? = some d) (hf : f d = true) : AllTo f s (k + 1) := fun j hj d' h1 => by
  rcases Nat.lt_or_ge j k with hlt | hge
  · exact h j hlt d' h1
  · obtain rfl : j = k := by omega
    rw [hd] at h1
    cases h1
    exact hf
theorem all_true {f : UInt8 → Bool} {s : List UInt8} {k : Nat} (hk : s.length ≤ k) (h : AllTo f s k) : s.all f = true := by
  rw [List.all_eq_true]
  intro x hx
  obtain ⟨j, hj, rfl⟩ := List.getElem_of_mem hx
  exact h j (by omega) _ (List.getElem?_eq_getElem hj)
theorem all_false {f : UInt8 → Bool} {s : List UInt8} {k : Nat} {d : UInt8} (hd : s[k]? = some d) (hf : f d = false) : s.all f = false := by
  rw [List.all_eq_false]
  exact ⟨d, List.mem_of_getElem? hd, by simp [hf]⟩
/-- Are all bytes from a place on such that f? -/
def AllFrom (f : UInt8 → Bool) (s : List UInt8) (k : Nat) : Prop := ∀ j, k ≤ j → ∀ d, s[j]? = some d → f d = true
theorem AllFrom.end_ (f : UInt8 → Bool) (s : List UInt8) : AllFrom f s s.length := fun j h d hd => by rw [List.getElem?_eq_none h] at hd; cases hd
theorem AllFrom.pred {f : UInt8 → Bool} {s : List UInt8} {k : Nat} {d : UInt8} (h : AllFrom f s (k + 1)) (hd : s[k]? = some d) (hf : f d = true) : AllFrom f s k := fun j hj d' h1 => by
  rcases Nat.eq_or_lt_of_le hj with rfl | hlt
  · rw [hd] at h1
    cases h1
    exact hf
  · exact h j hlt d' h1
end Go.Proofs.YtnepjlfkbmindaaDoor
