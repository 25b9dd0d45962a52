/- A list within a list, at a place. Plain lists, no program. -/
import Derived.Test.YtnepjlfkbmindaaDoorTbl
namespace Go.Proofs.YtnepjlfkbmindaaDoor
set_option linter.unusedVariables false
set_option linter.unusedSimpArgs false

/-- The text at a place. -/
def Lies (l : List UInt8) (i : Nat) (m : List UInt8) : Prop := ∃ a b, l = a ++ (m ++ b) ∧ a.length = i
theorem Lies.at_ {l m : List UInt8} {i j : Nat} {x : UInt8} (h : Lies l i m) (hx : m[j]? = some x) : l[i + j]? = some x := by
  obtain ⟨a, b, rfl, rfl⟩ := h
  obtain ⟨hj, _⟩ := List.getElem?_eq_some_iff.1 hx
  rw [List.getElem?_append_right (by omega), List.getElem?_append_left (by omega)]
  rw [Nat.add_sub_cancel_left]
  exact hx
theorem Lies.le {l m : List UInt8} {i : Nat} (h : Lies l i m) : i + m.length ≤ l.length := by
  obtain ⟨a, b, rfl, rfl⟩ := h
  simp
theorem Lies.cut {l m : List UInt8} {i : Nat} (h : Lies l i m) : (l.drop i).take m.length = m := by
  obtain ⟨a, b, rfl, rfl⟩ := h
  simp
theorem Lies.left {l m m' : List UInt8} {i : Nat} (h : Lies l i (m ++ m')) : Lies l i m := by
  obtain ⟨a, b, rfl, rfl⟩ := h
  exact ⟨a, m' ++ b, by simp, rfl⟩
theorem Lies.right {l m m' : List UInt8} {i : Nat} (h : Lies l i (m ++ m')) : Lies l (i + m.length) m' := by
  obtain ⟨a, b, rfl, rfl⟩ := h
  exact ⟨a ++ m, b, by simp, by simp⟩
theorem Lies.swap {l f t : List UInt8} {i m : Nat} (h : Lies l i f) (hm : t.length = m) (hle : m ≤ f.length) :
    ((l.take i ++ t ++ l.drop (i + m)).take (i + m) ++ (l.take i ++ t ++ l.drop (i + m)).drop (i + f.length)) = l.take i ++ t ++ l.drop (i + f.length) := by
  obtain ⟨a, b, rfl, rfl⟩ := h
  have e1 : (a ++ (f ++ b)).take a.length = a := by simp
  have e2 : (a ++ t).length = a.length + m := by simp [hm]
  rw [e1, List.take_append, ← e2, List.take_of_length_le (l := a ++ t) (Nat.le_refl _), Nat.sub_self, List.take_zero, List.append_nil, List.drop_append, e2, List.drop_of_length_le (l := a ++ t) (by rw [e2]; omega), List.nil_append, List.drop_drop]
  congr 2
  omega
end Go.Proofs.YtnepjlfkbmindaaDoor
