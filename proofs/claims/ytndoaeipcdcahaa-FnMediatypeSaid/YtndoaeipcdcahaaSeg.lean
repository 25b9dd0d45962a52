/- The text of a media type with parameters: where its bytes stand. Plain lists, no program. -/
import Derived.Test.YtndoaeipcdcahaaMap
namespace Go.Proofs.Ytndoaeipcdcahaa
set_option linter.unusedVariables false
set_option linter.unusedSimpArgs false

def seg (bl : Nat) (p : Ent) : List UInt8 := 59 :: (List.replicate bl 32 ++ (p.1 ++ 61 :: p.2))
def tailOf (bl : Nat) (ps : List Ent) : List UInt8 := ps.flatMap (seg bl)
/-- Neither a semicolon, an equals sign nor a blank. -/
def Clean (x : List UInt8) : Prop := ∀ c ∈ x, c ≠ 59 ∧ c ≠ 61 ∧ c ≠ 32
theorem seg_len (bl : Nat) (p : Ent) : (seg bl p).length = 2 + bl + p.1.length + p.2.length := by simp [seg]; omega
/-- The text at a place. -/
def Lies (l : List UInt8) (i : Nat) (m : List UInt8) : Prop := ∃ a b, l = a ++ (m ++ b) ∧ a.length = i
theorem Lies.at_ {l m : List UInt8} {i j : Nat} {x : UInt8} (h : Lies l i m) (hx : m[j]? = some x) : l[i + j]? = some x := by
  obtain ⟨a, b, rfl, rfl⟩ := h
  obtain ⟨hj, _⟩ := List.getElem?_eq_some_iff.1 hx
  rw [List.getElem?_append_right (by omega), List.getElem?_append_left (by omega)]
  rw [Nat.add_sub_cancel_left]
  exact hx
theorem Lies.le {l m : List UInt8} {i : Nat} (h : Lies l i m) : i + m.length ≤ l.length := by
  obtain ⟨a, b, rfl, rfl⟩ := h
  simp
theorem Lies.cut {l m : List UInt8} {i : Nat} (h : Lies l i m) : (l.drop i).take m.length = m := by
  obtain ⟨a, b, rfl, rfl⟩ := h
  simp
theorem Lies.left {l m m' : List UInt8} {i : Nat} (h : Lies l i (m ++ m')) : Lies l i m := by
  obtain ⟨a, b, rfl, rfl⟩ := h
  exact ⟨a, m' ++ b, by simp, rfl⟩
theorem Lies.right {l m m' : List UInt8} {i : Nat} (h : Lies l i (m ++ m')) : Lies l (i + m.length) m' := by
  obtain ⟨a, b, rfl, rfl⟩ := h
  exact ⟨a ++ m, b, by simp, by simp⟩
/-- The parts of a piece. -/
theorem seg_parts {l : List UInt8} {i bl : Nat} {p : Ent} (h : Lies l i (seg bl p)) :
    l[i]? = some 59 ∧ (∀ t, t < bl → l[i + 1 + t]? = some 32) ∧ Lies l (i + 1 + bl) p.1 ∧ l[i + 1 + bl + p.1.length]? = some 61 ∧ Lies l (i + 1 + bl + p.1.length + 1) p.2 := by
  have e : seg bl p = [59] ++ (List.replicate bl 32 ++ (p.1 ++ ([61] ++ p.2))) := rfl
  rw [e] at h
  have h1 := h.left
  have h2 := h.right
  have h3 := h2.left
  have h4 := h2.right
  simp only [List.length_replicate, List.length_cons, List.length_nil] at h4 h3
  have h5 := h4.left
  have h6 := h4.right
  have h7 := h6.left
  have h8 := h6.right
  refine ⟨by simpa using h1.at_ (j := 0) rfl, fun t ht => ?_, by simpa using h5, by simpa using h7.at_ (j := 0) rfl, by simpa using h8⟩
  have := h3.at_ (j := t) (x := 32) (by simp [ht])
  simpa using this
/-- The next piece, or the end. -/
theorem tail_next {l : List UInt8} {i bl : Nat} {p : Ent} {ps : List Ent} (h : Lies l i (tailOf bl (p :: ps))) : Lies l i (seg bl p) ∧ Lies l (i + (seg bl p).length) (tailOf bl ps) := by
  have e : tailOf bl (p :: ps) = seg bl p ++ tailOf bl ps := rfl
  rw [e] at h
  exact ⟨h.left, h.right⟩
theorem tail_head {bl : Nat} {p : Ent} {ps : List Ent} : (tailOf bl (p :: ps))[0]? = some 59 := rfl
theorem clean_at {x : List UInt8} (h : Clean x) {j : Nat} {c : UInt8} (hc : x[j]? = some c) : ((c.toNat : Int) == 59) = false ∧ ((c.toNat : Int) == 61) = false ∧ ((c.toNat : Int) == 32) = false := by
  obtain ⟨h1, h2, h3⟩ := h c (List.mem_of_getElem? hc)
  refine ⟨?_, ?_, ?_⟩ <;> (rw [beq_eq_false_iff_ne]; intro e; have e2 : c.toNat = _ := Int.ofNat.inj e)
  · exact h1 (UInt8.toNat_inj.1 e2)
  · exact h2 (UInt8.toNat_inj.1 e2)
  · exact h3 (UInt8.toNat_inj.1 e2)
end Go.Proofs.Ytndoaeipcdcahaa
