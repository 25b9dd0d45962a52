/- What came in as a list of lists. No condition. -/
import Derived.Test.YtnepjlfkbmindaaDoorTbl
import Derived.Deep.Slices
namespace Go.Proofs.YtnepjlfkbmindaaDoor
open Go.RowKit
set_option linter.unusedVariables false
set_option linter.unusedSimpArgs false

/-- What came in as a list of lists. -/
theorem rows_in {H : Type} {enc : TypeId × Value → H} {P : Program} {w : World} {base : Nat} {spare : Nat → Bool} {held : Bool} {t e q fuel : Nat} {A : Option Addr} {n c : Nat} {x : DataW H × List MemPlace}
    (ht : P.underlying t = some (.slice e)) (he : P.underlying e = some (.slice q)) (hq : P.underlying q = some (.int .u8)) (ce : P.cellsOf e = 1) (cq : P.cellsOf q = 1)
    (h : DataW.trod enc P w base spare held fuel t [.slice A n c] = some x) : n ≤ c ∧ c ≤ maxLen ∧ ∃ l : List (List UInt8), l.length = n ∧ LL w A l ∧ ∀ (i : Nat) (y : List UInt8), l[i]? = some y → y.length ≤ maxLen := by
  rcases Deep.open_slice1 ht ce h with ⟨hcs, _⟩ | ⟨a, len, cap, m, n', V, D, Pl, hcs, _, hl, hm, hmm, _, hi⟩
  · simp only [List.cons.injEq, Value.slice.injEq, and_true] at hcs
    obtain ⟨rfl, rfl, rfl⟩ := hcs
    exact ⟨Nat.le_refl _, by simp [maxLen], [], rfl, fun i y h => by simp at h, fun i y h => by simp at h⟩
  · simp only [List.cons.injEq, Value.slice.injEq, and_true] at hcs
    obtain ⟨rfl, rfl, rfl⟩ := hcs
    have hnm : n ≤ m := by rw [hmm]; split <;> omega
    have each : ∀ i, i < n → ∃ y : List UInt8, ∃ b o Ai ci, some a = some (⟨b, o, none⟩ : Addr) ∧ w.cell? ⟨b, o + i, none⟩ = some (.slice Ai y.length ci) ∧ y.length ≤ ci ∧ ci ≤ maxLen ∧ BS w Ai y := fun i hin => by
      obtain ⟨hc, ht⟩ := hi i (by omega)
      have hform : ∃ Ai ni ci, V i = .slice Ai ni ci := by
        rcases DataW.trod_slice he ht with ⟨h0, _⟩ | ⟨a', len', cap', _, _, _, _, h0, _⟩
        · exact ⟨_, _, _, by simpa using h0⟩
        · exact ⟨_, _, _, by simpa using h0⟩
      obtain ⟨Ai, ni, ci, hV⟩ := hform
      rw [hV] at hc ht
      obtain ⟨h1, h2, y, hy, hbs⟩ := bytes_in he hq cq ht
      subst hy
      have hsp : a.spot = none := by
        have h00 := (hi 0 (by omega)).1
        have := World.cell?_spot h00
        simpa [Addr.add] using this
      obtain ⟨b, o, spot⟩ := a
      have hsp : spot = none := hsp
      subst hsp
      refine ⟨y, b, o, Ai, ci, rfl, ?_, h1, h2, hbs⟩
      have e1 : (⟨b, o, none⟩ : Addr).add i = ⟨b, o + i, none⟩ := by
        unfold Addr.add
        split
        · rename_i h0; subst h0; rfl
        · rfl
      rw [← e1]
      exact hc
    obtain ⟨l, hll, hlp⟩ := list_of_lt each
    refine ⟨hl, hm, l, hll, fun i y hy => ?_, fun i y hy => ?_⟩
    · obtain ⟨hi1, hi2⟩ := List.getElem?_eq_some_iff.1 hy
      obtain ⟨b, o, Ai, ci, h1, h2, h3, h4, h5⟩ := hlp i hi1
      rw [hi2] at h2 h3 h5
      exact ⟨b, o, Ai, ci, h1, h2, h3, h5⟩
    · obtain ⟨hi1, hi2⟩ := List.getElem?_eq_some_iff.1 hy
      obtain ⟨b, o, Ai, ci, h1, h2, h3, h4, h5⟩ := hlp i hi1
      rw [hi2] at h3
      exact Nat.le_trans h3 h4
end Go.Proofs.YtnepjlfkbmindaaDoor
