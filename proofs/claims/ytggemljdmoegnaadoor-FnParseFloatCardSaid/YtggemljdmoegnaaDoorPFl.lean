/- What the package's reading of a float returns; zeros of the table. No walk. -/
import Derived.Test.YtggemljdmoegnaaDoorFText
import Derived.Test.YtggemljdmoegnaaDoorPow
import Derived.Test.YtggemljdmoegnaaDoorFZ
import Derived.Test.YtggemljdmoegnaaDoorRow
import Derived.Test.YtggemljdmoegnaaDoorWNear
namespace Go.Proofs.YtggemljdmoegnaaDoor
open Go.RowKit
set_option linter.unusedVariables false

theorem P10.drewN {G n : Nat} {w : World} (h : P10 G n w) (k : Nat) : P10 G n (w.drewN k) := h
theorem Pows.drewN {w : World} (h : Pows w) (k : Nat) : Pows (w.drewN k) := ⟨h.t1.drewN k, h.pos, h.neg, h.neg1⟩
/-- A table whose words make zeros of zeros. -/
def PZ (G n : Nat) (w : World) : Prop := ∀ i, i < n → ∃ y, w.cell? ⟨G, i, none⟩ = some (.float .f64 y) ∧ okZ y = true
theorem PZ.below {G n : Nat} {w w' : World} (h : PZ G n w) (hb : Below w.heap.size w w') : PZ G n w' := fun i hi => by
  obtain ⟨x, hc, ha⟩ := h i hi
  exact ⟨x, (hb.cell (block_lt_of_cell hc)).trans hc, ha⟩
theorem okZ_all {y : Nat} (h : okZ y = true) : Ieee.double.mul 0 y = some 0 ∧ Ieee.double.mul 9223372036854775808 y = some 9223372036854775808 ∧ Ieee.double.div 0 y = some 0 ∧ Ieee.double.div 9223372036854775808 y = some 9223372036854775808 := by
  unfold okZ at h
  simp only [Bool.and_eq_true, beq_iff_eq] at h
  exact ⟨h.1.1.1, h.1.1.2, h.1.2, h.2⟩
theorem decI_pos_len (x : Int) : 0 < (decI x).length := by
  unfold decI
  split
  · simp
  · exact dec_ne _
theorem pow10_at (z z' : Int) (w : World) (hz : z = z') (h1 : -50 ≤ z) (h2 : z ≤ 30) (ht : Pows w) : Calls Tryd.prog 19 #[.int .i64 z] w (PowRet z' w) := by
  subst hz
  exact pow10_any z w h1 h2 ht
def FRet (s : Bool) (n : Nat) (z : Int) (L : Nat) (w : World) (e : Ending) (w' : World) : Prop :=
  ∃ x, e = .returned (.tuple #[.float .f64 x, .int .i64 (L : Int)]) ∧ ((n = 0 → x = zw s) ∧ (0 < n → Apz 49 s x n z)) ∧ ∃ q, w' = w.drewN q
end Go.Proofs.YtggemljdmoegnaaDoor
