/- The thin package's copy, and an empty buffer behind a pointer. Condition: lengths below 2^31. -/
import Derived.Test.YtfelfbgppkiimaaDoorCopy
namespace Go.Proofs.YtfelfbgppkiimaaDoor
open Go.RowKit
set_option linter.unusedVariables false

theorem iCopy_any (A : Option Addr) (l : List UInt8) (c : Nat) (w : World) (h : BS w A l) (hl : l.length ≤ 2147483647) :
    Calls Tryd.prog 14 #[.slice A l.length c] w fun e w' =>
      e = .returned (.slice (some ⟨w.heap.size, 0, none⟩) l.length l.length) ∧ Blk8 w' w.heap.size l ∧ Below w.heap.size w w' := by
  go_enter Tryd.func14, Tryd.ntmps14
  go_wp2_with (go_at_call 19; (with_reducible refine (copy_any _ _ _ _ h hl).mono ?_); rintro e w1 ⟨rfl, hb, hB⟩)
  go_ret
  exact ⟨rfl, hb, hB⟩
/-- The world in which an empty buffer lies behind a pointer. -/
abbrev bufW (w : World) : World := (w.alloc (.cells #[] 5)).alloc (.cells #[.slice (some ⟨w.heap.size, 0, none⟩) 0 0] 22)
/-- What is known behind the copy. -/
def CopyRet (l : List UInt8) (W : World) (e : Ending) (w' : World) : Prop :=
  e = .returned (.slice (some ⟨W.heap.size + 2, 0, none⟩) l.length l.length) ∧ BS w' (some ⟨W.heap.size + 2, 0, none⟩) l ∧ w'.cell? ⟨W.heap.size + 1, 0, none⟩ = some (.slice (some ⟨W.heap.size, 0, none⟩) 0 0) ∧ w'.frozen? ⟨W.heap.size + 1, 0, none⟩ = false ∧ W.heap.size + 2 < w'.heap.size ∧ Below W.heap.size W w'
theorem iCopyB (a : Option Addr) (l : List UInt8) (c : Nat) (W : World) (bs : BS W a l) (hl : l.length ≤ 2147483647) :
    Calls Tryd.prog 14 #[.slice a l.length c] (bufW W) (CopyRet l W) := by
  refine (iCopy_any a l c (bufW W) ((bs.alloc _).alloc _) hl).mono ?_
  rintro e w' ⟨rfl, hb, hB⟩
  have hsz : (bufW W).heap.size = W.heap.size + 2 := by simp [bufW]
  rw [hsz] at hb hB
  have hc : (bufW W).cell? ⟨W.heap.size + 1, 0, none⟩ = some (.slice (some ⟨W.heap.size, 0, none⟩) 0 0) := by
    have := World.cell?_alloc_mark (W.alloc (.cells #[] 5)) #[.slice (some ⟨W.heap.size, 0, none⟩) 0 0] 22 (0, 0) 0
    rw [show (W.alloc (.cells #[] 5)).heap.size = W.heap.size + 1 by simp] at this
    exact this
  have hf : (bufW W).frozen? ⟨W.heap.size + 1, 0, none⟩ = false := by
    have := World.frozen?_alloc_at (w := W.alloc (.cells #[] 5)) #[.slice (some ⟨W.heap.size, 0, none⟩) 0 0] 22 (W.heap.size + 1) 0 (by simp)
    exact this
  refine ⟨by rw [hsz], hb.all, ?_, ?_, hb.lt, ?_⟩
  · rw [hB.cell (p := ⟨W.heap.size + 1, 0, none⟩) (show W.heap.size + 1 < W.heap.size + 2 by omega)]
    exact hc
  · rw [hB.frozen (p := ⟨W.heap.size + 1, 0, none⟩) (show W.heap.size + 1 < W.heap.size + 2 by omega)]
    exact hf
  · exact (((Below.refl _ _).alloc (Nat.le_refl _) _).alloc (by simp) _).trans (hB.mono (by omega))
end Go.Proofs.YtfelfbgppkiimaaDoor
