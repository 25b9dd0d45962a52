/- One byte behind a row of the call's own. Condition: lengths below 2^32. -/
import Derived.Test.YtnepjlfkbmindaaDoorCat
namespace Go.Proofs.YtnepjlfkbmindaaDoor
open Go.RowKit
set_option linter.unusedVariables false

/-- One byte behind a row of the call's own. -/
theorem snoc8 {w0 w : World} {A : Option Addr} {n c : Nat} {l : List UInt8} (own : OwnB w w0.heap.size A n c l) (hb : Below w0.heap.size w0 w) (x : UInt8) (hl : n + 1 ≤ 4294967296) :
    ∃ A' c' w', (Builtin.append_ #[26, 26] 26 #[.slice A n c, .slice (some ⟨w.heap.size, 0, none⟩) 1 1]).run Tryd.prog (w.alloc (.cells #[.int .u8 (x.toNat : Int)] 5)) = .ok (.slice A' (n + 1) c') w' ∧
      OwnB w' w0.heap.size A' (n + 1) c' (l ++ [x]) ∧ Below w0.heap.size w0 w' := by
  have hsz := hb.size
  obtain ⟨A2, c2, w2, hrun, own2, hg2, _⟩ := run_append8 (P := Tryd.prog) 26 26 Tryd.underlying26 u8_info (own.alloc (.cells #[.int .u8 (x.toNat : Int)] 5)) (BS.lit rfl [x] _ 5 (0, 0) rfl) 1 1 rfl (by omega) (by simp; omega)
  exact ⟨A2, c2, w2, hrun, own2, (own.alloc (.cells #[.int .u8 (x.toNat : Int)] 5)).bel (hb.alloc hsz _) hg2 (by simp; omega)⟩
end Go.Proofs.YtnepjlfkbmindaaDoor
