/- The powers of ten in a world where the variables of 'laws.FnParseDecimal' lie as laid. -/
import Derived.Test.YtggemljdmoegnaaDoorWPDec
import Derived.Test.YtggemljdmoegnaaDoorFTab
namespace Go.Proofs.YtggemljdmoegnaaDoor
open Go.RowKit
set_option linter.unusedVariables false

theorem z10_ok : ((List.range 23).all fun i => match z10[i]? with | some z => okW z (10 ^ i) | none => false) = true := by decide +kernel
theorem fnParseDecimal_p10 {W : World} (h : laidMetH Tryd.prog Rows.fnParseDecimalRow.laid W) : P10 0 23 W := by
  rw [MakeChecks.laidMetH_plain _ _ _ (by kernel_rfl)] at h
  obtain ⟨ps, ⟨_, _, _, _, _, _, _, _, _, _, ⟨_, _, _, _, _, _, _, _, _, _, ⟨_, _, _, _, _, _, _, _, _, _, ⟨g0, t0, cs0, f0, p0, q0, hg0, ht0, hv0, hd0, _, _⟩, _⟩, _⟩, _⟩, _, _⟩ := h
  obtain rfl := Option.some.inj (g10.symm.trans hg0)
  obtain rfl := Option.some.inj (t10.symm.trans ht0)
  rw [d10] at hd0
  exact p10_of g10 hv0 (cells_of_ftab Tryd.underlying40 Tryd.underlying26 (by kernel_rfl) (by kernel_rfl) hd0) z10_ok
end Go.Proofs.YtggemljdmoegnaaDoor
