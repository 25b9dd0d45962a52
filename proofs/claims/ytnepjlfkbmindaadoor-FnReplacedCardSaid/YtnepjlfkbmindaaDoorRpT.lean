/- The two tables of whitespace, as the text lays them. No condition. -/
import Derived.Test.YtnepjlfkbmindaaDoorTab
import Derived.LaidMore
namespace Go.Proofs.YtnepjlfkbmindaaDoor
open Go.RowKit
set_option linter.unusedVariables false

theorem gWs : Tryd.prog.globalNamed "loop.example/pub-g01476/pub/tdparse.whitespaceTable" = some 0 := by kernel_rfl
theorem gNl : Tryd.prog.globalNamed "loop.example/pub-g01476/pub/tdparse.newlineTable" = some 1 := by kernel_rfl
theorem tWs : (Tryd.prog.globals[0]?).map (·.type) = some 44 := by kernel_rfl
theorem tNl : (Tryd.prog.globals[1]?).map (·.type) = some 44 := by kernel_rfl
theorem dWs {H : Type} : (Rows.laid_loop_example_pub_g01476_pub_tdparse_whitespaceTable : DataW H) = .agg ((tabList isBl).map fun z => .lit (.bool z)) := by kernel_rfl
theorem dNl {H : Type} : (Rows.laid_loop_example_pub_g01476_pub_tdparse_newlineTable : DataW H) = .agg ((tabList isNl).map fun z => .lit (.bool z)) := by kernel_rfl
theorem fnReplaced_ws {W : World} (h : laidMetH Tryd.prog Rows.fnReplacedRow.laid W) : WsTab W := by
  rw [MakeChecks.laidMetH_plain _ _ _ (by kernel_rfl)] at h
  obtain ⟨ps, ⟨_, _, _, _, _, _, _, _, _, _, ⟨_, _, _, _, _, _, _, _, _, _, ⟨_, _, _, _, _, _, _, _, _, _, ⟨g0, t0, cs0, f0, p0, q0, hg0, ht0, hv0, hd0, _, _⟩, _⟩, _⟩, _⟩, _, _⟩ := h
  obtain rfl := Option.some.inj (gWs.symm.trans hg0)
  obtain rfl := Option.some.inj (tWs.symm.trans ht0)
  rw [dWs] at hd0
  exact tabOf_list gWs hv0 Tryd.underlying44 Tryd.underlying4 (by kernel_rfl) (by kernel_rfl) hd0
theorem fnReplaced_nl {W : World} (h : laidMetH Tryd.prog Rows.fnReplacedRow.laid W) : NlTab W := by
  rw [MakeChecks.laidMetH_plain _ _ _ (by kernel_rfl)] at h
  obtain ⟨ps, ⟨_, _, _, _, _, _, _, _, _, _, ⟨_, _, _, _, _, _, _, _, _, _, ⟨_, _, _, _, _, _, _, _, _, _, ⟨_, _, _, _, _, _, _, _, _, _, ⟨g1, t1, cs1, f1, p1, q1, hg1, ht1, hv1, hd1, _, _⟩, _⟩, _⟩, _⟩, _⟩, _, _⟩ := h
  obtain rfl := Option.some.inj (gNl.symm.trans hg1)
  obtain rfl := Option.some.inj (tNl.symm.trans ht1)
  rw [dNl] at hd1
  exact tabOf_list gNl hv1 Tryd.underlying44 Tryd.underlying4 (by kernel_rfl) (by kernel_rfl) hd1
end Go.Proofs.YtnepjlfkbmindaaDoor
