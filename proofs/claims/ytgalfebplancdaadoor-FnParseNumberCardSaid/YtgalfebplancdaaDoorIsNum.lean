/- Which numbers the laws on numbers with groups speak of: the laws' own test. No condition. -/
import Derived.Test.YtgalfebplancdaaDoorWords
namespace Go.Proofs.YtgalfebplancdaaDoor
open Go.RowKit
set_option linter.unusedVariables false

theorem isNum_yes {n d s : Int} (h1 : -1000000000000000 < n) (h2 : n < 1000000000000000) (h3 : 0 ≤ d) (h4 : d ≤ 6) (h5 : 1 ≤ s) (h6 : s ≤ 6) (w : World) :
    Calls Tryd.prog 4 #[.int .i64 n, .int .i64 d, .int .i64 s] w fun e w' => e = .returned (.bool true) ∧ w = w' := by
  go_enter Tryd.func4, Tryd.ntmps4
  go_wp2
  go_ret
  exact ⟨rfl, rfl⟩
theorem isNum_no {n d s : Int} (h : ¬ (-1000000000000000 < n ∧ n < 1000000000000000 ∧ 0 ≤ d ∧ d ≤ 6 ∧ 1 ≤ s ∧ s ≤ 6)) (w : World) :
    Calls Tryd.prog 4 #[.int .i64 n, .int .i64 d, .int .i64 s] w fun e w' => e = .returned (.bool false) ∧ w = w' := by
  by_cases h1 : -1000000000000000 < n
  case neg =>
    clear h
    go_enter Tryd.func4, Tryd.ntmps4
    go_wp2
    go_ret
    exact ⟨rfl, rfl⟩
  by_cases h2 : n < 1000000000000000
  case neg =>
    clear h
    go_enter Tryd.func4, Tryd.ntmps4
    go_wp2
    go_ret
    exact ⟨rfl, rfl⟩
  by_cases h3 : 0 ≤ d
  case neg =>
    clear h
    go_enter Tryd.func4, Tryd.ntmps4
    go_wp2
    go_ret
    exact ⟨rfl, rfl⟩
  by_cases h4 : d ≤ 6
  case neg =>
    clear h
    go_enter Tryd.func4, Tryd.ntmps4
    go_wp2
    go_ret
    exact ⟨rfl, rfl⟩
  by_cases h5 : 1 ≤ s
  case neg =>
    clear h
    go_enter Tryd.func4, Tryd.ntmps4
    go_wp2
    go_ret
    exact ⟨rfl, rfl⟩
  have h6 : ¬ s ≤ 6 := fun e => h ⟨h1, h2, h3, h4, h5, e⟩
  clear h
  go_enter Tryd.func4, Tryd.ntmps4
  go_wp2
  go_ret
  exact ⟨rfl, rfl⟩
end Go.Proofs.YtgalfebplancdaaDoor
