/- The walk of 'laws.FnNumber': it returns true for every list of bytes. No condition. -/
import Derived.Test.YtdldnnppijfooaaNumI
namespace Go.Proofs.Ytdldnnppijfooaa
open Go.RowKit
set_option linter.unusedVariables false

theorem iNumber_any (A : Option Addr) (l : List UInt8) (c : Nat) (w : World) (h : BS w A l) (h1 : l.length ≤ 2147483647) :
    Calls Try.prog 14 #[.slice A l.length c] w fun e w' => e = .returned (.int .i64 (numLen l : Int)) ∧ w = w' := by
  go_enter Try.func14, Try.ntmps14
  go_wp2_with (go_at_call 22; refine (numI_any _ _ _ _ h h1).mono ?_; rintro e w1 ⟨rfl, rfl⟩)
  go_ret
  exact ⟨rfl, rfl⟩

theorem fnNumber_walk (a : Option Addr) (l : List UInt8) (c : Nat) (W : World) (bs : BS W a l) :
    Calls Try.prog 6 #[.slice a l.length c] W fun e w' => e = .returned (.bool true) ∧ Below W.heap.size W w' := by
  by_cases hA : 2147483647 < l.length
  · go_enter Try.func6, Try.ntmps6
    go_wp2
    go_ret
    exact ⟨rfl, Below.refl _ _⟩
  by_cases hB : 5000 < l.length
  · go_enter Try.func6, Try.ntmps6
    go_wp2
    go_ret
    exact ⟨rfl, Below.refl _ _⟩
  go_enter Try.func6, Try.ntmps6
  go_wp2_with (first
    | (go_at_call 14; refine (iNumber_any _ _ _ _ bs (by omega)).mono ?_; rintro e w1 ⟨rfl, rfl⟩)
    | (go_at_call 15; refine (numS_any _ _ _ _ bs (by omega)).mono ?_; rintro e w1 ⟨rfl, rfl⟩))
  go_ret
  exact ⟨ret_bool (by simp), Below.refl _ _⟩
end Go.Proofs.Ytdldnnppijfooaa
