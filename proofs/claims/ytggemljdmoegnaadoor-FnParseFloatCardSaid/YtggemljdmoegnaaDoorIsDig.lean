/- The test whether a byte is a digit. Condition: none. -/
import Derived.Test.YtggemljdmoegnaaDoorNum
namespace Go.Proofs.YtggemljdmoegnaaDoor
open Go.RowKit
set_option linter.unusedVariables false

theorem isDigit_any (c : UInt8) (w : World) :
    Calls Tryd.prog 13 #[.int .u8 (c.toNat : Int)] w fun e w' => e = .returned (.bool (isDig c)) ∧ w = w' := by
  by_cases h1 : 48 ≤ c.toNat
  · by_cases h2 : c.toNat ≤ 57
    · have H := hide (dig_of h1 h2)
      go_enter Tryd.func13, Tryd.ntmps13
      go_wp2
      go_ret
      exact ⟨ret_bool (by rw [H.out]; simp; omega), rfl⟩
    · have H := hide (dig_no (c := c) (fun x => h2 x.2))
      go_enter Tryd.func13, Tryd.ntmps13
      go_wp2
      go_ret
      exact ⟨ret_bool (by rw [H.out]; simp; omega), rfl⟩
  · have H := hide (dig_no (c := c) (fun x => h1 x.1))
    go_enter Tryd.func13, Tryd.ntmps13
    go_wp2
    go_ret
    exact ⟨ret_bool (by rw [H.out]), rfl⟩
theorem isDigit_n (c : UInt8) (b : Bool) (w : World) (hb : isDig c = b) :
    Calls Tryd.prog 13 #[.int .u8 (c.toNat : Int)] w fun e w' => e = .returned (.bool b) ∧ w = w' := by
  subst hb
  exact isDigit_any c w

end Go.Proofs.YtggemljdmoegnaaDoor
