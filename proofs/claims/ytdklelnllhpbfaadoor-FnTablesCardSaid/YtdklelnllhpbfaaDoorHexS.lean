/- What a digit in hexadecimal means: the reference's function. Condition: none. -/
import Derived.Test.YtdklelnllhpbfaaDoorUnesc
namespace Go.Proofs.YtdklelnllhpbfaaDoor
open Go.RowKit
set_option linter.unusedVariables false

theorem isDgt_yes (c : UInt8) (w : World) (h1 : 48 ≤ c.toNat) (h2 : c.toNat ≤ 57) :
    Calls Tryd.prog 15 #[.int .u8 (c.toNat : Int)] w fun e w' => e = .returned (.bool true) ∧ w = w' := by
  have hc := c.toNat_lt
  go_enter Tryd.func15, Tryd.ntmps15
  go_wp2
  go_ret
  exact ⟨ret_bool (by simp; omega), rfl⟩
theorem isDgt_no (c : UInt8) (w : World) (h : c.toNat < 48 ∨ 57 < c.toNat) :
    Calls Tryd.prog 15 #[.int .u8 (c.toNat : Int)] w fun e w' => e = .returned (.bool false) ∧ w = w' := by
  have hc := c.toNat_lt
  rcases h with h | h
  · go_enter Tryd.func15, Tryd.ntmps15
    go_wp2
    go_ret
    exact ⟨rfl, rfl⟩
  · go_enter Tryd.func15, Tryd.ntmps15
    go_wp2
    go_ret
    exact ⟨ret_bool (by simp; omega), rfl⟩

theorem hexS_yes (c : UInt8) (n : Nat) (w : World) (h : isHex c = true) (hv : hexV c = n) :
    Calls Tryd.prog 11 #[.int .u8 (c.toNat : Int)] w fun e w' => e = .returned (.int .i64 (n : Int)) ∧ w = w' := by
  have hc := c.toNat_lt
  rcases hex_cases c with ⟨h1, h2, _, e⟩ | ⟨h1, h2, _, e⟩ | ⟨h1, h2, _, e⟩ | ⟨e, _⟩
  case inr.inr.inr => rw [h] at e; cases e
  all_goals
    rw [hv] at e
    have E := hide e
    clear e hv h
    go_enter Tryd.func11, Tryd.ntmps11
    go_wp2_with (first
      | (go_at_call 15; refine (isDgt_yes _ _ (by omega) (by omega)).mono ?_; rintro e w1 ⟨rfl, rfl⟩)
      | (go_at_call 15; refine (isDgt_no _ _ (by omega)).mono ?_; rintro e w1 ⟨rfl, rfl⟩))
    go_ret
    exact ⟨ret_int (by have := E.out; omega), rfl⟩
theorem hexS_no (c : UInt8) (w : World) (h : isHex c = false) :
    Calls Tryd.prog 11 #[.int .u8 (c.toNat : Int)] w fun e w' => e = .returned (.int .i64 (-1)) ∧ w = w' := by
  have hc := c.toNat_lt
  rcases hex_cases c with ⟨_, _, e, _⟩ | ⟨_, _, e, _⟩ | ⟨_, _, e, _⟩ | ⟨_, hr⟩
  case inl => rw [h] at e; cases e
  case inr.inl => rw [h] at e; cases e
  case inr.inr.inl => rw [h] at e; cases e
  clear h
  rcases hr with hr | ⟨hr, hr2⟩ | ⟨hr, hr2⟩ | hr
  all_goals
    go_enter Tryd.func11, Tryd.ntmps11
    go_wp2_with (go_at_call 15; refine (isDgt_no _ _ (by omega)).mono ?_; rintro e w1 ⟨rfl, rfl⟩)
    go_ret
    exact ⟨rfl, rfl⟩
end Go.Proofs.YtdklelnllhpbfaaDoor
