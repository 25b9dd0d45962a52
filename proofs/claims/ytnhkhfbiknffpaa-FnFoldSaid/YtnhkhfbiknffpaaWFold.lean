/- The walk of 'laws.FnFold': it returns true for every two lists of bytes. No condition. -/
import Derived.Test.YtnhkhfbiknffpaaFold
import Derived.Lib.SlBytesConst
namespace Go.Proofs.Ytnhkhfbiknffpaa
open Go.RowKit
set_option linter.unusedVariables false

set_option maxHeartbeats 400000 in
theorem fnFold_walk (a0 : Option Addr) (l0 : List UInt8) (c0 : Nat) (a1 : Option Addr) (l1 : List UInt8) (c1 : Nat) (W : World) (bs0 : BS W a0 l0) (bs1 : BS W a1 l1) :
    Calls Try.prog 4 #[.slice a0 l0.length c0, .slice a1 l1.length c1] W fun e w' => e = .returned (.bool true) ∧ Below W.heap.size W w' := by
  by_cases h1 : 5000 < l0.length
  · by_cases h0 : 2147483647 < l0.length
    all_goals
      go_enter Try.func4, Try.ntmps4
      go_wp2
      all_goals go_ret
      all_goals exact ⟨rfl, Below.refl _ _⟩
  · by_cases h2 : 5000 < l1.length
    · by_cases h0 : 2147483647 < l1.length
      all_goals
        go_enter Try.func4, Try.ntmps4
        go_wp2
        go_ret
        exact ⟨rfl, Below.refl _ _⟩
    · cases hL : l1.all isLow with
      | false =>
        have HL := hide hL
        clear hL
        go_enter Try.func4, Try.ntmps4
        go_wp2_with (go_at_call 8; refine (isLower_any _ _ _ _ bs1 (by omega)).mono ?_; rintro e w1 ⟨rfl, rfl⟩; rw [HL.out])
        go_ret
        exact ⟨rfl, Below.refl _ _⟩
      | true =>
        have HE := hide (eqBy_lower (s := l0) (t := l1) (fun c hc => by
          have := List.all_eq_true.1 hL c hc
          exact (beq_iff_eq.1 this).symm))
        have HL := hide hL
        clear hL
        have kc1 := run_bytes_lit1 (P := Try.prog) 22 5 Try.underlying22 Try.underlying5 W
        have kc2 := run_bytes_lit2 (P := Try.prog) 22 5 Try.underlying22 Try.underlying5 W
        cases hE : eqBy okI l0 l1 with
        | false =>
          have hE2 : eqBy okS l0 l1 = false := by rw [← HE.out, hE]
          go_enter Try.func4, Try.ntmps4
          go_wp2_with (first
            | (go_at_call 8; ((with_reducible refine (isLower_any _ _ _ _ bs1 (by omega)).mono ?_); rintro e w1 ⟨rfl, rfl⟩; rw [HL.out]))
            | (go_at_call 9; ((with_reducible refine (efW_any _ _ _ _ _ _ _ bs0 bs1 (by omega) (by omega)).mono ?_); rintro e w1 ⟨rfl, rfl⟩))
            | (go_at_call 10; ((with_reducible refine (efS_any _ _ _ _ _ _ _ bs0 bs1 (by omega) (by omega)).mono ?_); rintro e w1 ⟨rfl, n, rfl⟩))
            | fail)
          refine (efW_n _ _ [97, 66] [97, 98] _ _ _ _ true _ (by rfl) (by rfl) (by rfl) ?_ ?_ (by decide) (by decide)).mono ?_
          · exact (BS.lit (w := W.drewN n) rfl [97, 66] _ _ _ rfl).alloc _
          · exact BS.lit (by simp) [97, 98] _ _ _ rfl
          rintro e w1 ⟨rfl, rfl⟩
          go_wp2
          go_ret
          exact ⟨rfl, ((below_drewN (Below.refl _ _) _).alloc (by simp) _).alloc (by simp) _⟩
        | true =>
          have hE2 : eqBy okS l0 l1 = true := by rw [← HE.out, hE]
          go_enter Try.func4, Try.ntmps4
          go_wp2_with (first
            | (go_at_call 8; ((with_reducible refine (isLower_any _ _ _ _ bs1 (by omega)).mono ?_); rintro e w1 ⟨rfl, rfl⟩; rw [HL.out]))
            | (go_at_call 9; ((with_reducible refine (efW_any _ _ _ _ _ _ _ bs0 bs1 (by omega) (by omega)).mono ?_); rintro e w1 ⟨rfl, rfl⟩))
            | (go_at_call 10; ((with_reducible refine (efS_any _ _ _ _ _ _ _ bs0 bs1 (by omega) (by omega)).mono ?_); rintro e w1 ⟨rfl, n, rfl⟩))
            | fail)
          refine (efW_n _ _ [97, 66] [97, 98] _ _ _ _ true _ (by rfl) (by rfl) (by rfl) ?_ ?_ (by decide) (by decide)).mono ?_
          · exact (BS.lit (w := W.drewN n) rfl [97, 66] _ _ _ rfl).alloc _
          · exact BS.lit (by simp) [97, 98] _ _ _ rfl
          rintro e w1 ⟨rfl, rfl⟩
          go_wp2
          go_ret
          exact ⟨rfl, ((below_drewN (Below.refl _ _) _).alloc (by simp) _).alloc (by simp) _⟩
end Go.Proofs.Ytnhkhfbiknffpaa
