/- How many bytes an integer has in decimal with its sign: what the package's function returns. Condition: the integer is one of 64 bits. -/
import Derived.Test.YtgalfebplancdaaLen
namespace Go.Proofs.Ytgalfebplancdaa
open Go.RowKit
set_option linter.unusedVariables false

/-- An integer in decimal. -/
def decI (n : Int) : List UInt8 := if n < 0 then 45 :: dec n.natAbs else dec n.natAbs
theorem decI_neg {n : Int} (h : n < 0) : decI n = 45 :: dec n.natAbs := by rw [decI, if_pos h]
theorem decI_pos {n : Int} (h : ¬ n < 0) : decI n = dec n.natAbs := by rw [decI, if_neg h]

set_option maxHeartbeats 1000000 in
theorem lenInt_any (n : Int) (w : World) (h1 : -9223372036854775808 ≤ n) (h2 : n ≤ 9223372036854775807) :
    Calls Try.prog 12 #[.int .i64 n] w fun e w' => e = .returned (.int .i64 ((decI n).length : Int)) ∧ w = w' := by
  by_cases hn : n < 0
  · by_cases hm : n = -9223372036854775808
    · subst hm
      have e : ((decI (-9223372036854775808)).length : Int) = 20 := by
        rw [decI_neg (by decide), List.length_cons, show (-9223372036854775808 : Int).natAbs = 9223372036854775808 from rfl, dec_len 18 _ (by decide) (by decide)]
        rfl
      have E := hide e
      clear e h1 h2 hn
      go_enter Try.func12, Try.ntmps12
      go_wp2
      go_ret
      exact ⟨ret_int E.out.symm, rfl⟩
    · obtain ⟨m, rfl⟩ : ∃ m : Nat, n = -(m : Int) := ⟨n.natAbs, by omega⟩
      have hb : ((-(m : Int)) == -9223372036854775808) = false := by rw [beq_eq_false_iff_ne]; exact hm
      have E := hide (decI_neg hn)
      rw [Int.natAbs_neg, Int.natAbs_natCast] at E
      have hl := dec_len20 m (by omega)
      have hm0 : 1 ≤ m := by omega
      have hm1 : (m : Int) ≤ 9223372036854775807 := by omega
      clear hm h2 h1
      go_enter Try.func12, Try.ntmps12
      go_wp2_with (go_at_call 15; refine (lenUint_any m _ (by omega)).mono ?_; rintro e w1 ⟨rfl, rfl⟩)
      go_ret
      exact ⟨ret_int (by rw [E.out, List.length_cons]; omega), rfl⟩
  · obtain ⟨m, rfl⟩ := Int.eq_ofNat_of_zero_le (show 0 ≤ n by omega)
    have E := hide (decI_pos hn)
    rw [Int.natAbs_natCast] at E
    go_enter Try.func12, Try.ntmps12
    go_wp2_with (go_at_call 15; refine (lenUint_any m _ (by omega)).mono ?_; rintro e w1 ⟨rfl, rfl⟩)
    go_ret
    exact ⟨ret_int (by rw [E.out]), rfl⟩
end Go.Proofs.Ytgalfebplancdaa
