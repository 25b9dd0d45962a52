/- The walk of 'laws.FnEncoded': it returns true for every two lists of bytes. No condition. -/
import Derived.Test.YtdklelnllhpbfaaDoorIEnc
import Derived.Test.YtdklelnllhpbfaaDoorSame
namespace Go.Proofs.YtdklelnllhpbfaaDoor
open Go.RowKit
set_option linter.unusedVariables false

theorem fnEncoded_out (a0 : Option Addr) (l0 : List UInt8) (c0 : Nat) (a1 : Option Addr) (l1 : List UInt8) (c1 : Nat) (W : World) (h : 2147483647 < l0.length ∨ 2147483647 < l1.length ∨ 5000 < l0.length ∨ 5000 < l1.length) :
    Calls Tryd.prog 3 #[.slice a0 l0.length c0, .slice a1 l1.length c1] W fun e w' => e = .returned (.bool true) ∧ Below W.heap.size W w' := by
  by_cases h1 : 2147483647 < l0.length
  · go_enter Tryd.func3, Tryd.ntmps3
    go_wp2
    go_ret
    exact ⟨rfl, Below.refl _ _⟩
  by_cases h2 : 2147483647 < l1.length
  · go_enter Tryd.func3, Tryd.ntmps3
    go_wp2
    go_ret
    exact ⟨rfl, Below.refl _ _⟩
  by_cases h3 : 5000 < l0.length
  · go_enter Tryd.func3, Tryd.ntmps3
    go_wp2
    go_ret
    exact ⟨rfl, Below.refl _ _⟩
  have h4 : 5000 < l1.length := by omega
  clear h
  go_enter Tryd.func3, Tryd.ntmps3
  go_wp2
  go_ret
  exact ⟨rfl, Below.refl _ _⟩

set_option maxHeartbeats 1000000 in
theorem fnEncoded_walk (a0 : Option Addr) (l0 : List UInt8) (c0 : Nat) (a1 : Option Addr) (l1 : List UInt8) (c1 : Nat) (W : World) (bs0 : BS W a0 l0) (bs1 : BS W a1 l1) :
    Calls Tryd.prog 3 #[.slice a0 l0.length c0, .slice a1 l1.length c1] W fun e w' => e = .returned (.bool true) ∧ Below W.heap.size W w' := by
  by_cases h : 2147483647 < l0.length ∨ 2147483647 < l1.length ∨ 5000 < l0.length ∨ 5000 < l1.length
  · exact fnEncoded_out a0 l0 c0 a1 l1 c1 W h
  have h1 : l0.length ≤ 5000 := by omega
  have h2 : l1.length ≤ 5000 := by omega
  clear h
  cases hh : hasHexB l1 with
  | true =>
    have H := hide hh
    clear hh
    go_enter Tryd.func3, Tryd.ntmps3
    go_wp2_with (go_at_call 5; ((with_reducible refine (hasHex_any _ _ _ _ bs1 (by omega)).mono ?_); rintro e w1 ⟨rfl, rfl⟩; rw [H.out]))
    go_ret
    exact ⟨rfl, Below.refl _ _⟩
  | false =>
    have hno := noHex_of hh
    have Hno := hide hno
    have H := hide hh
    have Hle := hide (enc_le (fun c => hasB c l1) l0)
    clear hh hno
    go_enter Tryd.func3, Tryd.ntmps3
    go_wp2_with (first
      | (go_at_call 5; ((with_reducible refine (hasHex_any _ _ _ _ bs1 (by omega)).mono ?_); rintro e w1 ⟨rfl, rfl⟩; rw [H.out]))
      | (go_at_call 7; ((with_reducible refine (iEnc_set _ _ _ _ _ _ _ bs0 bs1 Hno.out h1 h2).mono ?_); rintro e w1 ⟨A1, d1, rfl, hb1, hB1⟩))
      | (go_at_call 8; ((with_reducible refine (encS_any _ _ _ _ _ _ _ (bs0.below hB1) (bs1.below hB1) (by omega) (by omega) h1).mono ?_); rintro e w2 ⟨A2, d2, rfl, hb2, hB2⟩))
      | (go_at_call 6; ((with_reducible refine (same_n _ _ _ _ _ _ _ _ true _ (by simp) rfl rfl (hb1.below hB2) hb2).mono ?_); rintro e w3 ⟨rfl, rfl⟩)))
    go_ret
    exact ⟨rfl, hB1.trans (hB2.mono hB1.size)⟩
end Go.Proofs.YtdklelnllhpbfaaDoor
