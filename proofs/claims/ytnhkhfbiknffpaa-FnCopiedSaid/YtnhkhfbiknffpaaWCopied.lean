/- The walk of 'laws.FnCopied': it returns true for every list of bytes. No condition. -/
import Derived.Test.YtnhkhfbiknffpaaCopy
import Derived.Test.YtnhkhfbiknffpaaSame
namespace Go.Proofs.Ytnhkhfbiknffpaa
open Go.RowKit

set_option maxHeartbeats 400000 in
theorem fnCopied_walk (a : Option Addr) (l : List UInt8) (c : Nat) (W : World) (bs : BS W a l) :
    Calls Try.prog 3 #[.slice a l.length c] W fun e w' => e = .returned (.bool true) ∧ Below W.heap.size W w' := by
  by_cases h1 : 2147483647 < l.length
  · go_enter Try.func3, Try.ntmps3
    go_wp2
    go_ret
    exact ⟨rfl, Below.refl _ _⟩
  · by_cases h2 : 5000 < l.length
    · go_enter Try.func3, Try.ntmps3
      go_wp2
      go_ret
      exact ⟨rfl, Below.refl _ _⟩
    · go_enter Try.func3, Try.ntmps3
      go_wp2_with (first
        | (go_at_call 13; refine (copy_any _ _ _ _ bs (by omega)).mono ?_; rintro e w1 ⟨rfl, hb, hB⟩)
        | (go_at_call 6; refine (same_any _ _ _ _ _ _ _ hb.all (bs.below hB)).mono ?_; rintro e w2 ⟨rfl, rfl⟩)
        | go_in)
      go_ret
      exact ⟨by simp, hB⟩
end Go.Proofs.Ytnhkhfbiknffpaa
