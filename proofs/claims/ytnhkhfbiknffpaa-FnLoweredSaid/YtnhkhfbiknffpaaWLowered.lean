/- The walk of 'laws.FnLowered': it returns true for every list of bytes. No condition. -/
import Derived.Test.YtnhkhfbiknffpaaCopy
import Derived.Test.YtnhkhfbiknffpaaSame
import Derived.Test.YtnhkhfbiknffpaaLowered
namespace Go.Proofs.Ytnhkhfbiknffpaa
open Go.RowKit
set_option linter.unusedVariables false

theorem iLower_any (a : Option Addr) (l : List UInt8) (c : Nat) (W : World) (bs : BS W a l) (h1 : l.length ≤ 2147483647) :
    Calls Try.prog 11 #[.slice a l.length c] W fun e w' => e = .returned (.slice (some ⟨W.heap.size, 0, none⟩) l.length l.length) ∧ Blk8 w' W.heap.size (l.map lowB) ∧ Below W.heap.size W w' := by
  go_enter Try.func11, Try.ntmps11
  go_wp2_with (first
    | (go_at_call 13; refine (copy_any _ _ _ _ bs h1).mono ?_; rintro e w1 ⟨rfl, hb, hB⟩)
    | (go_at_call 16; refine (toLower_any _ _ _ _ hb h1).mono ?_; rintro e w2 ⟨rfl, hb2, hg⟩))
  go_ret
  exact ⟨rfl, hb2, hB.grown hg hB.size (fun k hk => by injection hk with hk; omega)⟩

set_option maxHeartbeats 400000 in
theorem fnLowered_walk (a : Option Addr) (l : List UInt8) (c : Nat) (W : World) (bs : BS W a l) :
    Calls Try.prog 5 #[.slice a l.length c] W fun e w' => e = .returned (.bool true) ∧ Below W.heap.size W w' := by
  by_cases h1 : 2147483647 < l.length
  · go_enter Try.func5, Try.ntmps5
    go_wp2
    go_ret
    exact ⟨rfl, Below.refl _ _⟩
  · by_cases h2 : 5000 < l.length
    · go_enter Try.func5, Try.ntmps5
      go_wp2
      go_ret
      exact ⟨rfl, Below.refl _ _⟩
    · go_enter Try.func5, Try.ntmps5
      go_wp2_with fail
      refine (iLower_any _ _ _ _ bs (by omega)).mono ?_
      rintro e w1 ⟨rfl, hb, hB⟩
      go_wp2_with fail
      refine (lowered_any _ _ _ _ (bs.below hB) (by omega)).mono ?_
      rintro e w2 ⟨A', c', rfl, hb2, hB2⟩
      go_wp2_with fail
      refine (same_n _ _ _ _ _ _ _ _ true _ (by simp) (by simp) (by simp) (hb.below hB2 hb.lt).all hb2).mono ?_
      rintro e w3 ⟨rfl, rfl⟩
      go_wp2
      go_ret
      exact ⟨rfl, hB.trans (hB2.mono hB.size)⟩
end Go.Proofs.Ytnhkhfbiknffpaa
