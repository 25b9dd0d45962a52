/- The walk of 'laws.FnDecoded': it returns true for every list of bytes. No condition. -/
import Derived.Test.YteinmabdkkddiaaCopy
import Derived.Test.YteinmabdkkddiaaSame
import Derived.Test.YteinmabdkkddiaaHas
import Derived.Test.YteinmabdkkddiaaDecI
import Derived.Test.YteinmabdkkddiaaDecS
namespace Go.Proofs.Yteinmabdkkddiaa
open Go.RowKit
set_option linter.unusedVariables false

theorem iDecode_any (a : Option Addr) (l : List UInt8) (c : Nat) (W : World) (bs : BS W a l) (hno : NoPlus l 0) (h1 : l.length ≤ 2147483647) :
    Calls Try.prog 8 #[.slice a l.length c] W fun e w' => e = .returned (.slice (some ⟨W.heap.size, 0, none⟩) (unesc l).length l.length) ∧ BS w' (some ⟨W.heap.size, 0, none⟩) (unesc l) ∧ Below W.heap.size W w' := by
  go_enter Try.func8, Try.ntmps8
  go_wp2_with fail
  refine (copy_any _ _ _ _ bs h1).mono ?_
  rintro e w1 ⟨rfl, hb, hB⟩
  have own := OwnB.ofBlk (base := W.heap.size) hb (Nat.le_refl _) (by unfold maxLen; omega)
  go_wp2_with fail
  refine (decodeI _ _ _ _ _ own hno h1).mono ?_
  rintro e w2 ⟨rfl, own2, hg⟩
  go_wp2
  go_ret
  exact ⟨rfl, own2.bs, hB.grown hg hB.size (fun k hk => by injection hk with hk; omega)⟩

set_option maxHeartbeats 400000 in
theorem fnDecoded_walk (a : Option Addr) (l : List UInt8) (c : Nat) (W : World) (bs : BS W a l) :
    Calls Try.prog 3 #[.slice a l.length c] W fun e w' => e = .returned (.bool true) ∧ Below W.heap.size W w' := by
  by_cases h1 : 2147483647 < l.length
  · go_enter Try.func3, Try.ntmps3
    go_wp2
    go_ret
    exact ⟨rfl, Below.refl _ _⟩
  · by_cases h2 : 5000 < l.length
    · go_enter Try.func3, Try.ntmps3
      go_wp2
      go_ret
      exact ⟨rfl, Below.refl _ _⟩
    · cases hh : hasB 43 l with
      | true =>
        have H := hide hh
        clear hh
        go_enter Try.func3, Try.ntmps3
        go_wp2_with fail
        refine (has_n _ _ _ _ 43 _ true _ rfl rfl H.out bs (by omega)).mono ?_
        rintro e w1 ⟨rfl, rfl⟩
        go_wp2
        go_ret
        exact ⟨rfl, Below.refl _ _⟩
      | false =>
        have H := hide hh
        clear hh
        go_enter Try.func3, Try.ntmps3
        go_wp2_with fail
        refine (has_n _ _ _ _ 43 _ false _ rfl rfl H.out bs (by omega)).mono ?_
        rintro e w1 ⟨rfl, rfl⟩
        go_wp2_with fail
        refine (iDecode_any _ _ _ _ bs (fun j x _ hx => has_false H.out hx) (by omega)).mono ?_
        rintro e w1 ⟨rfl, hb, hB⟩
        go_wp2_with fail
        refine (decodeS _ _ _ _ (bs.below hB) (by omega)).mono ?_
        rintro e w2 ⟨A', c', rfl, hb2, hB2⟩
        go_wp2_with fail
        refine (same_n _ _ _ _ _ _ _ _ true _ (by simp) (by simp) (by simp) (hb.below hB2) hb2).mono ?_
        rintro e w3 ⟨rfl, rfl⟩
        go_wp2
        go_ret
        exact ⟨rfl, hB.trans (hB2.mono hB.size)⟩
end Go.Proofs.Yteinmabdkkddiaa
