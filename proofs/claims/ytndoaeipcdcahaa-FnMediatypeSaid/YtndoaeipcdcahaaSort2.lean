/- sort.Strings of at most twelve strings leaves a permutation of them. Condition: the slice is the call's own and has at most twelve elements. -/
import Derived.Test.YtndoaeipcdcahaaSort
namespace Go.Proofs.Ytndoaeipcdcahaa
open Go.RowKit
set_option linter.unusedVariables false
set_option linter.unusedSimpArgs false
section
variable {w w' : World} {base g n cap : Nat} {xs ys : List (List UInt8)}
def SortRet (base g n cap : Nat) (xs : List (List UInt8)) (w : World) (e : Ending) (w' : World) : Prop := e = .returned (.tuple #[]) ∧ ∃ ys, ys.Perm xs ∧ Strs w' base g n cap ys ∧ w.grownBy w' (some g)
set_option maxRecDepth 100000 in
set_option maxHeartbeats 2000000 in
theorem pdq (lim : Int) (w : World) (h : Strs w base g n cap xs) (hn : n ≤ 12) :
    Calls Try.prog 15 #[.slice (some ⟨g, 0, none⟩) n cap, .int .i64 0, .int .i64 (n : Int), .int .i64 lim] w (SortRet base g n cap xs w) := by
  have H0 := hide h
  clear h
  have e0 : (n : Int) - 0 = (n : Int) := by omega
  go_enter Try.func15, Try.ntmps15
  go_wp2
  go_loopg [1, 2] 1 (fun gk av bv wr => av = .int .i64 0 ∧ bv = .int .i64 (n : Int) ∧ wr = w)
  case atStart => exact ⟨rfl, rfl, rfl⟩
  case round =>
    obtain ⟨rfl, rfl, rfl⟩ := hrel
    go_wp2_with (go_at_call 17; (with_reducible refine (insertion _ H0.out hn).mono ?_); rintro e w2 ⟨rfl, ys, hp, hs, hg⟩)
    (try simp only [Exit.inBlock, Exit.then])
    first | refine bodyPost_ret (results_none rfl _ _ _) rfl ?_ | refine bodyPost_end (results_none rfl _ _ _) rfl ?_
    exact ⟨rfl, ys, hp, hs, hg⟩
set_option maxRecDepth 100000 in
set_option maxHeartbeats 2000000 in
theorem len64_any (k : Nat) (w : World) (hk : k ≤ 12) : Calls Try.prog 27 #[.int .u64 (k : Int)] w fun e w' => (∃ z, e = .returned (.int .i64 z)) ∧ w = w' := by
  obtain rfl | rfl | rfl | rfl | rfl | rfl | rfl | rfl | rfl | rfl | rfl | rfl | rfl : k = 0 ∨ k = 1 ∨ k = 2 ∨ k = 3 ∨ k = 4 ∨ k = 5 ∨ k = 6 ∨ k = 7 ∨ k = 8 ∨ k = 9 ∨ k = 10 ∨ k = 11 ∨ k = 12 := by omega
  all_goals
    go_enter Try.func27, Try.ntmps27
    go_wp2
    go_ret
    exact ⟨⟨_, rfl⟩, rfl⟩
theorem len_any (k : Nat) (w : World) (hk : k ≤ 12) : Calls Try.prog 16 #[.int .u64 (k : Int)] w fun e w' => (∃ z, e = .returned (.int .i64 z)) ∧ w = w' := by
  go_enter Try.func16, Try.ntmps16
  go_wp2_with (go_at_call 27; (with_reducible refine (len64_any k _ hk).mono ?_); rintro e w2 ⟨⟨z, rfl⟩, rfl⟩)
  go_ret
  exact ⟨⟨_, rfl⟩, rfl⟩
theorem sort_any (w : World) (h : Strs w base g n cap xs) (hn : n ≤ 12) :
    Calls Try.prog 14 #[.slice (some ⟨g, 0, none⟩) n cap] w (SortRet base g n cap xs w) := by
  have H0 := hide h
  clear h
  go_enter Try.func14, Try.ntmps14
  go_wp2_with (first
    | (go_at_call 16; (with_reducible refine (len_any n _ hn).mono ?_); rintro e w2 ⟨⟨z, rfl⟩, rfl⟩)
    | (go_at_call 15; (with_reducible refine (pdq _ _ H0.out hn).mono ?_); rintro e w2 ⟨rfl, ys, hp, hs, hg⟩))
  go_end0
  exact ⟨rfl, ys, hp, hs, hg⟩
theorem strings_any (w : World) (h : Strs w base g n cap xs) (hn : n ≤ 12) :
    Calls Try.prog 12 #[.slice (some ⟨g, 0, none⟩) n cap] w (SortRet base g n cap xs w) := by
  have H0 := hide h
  clear h
  go_enter Try.func12, Try.ntmps12
  go_wp2_with (go_at_call 14; (with_reducible refine (sort_any _ H0.out hn).mono ?_); rintro e w2 ⟨rfl, ys, hp, hs, hg⟩)
  go_end0
  exact ⟨rfl, ys, hp, hs, hg⟩
end
end Go.Proofs.Ytndoaeipcdcahaa
