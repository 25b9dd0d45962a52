/- The walk of 'laws.FnAppendInt': it returns true for every list of bytes and every integer. No condition. -/
import Derived.Test.YthepcaeamefjdaaAppInt
import Derived.Test.YthepcaeamefjdaaCopy
import Derived.Test.YthepcaeamefjdaaSame
import Derived.Test.YthepcaeamefjdaaJoin
import Derived.Test.YthepcaeamefjdaaWLens
namespace Go.Proofs.Ythepcaeamefjdaa
open Go.RowKit
set_option linter.unusedVariables false

theorem decI_len (n : Int) (h1 : -9223372036854775808 ≤ n) (h2 : n ≤ 9223372036854775807) : (decI n).length ≤ 21 := by
  have := dec_len20 n.natAbs (by omega)
  unfold decI
  split
  · simp; omega
  · omega
theorem iAppInt_any (a : Option Addr) (n : Int) (l : List UInt8) (c : Nat) (w : World) (bs : BS w a l) (h1 : l.length ≤ 2147483647) (hn1 : -9223372036854775808 ≤ n) (hn2 : n ≤ 9223372036854775807) :
    Calls Try.prog 18 #[.slice a l.length c, .int .i64 n] w (OwnRetB w.heap.size (l ++ decI n) w) := by
  go_enter Try.func18, Try.ntmps18
  go_wp2_with (first
    | (go_at_call 30; refine (copy_any _ _ _ _ bs h1).mono ?_; rintro e w1 ⟨rfl, hb, hB⟩)
    | (go_at_call 27; refine (appInt_any w.heap.size _ _ _ _ (OwnB.of_blk hb (Nat.le_refl _) rfl (by omega)) h1 hB.size hn1 hn2).mono ?_; rintro e w2 ⟨A', c', rfl, own, hB2⟩)
    | go_in)
  go_ret
  exact ⟨A', c', by simp, by simpa using own, hB.trans hB2⟩

set_option maxHeartbeats 1000000 in
theorem fnAppendInt_walk (a : Option Addr) (l : List UInt8) (c : Nat) (x : Int) (W : World) (bs : BS W a l) (wx : (Lit.int .i64 x).wf = true) :
    Calls Try.prog 7 #[.slice a l.length c, .int .i64 x] W fun e w' => e = .returned (.bool true) ∧ Below W.heap.size W w' := by
  obtain ⟨h1, h2⟩ := bd_i64 wx
  clear wx
  by_cases hA : 2147483647 < l.length
  · go_enter Try.func7, Try.ntmps7
    go_wp2
    go_ret
    exact ⟨rfl, Below.refl _ _⟩
  by_cases hB : 5000 < l.length
  · go_enter Try.func7, Try.ntmps7
    go_wp2
    go_ret
    exact ⟨rfl, Below.refl _ _⟩
  have Hl := hide (decI_len x h1 h2)
  go_enter Try.func7, Try.ntmps7
  go_wp2_with fail
  refine (iAppInt_any _ _ _ _ _ bs (by omega) h1 h2).mono ?_
  rintro e w1 ⟨A1, c1, rfl, own1, hB1⟩
  go_wp2_with fail
  refine (integer_any x _ h1 h2).mono ?_
  rintro e w2 ⟨A2, c2, rfl, own2, hB2⟩
  go_wp2_with fail
  refine (join_two _ _ _ _ _ _ _ _ (HasParts.two rfl _ _ _ _ _ _ _ _ _ rfl rfl ((bs.below hB1).below hB2) own2.bs) (by rw [List.length_append]; have := Hl.out; omega)).mono ?_
  rintro e w3 ⟨A3, c3, rfl, own3, hB3⟩
  go_wp2_with fail
  refine (same_n _ _ _ _ _ _ _ _ true _ (by simp) (by simp) (by simp) (((own1.bs.below hB2).alloc _).below hB3) own3.bs).mono ?_
  rintro e w4 ⟨rfl, rfl⟩
  go_wp2
  go_ret
  exact ⟨rfl, ((hB1.trans (hB2.mono hB1.size)).alloc (by have := hB1.size; have := hB2.size; omega) _).trans (hB3.mono (by have := hB1.size; have := hB2.size; simp; omega))⟩
end Go.Proofs.Ythepcaeamefjdaa
