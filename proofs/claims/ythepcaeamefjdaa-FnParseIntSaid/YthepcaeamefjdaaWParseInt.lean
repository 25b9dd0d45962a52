/- The walk of 'laws.FnParseInt': it returns true for every integer and every list of bytes. No condition. -/
import Derived.Test.YthepcaeamefjdaaParseI
import Derived.Test.YthepcaeamefjdaaWLens
import Derived.Test.YthepcaeamefjdaaWParseUint
namespace Go.Proofs.Ythepcaeamefjdaa
open Go.RowKit
set_option linter.unusedVariables false

theorem parseInt_dec (A : Option Addr) (n : Int) (r : List UInt8) (k c : Nat) (w : World) (hk : (decI n ++ r).length = k) (h : BS w A (decI n ++ r)) (h1 : k ≤ 2147483647) (hr : at_ isDig r 0 = false) (hn1 : -9223372036854775808 ≤ n) (hn2 : n ≤ 9223372036854775807) :
    Calls Try.prog 24 #[.slice A k c] w fun e w' => e = .returned (.tuple #[.int .i64 n, .int .i64 ((decI n).length : Int)]) ∧ w = w' := by
  subst hk
  by_cases hn : n < 0
  · have e := decI_neg hn
    have hD := DigitsAt.of [45] (dec n.natAbs) r 1 rfl (dec_digits _) hr
    have el : [45] ++ dec n.natAbs ++ r = decI n ++ r := by rw [e]; rfl
    rw [el] at hD
    have := parseInt_neg A (decI n ++ r) (dec n.natAbs) c w h h1 (by rw [e]; rfl) hD (dec_ne _) (by rw [dval_dec]; omega)
    rw [dval_dec] at this
    refine this.mono fun e' w' ⟨h2, h3⟩ => ⟨?_, h3⟩
    rw [h2]
    exact ret_two (by omega) (by rw [e, List.length_cons]; omega)
  · have e := decI_pos hn
    have hD := DigitsAt.of [] (dec n.natAbs) r 0 rfl (dec_digits _) hr
    have el : [] ++ dec n.natAbs ++ r = decI n ++ r := by rw [e]; rfl
    rw [el] at hD
    have := parseInt_none A (decI n ++ r) (dec n.natAbs) c w h h1 (dec_ne _) hD (dec_ne _) (by rw [dval_dec]; omega)
    rw [dval_dec] at this
    refine this.mono fun e' w' ⟨h2, h3⟩ => ⟨?_, h3⟩
    rw [h2]
    exact ret_two (by omega) (by rw [e]; omega)
theorem iParseInt_dec (A : Option Addr) (n : Int) (r : List UInt8) (k c : Nat) (w : World) (hk : (decI n ++ r).length = k) (h : BS w A (decI n ++ r)) (h1 : k ≤ 2147483647) (hr : at_ isDig r 0 = false) (hn1 : -9223372036854775808 ≤ n) (hn2 : n ≤ 9223372036854775807) :
    Calls Try.prog 14 #[.slice A k c] w fun e w' => e = .returned (.tuple #[.int .i64 n, .int .i64 ((decI n).length : Int)]) ∧ w = w' := by
  have Hk := hide hk
  clear hk
  go_enter Try.func14, Try.ntmps14
  go_wp2_with (go_at_call 24; refine (parseInt_dec _ n r _ _ _ Hk.out h h1 hr hn1 hn2).mono ?_; rintro e w1 ⟨rfl, rfl⟩)
  go_ret2
  exact ⟨rfl, rfl⟩
theorem decI_len (n : Int) (h1 : -9223372036854775808 ≤ n) (h2 : n ≤ 9223372036854775807) : (decI n).length ≤ 21 := by
  have := dec_len20 n.natAbs (by omega)
  unfold decI
  split
  · simp; omega
  · omega

set_option maxHeartbeats 1000000 in
theorem fnParseInt_walk (x : Int) (a : Option Addr) (l : List UInt8) (c : Nat) (W : World) (wx : (Lit.int .i64 x).wf = true) (bs : BS W a l) :
    Calls Try.prog 4 #[.int .i64 x, .slice a l.length c] W fun e w' => e = .returned (.bool true) ∧ Below W.heap.size W w' := by
  obtain ⟨h1, h2⟩ := bd_i64 wx
  clear wx
  by_cases hA : 2147483647 < l.length
  · go_enter Try.func4, Try.ntmps4
    go_wp2
    go_ret
    exact ⟨rfl, Below.refl _ _⟩
  by_cases hB : 5000 < l.length
  · go_enter Try.func4, Try.ntmps4
    go_wp2
    go_ret
    exact ⟨rfl, Below.refl _ _⟩
  cases hE : endsB l with
  | false =>
    have HE := hide hE
    clear hE
    go_enter Try.func4, Try.ntmps4
    go_wp2_with (go_at_call 9; refine (ends_n _ _ _ false _ HE.out bs).mono ?_; rintro e w1 ⟨rfl, rfl⟩)
    go_ret
    exact ⟨rfl, Below.refl _ _⟩
  | true =>
    have HE := hide hE
    clear hE
    have Hl := hide (decI_len x h1 h2)
    go_enter Try.func4, Try.ntmps4
    go_wp2_with (first
      | (go_at_call 9; refine (ends_n _ _ _ true _ HE.out bs).mono ?_; rintro e w1 ⟨rfl, rfl⟩)
      | (go_at_call 13; refine (integer_any x _ h1 h2).mono ?_; rintro e w1 ⟨A', c', rfl, own, hB1⟩))
    refine (join_two _ _ _ _ _ _ _ _ (HasParts.two rfl _ _ _ _ _ _ _ _ _ rfl rfl own.bs (bs.below hB1)) (by rw [List.length_append]; have := Hl.out; omega)).mono ?_
    rintro e w2 ⟨A2, c2, rfl, own2, hB2⟩
    go_wp2_with fail
    refine (iParseInt_dec _ x l _ _ _ (by simp) own2.bs (by have := Hl.out; simp; omega) (ends_dig HE.out) h1 h2).mono ?_
    rintro e w3 ⟨rfl, rfl⟩
    go_wp2
    go_ret
    exact ⟨ret_bool (by simp), (hB1.alloc hB1.size _).trans (hB2.mono (by have := hB1.size; simp; omega))⟩
end Go.Proofs.Ythepcaeamefjdaa
