/- The walk of 'laws.FnParseUint': it returns true for every number and every list of bytes. No condition. -/
import Derived.Test.YthepcaeamefjdaaParseU
import Derived.Test.YthepcaeamefjdaaJoin
import Derived.Test.YthepcaeamefjdaaDigit
namespace Go.Proofs.Ythepcaeamefjdaa
open Go.RowKit
set_option linter.unusedVariables false

theorem bdu_u64 {n : Int} (h : (Lit.int .u64 n).wf = true) : 0 ≤ n ∧ n ≤ 18446744073709551615 := by
  have := bounds_u64 h
  omega
theorem ends_n (A : Option Addr) (l : List UInt8) (c : Nat) (b : Bool) (w : World) (hb : endsB l = b) (h : BS w A l) :
    Calls Try.prog 9 #[.slice A l.length c] w fun e w' => e = .returned (.bool b) ∧ w = w' := by
  subst hb
  exact ends_any A l c w h
theorem ends_dig {l : List UInt8} (h : endsB l = true) : at_ isDig l 0 = false := by
  unfold endsB at h
  unfold at_ at h ⊢
  cases hh : l[0]? with
  | none => rfl
  | some c =>
    rw [hh] at h
    simp only [Bool.not_eq_true'] at h
    cases hd : isDig c with
    | false => exact hd
    | true => rw [goes_dig hd] at h; cases h

theorem iParseUint_any (A : Option Addr) (l ds : List UInt8) (n c : Nat) (w : World) (hn : l.length = n) (h : BS w A l) (h1 : n ≤ 2147483647) (hd : Digits l ds) (hv : dval ds ≤ 18446744073709551615) :
    Calls Try.prog 11 #[.slice A n c] w fun e w' => e = .returned (.tuple #[.int .u64 (dval ds : Int), .int .i64 (ds.length : Int)]) ∧ w = w' := by
  subst hn
  go_enter Try.func11, Try.ntmps11
  go_wp2_with (go_at_call 23; refine (parseUint_any _ _ _ _ _ h h1 hd hv).mono ?_; rintro e w1 ⟨rfl, rfl⟩)
  go_ret2
  exact ⟨rfl, rfl⟩

set_option maxHeartbeats 1000000 in
theorem fnParseUint_walk (x : Int) (a : Option Addr) (l : List UInt8) (c : Nat) (W : World) (wx : (Lit.int .u64 x).wf = true) (bs : BS W a l) :
    Calls Try.prog 3 #[.int .u64 x, .slice a l.length c] W fun e w' => e = .returned (.bool true) ∧ Below W.heap.size W w' := by
  obtain ⟨h1, h2⟩ := bdu_u64 wx
  obtain ⟨m, rfl⟩ := Int.eq_ofNat_of_zero_le h1
  clear wx h1
  by_cases hA : 2147483647 < l.length
  · go_enter Try.func3, Try.ntmps3
    go_wp2
    go_ret
    exact ⟨rfl, Below.refl _ _⟩
  by_cases hB : 5000 < l.length
  · go_enter Try.func3, Try.ntmps3
    go_wp2
    go_ret
    exact ⟨rfl, Below.refl _ _⟩
  cases hE : endsB l with
  | false =>
    have HE := hide hE
    clear hE
    go_enter Try.func3, Try.ntmps3
    go_wp2_with (go_at_call 9; refine (ends_n _ _ _ false _ HE.out bs).mono ?_; rintro e w1 ⟨rfl, rfl⟩)
    go_ret
    exact ⟨rfl, Below.refl _ _⟩
  | true =>
    have HE := hide hE
    clear hE
    have Hl := hide (dec_len20 m (by omega))
    have Hv := hide (dval_dec m)
    have Hdig := hide (Digits.of (dec m) l (dec_digits m) (ends_dig HE.out))
    go_enter Try.func3, Try.ntmps3
    go_wp2_with (first
      | (go_at_call 9; refine (ends_n _ _ _ true _ HE.out bs).mono ?_; rintro e w1 ⟨rfl, rfl⟩)
      | (go_at_call 10; refine (decimal_any m _ (by omega)).mono ?_; rintro e w1 ⟨A', c', rfl, own, hB1⟩))
    refine (join_two _ _ _ _ _ _ _ _ (HasParts.two rfl _ _ _ _ _ _ _ _ _ rfl rfl own.bs (bs.below hB1)) (by rw [List.length_append]; have := Hl.out; omega)).mono ?_
    rintro e w2 ⟨A2, c2, rfl, own2, hB2⟩
    go_wp2_with fail
    refine (iParseUint_any _ _ (dec m) _ _ _ (by simp) own2.bs (by have := Hl.out; simp; omega) Hdig.out (by rw [Hv.out]; omega)).mono ?_
    rintro e w3 ⟨rfl, rfl⟩
    rw [Hv.out]
    go_wp2
    go_ret
    exact ⟨ret_bool (by simp), (hB1.alloc hB1.size _).trans (hB2.mono (by have := hB1.size; simp; omega))⟩
end Go.Proofs.Ythepcaeamefjdaa
