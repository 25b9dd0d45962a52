/- The reference's writing of an integer and the package's reading of it (as in other seats). Conditions: 64 bits. -/
import Derived.Test.YtggemljdmoegnaaDoorLen
import Derived.Test.YtggemljdmoegnaaDoorDecW
import Derived.Test.YtggemljdmoegnaaDoorParseI
import Derived.Test.YtggemljdmoegnaaDoorDigit
namespace Go.Proofs.YtggemljdmoegnaaDoor
open Go.RowKit
set_option linter.unusedVariables false

/-- An integer in decimal. -/
def decI (n : Int) : List UInt8 := if n < 0 then 45 :: dec n.natAbs else dec n.natAbs
theorem decI_neg {n : Int} (h : n < 0) : decI n = 45 :: dec n.natAbs := by rw [decI, if_pos h]
theorem decI_pos {n : Int} (h : ¬ n < 0) : decI n = dec n.natAbs := by rw [decI, if_neg h]

theorem neg_u64 (m : Nat) (h : m ≤ 9223372036854775808) : IntKind.u64.wrap (wrap64 (m : Int)) = (m : Int) := by
  simp only [IntKind.wrap, IntKind.signed, IntKind.bits, wrap64]
  simp
  omega

/-- The reference's writing of an integer. -/
theorem integer_any (n : Int) (w : World) (h1 : -9223372036854775808 ≤ n) (h2 : n ≤ 9223372036854775807) :
    Calls Tryd.prog 11 #[.int .i64 n] w (OwnRet (decI n) w) := by
  by_cases hn : n < 0
  · obtain ⟨m, rfl⟩ : ∃ m : Nat, n = -(m : Int) := ⟨n.natAbs, by omega⟩
    have E := hide (decI_neg hn)
    rw [Int.natAbs_neg, Int.natAbs_natCast] at E
    have W1 := hide (neg_u64 m (by omega))
    have Hm1 := hide (show (m : Int) ≤ 18446744073709551615 by omega)
    have hm0 : 1 ≤ m := by omega
    have Hl := hide (dec_len20 m (by omega))
    clear h1 h2 hn
    go_enter Tryd.func11, Tryd.ntmps11
    go_wp2_with fail
    rw [W1.out]
    refine (decimal_any m _ Hm1.out).mono ?_
    rintro e w1 ⟨A', c', rfl, own, hB⟩
    have own1 : OwnB (w.alloc (.cells #[.int .u8 45] 5)) w.heap.size (some ⟨w.heap.size, 0, none⟩) 1 1 [45] := OwnB.lit (Nat.le_refl _) rfl [45] 1 _ rfl (by omega) rfl
    have own2 := own1.below hB
    have hsz := hB.size
    simp at hsz
    obtain ⟨A2, c2, w2, hrun, own3, hg2, _⟩ := run_append8 (P := Tryd.prog) 22 22 Tryd.underlying22 u8_info own2 own.bs (dec m).length c' rfl (by have := Hl.out; omega) (by omega)
    have hbel2 := own2.bel (((Below.refl _ _).alloc (Nat.le_refl _) _).trans (hB.mono (by simp))) hg2 (by omega)
    have Hrun := hide hrun
    clear hrun own own1 own2 hg2
    go_wp2_with (at_builtin; refine wpList_append_run Hrun.out rfl _ _ rfl rfl rfl rfl ?_)
    go_ret
    exact ⟨A2, c2, by rw [E.out, List.length_cons, Nat.add_comm]; rfl, by rw [E.out, List.length_cons, Nat.add_comm]; exact own3, hbel2⟩
  · obtain ⟨m, rfl⟩ := Int.eq_ofNat_of_zero_le (show 0 ≤ n by omega)
    have E := hide (decI_pos hn)
    rw [Int.natAbs_natCast] at E
    clear h1 hn
    go_enter Tryd.func11, Tryd.ntmps11
    go_wp2_with (go_at_call 14; refine (decimal_any m _ (by omega)).mono ?_; rintro e w1 ⟨A', c', rfl, own, hB⟩)
    go_ret
    exact ⟨A', c', by rw [E.out]; rfl, by rw [E.out]; exact own, hB⟩

theorem parseInt_dec (A : Option Addr) (n : Int) (r : List UInt8) (k c : Nat) (w : World) (hk : (decI n ++ r).length = k) (h : BS w A (decI n ++ r)) (h1 : k ≤ 2147483647) (hr : at_ isDig r 0 = false) (hn1 : -9223372036854775808 ≤ n) (hn2 : n ≤ 9223372036854775807) :
    Calls Tryd.prog 20 #[.slice A k c] w fun e w' => e = .returned (.tuple #[.int .i64 n, .int .i64 ((decI n).length : Int)]) ∧ w = w' := by
  subst hk
  by_cases hn : n < 0
  · have e := decI_neg hn
    have hD := DigitsAt.of [45] (dec n.natAbs) r 1 rfl (dec_digits _) hr
    have el : [45] ++ dec n.natAbs ++ r = decI n ++ r := by rw [e]; rfl
    rw [el] at hD
    have := parseInt_neg A (decI n ++ r) (dec n.natAbs) c w h h1 (by rw [e]; rfl) hD (dec_ne _) (by rw [dval_dec]; omega)
    rw [dval_dec] at this
    refine this.mono fun e' w' ⟨h2, h3⟩ => ⟨?_, h3⟩
    rw [h2]
    exact ret_two (by omega) (by rw [e, List.length_cons]; omega)
  · have e := decI_pos hn
    have hD := DigitsAt.of [] (dec n.natAbs) r 0 rfl (dec_digits _) hr
    have el : [] ++ dec n.natAbs ++ r = decI n ++ r := by rw [e]; rfl
    rw [el] at hD
    have := parseInt_none A (decI n ++ r) (dec n.natAbs) c w h h1 (dec_ne _) hD (dec_ne _) (by rw [dval_dec]; omega)
    rw [dval_dec] at this
    refine this.mono fun e' w' ⟨h2, h3⟩ => ⟨?_, h3⟩
    rw [h2]
    exact ret_two (by omega) (by rw [e]; omega)
theorem decI_len (n : Int) (h1 : -9223372036854775808 ≤ n) (h2 : n ≤ 9223372036854775807) : (decI n).length ≤ 21 := by
  have := dec_len20 n.natAbs (by omega)
  unfold decI
  split
  · simp; omega
  · omega

theorem ends_dig {l : List UInt8} (h : endsB l = true) : at_ isDig l 0 = false := by
  unfold endsB at h
  unfold at_ at h ⊢
  cases hh : l[0]? with
  | none => rfl
  | some c =>
    rw [hh] at h
    simp only [Bool.not_eq_true'] at h
    cases hd : isDig c with
    | false => exact hd
    | true => rw [goes_dig hd] at h; cases h

end Go.Proofs.YtggemljdmoegnaaDoor
