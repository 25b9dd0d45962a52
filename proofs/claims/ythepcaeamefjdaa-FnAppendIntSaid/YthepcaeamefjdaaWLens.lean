/- The walks of 'laws.FnLenUint' and 'laws.FnLenInt'; the reference's writing of an integer. No condition. -/
import Derived.Test.YthepcaeamefjdaaLenI
import Derived.Test.YthepcaeamefjdaaDecW
namespace Go.Proofs.Ythepcaeamefjdaa
open Go.RowKit
set_option linter.unusedVariables false

theorem bd_u64 {n : Int} (h : (Lit.int .u64 n).wf = true) : 0 ≤ n ∧ n ≤ 18446744073709551615 := by
  have := bounds_u64 h
  omega
theorem bd_i64 {n : Int} (h : (Lit.int .i64 n).wf = true) : -9223372036854775808 ≤ n ∧ n ≤ 9223372036854775807 := by
  have := bounds_i64 h
  omega

theorem fnLenUint_walk (x : Int) (W : World) (wx : (Lit.int .u64 x).wf = true) :
    Calls Try.prog 5 #[.int .u64 x] W fun e w' => e = .returned (.bool true) ∧ Below W.heap.size W w' := by
  obtain ⟨h1, h2⟩ := bd_u64 wx
  obtain ⟨m, rfl⟩ := Int.eq_ofNat_of_zero_le h1
  clear wx h1
  go_enter Try.func5, Try.ntmps5
  go_wp2_with (first
    | (go_at_call 25; refine (lenUint_any m _ (by omega)).mono ?_; rintro e w1 ⟨rfl, rfl⟩)
    | (go_at_call 10; refine (decimal_any m _ (by omega)).mono ?_; rintro e w1 ⟨A', c', rfl, own, hB⟩)
    | go_in)
  go_ret
  exact ⟨ret_bool (by simp), hB⟩

theorem neg_u64 (m : Nat) (h : m ≤ 9223372036854775808) : IntKind.u64.wrap (wrap64 (m : Int)) = (m : Int) := by
  simp only [IntKind.wrap, IntKind.signed, IntKind.bits, wrap64]
  simp
  omega

/-- The reference's writing of an integer. -/
theorem integer_any (n : Int) (w : World) (h1 : -9223372036854775808 ≤ n) (h2 : n ≤ 9223372036854775807) :
    Calls Try.prog 13 #[.int .i64 n] w (OwnRet (decI n) w) := by
  by_cases hn : n < 0
  · obtain ⟨m, rfl⟩ : ∃ m : Nat, n = -(m : Int) := ⟨n.natAbs, by omega⟩
    have E := hide (decI_neg hn)
    rw [Int.natAbs_neg, Int.natAbs_natCast] at E
    have W1 := hide (neg_u64 m (by omega))
    have Hm1 := hide (show (m : Int) ≤ 18446744073709551615 by omega)
    have hm0 : 1 ≤ m := by omega
    have Hl := hide (dec_len20 m (by omega))
    clear h1 h2 hn
    go_enter Try.func13, Try.ntmps13
    go_wp2_with fail
    rw [W1.out]
    refine (decimal_any m _ Hm1.out).mono ?_
    rintro e w1 ⟨A', c', rfl, own, hB⟩
    have own1 : OwnB (w.alloc (.cells #[.int .u8 45] 5)) w.heap.size (some ⟨w.heap.size, 0, none⟩) 1 1 [45] := OwnB.lit (Nat.le_refl _) rfl [45] 1 _ rfl (by omega) rfl
    have own2 := own1.below hB
    have hsz := hB.size
    simp at hsz
    obtain ⟨A2, c2, w2, hrun, own3, hg2, _⟩ := run_append8 (P := Try.prog) 23 23 Try.underlying23 u8_info own2 own.bs (dec m).length c' rfl (by have := Hl.out; omega) (by omega)
    have hbel2 := own2.bel (((Below.refl _ _).alloc (Nat.le_refl _) _).trans (hB.mono (by simp))) hg2 (by omega)
    have Hrun := hide hrun
    clear hrun own own1 own2 hg2
    go_wp2_with (at_builtin; refine wpList_append_run Hrun.out rfl _ _ rfl rfl rfl rfl ?_)
    go_ret
    exact ⟨A2, c2, by rw [E.out, List.length_cons, Nat.add_comm]; rfl, by rw [E.out, List.length_cons, Nat.add_comm]; exact own3, hbel2⟩
  · obtain ⟨m, rfl⟩ := Int.eq_ofNat_of_zero_le (show 0 ≤ n by omega)
    have E := hide (decI_pos hn)
    rw [Int.natAbs_natCast] at E
    clear h1 hn
    go_enter Try.func13, Try.ntmps13
    go_wp2_with (go_at_call 10; refine (decimal_any m _ (by omega)).mono ?_; rintro e w1 ⟨A', c', rfl, own, hB⟩)
    go_ret
    exact ⟨A', c', by rw [E.out]; rfl, by rw [E.out]; exact own, hB⟩

theorem fnLenInt_walk (x : Int) (W : World) (wx : (Lit.int .i64 x).wf = true) :
    Calls Try.prog 6 #[.int .i64 x] W fun e w' => e = .returned (.bool true) ∧ Below W.heap.size W w' := by
  obtain ⟨h1, h2⟩ := bd_i64 wx
  clear wx
  go_enter Try.func6, Try.ntmps6
  go_wp2_with (first
    | (go_at_call 26; refine (lenInt_any x _ h1 h2).mono ?_; rintro e w1 ⟨rfl, rfl⟩)
    | (go_at_call 13; refine (integer_any x _ h1 h2).mono ?_; rintro e w1 ⟨A', c', rfl, own, hB⟩)
    | go_in)
  go_ret
  exact ⟨ret_bool (by simp), hB⟩
end Go.Proofs.Ythepcaeamefjdaa
