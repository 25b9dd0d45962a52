/- The reference's test whether a text is another one in small letters. Conditions: the lists are shorter than 2^31. -/
import Derived.Test.YtfghakcgpomdkaaDoorLow
namespace Go.Proofs.YtfghakcgpomdkaaDoor
open Go.RowKit
set_option linter.unusedVariables false

set_option maxHeartbeats 400000 in
theorem efS_any (A B : Option Addr) (s t : List UInt8) (c d : Nat) (w : World) (hs : BS w A s) (ht : BS w B t) (h1 : s.length ≤ 2147483647) (h2 : t.length ≤ 2147483647) :
    Calls Tryd.prog 4 #[.slice A s.length c, .slice B t.length d] w fun e w' => e = .returned (.bool (eqBy okS s t)) ∧ ∃ n, w' = w.drewN n := by
  by_cases hl : s.length = t.length
  · have hle : s.length ≤ t.length := by omega
    have hge : t.length ≤ s.length := by omega
    have hbl : ((s.length : Int) != (t.length : Int)) = false := by rw [bne_eq_false_iff_eq]; omega
    have Hl := hide hl
    clear hl
    go_enter Tryd.func4, Tryd.ntmps4
    go_wp2
    clear hbl
    go_loopw [14] (fun i wr => ∃ k n : Nat, k ≤ s.length ∧ i = .int .i64 k ∧ wr = w.drewN n ∧ EqTo okS s t k) (fun i _ => s.length - (intOf i).toNat)
    case atStart => exact ⟨0, 0, Nat.zero_le _, rfl, rfl, EqTo.zero _ _ _⟩
    case round =>
      obtain ⟨k, n, hk, rfl, rfl, hto⟩ := hrel
      by_cases hlt : k < s.length
      · obtain ⟨d', hd'⟩ : ∃ x, s[k]? = some x := ⟨_, List.getElem?_eq_getElem hlt⟩
        obtain ⟨c', hc'⟩ : ∃ x, t[k]? = some x := ⟨_, List.getElem?_eq_getElem (by omega)⟩
        obtain ⟨b1, o1, rfl, cell1⟩ := hs.at_ hd'
        obtain ⟨b2, o2, rfl, cell2⟩ := ht.at_ hc'
        have Hd := hide hd'
        have Hc := hide hc'
        clear hd' hc'
        by_cases e1 : lowB d' = c'
        · have b1 : (((lowB d').toNat : Int) != (c'.toNat : Int)) = false := by rw [bne_eq_false_iff_eq, e1]
          have E1 := hide e1
          clear e1
          go_wp2
          go_quiet ((go_at_call 6; first | exact quiet_left (lower_any _ _) | exact quiet_add_left (lower_any _ _)))
          go_wp2
          go_roundw
          case rel => exact ⟨k + 1, _, by omega, by go_num, rfl, hto.succ Hd.out Hc.out (beq_iff_eq.2 E1.out)⟩
          case measure => simp [intOf]; omega
        · have b1 : (((lowB d').toNat : Int) != (c'.toNat : Int)) = true := by rw [bne_iff_ne]; exact fun h => e1 (UInt8.toNat_inj.1 (by omega))
          have E1 := hide e1
          clear e1
          go_wp2
          go_quiet ((go_at_call 6; first | exact quiet_left (lower_any _ _) | exact quiet_add_left (lower_any _ _)))
          go_wp2
          go_ret
          exact ⟨ret_bool (eqBy_false Hd.out Hc.out (show okS d' c' = false from beq_eq_false_iff_ne.2 E1.out)).symm, drew_two _ _ _⟩
      · go_wp2
        go_ret
        exact ⟨ret_bool (eqBy_true Hl.out (by omega) hto).symm, _, rfl⟩
  · go_enter Tryd.func4, Tryd.ntmps4
    have hbl : ((s.length : Int) != (t.length : Int)) = true := by rw [bne_iff_ne]; omega
    have Hl := hide hl
    clear hl
    go_wp2
    go_ret
    exact ⟨ret_bool (eqBy_len Hl.out).symm, 0, rfl⟩

end Go.Proofs.YtfghakcgpomdkaaDoor
