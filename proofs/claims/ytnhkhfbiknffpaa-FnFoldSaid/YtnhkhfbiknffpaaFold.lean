/- The two tests whether a text is another one in small letters, and the test whether a text has small letters alone. Conditions: the lists are shorter than 2^31. -/
import Derived.Test.YtnhkhfbiknffpaaLow
namespace Go.Proofs.Ytnhkhfbiknffpaa
open Go.RowKit
set_option linter.unusedVariables false

set_option maxHeartbeats 400000 in
theorem efI_any (A B : Option Addr) (s t : List UInt8) (c d : Nat) (w : World) (hs : BS w A s) (ht : BS w B t) (h1 : s.length ≤ 2147483647) (h2 : t.length ≤ 2147483647) :
    Calls Try.prog 15 #[.slice A s.length c, .slice B t.length d] w fun e w' => e = .returned (.bool (eqBy okI s t)) ∧ w = w' := by
  by_cases hl : s.length = t.length
  · have hle : s.length ≤ t.length := by omega
    have hge : t.length ≤ s.length := by omega
    have hbl : ((s.length : Int) != (t.length : Int)) = false := by rw [bne_eq_false_iff_eq]; omega
    have Hl := hide hl
    clear hl
    go_enter Try.func15, Try.ntmps15
    go_wp2
    clear hbl
    go_loop [15] (fun i => ∃ k : Nat, k ≤ t.length ∧ i = .int .i64 k ∧ EqTo okI s t k) (fun i => t.length - (intOf i).toNat)
    case atStart => exact ⟨0, Nat.zero_le _, rfl, EqTo.zero _ _ _⟩
    case round =>
      obtain ⟨k, hk, rfl, hto⟩ := hrel
      by_cases hlt : k < t.length
      · obtain ⟨d', hd'⟩ : ∃ x, s[k]? = some x := ⟨_, List.getElem?_eq_getElem (by omega)⟩
        obtain ⟨c', hc'⟩ : ∃ x, t[k]? = some x := ⟨_, List.getElem?_eq_getElem hlt⟩
        obtain ⟨b1, o1, rfl, cell1⟩ := hs.at_ hd'
        obtain ⟨b2, o2, rfl, cell2⟩ := ht.at_ hc'
        have Hd := hide hd'
        have Hc := hide hc'
        clear hd' hc'
        have u1 := d'.toNat_lt
        have u2 := c'.toNat_lt
        by_cases e1 : d'.toNat = c'.toNat
        · obtain rfl : d' = c' := UInt8.toNat_inj.1 e1
          clear e1
          go_wp2
          go_round
          case rel => exact ⟨k + 1, by omega, by go_num, hto.succ Hd.out Hc.out (okI_same _)⟩
          case measure => simp [intOf]; omega
        · have b1 : ((d'.toNat : Int) != (c'.toNat : Int)) = true := by rw [bne_iff_ne]; omega
          have E1 := hide e1
          clear e1
          by_cases e2 : 65 ≤ d'.toNat
          · by_cases e3 : d'.toNat ≤ 90
            · by_cases e4 : d'.toNat + 32 = c'.toNat
              · have b2 : ((d'.toNat : Int) + 32 != (c'.toNat : Int)) = false := by rw [bne_eq_false_iff_eq]; omega
                have E4 := hide e4
                clear e4
                go_wp2
                go_round
                case rel => exact ⟨k + 1, by omega, by go_num, hto.succ Hd.out Hc.out (okI_cap e2 e3 (by have := E4.out; omega))⟩
                case measure => simp [intOf]; omega
              · have b2 : ((d'.toNat : Int) + 32 != (c'.toNat : Int)) = true := by rw [bne_iff_ne]; omega
                have E4 := hide e4
                clear e4
                go_wp2
                go_ret
                exact ⟨ret_bool (eqBy_false Hd.out Hc.out (okI_not E1.out (fun h => E4.out (by omega)))).symm, rfl⟩
            · go_wp2
              go_ret
              exact ⟨ret_bool (eqBy_false Hd.out Hc.out (okI_not E1.out (fun h => e3 h.2.1))).symm, rfl⟩
          · go_wp2
            go_ret
            exact ⟨ret_bool (eqBy_false Hd.out Hc.out (okI_not E1.out (fun h => e2 h.1))).symm, rfl⟩
      · go_wp2
        go_ret
        exact ⟨ret_bool (eqBy_true Hl.out (by omega) hto).symm, rfl⟩
  · go_enter Try.func15, Try.ntmps15
    have hbl : ((s.length : Int) != (t.length : Int)) = true := by rw [bne_iff_ne]; omega
    have Hl := hide hl
    clear hl
    go_wp2
    go_ret
    exact ⟨ret_bool (eqBy_len Hl.out).symm, rfl⟩

theorem efW_any (A B : Option Addr) (s t : List UInt8) (c d : Nat) (w : World) (hs : BS w A s) (ht : BS w B t) (h1 : s.length ≤ 2147483647) (h2 : t.length ≤ 2147483647) :
    Calls Try.prog 9 #[.slice A s.length c, .slice B t.length d] w fun e w' => e = .returned (.bool (eqBy okI s t)) ∧ w = w' := by
  go_enter Try.func9, Try.ntmps9
  go_wp2_with (go_at_call 15; refine (efI_any _ _ _ _ _ _ _ hs ht h1 h2).mono ?_; rintro e w1 ⟨rfl, rfl⟩)
  go_ret
  exact ⟨rfl, rfl⟩
theorem efW_n (A B : Option Addr) (s t : List UInt8) (n m c d : Nat) (r : Bool) (w : World) (hr : eqBy okI s t = r) (hn : s.length = n) (hm : t.length = m) (hs : BS w A s) (ht : BS w B t) (h1 : n ≤ 2147483647) (h2 : m ≤ 2147483647) :
    Calls Try.prog 9 #[.slice A n c, .slice B m d] w fun e w' => e = .returned (.bool r) ∧ w = w' := by
  subst hr hn hm
  exact efW_any A B s t c d w hs ht h1 h2

set_option maxHeartbeats 400000 in
theorem efS_any (A B : Option Addr) (s t : List UInt8) (c d : Nat) (w : World) (hs : BS w A s) (ht : BS w B t) (h1 : s.length ≤ 2147483647) (h2 : t.length ≤ 2147483647) :
    Calls Try.prog 10 #[.slice A s.length c, .slice B t.length d] w fun e w' => e = .returned (.bool (eqBy okS s t)) ∧ ∃ n, w' = w.drewN n := by
  by_cases hl : s.length = t.length
  · have hle : s.length ≤ t.length := by omega
    have hge : t.length ≤ s.length := by omega
    have hbl : ((s.length : Int) != (t.length : Int)) = false := by rw [bne_eq_false_iff_eq]; omega
    have Hl := hide hl
    clear hl
    go_enter Try.func10, Try.ntmps10
    go_wp2
    clear hbl
    go_loopw [14] (fun i wr => ∃ k n : Nat, k ≤ s.length ∧ i = .int .i64 k ∧ wr = w.drewN n ∧ EqTo okS s t k) (fun i _ => s.length - (intOf i).toNat)
    case atStart => exact ⟨0, 0, Nat.zero_le _, rfl, rfl, EqTo.zero _ _ _⟩
    case round =>
      obtain ⟨k, n, hk, rfl, rfl, hto⟩ := hrel
      by_cases hlt : k < s.length
      · obtain ⟨d', hd'⟩ : ∃ x, s[k]? = some x := ⟨_, List.getElem?_eq_getElem hlt⟩
        obtain ⟨c', hc'⟩ : ∃ x, t[k]? = some x := ⟨_, List.getElem?_eq_getElem (by omega)⟩
        obtain ⟨b1, o1, rfl, cell1⟩ := hs.at_ hd'
        obtain ⟨b2, o2, rfl, cell2⟩ := ht.at_ hc'
        have Hd := hide hd'
        have Hc := hide hc'
        clear hd' hc'
        by_cases e1 : lowB d' = c'
        · have b1 : (((lowB d').toNat : Int) != (c'.toNat : Int)) = false := by rw [bne_eq_false_iff_eq, e1]
          have E1 := hide e1
          clear e1
          go_wp2
          go_quiet ((go_at_call 14; first | exact quiet_left (lower_any _ _) | exact quiet_add_left (lower_any _ _)))
          go_wp2
          go_roundw
          case rel => exact ⟨k + 1, _, by omega, by go_num, rfl, hto.succ Hd.out Hc.out (beq_iff_eq.2 E1.out)⟩
          case measure => simp [intOf]; omega
        · have b1 : (((lowB d').toNat : Int) != (c'.toNat : Int)) = true := by rw [bne_iff_ne]; exact fun h => e1 (UInt8.toNat_inj.1 (by omega))
          have E1 := hide e1
          clear e1
          go_wp2
          go_quiet ((go_at_call 14; first | exact quiet_left (lower_any _ _) | exact quiet_add_left (lower_any _ _)))
          go_wp2
          go_ret
          exact ⟨ret_bool (eqBy_false Hd.out Hc.out (show okS d' c' = false from beq_eq_false_iff_ne.2 E1.out)).symm, drew_two _ _ _⟩
      · go_wp2
        go_ret
        exact ⟨ret_bool (eqBy_true Hl.out (by omega) hto).symm, _, rfl⟩
  · go_enter Try.func10, Try.ntmps10
    have hbl : ((s.length : Int) != (t.length : Int)) = true := by rw [bne_iff_ne]; omega
    have Hl := hide hl
    clear hl
    go_wp2
    go_ret
    exact ⟨ret_bool (eqBy_len Hl.out).symm, 0, rfl⟩

/-- Are all bytes such that f? -/
def AllTo (f : UInt8 → Bool) (s : List UInt8) (k : Nat) : Prop := ∀ j, j < k → ∀ d, s[j]? = some d → f d = true
theorem AllTo.zero (f : UInt8 → Bool) (s : List UInt8) : AllTo f s 0 := fun j h => absurd h (by omega)
theorem AllTo.succ {f : UInt8 → Bool} {s : List UInt8} {k : Nat} {d : UInt8} (h : AllTo f s k) (hd : s[k]? = some d) (hf : f d = true) : AllTo f s (k + 1) := fun j hj d' h1 => by
  rcases Nat.lt_or_ge j k with hlt | hge
  · exact h j hlt d' h1
  · obtain rfl : j = k := by omega
    rw [hd] at h1
    cases h1
    exact hf
theorem all_true {f : UInt8 → Bool} {s : List UInt8} {k : Nat} (hk : s.length ≤ k) (h : AllTo f s k) : s.all f = true := by
  rw [List.all_eq_true]
  intro x hx
  obtain ⟨j, hj, rfl⟩ := List.getElem_of_mem hx
  exact h j (by omega) _ (List.getElem?_eq_getElem hj)
theorem all_false {f : UInt8 → Bool} {s : List UInt8} {k : Nat} {d : UInt8} (hd : s[k]? = some d) (hf : f d = false) : s.all f = false := by
  rw [List.all_eq_false]
  exact ⟨d, List.mem_of_getElem? hd, by simp [hf]⟩
def isLow (c : UInt8) : Bool := c == lowB c

set_option maxHeartbeats 400000 in
theorem isLower_any (A : Option Addr) (s : List UInt8) (c : Nat) (w : World) (hs : BS w A s) (h1 : s.length ≤ 2147483647) :
    Calls Try.prog 8 #[.slice A s.length c] w fun e w' => e = .returned (.bool (s.all isLow)) ∧ w = w' := by
  go_enter Try.func8, Try.ntmps8
  go_wp2
  go_loop [7] (fun i => ∃ k : Nat, k ≤ s.length ∧ i = .int .i64 k ∧ AllTo isLow s k) (fun i => s.length - (intOf i).toNat)
  case atStart => exact ⟨0, Nat.zero_le _, rfl, AllTo.zero _ _⟩
  case round =>
    obtain ⟨k, hk, rfl, hto⟩ := hrel
    by_cases hlt : k < s.length
    · obtain ⟨d', hd'⟩ : ∃ x, s[k]? = some x := ⟨_, List.getElem?_eq_getElem hlt⟩
      obtain ⟨b1, o1, rfl, cell1⟩ := hs.at_ hd'
      have Hd := hide hd'
      clear hd'
      by_cases e1 : d' = lowB d'
      · have b1 : ((d'.toNat : Int) != ((lowB d').toNat : Int)) = false := by rw [bne_eq_false_iff_eq, ← e1]
        have E1 := hide e1
        clear e1
        go_wp2_with (go_at_call 14; refine (lower_any _ _).mono ?_; rintro e w' ⟨rfl, rfl⟩)
        go_round
        case rel => exact ⟨k + 1, by omega, by go_num, hto.succ Hd.out (beq_iff_eq.2 E1.out)⟩
        case measure => simp [intOf]; omega
      · have b1 : ((d'.toNat : Int) != ((lowB d').toNat : Int)) = true := by rw [bne_iff_ne]; exact fun h => e1 (UInt8.toNat_inj.1 (by omega))
        have E1 := hide e1
        clear e1
        go_wp2_with (go_at_call 14; refine (lower_any _ _).mono ?_; rintro e w' ⟨rfl, rfl⟩)
        go_ret
        exact ⟨ret_bool (all_false Hd.out (show isLow d' = false from beq_eq_false_iff_ne.2 E1.out)).symm, rfl⟩
    · go_wp2
      go_ret
      exact ⟨ret_bool (all_true (by omega) hto).symm, rfl⟩
end Go.Proofs.Ytnhkhfbiknffpaa
