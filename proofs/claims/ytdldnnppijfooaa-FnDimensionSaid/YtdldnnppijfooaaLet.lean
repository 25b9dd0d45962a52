/- Letters and units: what the tests of the reference return. Conditions: the text is shorter than 2^31. -/
import Derived.Test.YtdldnnppijfooaaNum
import Derived.Test.YtdldnnppijfooaaAll
namespace Go.Proofs.Ytdldnnppijfooaa
open Go.RowKit
set_option linter.unusedVariables false

theorem let_iff {c : UInt8} : isLet c = true ↔ (97 ≤ c.toNat ∧ c.toNat ≤ 122) ∨ (65 ≤ c.toNat ∧ c.toNat ≤ 90) := by
  simp only [isLet, Bool.or_eq_true, Bool.and_eq_true, decide_eq_true_eq, UInt8.le_iff_toNat_le]
  simp
theorem isLet_small {c : UInt8} (h1 : 97 ≤ c.toNat) (h2 : c.toNat ≤ 122) : isLet c = true := let_iff.2 (.inl ⟨h1, h2⟩)
theorem isLet_big {c : UInt8} (h1 : 65 ≤ c.toNat) (h2 : c.toNat ≤ 90) : isLet c = true := let_iff.2 (.inr ⟨h1, h2⟩)
theorem isLet_no {c : UInt8} (h : ¬ ((97 ≤ c.toNat ∧ c.toNat ≤ 122) ∨ (65 ≤ c.toNat ∧ c.toNat ≤ 90))) : isLet c = false := by
  cases hb : isLet c with
  | false => rfl
  | true => exact absurd (let_iff.1 hb) h

theorem isLetter_any (c : UInt8) (w : World) :
    Calls Try.prog 26 #[.int .u8 (c.toNat : Int)] w fun e w' => e = .returned (.bool (isLet c)) ∧ w = w' := by
  by_cases h1 : 97 ≤ c.toNat
  · by_cases h2 : c.toNat ≤ 122
    · have H := hide (isLet_small h1 h2)
      go_enter Try.func26, Try.ntmps26
      go_wp2
      go_ret
      exact ⟨ret_bool (by rw [H.out]), rfl⟩
    · have H := hide (isLet_no (c := c) (by omega))
      have h3 : 65 ≤ c.toNat := by omega
      have h4 : ¬ c.toNat ≤ 90 := by omega
      go_enter Try.func26, Try.ntmps26
      go_wp2
      go_ret
      exact ⟨ret_bool (by rw [H.out]; simp <;> omega), rfl⟩
  · by_cases h3 : 65 ≤ c.toNat
    · by_cases h4 : c.toNat ≤ 90
      · have H := hide (isLet_big h3 h4)
        go_enter Try.func26, Try.ntmps26
        go_wp2
        go_ret
        exact ⟨ret_bool (by rw [H.out]; simp <;> omega), rfl⟩
      · have H := hide (isLet_no (c := c) (by omega))
        go_enter Try.func26, Try.ntmps26
        go_wp2
        go_ret
        exact ⟨ret_bool (by rw [H.out]; simp <;> omega), rfl⟩
    · have H := hide (isLet_no (c := c) (by omega))
      go_enter Try.func26, Try.ntmps26
      go_wp2
      go_ret
      exact ⟨ret_bool (by rw [H.out]), rfl⟩

/-- Is a text a unit: a percent sign, or letters, not too many? -/
def unitB (l : List UInt8) : Bool := l == [37] || (l.all isLet && decide (0 < l.length) && decide (l.length ≤ 10))
theorem unitB_pc : unitB [37] = true := rfl
theorem unitB_not {l : List UInt8} (h1 : l ≠ [37]) (h2 : l.all isLet = false) : unitB l = false := by
  unfold unitB
  rw [h2, beq_eq_false_iff_ne.2 h1]
  rfl
theorem unitB_let {l : List UInt8} (h1 : l ≠ [37]) (h2 : l.all isLet = true) : unitB l = (decide (0 < l.length) && decide (l.length ≤ 10)) := by
  unfold unitB
  rw [h2, beq_eq_false_iff_ne.2 h1]
  simp

theorem isLetter_n (c : UInt8) (b : Bool) (w : World) (hb : isLet c = b) :
    Calls Try.prog 26 #[.int .u8 (c.toNat : Int)] w fun e w' => e = .returned (.bool b) ∧ w = w' := by
  subst hb
  exact isLetter_any c w

set_option maxHeartbeats 1000000 in
theorem isUnit_any (A : Option Addr) (l : List UInt8) (c : Nat) (w : World) (h : BS w A l) (h1 : l.length ≤ 2147483647) :
    Calls Try.prog 16 #[.slice A l.length c] w fun e w' => e = .returned (.bool (unitB l)) ∧ w = w' := by
  by_cases hl : l.length = 1
  · obtain ⟨d, hd⟩ : ∃ d, l[0]? = some d := ⟨_, List.getElem?_eq_getElem (by omega)⟩
    obtain ⟨b, o, rfl, cell⟩ := h.at_ hd
    rw [Nat.add_zero] at cell
    have hle : (l.length : Int) == 1 := by rw [beq_iff_eq]; omega
    have hl0 : 0 < l.length := by omega
    by_cases hd37 : d.toNat = 37
    · have H := hide (show unitB l = true by
        match l, hl, hd with
        | [x], _, hx => simp only [List.getElem?_cons_zero, Option.some.injEq] at hx; rw [hx, UInt8.toNat_inj.1 (show d.toNat = (37 : UInt8).toNat from hd37)]; rfl)
      have b1 : ((d.toNat : Int) == 37) = true := by rw [beq_iff_eq]; omega
      clear hd hl hd37
      go_enter Try.func16, Try.ntmps16
      go_wp2
      go_ret
      exact ⟨ret_bool H.out.symm, rfl⟩
    · have Hne := hide (show l ≠ [37] from fun e => by rw [e] at hd; cases hd; exact hd37 rfl)
      have b1 : ((d.toNat : Int) == 37) = false := by rw [beq_eq_false_iff_ne]; omega
      clear hd hl hd37
      go_enter Try.func16, Try.ntmps16
      go_wp2
      go_loop [16] (fun i => ∃ k : Nat, k ≤ l.length ∧ i = .int .i64 k ∧ AllTo isLet l k) (fun i => l.length - (intOf i).toNat)
      case atStart => exact ⟨0, Nat.zero_le _, rfl, AllTo.zero _ _⟩
      case round =>
        obtain ⟨k, hk, rfl, hto⟩ := hrel
        by_cases hlt : k < l.length
        · obtain ⟨d', hd'⟩ : ∃ x, l[k]? = some x := ⟨_, List.getElem?_eq_getElem hlt⟩
          obtain ⟨b1, o1, hA1, cell1⟩ := h.at_ hd'
          try cases hA1
          cases hb : isLet d' with
          | true =>
            have H := hide (show AllTo isLet l (k + 1) from hto.succ hd' hb)
            have Hb := hide hb
            clear hb hd' hto
            go_wp2_with (go_at_call 26; refine (isLetter_n _ true _ Hb.out).mono ?_; rintro e w' ⟨rfl, rfl⟩)
            go_round
            case rel => exact ⟨k + 1, by omega, by go_num, H⟩
            case measure => simp [intOf]; omega
          | false =>
            have H := hide (show unitB l = false from unitB_not Hne.out (all_false hd' hb))
            have Hb := hide hb
            clear hb hd' hto
            go_wp2_with (go_at_call 26; refine (isLetter_n _ false _ Hb.out).mono ?_; rintro e w' ⟨rfl, rfl⟩)
            go_ret
            exact ⟨ret_bool H.out.symm, rfl⟩
        · have H := hide (unitB_let Hne.out (all_true (by omega) hto))
          clear hto
          go_wp2
          all_goals go_ret
          all_goals exact ⟨ret_bool (by rw [H.out, Bool.eq_iff_iff]; simp; try omega), rfl⟩
  · have Hne := hide (show l ≠ [37] from fun e => hl (by rw [e]; rfl))
    have hle : ((l.length : Int) == 1) = false := by rw [beq_eq_false_iff_ne]; omega
    clear hl
    go_enter Try.func16, Try.ntmps16
    go_wp2
    go_loop [16] (fun i => ∃ k : Nat, k ≤ l.length ∧ i = .int .i64 k ∧ AllTo isLet l k) (fun i => l.length - (intOf i).toNat)
    case atStart => exact ⟨0, Nat.zero_le _, rfl, AllTo.zero _ _⟩
    case round =>
      obtain ⟨k, hk, rfl, hto⟩ := hrel
      by_cases hlt : k < l.length
      · obtain ⟨d', hd'⟩ : ∃ x, l[k]? = some x := ⟨_, List.getElem?_eq_getElem hlt⟩
        obtain ⟨b1, o1, hA1, cell1⟩ := h.at_ hd'
        try cases hA1
        cases hb : isLet d' with
        | true =>
          have H := hide (show AllTo isLet l (k + 1) from hto.succ hd' hb)
          have Hb := hide hb
          clear hb hd' hto
          go_wp2_with (go_at_call 26; refine (isLetter_n _ true _ Hb.out).mono ?_; rintro e w' ⟨rfl, rfl⟩)
          go_round
          case rel => exact ⟨k + 1, by omega, by go_num, H⟩
          case measure => simp [intOf]; omega
        | false =>
          have H := hide (show unitB l = false from unitB_not Hne.out (all_false hd' hb))
          have Hb := hide hb
          clear hb hd' hto
          go_wp2_with (go_at_call 26; refine (isLetter_n _ false _ Hb.out).mono ?_; rintro e w' ⟨rfl, rfl⟩)
          go_ret
          exact ⟨ret_bool H.out.symm, rfl⟩
      · have H := hide (unitB_let Hne.out (all_true (by omega) hto))
        clear hto
        go_wp2
        all_goals go_ret
        all_goals exact ⟨ret_bool (by rw [H.out, Bool.eq_iff_iff]; simp; try omega), rfl⟩
end Go.Proofs.Ytdldnnppijfooaa
