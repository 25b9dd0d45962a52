/- How long a number at the beginning of a text is: what the reference's function returns. Conditions: the text is shorter than 2^31. -/
import Derived.Test.YtdldnnppijfooaaNumS
namespace Go.Proofs.Ytdldnnppijfooaa
open Go.RowKit
set_option linter.unusedVariables false

theorem mant_le (l : List UInt8) (k : Nat) (hk : k ≤ l.length) : k + mant l k ≤ l.length := by
  have d1 : k + dg l k ≤ l.length := run_le hk
  unfold mant
  split
  · rename_i h
    have := at_lt h.1
    have d2 : (k + dg l k + 1) + dg l (k + dg l k + 1) ≤ l.length := run_le (by omega)
    omega
  · exact d1
theorem sgn_le (l : List UInt8) : sgn l 0 ≤ l.length := by
  unfold sgn
  split
  · have := at_lt (p := isSgn) ‹_›; omega
  · omega
theorem numLen0 {l : List UInt8} (h : mant l (sgn l 0) = 0) : numLen l = 0 := by unfold numLen; rw [if_pos h]
theorem numLen1 {l : List UInt8} {S M : Nat} (hS : sgn l 0 = S) (hM : mant l S = M) (h0 : 0 < M) : numLen l = S + M + expo l (S + M) := by
  unfold numLen
  rw [hS, hM, if_neg (by omega)]
theorem expo_not {l : List UInt8} {i : Nat} (h : ∀ c, l[i]? = some c → c.toNat ≠ 101 ∧ c.toNat ≠ 69) : expo l i = 0 := by
  unfold expo
  rw [if_neg]
  rintro ⟨h1, _⟩
  unfold at_ at h1
  split at h1
  · rename_i c hc
    have h2 : (c == 101 || c == 69) = true := h1
    simp only [u8_beq, Bool.or_eq_true, decide_eq_true_eq] at h2
    have := h c hc
    have e1 : (101 : UInt8).toNat = 101 := rfl
    have e2 : (69 : UInt8).toNat = 69 := rfl
    omega
  · cases h1
theorem exp_at {l : List UInt8} {i : Nat} {c : UInt8} (h : l[i]? = some c) (hc : c.toNat = 101 ∨ c.toNat = 69) : at_ isExp l i = true := by
  rw [at_some h]
  simp only [isExp, u8_beq, Bool.or_eq_true, decide_eq_true_eq]
  exact hc
theorem expo_yes {l : List UInt8} {i G N : Nat} (h : at_ isExp l i = true) (hG : sgn l (i + 1) = G) (hN : dg l (i + 1 + G) = N) (h0 : 0 < N) : expo l i = 1 + G + N := by
  unfold expo
  rw [hG, hN, if_pos ⟨h, h0⟩]
theorem expo_no {l : List UInt8} {i G : Nat} (hG : sgn l (i + 1) = G) (hN : dg l (i + 1 + G) = 0) : expo l i = 0 := by
  unfold expo
  rw [hG, hN, if_neg (fun h => absurd h.2 (by omega))]

set_option maxHeartbeats 1000000 in
theorem numS_any (A : Option Addr) (l : List UInt8) (c : Nat) (w : World) (h : BS w A l) (h1 : l.length ≤ 2147483647) :
    Calls Try.prog 15 #[.slice A l.length c] w fun e w' => e = .returned (.int .i64 (numLen l : Int)) ∧ w = w' := by
  have hsl := sgn_le l
  have hs1 := sgn_le1 l 0
  have hml := mant_le l (sgn l 0) hsl
  obtain ⟨S, hS⟩ : ∃ S, sgn l 0 = S := ⟨_, rfl⟩
  rw [hS] at hsl hml hs1
  obtain ⟨M, hM⟩ : ∃ M, mant l S = M := ⟨_, rfl⟩
  rw [hM] at hml
  have HS := hide hS
  have HM := hide hM
  by_cases h0 : 0 < M
  · have hN1 := numLen1 hS hM h0
    clear hS hM
    by_cases hex : ∃ d, l[S + M]? = some d ∧ (d.toNat = 101 ∨ d.toNat = 69)
    · obtain ⟨d, hd, hde⟩ := hex
      have hx := exp_at hd hde
      obtain ⟨hlt, _⟩ := List.getElem?_eq_some_iff.1 hd
      obtain ⟨b1, o1, rfl, cell1⟩ := h.at_ hd
      have hg1 := sgn_le1 l (S + M + 1)
      obtain ⟨G, hG⟩ : ∃ G, sgn l (S + M + 1) = G := ⟨_, rfl⟩
      rw [hG] at hg1
      have hnl := dg_le l (S + M + 1 + G)
      obtain ⟨N, hN⟩ : ∃ N, dg l (S + M + 1 + G) = N := ⟨_, rfl⟩
      rw [hN] at hnl
      have HG := hide hG
      have HN := hide hN
      clear hd
      by_cases hn0 : 0 < N
      · rw [expo_yes hx hG hN hn0] at hN1
        have HN1 := hide hN1
        clear hN1 hG hN hx
        by_cases e1 : d.toNat = 101
        · have b1 : ((d.toNat : Int) == 101) = true := by rw [beq_iff_eq]; omega
          clear e1 hde
          go_enter Try.func15, Try.ntmps15
          go_wp2_with fail
          refine (signAt_n _ _ _ _ 0 _ rfl h h1 (by omega)).mono ?_
          rintro e w1 ⟨rfl, rfl⟩
          rw [HS.out]
          go_wp2_with fail
          refine (mant_n _ _ _ _ S _ rfl h h1 (by omega)).mono ?_
          rintro e w1 ⟨rfl, rfl⟩
          rw [HM.out]
          go_wp2_with fail
          refine (signAt_n _ _ _ _ (S + M + 1) _ (by omega) h h1 (by omega)).mono ?_
          rintro e w1 ⟨rfl, rfl⟩
          rw [HG.out]
          go_wp2_with fail
          refine (digits_n _ _ _ _ (S + M + 1 + G) _ (by omega) h h1 (by omega)).mono ?_
          rintro e w1 ⟨rfl, rfl⟩
          rw [HN.out]
          go_wp2
          go_ret
          exact ⟨ret_int (by rw [HN1.out]; omega), rfl⟩
        · have b1 : ((d.toNat : Int) == 101) = false := by rw [beq_eq_false_iff_ne]; omega
          have b2 : ((d.toNat : Int) == 69) = true := by rw [beq_iff_eq]; omega
          clear e1 hde
          go_enter Try.func15, Try.ntmps15
          go_wp2_with fail
          refine (signAt_n _ _ _ _ 0 _ rfl h h1 (by omega)).mono ?_
          rintro e w1 ⟨rfl, rfl⟩
          rw [HS.out]
          go_wp2_with fail
          refine (mant_n _ _ _ _ S _ rfl h h1 (by omega)).mono ?_
          rintro e w1 ⟨rfl, rfl⟩
          rw [HM.out]
          go_wp2_with fail
          refine (signAt_n _ _ _ _ (S + M + 1) _ (by omega) h h1 (by omega)).mono ?_
          rintro e w1 ⟨rfl, rfl⟩
          rw [HG.out]
          go_wp2_with fail
          refine (digits_n _ _ _ _ (S + M + 1 + G) _ (by omega) h h1 (by omega)).mono ?_
          rintro e w1 ⟨rfl, rfl⟩
          rw [HN.out]
          go_wp2
          go_ret
          exact ⟨ret_int (by rw [HN1.out]; omega), rfl⟩
      · obtain rfl : N = 0 := by omega
        rw [expo_no hG hN] at hN1
        have HN1 := hide hN1
        clear hN1 hG hN hx
        by_cases e1 : d.toNat = 101
        · have b1 : ((d.toNat : Int) == 101) = true := by rw [beq_iff_eq]; omega
          clear e1 hde
          go_enter Try.func15, Try.ntmps15
          go_wp2_with fail
          refine (signAt_n _ _ _ _ 0 _ rfl h h1 (by omega)).mono ?_
          rintro e w1 ⟨rfl, rfl⟩
          rw [HS.out]
          go_wp2_with fail
          refine (mant_n _ _ _ _ S _ rfl h h1 (by omega)).mono ?_
          rintro e w1 ⟨rfl, rfl⟩
          rw [HM.out]
          go_wp2_with fail
          refine (signAt_n _ _ _ _ (S + M + 1) _ (by omega) h h1 (by omega)).mono ?_
          rintro e w1 ⟨rfl, rfl⟩
          rw [HG.out]
          go_wp2_with fail
          refine (digits_n _ _ _ _ (S + M + 1 + G) _ (by omega) h h1 (by omega)).mono ?_
          rintro e w1 ⟨rfl, rfl⟩
          rw [HN.out]
          go_wp2
          go_ret
          exact ⟨ret_int (by rw [HN1.out]; omega), rfl⟩
        · have b1 : ((d.toNat : Int) == 101) = false := by rw [beq_eq_false_iff_ne]; omega
          have b2 : ((d.toNat : Int) == 69) = true := by rw [beq_iff_eq]; omega
          clear e1 hde
          go_enter Try.func15, Try.ntmps15
          go_wp2_with fail
          refine (signAt_n _ _ _ _ 0 _ rfl h h1 (by omega)).mono ?_
          rintro e w1 ⟨rfl, rfl⟩
          rw [HS.out]
          go_wp2_with fail
          refine (mant_n _ _ _ _ S _ rfl h h1 (by omega)).mono ?_
          rintro e w1 ⟨rfl, rfl⟩
          rw [HM.out]
          go_wp2_with fail
          refine (signAt_n _ _ _ _ (S + M + 1) _ (by omega) h h1 (by omega)).mono ?_
          rintro e w1 ⟨rfl, rfl⟩
          rw [HG.out]
          go_wp2_with fail
          refine (digits_n _ _ _ _ (S + M + 1 + G) _ (by omega) h h1 (by omega)).mono ?_
          rintro e w1 ⟨rfl, rfl⟩
          rw [HN.out]
          go_wp2
          go_ret
          exact ⟨ret_int (by rw [HN1.out]; omega), rfl⟩
    · rw [expo_not (fun c hc => ⟨fun x => hex ⟨c, hc, .inl x⟩, fun x => hex ⟨c, hc, .inr x⟩⟩)] at hN1
      have HN1 := hide hN1
      clear hN1
      by_cases hlt : S + M < l.length
      · obtain ⟨d, hd⟩ : ∃ x, l[S + M]? = some x := ⟨_, List.getElem?_eq_getElem hlt⟩
        obtain ⟨b1, o1, rfl, cell1⟩ := h.at_ hd
        have hde : ¬ (d.toNat = 101 ∨ d.toNat = 69) := fun x => hex ⟨d, hd, x⟩
        have b1 : ((d.toNat : Int) == 101) = false := by rw [beq_eq_false_iff_ne]; omega
        have b2 : ((d.toNat : Int) == 69) = false := by rw [beq_eq_false_iff_ne]; omega
        clear hd hde hex
        go_enter Try.func15, Try.ntmps15
        go_wp2_with fail
        refine (signAt_n _ _ _ _ 0 _ rfl h h1 (by omega)).mono ?_
        rintro e w1 ⟨rfl, rfl⟩
        rw [HS.out]
        go_wp2_with fail
        refine (mant_n _ _ _ _ S _ rfl h h1 (by omega)).mono ?_
        rintro e w1 ⟨rfl, rfl⟩
        rw [HM.out]
        go_wp2
        go_ret
        exact ⟨ret_int (by rw [HN1.out]; omega), rfl⟩
      · clear hex
        go_enter Try.func15, Try.ntmps15
        go_wp2_with fail
        refine (signAt_n _ _ _ _ 0 _ rfl h h1 (by omega)).mono ?_
        rintro e w1 ⟨rfl, rfl⟩
        rw [HS.out]
        go_wp2_with fail
        refine (mant_n _ _ _ _ S _ rfl h h1 (by omega)).mono ?_
        rintro e w1 ⟨rfl, rfl⟩
        rw [HM.out]
        go_wp2
        go_ret
        exact ⟨ret_int (by rw [HN1.out]; omega), rfl⟩
  · obtain rfl : M = 0 := by omega
    have HN1 := hide (numLen0 (l := l) (by rw [hS, hM]))
    clear hS hM
    go_enter Try.func15, Try.ntmps15
    go_wp2_with fail
    refine (signAt_n _ _ _ _ 0 _ rfl h h1 (by omega)).mono ?_
    rintro e w1 ⟨rfl, rfl⟩
    rw [HS.out]
    go_wp2_with fail
    refine (mant_n _ _ _ _ S _ rfl h h1 (by omega)).mono ?_
    rintro e w1 ⟨rfl, rfl⟩
    rw [HM.out]
    go_wp2
    go_ret
    exact ⟨ret_int (by rw [HN1.out]; rfl), rfl⟩
end Go.Proofs.Ytdldnnppijfooaa
