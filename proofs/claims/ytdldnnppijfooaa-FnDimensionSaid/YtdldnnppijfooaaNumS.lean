/- How long a number at the beginning of a text is: what the reference's functions return. Conditions: the text is shorter than 2^31. -/
import Derived.Test.YtdldnnppijfooaaIsDig
namespace Go.Proofs.Ytdldnnppijfooaa
open Go.RowKit
set_option linter.unusedVariables false

theorem sgn_le1 (l : List UInt8) (k : Nat) : sgn l k ≤ 1 := by unfold sgn; split <;> omega
theorem sgn_one {l : List UInt8} {k : Nat} {c : UInt8} (h : l[k]? = some c) (hc : c.toNat = 43 ∨ c.toNat = 45) : sgn l k = 1 := by
  unfold sgn
  rw [at_some h, if_pos]
  simp only [isSgn, u8_beq, Bool.or_eq_true, decide_eq_true_eq]
  exact hc
theorem sgn_zero {l : List UInt8} {k : Nat} (h : ∀ c, l[k]? = some c → ¬ (c.toNat = 43 ∨ c.toNat = 45)) : sgn l k = 0 := by
  unfold sgn
  cases hh : l[k]? with
  | none => unfold at_; rw [hh]; rfl
  | some c =>
    rw [at_some hh, if_neg]
    simp only [isSgn, u8_beq, Bool.or_eq_true, decide_eq_true_eq]
    exact h c hh
theorem none_of {l : List UInt8} {k : Nat} (h : ¬ k < l.length) : l[k]? = none := List.getElem?_eq_none (by omega)

set_option maxHeartbeats 400000 in
theorem signAt_n (A : Option Addr) (l : List UInt8) (c : Nat) (a : Int) (k : Nat) (w : World) (ha : a = (k : Int)) (h : BS w A l) (h1 : l.length ≤ 2147483647) (hk : k ≤ 4294967296) :
    Calls Try.prog 23 #[.slice A l.length c, .int .i64 a] w fun e w' => e = .returned (.int .i64 (sgn l k : Int)) ∧ w = w' := by
  subst ha
  by_cases hlt : k < l.length
  · obtain ⟨d, hd⟩ : ∃ x, l[k]? = some x := ⟨_, List.getElem?_eq_getElem hlt⟩
    obtain ⟨b1, o1, rfl, cell1⟩ := h.at_ hd
    have Hd := hide hd
    clear hd
    by_cases e1 : d.toNat = 43
    · have b1 : ((d.toNat : Int) == 43) = true := by rw [beq_iff_eq]; omega
      have E1 := hide (sgn_one Hd.out (.inl e1))
      clear e1
      go_enter Try.func23, Try.ntmps23
      go_wp2
      go_ret
      exact ⟨ret_int (by rw [E1.out]; rfl), rfl⟩
    · have b1 : ((d.toNat : Int) == 43) = false := by rw [beq_eq_false_iff_ne]; omega
      by_cases e2 : d.toNat = 45
      · have b2 : ((d.toNat : Int) == 45) = true := by rw [beq_iff_eq]; omega
        have E1 := hide (sgn_one Hd.out (.inr e2))
        clear e1 e2
        go_enter Try.func23, Try.ntmps23
        go_wp2
        go_ret
        exact ⟨ret_int (by rw [E1.out]; rfl), rfl⟩
      · have b2 : ((d.toNat : Int) == 45) = false := by rw [beq_eq_false_iff_ne]; omega
        have E1 := hide (sgn_zero (l := l) (k := k) (fun c hc => by rw [Hd.out] at hc; cases hc; omega))
        clear e1 e2
        go_enter Try.func23, Try.ntmps23
        go_wp2
        go_ret
        exact ⟨ret_int (by rw [E1.out]; rfl), rfl⟩
  · have E1 := hide (sgn_zero (l := l) (k := k) (fun c hc => by rw [none_of hlt] at hc; cases hc))
    go_enter Try.func23, Try.ntmps23
    go_wp2
    go_ret
    exact ⟨ret_int (by rw [E1.out]; rfl), rfl⟩

theorem dg_yes {l : List UInt8} {k : Nat} {c : UInt8} (h : l[k]? = some c) (hc : isDig c = true) : dg l k = 1 + dg l (k + 1) := run_yes (by rw [at_some h]; exact hc)
theorem dg_no {l : List UInt8} {k : Nat} (h : ∀ c, l[k]? = some c → isDig c = false) : dg l k = 0 := by
  refine run_no ?_
  cases hh : l[k]? with
  | none => unfold at_; rw [hh]
  | some c => rw [at_some hh]; exact h c hh

set_option maxHeartbeats 400000 in
theorem digits_n (A : Option Addr) (l : List UInt8) (c : Nat) (a : Int) (k : Nat) (w : World) (ha : a = (k : Int)) (h : BS w A l) (h1 : l.length ≤ 2147483647) (hk : k ≤ 4294967296) :
    Calls Try.prog 25 #[.slice A l.length c, .int .i64 a] w fun e w' => e = .returned (.int .i64 (dg l k : Int)) ∧ w = w' := by
  subst ha
  go_enter Try.func25, Try.ntmps25
  go_wp2
  go_loop [5] (fun i => ∃ n : Nat, n ≤ l.length ∧ i = .int .i64 n ∧ Hid (dg l k = n + dg l (k + n))) (fun i => l.length + 1 - (intOf i).toNat)
  case atStart => exact ⟨0, Nat.zero_le _, rfl, hide (by simp)⟩
  case round =>
    obtain ⟨n, hn, rfl, hrun⟩ := hrel
    by_cases hlt : k + n < l.length
    · obtain ⟨d, hd⟩ : ∃ x, l[k + n]? = some x := ⟨_, List.getElem?_eq_getElem hlt⟩
      obtain ⟨b1, o1, rfl, cell1⟩ := h.at_ hd
      have Hd := hide hd
      clear hd
      cases hb : isDig d with
      | true =>
        have Hb := hide hb
        have Hr := hide (show dg l k = (n + 1) + dg l (k + (n + 1)) by rw [hrun.out, dg_yes Hd.out hb, show k + n + 1 = k + (n + 1) by omega]; omega)
        clear hb hrun
        go_wp2_with (go_at_call 28; refine (isDigit_n _ true _ Hb.out).mono ?_; rintro e w' ⟨rfl, rfl⟩)
        go_round
        case rel => exact ⟨n + 1, by omega, by go_num, Hr⟩
        case measure => simp [intOf]; omega
      | false =>
        have Hb := hide hb
        have Hr := hide (show dg l k = n by rw [hrun.out, dg_no (fun c hc => by rw [Hd.out] at hc; cases hc; exact hb)]; omega)
        clear hb hrun
        go_wp2_with (go_at_call 28; refine (isDigit_n _ false _ Hb.out).mono ?_; rintro e w' ⟨rfl, rfl⟩)
        go_ret
        exact ⟨ret_int (by rw [Hr.out]), rfl⟩
    · have Hr := hide (show dg l k = n by rw [hrun.out, dg_no (fun c hc => by rw [none_of hlt] at hc; cases hc)]; omega)
      clear hrun
      go_wp2
      go_ret
      exact ⟨ret_int (by rw [Hr.out]), rfl⟩

theorem mant_dot {l : List UInt8} {k : Nat} (h : l[k + dg l k]? = some 46) (h2 : 0 < dg l (k + dg l k + 1)) : mant l k = dg l k + 1 + dg l (k + dg l k + 1) := by
  unfold mant
  rw [if_pos ⟨by rw [at_some h]; rfl, h2⟩]
theorem mant_no {l : List UInt8} {k : Nat} (h : ∀ c, l[k + dg l k]? = some c → c.toNat ≠ 46) : mant l k = dg l k := by
  unfold mant
  rw [if_neg]
  rintro ⟨h1, _⟩
  unfold at_ at h1
  split at h1
  · rename_i c hc
    have h2 : (c == 46) = true := h1
    rw [u8_beq, decide_eq_true_eq] at h2
    exact h c hc h2
  · cases h1
theorem mant_dot0 {l : List UInt8} {k : Nat} (h2 : dg l (k + dg l k + 1) = 0) : mant l k = dg l k := by
  unfold mant
  rw [if_neg]
  rintro ⟨_, h1⟩
  omega
theorem dg_le (l : List UInt8) (k : Nat) : dg l k ≤ l.length := run_bd

set_option maxHeartbeats 1000000 in
theorem mant_n (A : Option Addr) (l : List UInt8) (c : Nat) (a : Int) (k : Nat) (w : World) (ha : a = (k : Int)) (h : BS w A l) (h1 : l.length ≤ 2147483647) (hk : k ≤ 2147483647) :
    Calls Try.prog 24 #[.slice A l.length c, .int .i64 a] w fun e w' => e = .returned (.int .i64 (mant l k : Int)) ∧ w = w' := by
  subst ha
  have hd1 := dg_le l k
  have hd2 := dg_le l (k + dg l k + 1)
  by_cases hlt : k + dg l k < l.length
  · obtain ⟨d, hd⟩ : ∃ x, l[k + dg l k]? = some x := ⟨_, List.getElem?_eq_getElem hlt⟩
    obtain ⟨b1, o1, rfl, cell1⟩ := h.at_ hd
    by_cases e1 : d.toNat = 46
    · obtain rfl : d = 46 := UInt8.toNat_inj.1 e1
      simp only [show ((46 : UInt8).toNat : Int) = 46 from rfl] at cell1
      by_cases h0 : 0 < dg l (k + dg l k + 1)
      · have M := hide (mant_dot hd h0)
        clear hd e1
        generalize hD : dg l k = D at *
        have HD := hide hD
        clear hD
        go_enter Try.func24, Try.ntmps24
        go_wp2_with fail
        refine (digits_n _ _ _ _ k _ rfl h h1 (by omega)).mono ?_
        rintro e w1 ⟨rfl, rfl⟩
        rw [HD.out]
        go_wp2_with fail
        refine (digits_n _ _ _ _ (k + D + 1) _ (by omega) h h1 (by omega)).mono ?_
        rintro e w1 ⟨rfl, rfl⟩
        go_wp2
        go_ret
        exact ⟨ret_int (by rw [M.out]; omega), rfl⟩
      · have M := hide (mant_dot0 (l := l) (k := k) (by omega))
        clear hd e1
        generalize hD : dg l k = D at *
        have HD := hide hD
        clear hD
        go_enter Try.func24, Try.ntmps24
        go_wp2_with fail
        refine (digits_n _ _ _ _ k _ rfl h h1 (by omega)).mono ?_
        rintro e w1 ⟨rfl, rfl⟩
        rw [HD.out]
        go_wp2_with fail
        refine (digits_n _ _ _ _ (k + D + 1) _ (by omega) h h1 (by omega)).mono ?_
        rintro e w1 ⟨rfl, rfl⟩
        go_wp2
        go_ret
        exact ⟨ret_int (by rw [M.out]), rfl⟩
    · have b1 : ((d.toNat : Int) == 46) = false := by rw [beq_eq_false_iff_ne]; omega
      have M := hide (mant_no (l := l) (k := k) (fun c hc => by rw [hd] at hc; cases hc; exact e1))
      clear hd e1
      generalize hD : dg l k = D at *
      have HD := hide hD
      clear hD
      go_enter Try.func24, Try.ntmps24
      go_wp2_with fail
      refine (digits_n _ _ _ _ k _ rfl h h1 (by omega)).mono ?_
      rintro e w1 ⟨rfl, rfl⟩
      rw [HD.out]
      go_wp2
      go_ret
      exact ⟨ret_int (by rw [M.out]), rfl⟩
  · have M := hide (mant_no (l := l) (k := k) (fun c hc => by rw [none_of hlt] at hc; cases hc))
    generalize hD : dg l k = D at *
    have HD := hide hD
    clear hD
    go_enter Try.func24, Try.ntmps24
    go_wp2_with fail
    refine (digits_n _ _ _ _ k _ rfl h h1 (by omega)).mono ?_
    rintro e w1 ⟨rfl, rfl⟩
    rw [HD.out]
    go_wp2
    go_ret
    exact ⟨ret_int (by rw [M.out]), rfl⟩
end Go.Proofs.Ytdldnnppijfooaa
