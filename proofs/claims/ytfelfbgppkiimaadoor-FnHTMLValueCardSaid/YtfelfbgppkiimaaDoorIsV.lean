/- The law's own test of a text of markup. Condition: the text is shorter than 2^31. -/
import Derived.Test.YtfelfbgppkiimaaDoorHas
namespace Go.Proofs.YtfelfbgppkiimaaDoor
open Go.RowKit
set_option linter.unusedVariables false

def isV (l : List UInt8) : Bool := decide (0 < l.length) && decide (l.length ≤ 500) && !hasB 0 l && !hasB 38 l
set_option maxHeartbeats 1000000 in
theorem isV_any (A : Option Addr) (l : List UInt8) (c : Nat) (r : Bool) (w : World) (hr : isV l = r) (h : BS w A l) (h1 : l.length ≤ 2147483647) :
    Calls Tryd.prog 4 #[.slice A l.length c] w fun e w' => e = .returned (.bool r) ∧ w = w' := by
  by_cases h0 : 0 < l.length
  case neg =>
    have H := hide (show false = r by rw [← hr]; unfold isV; rw [decide_eq_false h0]; rfl)
    clear hr
    go_enter Tryd.func4, Tryd.ntmps4
    go_wp2
    go_ret
    exact ⟨ret_bool H.out, rfl⟩
  by_cases h5 : l.length ≤ 500
  case neg =>
    have H := hide (show false = r by rw [← hr]; unfold isV; rw [decide_eq_false h5, Bool.and_false]; rfl)
    clear hr
    have b1 : decide (0 < (l.length : Int)) = true := by rw [decide_eq_true_eq]; omega
    go_enter Tryd.func4, Tryd.ntmps4
    go_wp2
    go_ret
    exact ⟨ret_bool H.out, rfl⟩
  have b1 : decide (0 < (l.length : Int)) = true := by rw [decide_eq_true_eq]; omega
  have b2 : decide ((l.length : Int) ≤ 500) = true := by rw [decide_eq_true_eq]; omega
  cases hz : hasB 0 l with
  | true =>
    have H := hide (show false = r by rw [← hr]; unfold isV; rw [hz]; simp)
    have Hz := hide hz
    clear hr hz
    go_enter Tryd.func4, Tryd.ntmps4
    go_wp2_with fail
    refine (has_n _ l _ _ 0 _ true _ rfl rfl Hz.out h h1).mono ?_
    rintro e w2 ⟨rfl, rfl⟩
    go_wp2
    go_ret
    exact ⟨ret_bool H.out, rfl⟩
  | false =>
    generalize hv : hasB 38 l = v
    have H := hide (show (!v) = r by rw [← hr]; unfold isV; rw [hz, hv, decide_eq_true h0, decide_eq_true h5]; rfl)
    have Hz := hide hz
    have Hv := hide hv
    clear hr hz hv
    go_enter Tryd.func4, Tryd.ntmps4
    go_wp2_with fail
    refine (has_n _ l _ _ 0 _ false _ rfl rfl Hz.out h h1).mono ?_
    rintro e w2 ⟨rfl, rfl⟩
    go_wp2_with fail
    refine (has_n _ l _ _ 38 _ v _ rfl rfl Hv.out h h1).mono ?_
    rintro e w2 ⟨rfl, rfl⟩
    go_wp2
    go_ret
    exact ⟨ret_bool H.out, rfl⟩
theorem isV_true {l : List UInt8} (h : isV l = true) : 0 < l.length ∧ l.length ≤ 500 ∧ ∀ c ∈ l, c ≠ 38 := by
  unfold isV at h
  simp only [Bool.and_eq_true, decide_eq_true_eq, Bool.not_eq_true'] at h
  refine ⟨h.1.1.1, h.1.1.2, fun c hc e => ?_⟩
  have := h.2
  unfold hasB at this
  rw [Bool.eq_false_iff, ne_eq, List.contains_iff_mem] at this
  exact this (e ▸ hc)
end Go.Proofs.YtfelfbgppkiimaaDoor
