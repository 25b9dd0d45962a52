/- The walk of 'laws.FnXMLText': it returns true for every list of bytes. No condition. -/
import Derived.Test.YtfelfbgppkiimaaEscX2
import Derived.Test.YtfelfbgppkiimaaDecE
import Derived.Test.YtfelfbgppkiimaaHas
import Derived.Test.YtfelfbgppkiimaaSame
namespace Go.Proofs.Ytfelfbgppkiimaa
open Go.RowKit
set_option linter.unusedVariables false

theorem ext_has {l : List UInt8} (h : 12 < extX l) : hasB 60 l = true ∨ hasB 38 l = true := by
  rcases hb : hasB 60 l with _ | _
  · rcases hb2 : hasB 38 l with _ | _
    · exfalso
      have : extX l = 0 := by
        have h1 : ∀ c ∈ l, c ≠ 60 ∧ c ≠ 38 := fun c hc => by
          unfold hasB at hb hb2
          rw [Bool.eq_false_iff, ne_eq, List.contains_iff_mem] at hb hb2
          exact ⟨fun e => hb (e ▸ hc), fun e => hb2 (e ▸ hc)⟩
        clear h hb hb2
        induction l with
        | nil => rfl
        | cons c r ih =>
          have := ih (fun x hx => h1 x (by simp [hx]))
          have h2 := h1 c (by simp)
          rw [show c :: r = [c] ++ r from rfl, extX_app, this]
          simp [extX, h2.1, h2.2]
      omega
    · exact .inr rfl
  · exact .inl rfl
theorem escX_has (l : List UInt8) : hasB 60 (esc fX l) = false := by
  unfold hasB
  rw [Bool.eq_false_iff, ne_eq, List.contains_iff_mem]
  exact escX_no l

set_option maxHeartbeats 1000000 in
theorem fnXMLText_walk (a : Option Addr) (l : List UInt8) (c : Nat) (W : World) (bs : BS W a l) :
    Calls Try.prog 3 #[.slice a l.length c] W fun e w' => e = .returned (.bool true) ∧ Below W.heap.size W w' := by
  by_cases h1 : 2147483647 < l.length
  · go_enter Try.func3, Try.ntmps3
    go_wp2
    go_ret
    exact ⟨rfl, Below.refl _ _⟩
  by_cases h2 : 500 < l.length
  · go_enter Try.func3, Try.ntmps3
    go_wp2
    go_ret
    exact ⟨rfl, Below.refl _ _⟩
  by_cases hx : 12 < extX l
  · have Hh := hide (ext_has hx)
    have Hx := hide hx
    clear hx
    go_enter Try.func3, Try.ntmps3
    go_wp2_with fail
    refine (iXMLText_no a l c W bs (by omega) Hx.out).mono ?_
    rintro e w1 ⟨A', rfl, hb, hB⟩
    have hb0 := bs.below hB
    go_wp2_with fail
    refine (same_n _ _ l l _ _ _ _ true _ (by simp) rfl rfl hb hb0).mono ?_
    rintro e w2 ⟨rfl, rfl⟩
    rcases Hh.out with h60 | h38
    · have H := hide h60
      clear h60
      go_wp2_with fail
      refine (has_n _ l _ _ 60 _ true _ rfl rfl H.out hb0 (by omega)).mono ?_
      rintro e w2 ⟨rfl, rfl⟩
      go_wp2
      go_ret
      exact ⟨rfl, hB⟩
    · have H := hide h38
      clear h38
      generalize hv : hasB 60 l = v
      have Hv := hide hv
      clear hv
      go_wp2_with fail
      refine (has_n _ l _ _ 60 _ v _ rfl rfl Hv.out hb0 (by omega)).mono ?_
      rintro e w2 ⟨rfl, rfl⟩
      cases v
      · go_wp2_with fail
        refine (has_n _ l _ _ 38 _ true _ rfl rfl H.out hb0 (by omega)).mono ?_
        rintro e w2 ⟨rfl, rfl⟩
        go_wp2
        go_ret
        exact ⟨rfl, hB⟩
      · go_wp2
        go_ret
        exact ⟨rfl, hB⟩
  · have Hx := hide (show extX l ≤ 12 by omega)
    have hlen := extX_len l
    have hle : (esc fX l).length ≤ l.length + 12 := by omega
    have Hdec := hide (dec_escX l)
    have Hhas := hide (escX_has l)
    generalize hE : esc fX l = E at *
    have HE := hide hE
    clear hx hlen hE
    go_enter Try.func3, Try.ntmps3
    go_wp2_with fail
    refine (iXMLText_yes a l c W bs (by omega) Hx.out).mono ?_
    rintro e w1 ⟨A', c', rfl, hb, hc', hB⟩
    rw [HE.out] at hb hc'
    simp only [HE.out]
    have hb0 := bs.below hB
    go_wp2_with fail
    refine (has_n _ E _ _ 60 _ false _ rfl rfl Hhas.out hb (by omega)).mono ?_
    rintro e w2 ⟨rfl, rfl⟩
    go_wp2_with fail
    refine (decE_any A' E c' _ _ hb rfl (by omega) hc').mono ?_
    rintro e w3 ⟨A3, c3, rfl, hb3, hB3⟩
    rw [Hdec.out] at hb3
    simp only [Hdec.out]
    have hb1 := hb0.below hB3
    go_wp2_with fail
    refine (same_n _ _ l l _ _ _ _ true _ (by simp) rfl rfl hb3 hb1).mono ?_
    rintro e w4 ⟨rfl, rfl⟩
    go_wp2
    go_ret
    exact ⟨ret_bool (by simp; omega), hB.trans (hB3.mono hB.size)⟩
end Go.Proofs.Ytfelfbgppkiimaa
