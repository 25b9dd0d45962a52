/- Has a set a percent sign or a digit in hexadecimal? The reference's function. Condition: the set is shorter than 2^31. -/
import Derived.Test.YtdklelnllhpbfaaDoorAll
import Derived.Test.YtdklelnllhpbfaaDoorHas
import Derived.Test.YtdklelnllhpbfaaDoorHexS
import Derived.Test.YtdklelnllhpbfaaDoorEnc
namespace Go.Proofs.YtdklelnllhpbfaaDoor
open Go.RowKit
set_option linter.unusedVariables false

def isPH (c : UInt8) : Bool := c == 37 || isHex c
def hasHexB (l : List UInt8) : Bool := !(l.all fun c => !isPH c)
theorem noHex_of {l : List UInt8} (h : hasHexB l = false) : NoHex (fun c => hasB c l) := fun c hc => by
  simp only [hasHexB, Bool.not_eq_false', List.all_eq_true, Bool.not_eq_true'] at h
  cases hh : hasB c l with
  | false => exact hh
  | true =>
    unfold hasB at hh
    rw [List.contains_iff_mem] at hh
    have := h c hh
    simp [isPH, hc] at this

set_option maxHeartbeats 1000000 in
theorem hasHex_any (A : Option Addr) (l : List UInt8) (c : Nat) (w : World) (h : BS w A l) (h1 : l.length ≤ 2147483647) :
    Calls Tryd.prog 5 #[.slice A l.length c] w fun e w' => e = .returned (.bool (hasHexB l)) ∧ w = w' := by
  go_enter Tryd.func5, Tryd.ntmps5
  go_wp2
  go_loop [7] (fun i => ∃ k : Nat, k ≤ l.length ∧ i = .int .i64 k ∧ AllTo (fun y => !isPH y) l k) (fun i => l.length - (intOf i).toNat)
  case atStart => exact ⟨0, Nat.zero_le _, rfl, AllTo.zero _ _⟩
  case round =>
    obtain ⟨k, hk, rfl, hto⟩ := hrel
    by_cases hlt : k < l.length
    · obtain ⟨d, hd⟩ : ∃ d, l[k]? = some d := ⟨_, List.getElem?_eq_getElem hlt⟩
      obtain ⟨b, o, rfl, cell⟩ := h.at_ hd
      have hd256 := d.toNat_lt
      by_cases hdx : d = 37
      · have Hr := hide (show hasHexB l = true by unfold hasHexB; rw [all_false hd (by rw [hdx]; rfl)]; rfl)
        have e : ((d.toNat : Int) == 37) = true := by rw [hdx]; rfl
        clear hd hto hdx
        go_wp2
        go_ret
        exact ⟨ret_bool Hr.out.symm, rfl⟩
      · have e : ((d.toNat : Int) == 37) = false := by rw [beq_eq_false_iff_ne]; intro e; exact hdx (UInt8.toNat_inj.1 (by simpa using (by omega : d.toNat = 37)))
        cases hx : isHex d with
        | true =>
          have Hr := hide (show hasHexB l = true by unfold hasHexB; rw [all_false hd (by simp [isPH, hx])]; rfl)
          have Hx := hide hx
          clear hd hto hdx hx
          go_wp2_with (go_at_call 11; (with_reducible refine (hexS_yes _ _ _ Hx.out rfl).mono ?_); rintro e w' ⟨rfl, rfl⟩)
          go_ret
          exact ⟨ret_bool Hr.out.symm, rfl⟩
        | false =>
          have Hto := hide (hto.succ hd (by simp [isPH, hx, hdx]))
          have Hx := hide hx
          clear hd hto hdx hx
          go_wp2_with (go_at_call 11; (with_reducible refine (hexS_no _ _ Hx.out).mono ?_); rintro e w' ⟨rfl, rfl⟩)
          go_round
          case rel => exact ⟨k + 1, by omega, by go_num, Hto.out⟩
          case measure => simp [intOf]; omega
    · have Hr := hide (show hasHexB l = false by unfold hasHexB; rw [all_true (by omega) hto]; rfl)
      clear hto
      go_wp2
      go_ret
      exact ⟨ret_bool Hr.out.symm, rfl⟩
theorem hasHex_n (A : Option Addr) (l : List UInt8) (c : Nat) (b : Bool) (w : World) (hb : hasHexB l = b) (h : BS w A l) (h1 : l.length ≤ 2147483647) :
    Calls Tryd.prog 5 #[.slice A l.length c] w fun e w' => e = .returned (.bool b) ∧ w = w' := by
  subst hb
  exact hasHex_any A l c w h h1
end Go.Proofs.YtdklelnllhpbfaaDoor
