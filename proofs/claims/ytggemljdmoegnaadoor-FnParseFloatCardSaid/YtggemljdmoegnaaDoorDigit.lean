/- The tests whether a byte is a digit, and whether a text does not go on with a number. Condition: none. -/
import Derived.Test.YtggemljdmoegnaaDoorIsDig
namespace Go.Proofs.YtggemljdmoegnaaDoor
open Go.RowKit
set_option linter.unusedVariables false

/-- Does a text not go on with a number? -/
def endsB (l : List UInt8) : Bool := !at_ goesOn l 0
theorem endsB_cons {l : List UInt8} {c : UInt8} (h : l[0]? = some c) : endsB l = !(goesOn c) := by unfold endsB; rw [at_some h]
theorem goes_dig {c : UInt8} (h : isDig c = true) : goesOn c = true := by simp [goesOn, h]
theorem goes_val {c : UInt8} (h : isDig c = false) : (!goesOn c) = (((c.toNat : Int) != 46) && ((c.toNat : Int) != 101) && ((c.toNat : Int) != 69) && ((c.toNat : Int) != 43) && ((c.toNat : Int) != 45)) := by
  have e : ∀ d : UInt8, ((c.toNat : Int) != (d.toNat : Int)) = !(c == d) := fun d => by
    rw [u8_beq, Bool.eq_iff_iff]
    simp only [bne_iff_ne, Bool.not_eq_true', decide_eq_false_iff_not]
    omega
  have e1 := e 46
  have e2 := e 101
  have e3 := e 69
  have e4 := e 43
  have e5 := e 45
  simp only [show ((46 : UInt8).toNat : Int) = 46 from rfl, show ((101 : UInt8).toNat : Int) = 101 from rfl, show ((69 : UInt8).toNat : Int) = 69 from rfl, show ((43 : UInt8).toNat : Int) = 43 from rfl, show ((45 : UInt8).toNat : Int) = 45 from rfl] at e1 e2 e3 e4 e5
  rw [e1, e2, e3, e4, e5]
  simp only [goesOn, h, isSgn, isExp, Bool.false_or]
  cases c == 43 <;> cases c == 45 <;> cases c == 101 <;> cases c == 69 <;> cases c == 46 <;> rfl

set_option maxHeartbeats 1000000 in
theorem ends_any (A : Option Addr) (l : List UInt8) (c : Nat) (w : World) (h : BS w A l) :
    Calls Tryd.prog 5 #[.slice A l.length c] w fun e w' => e = .returned (.bool (endsB l)) ∧ w = w' := by
  rcases Nat.eq_zero_or_pos l.length with h0 | h0
  · obtain rfl : l = [] := List.eq_nil_of_length_eq_zero h0
    go_enter Tryd.func5, Tryd.ntmps5
    go_wp2
    go_ret
    exact ⟨rfl, rfl⟩
  · obtain ⟨d, hd⟩ : ∃ d, l[0]? = some d := ⟨_, List.getElem?_eq_getElem h0⟩
    obtain ⟨b, o, rfl, cell⟩ := h.at_ hd
    rw [Nat.add_zero] at cell
    have hne : ((l.length : Int) == 0) = false := by rw [beq_eq_false_iff_ne]; omega
    have E := hide (endsB_cons hd)
    clear hd
    cases hb : isDig d with
    | true =>
      have G := hide (goes_dig hb)
      have Hb := hide hb
      clear hb
      go_enter Tryd.func5, Tryd.ntmps5
      go_wp2_with (go_at_call 13; refine (isDigit_n _ true _ Hb.out).mono ?_; rintro e w1 ⟨rfl, rfl⟩)
      go_ret
      exact ⟨ret_bool (by rw [E.out, G.out]; rfl), rfl⟩
    | false =>
      have G := hide (goes_val hb)
      have Hb := hide hb
      clear hb
      go_enter Tryd.func5, Tryd.ntmps5
      go_wp2_with (go_at_call 13; refine (isDigit_n _ false _ Hb.out).mono ?_; rintro e w1 ⟨rfl, rfl⟩)
      all_goals go_ret
      all_goals refine ⟨ret_bool ?_, rfl⟩
      all_goals rw [E.out, G.out]
      all_goals (symm; simp only [Bool.and_eq_false_iff, bne_eq_false_iff_eq]; omega)
end Go.Proofs.YtggemljdmoegnaaDoor
