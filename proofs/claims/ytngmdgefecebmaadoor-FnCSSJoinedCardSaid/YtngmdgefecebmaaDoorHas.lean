/- Is a byte in a text? The reference's function. Condition: the text is shorter than 2^31. -/
import Derived.Test.YtngmdgefecebmaaDoorAll
namespace Go.Proofs.YtngmdgefecebmaaDoor
open Go.RowKit
set_option linter.unusedVariables false

def hasB (c : UInt8) (l : List UInt8) : Bool := l.contains c
theorem has_yes {l : List UInt8} {c : UInt8} {k : Nat} (h : l[k]? = some c) : hasB c l = true := by
  unfold hasB
  rw [List.contains_iff_mem]
  exact List.mem_of_getElem? h
theorem has_no {l : List UInt8} {c : UInt8} {k : Nat} (hk : l.length ≤ k) (h : AllTo (fun x => !(x == c)) l k) : hasB c l = false := by
  unfold hasB
  rw [Bool.eq_false_iff, ne_eq, List.contains_iff_mem]
  intro hm
  obtain ⟨j, hj, e⟩ := List.getElem_of_mem hm
  have := h j (by omega) _ (List.getElem?_eq_getElem hj)
  rw [e] at this
  simp at this
theorem has_false {l : List UInt8} {c : UInt8} (h : hasB c l = false) {j : Nat} {x : UInt8} (hx : l[j]? = some x) : x ≠ c := by
  rintro rfl
  rw [has_yes hx] at h
  cases h

set_option maxHeartbeats 400000 in
theorem has_any (A : Option Addr) (l : List UInt8) (c : Nat) (x : UInt8) (w : World) (h : BS w A l) (h1 : l.length ≤ 2147483647) :
    Calls Tryd.prog 4 #[.slice A l.length c, .int .u8 (x.toNat : Int)] w fun e w' => e = .returned (.bool (hasB x l)) ∧ w = w' := by
  have hx := x.toNat_lt
  go_enter Tryd.func4, Tryd.ntmps4
  go_wp2
  go_loop [9] (fun i => ∃ k : Nat, k ≤ l.length ∧ i = .int .i64 k ∧ AllTo (fun y => !(y == x)) l k) (fun i => l.length - (intOf i).toNat)
  case atStart => exact ⟨0, Nat.zero_le _, rfl, AllTo.zero _ _⟩
  case round =>
    obtain ⟨k, hk, rfl, hto⟩ := hrel
    by_cases hlt : k < l.length
    · obtain ⟨d, hd⟩ : ∃ d, l[k]? = some d := ⟨_, List.getElem?_eq_getElem hlt⟩
      obtain ⟨b, o, rfl, cell⟩ := h.at_ hd
      have hd256 := d.toNat_lt
      by_cases hdx : d = x
      · have Hr := hide (has_yes (hdx ▸ hd))
        have e : ((d.toNat : Int) == (x.toNat : Int)) = true := by rw [hdx]; simp
        clear hd hto hdx
        go_wp2
        go_ret
        exact ⟨ret_bool Hr.out.symm, rfl⟩
      · have e : ((d.toNat : Int) == (x.toNat : Int)) = false := by rw [beq_eq_false_iff_ne]; intro e; exact hdx (UInt8.toNat_inj.1 (by omega))
        have Hto := hide (hto.succ hd (by simpa using hdx))
        clear hd hto hdx
        go_wp2
        go_round
        case rel => exact ⟨k + 1, by omega, by go_num, Hto.out⟩
        case measure => simp [intOf]; omega
    · have Hr := hide (has_no (by omega) hto)
      clear hto
      go_wp2
      go_ret
      exact ⟨ret_bool Hr.out.symm, rfl⟩
theorem has_n (A : Option Addr) (l : List UInt8) (c n : Nat) (x : UInt8) (z : Int) (b : Bool) (w : World) (hz : (x.toNat : Int) = z) (hn : l.length = n) (hb : hasB x l = b) (h : BS w A l) (h1 : n ≤ 2147483647) :
    Calls Tryd.prog 4 #[.slice A n c, .int .u8 z] w fun e w' => e = .returned (.bool b) ∧ w = w' := by
  subst hn hb hz
  exact has_any A l c x w h h1
end Go.Proofs.YtngmdgefecebmaaDoor
