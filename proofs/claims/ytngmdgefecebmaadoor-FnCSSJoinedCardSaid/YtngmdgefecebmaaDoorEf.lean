/- The test whether a text is another one in small letters ends and changes nothing. Conditions: the lists are shorter than 2^31. -/
import Derived.Test.YtngmdgefecebmaaDoorWords
namespace Go.Proofs.YtngmdgefecebmaaDoor
open Go.RowKit
set_option linter.unusedVariables false
set_option linter.unusedSimpArgs false

def ABool (w : World) (e : Ending) (w' : World) : Prop := (∃ r, e = .returned (.bool r)) ∧ w = w'
set_option maxHeartbeats 400000 in
theorem ef_any (A B : Option Addr) (s t : List UInt8) (c d : Nat) (w : World) (hs : BS w A s) (ht : BS w B t) (h1 : s.length ≤ 2147483647) (h2 : t.length ≤ 2147483647) :
    Calls Tryd.prog 41 #[.slice A s.length c, .slice B t.length d] w (ABool w) := by
  by_cases hl : s.length = t.length
  · have hle : s.length ≤ t.length := by omega
    have hge : t.length ≤ s.length := by omega
    have hbl : ((s.length : Int) != (t.length : Int)) = false := by rw [bne_eq_false_iff_eq]; omega
    have Hl := hide hl
    clear hl
    go_enter Tryd.func41, Tryd.ntmps41
    go_wp2
    clear hbl
    go_loop [15] (fun i => ∃ k : Nat, k ≤ t.length ∧ i = .int .i64 k) (fun i => t.length - (intOf i).toNat)
    case atStart => exact ⟨0, Nat.zero_le _, rfl⟩
    case round =>
      obtain ⟨k, hk, rfl⟩ := hrel
      by_cases hlt : k < t.length
      · obtain ⟨d', hd'⟩ : ∃ x, s[k]? = some x := ⟨_, List.getElem?_eq_getElem (by omega)⟩
        obtain ⟨c', hc'⟩ : ∃ x, t[k]? = some x := ⟨_, List.getElem?_eq_getElem hlt⟩
        obtain ⟨b1, o1, rfl, cell1⟩ := hs.at_ hd'
        obtain ⟨b2, o2, rfl, cell2⟩ := ht.at_ hc'
        have Hd := hide hd'
        have Hc := hide hc'
        clear hd' hc'
        have u1 := d'.toNat_lt
        have u2 := c'.toNat_lt
        by_cases e1 : d'.toNat = c'.toNat
        · obtain rfl : d' = c' := UInt8.toNat_inj.1 e1
          clear e1
          go_wp2
          go_round
          case rel => exact ⟨k + 1, by omega, by go_num⟩
          case measure => simp [intOf]; omega
        · have b1 : ((d'.toNat : Int) != (c'.toNat : Int)) = true := by rw [bne_iff_ne]; omega
          have E1 := hide e1
          clear e1
          by_cases e2 : 65 ≤ d'.toNat
          · by_cases e3 : d'.toNat ≤ 90
            · by_cases e4 : d'.toNat + 32 = c'.toNat
              · have b2 : ((d'.toNat : Int) + 32 != (c'.toNat : Int)) = false := by rw [bne_eq_false_iff_eq]; omega
                have E4 := hide e4
                clear e4
                go_wp2
                go_round
                case rel => exact ⟨k + 1, by omega, by go_num⟩
                case measure => simp [intOf]; omega
              · have b2 : ((d'.toNat : Int) + 32 != (c'.toNat : Int)) = true := by rw [bne_iff_ne]; omega
                have E4 := hide e4
                clear e4
                go_wp2
                go_ret
                exact ⟨⟨_, rfl⟩, rfl⟩
            · go_wp2
              go_ret
              exact ⟨⟨_, rfl⟩, rfl⟩
          · go_wp2
            go_ret
            exact ⟨⟨_, rfl⟩, rfl⟩
      · go_wp2
        go_ret
        exact ⟨⟨_, rfl⟩, rfl⟩
  · go_enter Tryd.func41, Tryd.ntmps41
    have hbl : ((s.length : Int) != (t.length : Int)) = true := by rw [bne_iff_ne]; omega
    have Hl := hide hl
    clear hl
    go_wp2
    go_ret
    exact ⟨⟨_, rfl⟩, rfl⟩

end Go.Proofs.YtngmdgefecebmaaDoor
