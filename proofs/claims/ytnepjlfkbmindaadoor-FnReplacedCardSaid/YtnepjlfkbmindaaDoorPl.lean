/- The test of a plain text, of letters. Conditions: shorter than 2^31. -/
import Derived.Test.YtnepjlfkbmindaaDoorWd
namespace Go.Proofs.YtnepjlfkbmindaaDoor
open Go.RowKit
set_option linter.unusedVariables false
set_option linter.unusedSimpArgs false

def PlainB (l : List UInt8) : Prop := (∀ (j : Nat) (x : UInt8), l[j]? = some x → x ≠ 38) ∧ l.length ≤ 100
theorem eq_fact {x : UInt8} {k : Nat} (hk : k < 256) (h : x ≠ UInt8.ofNat k) : ((x.toNat : Int) == (k : Int)) = false := by
  rw [beq_eq_false_iff_ne]
  intro e
  have e : x.toNat = k := Int.ofNat.inj e
  exact h (by rw [← e, UInt8.ofNat_toNat])
set_option maxRecDepth 100000 in
set_option maxHeartbeats 1000000 in
theorem plain_any (A : Option Addr) (l : List UInt8) (c n : Nat) (w : World) (h : BS w A l) (hn : l.length = n) (h1 : n ≤ 2147483647) :
    Calls Tryd.prog 13 #[.slice A n c] w (Says (PlainB l) w) := by
  have Hn := hide hn
  clear hn
  go_enter Tryd.func13, Tryd.ntmps13
  go_wp2
  go_loop [7] (fun i => ∃ k : Nat, k ≤ n ∧ i = .int .i64 k ∧ Hid (∀ j, j < k → ∀ d, l[j]? = some d → d ≠ 38)) (fun i => n - (intOf i).toNat)
  case atStart => exact ⟨0, Nat.zero_le _, rfl, fun j hj => absurd hj (by omega)⟩
  case round =>
    obtain ⟨k, hk, rfl, hto⟩ := hrel
    by_cases hlt : k < n
    · obtain ⟨d, hd⟩ : ∃ d, l[k]? = some d := ⟨_, List.getElem?_eq_getElem (by have := Hn.out; omega)⟩
      obtain ⟨b, o, rfl, cell⟩ := h.at_ hd
      have Hd := hide hd
      clear hd
      by_cases h38 : d = 38
      · have e38 : ((d.toNat : Int) == 38) = true := by subst h38; rfl
        go_wp2
        go_ret
        exact .inr ⟨rfl, rfl⟩
      have e38 : ((d.toNat : Int) == 38) = false := eq_fact (k := 38) (by omega) h38
      by_cases h59 : d = 59
      · have e59 : ((d.toNat : Int) == 59) = true := by subst h59; rfl
        go_wp2
        go_ret
        exact .inr ⟨rfl, rfl⟩
      have e59 : ((d.toNat : Int) == 59) = false := eq_fact (k := 59) (by omega) h59
      by_cases h35 : d = 35
      · have e35 : ((d.toNat : Int) == 35) = true := by subst h35; rfl
        go_wp2
        go_ret
        exact .inr ⟨rfl, rfl⟩
      have e35 : ((d.toNat : Int) == 35) = false := eq_fact (k := 35) (by omega) h35
      by_cases h128 : 128 ≤ d.toNat
      · go_wp2
        go_ret
        exact .inr ⟨rfl, rfl⟩
      have H38 := hide h38
      clear h38 h59 h35
      go_wp2
      go_round
      case rel => exact ⟨k + 1, by omega, by go_num, fun j hj d' hd' => by
        rcases Nat.lt_or_ge j k with hjk | hjk
        · exact hto.out j hjk d' hd'
        · obtain rfl : j = k := by omega
          rw [Hd.out] at hd'
          injection hd' with hd'
          subst hd'
          exact H38.out⟩
      case measure => simp [intOf]; omega
    · have Hk := hide (fun j d hd => hto.out j (by have := (List.getElem?_eq_some_iff.1 hd).1; have := Hn.out; omega) d hd : ∀ (j : Nat) (d : UInt8), l[j]? = some d → d ≠ 38)
      by_cases h0 : n ≤ 100
      · go_wp2
        go_ret
        exact .inl ⟨ret_bool (by first | rfl | (simp; done) | (simp; omega)), ⟨Hk.out, by rw [Hn.out]; exact h0⟩, rfl⟩
      · go_wp2
        go_ret
        exact .inr ⟨ret_bool (by first | rfl | (simp; done) | (simp; omega)), rfl⟩
end Go.Proofs.YtnepjlfkbmindaaDoor
