/- The reference's tests of a value without quotation marks; how many times a byte is in a text; the law's quotation mark. Condition: the text is shorter than 2^31. -/
import Derived.Test.YtfelfbgppkiimaaDoorEscHB
import Derived.Test.YtfelfbgppkiimaaDoorUnq
import Derived.Test.YtfelfbgppkiimaaDoorIsV
import Derived.Test.YtfelfbgppkiimaaDoorDecE
import Derived.Test.YtfelfbgppkiimaaDoorSame
import Derived.LaidMore
namespace Go.Proofs.YtfelfbgppkiimaaDoor
open Go.RowKit
set_option linter.unusedVariables false

theorem quote9_34 (w : World) : Calls Tryd.prog 6 #[.bool false] w fun e w' => e = .returned (.int .u8 34) ∧ w = w' := by
  go_enter Tryd.func6, Tryd.ntmps6
  go_wp2
  go_ret
  exact ⟨rfl, rfl⟩
theorem quote9_39 (w : World) : Calls Tryd.prog 6 #[.bool true] w fun e w' => e = .returned (.int .u8 39) ∧ w = w' := by
  go_enter Tryd.func6, Tryd.ntmps6
  go_wp2
  go_ret
  exact ⟨rfl, rfl⟩
set_option maxHeartbeats 400000 in
theorem times_any (A : Option Addr) (l : List UInt8) (c : Nat) (q : UInt8) (z : Int) (m : Nat) (w : World) (hz : (q.toNat : Int) = z) (hm : cnt q l = m) (h : BS w A l) (h1 : l.length ≤ 2147483647) :
    Calls Tryd.prog 12 #[.slice A l.length c, .int .u8 z] w fun e w' => e = .returned (.int .i64 (m : Int)) ∧ w = w' := by
  subst hz hm
  have hx := q.toNat_lt
  go_enter Tryd.func12, Tryd.ntmps12
  go_wp2
  go_loop [5, 10] (fun n i => ∃ k a : Nat, k ≤ l.length ∧ n = .int .i64 (a : Int) ∧ i = .int .i64 (k : Int) ∧ a ≤ k ∧ Hid (cnt q (l.take k) = a)) (fun _ i => l.length - (intOf i).toNat)
  case atStart => exact ⟨0, 0, Nat.zero_le _, rfl, rfl, Nat.le_refl _, hide rfl⟩
  case round =>
    obtain ⟨k, a, hk, rfl, rfl, hak, ha⟩ := hrel
    by_cases hlt : k < l.length
    · obtain ⟨d, hd⟩ : ∃ d, l[k]? = some d := ⟨_, List.getElem?_eq_getElem hlt⟩
      obtain ⟨b, o, rfl, cell⟩ := h.at_ hd
      have hd256 := d.toNat_lt
      have hna := cnt_next (q := q) hd
      rw [ha.out] at hna
      by_cases hdx : d = q
      · have e : ((d.toNat : Int) == (q.toNat : Int)) = true := by rw [hdx]; simp
        rw [if_pos hdx] at hna
        have Hna := hide hna
        clear hd hdx hna
        go_wp2
        go_round
        case rel => exact ⟨k + 1, a + 1, by omega, by go_num, by go_num, by omega, Hna⟩
        case measure => simp [intOf]; omega
      · have e : ((d.toNat : Int) == (q.toNat : Int)) = false := by rw [beq_eq_false_iff_ne]; intro e; exact hdx (UInt8.toNat_inj.1 (by omega))
        rw [if_neg hdx] at hna
        have Hna := hide hna
        clear hd hdx hna
        go_wp2
        go_round
        case rel => exact ⟨k + 1, a, by omega, rfl, by go_num, by omega, Hna⟩
        case measure => simp [intOf]; omega
    · have hae := ha.out
      rw [List.take_of_length_le (by omega)] at hae
      have Hae := hide hae
      clear hae ha
      go_wp2
      go_ret
      exact ⟨ret_int (by rw [Hae.out]), rfl⟩
theorem noSp_facts {d : UInt8} (h : noSp d = true) : isBl d = false ∧ d ≠ 34 ∧ d ≠ 39 ∧ d ≠ 61 ∧ d ≠ 60 ∧ d ≠ 62 ∧ d ≠ 96 := by
  unfold noSp isSp at h
  simp only [Bool.not_eq_true', Bool.or_eq_false_iff, beq_eq_false_iff_ne] at h
  obtain ⟨⟨⟨⟨⟨⟨h1, h2⟩, h3⟩, h4⟩, h5⟩, h6⟩, h7⟩ := h
  exact ⟨h1, h2, h3, h5, h4, h6, h7⟩
theorem isBlS_f (c : UInt8) (w : World) (hb : isBl c = false) :
    Calls Tryd.prog 15 #[.int .u8 (c.toNat : Int)] w fun e w' => e = .returned (.bool false) ∧ w = w' := by
  have := isBlS_any c w
  rw [hb] at this
  exact this
theorem ne_u8 {d : UInt8} {n : Nat} (h : d.toNat ≠ n) : ((d.toNat : Int) == (n : Int)) = false := by rw [beq_eq_false_iff_ne]; omega
set_option maxHeartbeats 1000000 in
theorem bare_any (A : Option Addr) (l : List UInt8) (c : Nat) (w : World) (h : BS w A l) (h0 : 0 < l.length) (h1 : l.length ≤ 2147483647) (hU : l.all noSp = true) :
    Calls Tryd.prog 9 #[.slice A l.length c] w fun e w' => e = .returned (.bool true) ∧ w = w' := by
  have HU := hide hU
  clear hU
  go_enter Tryd.func9, Tryd.ntmps9
  go_wp2
  go_loop [7] (fun i => ∃ k : Nat, k ≤ l.length ∧ i = .int .i64 (k : Int)) (fun i => l.length - (intOf i).toNat)
  case atStart => exact ⟨0, Nat.zero_le _, rfl⟩
  case round =>
    obtain ⟨k, hk, rfl⟩ := hrel
    by_cases hlt : k < l.length
    · obtain ⟨d, hd⟩ : ∃ d, l[k]? = some d := ⟨_, List.getElem?_eq_getElem hlt⟩
      obtain ⟨b, o, rfl, cell⟩ := h.at_ hd
      have hd256 := d.toNat_lt
      obtain ⟨n0, n1, n2, n3, n4, n5, n6⟩ := noSp_facts (List.all_eq_true.1 HU.out d (List.mem_of_getElem? hd))
      have N0 := hide n0
      have t1 : ((d.toNat : Int) == 34) = false := by rw [beq_eq_false_iff_ne]; intro e; exact n1 (UInt8.toNat_inj.1 (by simp; omega))
      have t2 : ((d.toNat : Int) == 39) = false := by rw [beq_eq_false_iff_ne]; intro e; exact n2 (UInt8.toNat_inj.1 (by simp; omega))
      have t3 : ((d.toNat : Int) == 61) = false := by rw [beq_eq_false_iff_ne]; intro e; exact n3 (UInt8.toNat_inj.1 (by simp; omega))
      have t4 : ((d.toNat : Int) == 60) = false := by rw [beq_eq_false_iff_ne]; intro e; exact n4 (UInt8.toNat_inj.1 (by simp; omega))
      have t5 : ((d.toNat : Int) == 62) = false := by rw [beq_eq_false_iff_ne]; intro e; exact n5 (UInt8.toNat_inj.1 (by simp; omega))
      have t6 : ((d.toNat : Int) == 96) = false := by rw [beq_eq_false_iff_ne]; intro e; exact n6 (UInt8.toNat_inj.1 (by simp; omega))
      clear hd n0 n1 n2 n3 n4 n5 n6
      go_wp2_with (go_at_call 15; (with_reducible refine (isBlS_f _ _ N0.out).mono ?_); rintro e w' ⟨rfl, rfl⟩)
      go_round
      case rel => exact ⟨k + 1, by omega, by go_num⟩
      case measure => simp [intOf]; omega
    · go_wp2
      go_ret
      exact ⟨ret_bool (by first | (simp; done) | (simp; omega)), rfl⟩
/-- A text that begins with no quotation mark. -/
def UqB (A : Option Addr) (n c : Nat) (w : World) (e : Ending) (w' : World) : Prop := ∃ k, e = .returned (.tuple #[.slice A n c, .int .u8 0]) ∧ w' = w.drewN k
set_option maxHeartbeats 1000000 in
theorem uqb_any (A : Option Addr) (l : List UInt8) (c : Nat) (w : World) (h : BS w A l) (h0 : 0 < l.length) (h1 : l.length ≤ 2147483647) (hU : l.all noSp = true) :
    Calls Tryd.prog 7 #[.slice A l.length c] w (UqB A l.length c w) := by
  obtain ⟨d, hd⟩ : ∃ d, l[0]? = some d := ⟨_, List.getElem?_eq_getElem h0⟩
  obtain ⟨b, o, rfl, cell0⟩ := h.at_ hd
  rw [Nat.add_zero] at cell0
  obtain ⟨n0, n1, n2, n3, n4, n5, n6⟩ := noSp_facts (List.all_eq_true.1 hU d (List.mem_of_getElem? hd))
  have t1 : ((d.toNat : Int) == 34) = false := by rw [beq_eq_false_iff_ne]; intro e; exact n1 (UInt8.toNat_inj.1 (by simp; omega))
  have t2 : ((d.toNat : Int) == 39) = false := by rw [beq_eq_false_iff_ne]; intro e; exact n2 (UInt8.toNat_inj.1 (by simp; omega))
  clear hd n0 n1 n2 n3 n4 n5 n6 hU h
  by_cases h2 : 2 ≤ l.length
  · have b2 : decide (2 ≤ (l.length : Int)) = true := by rw [decide_eq_true_eq]; omega
    go_enter Tryd.func7, Tryd.ntmps7
    go_wp2
    have s8 : 0 < (l.length : Int) := by omega
    go_quiet (fail)
    clear s8
    go_wp2
    go_ret2
    exact ⟨_, rfl, rfl⟩
  · have b2 : decide (2 ≤ (l.length : Int)) = false := by rw [decide_eq_false_iff_not]; omega
    go_enter Tryd.func7, Tryd.ntmps7
    go_wp2
    go_quiet (fail)
    go_wp2
    go_ret2
    exact ⟨_, rfl, rfl⟩
end Go.Proofs.YtfelfbgppkiimaaDoor
