/- The reference's number with decimals and groups of digits. Conditions: below 10^15, at most six decimals, groups of one to six digits. (printed by gen_grps.py) -/
import Derived.Test.YtgalfebplancdaaDoorGrp
import Derived.Test.YtgalfebplancdaaDoorDecW
import Derived.Test.YtgalfebplancdaaDoorCat
namespace Go.Proofs.YtgalfebplancdaaDoor
open Go.RowKit
set_option linter.unusedVariables false

/-- One byte in front of a row. -/
theorem cons8 {w0 w : World} {A : Option Addr} {n c : Nat} {l : List UInt8} (own : OwnB w w0.heap.size A n c l) (hb : Below w0.heap.size w0 w) (x : UInt8) (z : Int) (hz : z = (x.toNat : Int)) (hl : n + 1 ≤ 4294967296) :
    ∃ A' c' w', (Builtin.append_ #[22, 22] 22 #[.slice (some ⟨w.heap.size, 0, none⟩) 1 1, .slice A n c]).run Tryd.prog (w.alloc (.cells #[.int .u8 z] 5)) = .ok (.slice A' (n + 1) c') w' ∧
      OwnB w' w0.heap.size A' (n + 1) c' (x :: l) ∧ Below w0.heap.size w0 w' := by
  subst hz
  have hsz := hb.size
  have own1 : OwnB (w.alloc (.cells #[.int .u8 (x.toNat : Int)] 5)) w0.heap.size (some ⟨w.heap.size, 0, none⟩) 1 1 [x] := OwnB.lit hsz rfl [x] 1 _ rfl (by omega) rfl
  obtain ⟨A2, c2, w2, hrun, own2, hg2, _⟩ := run_append8 (P := Tryd.prog) 22 22 Tryd.underlying22 u8_info own1 (own.bs.alloc (.cells #[.int .u8 (x.toNat : Int)] 5)) n c own.len (by omega) (by simp; omega)
  rw [Nat.add_comm 1 n] at hrun own2
  exact ⟨A2, c2, w2, hrun, own2, own1.bel (hb.alloc hsz _) hg2 (by simp; omega)⟩
theorem lastD_int (q : Nat) : ((lastD q).toNat : Int) = 48 + (q : Int) % 10 := by rw [lastD_toNat]; omega
def grouped (neg : Bool) (m d size : Nat) : List UInt8 := if neg then 45 :: groupedU m d size else groupedU m d size

set_option maxRecDepth 100000 in
set_option maxHeartbeats 2000000 in
theorem grouped_pos (m d size : Nat) (w : World) (hm : m < 1000000000000000) (hd : d ≤ 6) (hs : 0 < size) (hs6 : size ≤ 6) :
    Calls Tryd.prog 6 #[.int .i64 (m : Int), .int .i64 (d : Int), .int .i64 (size : Int), .int .u8 44, .int .u8 46] w (OwnRet (grouped false m d size) w) := by
  have hG := groupedU_le m d size hs hm
  have HG := hide hG
  clear hG
  have hsz1 : ((size : Int) == 0) = false := by rw [beq_eq_false_iff_ne]; omega
  have hmi : (m : Int) ≤ 9223372036854775807 := by omega
  clear hm
  go_enter Tryd.func6, Tryd.ntmps6
  go_wp2
  go_loopw [11, 12, 23] (fun t v i wr => ∃ (j q : Nat) (A' : Option Addr) (c' : Nat) (out : List UInt8), j ≤ d ∧ q ≤ m ∧ t = .int .u64 (q : Int) ∧ v = .slice A' j c' ∧ i = .int .i64 (j : Int) ∧ OwnB wr w.heap.size A' j c' out ∧ Hid (DecsAt m d j q out) ∧ Below w.heap.size w wr)
    (fun _ _ i _ => d - (intOf i).toNat)
  case atStart => exact ⟨0, m, _, _, [], Nat.zero_le _, Nat.le_refl _, by first | rfl | go_num, rfl, rfl, OwnB.empty w (Nat.le_refl _) rfl, hide (DecsAt.start m d), (Below.refl _ _).alloc (Nat.le_refl _) _⟩
  case round =>
    obtain ⟨j, q, A', c', out, hj, hq, rfl, rfl, rfl, own, hat, hbel⟩ := hrel
    by_cases hlt : j < d
    · obtain ⟨A2, c2, w2, hrun, own2, hbel2⟩ := cons8 own hbel (lastD q) (48 + (q : Int) % 10) (lastD_int q).symm (by omega)
      have Hrun := hide hrun
      have Hat2 := hide (hat.out.step hlt)
      clear hrun own hbel hat
      go_wp2_with (at_builtin; (with_reducible refine wpList_append_runG Hrun.out _ _ ?_ rfl rfl ?_ ?_ ?_); (rfl); (rfl); (rfl))
      go_roundw
      case rel => exact ⟨j + 1, q / 10, A2, c2, _, by omega, by omega, by go_num, rfl, by go_num, own2, Hat2, hbel2⟩
      case measure => simp [intOf]; omega
    · obtain rfl : d = j := by omega
      have hdn := hat.out.done
      obtain ⟨hout, hqe⟩ := hdn
      have Hfr : Hid (frac m d = if d = 0 then [] else 46 :: out) := hide (by unfold frac; rw [hout])
      have hl0 := own.len
      have Hq := hide hqe
      clear hat hout hqe
      by_cases hd0 : d = 0
      · have hout0 : out = [] := List.eq_nil_of_length_eq_zero (by omega)
        have Hst : Hid (IntsAt m d size 0 q out) := hide (by rw [Hq.out, hout0, show ([] : List UInt8) = frac m d by rw [Hfr.out, if_pos hd0]]; exact IntsAt.start m d size)
        have Hlen : Hid (out.length = d) := hide hl0
        have hdz : ¬ 0 < d := by omega
        clear hd0 hout0 hl0
        go_wp2
        go_loopw [11, 12, 13] (fun t v i wr => ∃ (j q k : Nat) (A' : Option Addr) (c' : Nat) (out : List UInt8), q ≤ m ∧ k ≤ 40 ∧ j ≤ k ∧ t = .int .u64 (q : Int) ∧ v = .slice A' k c' ∧ i = .int .i64 (j : Int) ∧ OwnB wr w.heap.size A' k c' out ∧ Hid (IntsAt m d size j q out) ∧ Below w.heap.size w wr)
          (fun t _ i _ => 100 * (intOf t).toNat + 1 - (intOf i).toNat)
        case atStart => exact ⟨0, q, d, A', c', out, hq, by omega, Nat.zero_le _, rfl, rfl, rfl, own, Hst, hbel⟩

        case round =>
          clear hj hq hlt Hfr Hq
          obtain ⟨j, q, k, A', c', out, hq, hk, hjk, rfl, rfl, rfl, own, hat, hbel⟩ := hrel
          have hlen := own.len
          by_cases hgo : 0 < q ∨ j = 0
          · have hroom := hat.out.room hgo
            have hst := hat.out.step hgo
            have hk2 : k + (if 0 < j ∧ j % size = 0 then 2 else 1) ≤ 40 := by have := HG.out; omega
            have Hlen := hide hlen
            clear hat hroom hlen
            by_cases hgr : 0 < j ∧ j % size = 0
            · rw [if_pos hgr] at hst hk2
              obtain ⟨hj0, hjm⟩ := hgr
              have hq0 : 0 < q := by omega
              have hmod : ((j : Int) % (size : Int) == 0) = true := by rw [beq_iff_eq]; exact_mod_cast hjm
              have hmod2 : (((j % size : Nat) : Int) == 0) = true := by rw [beq_iff_eq]; exact_mod_cast hjm
              have hj1 : ((j : Int) == 0) = false := by rw [beq_eq_false_iff_ne]; omega
              obtain ⟨A2, c2, w2, hrun, own2, hbel2⟩ := cons8 own hbel 44 44 rfl (by omega)
              obtain ⟨A3, c3, w3, hrun3, own3, hbel3⟩ := cons8 own2 hbel2 (lastD q) (48 + (q : Int) % 10) (lastD_int q).symm (by omega)
              have Hrun := hide hrun
              have Hrun3 := hide hrun3
              have Hst := hide hst
              clear hrun hrun3 own own2 hbel hbel2 hst hgo hjm
              go_wp2_with (first
                | (at_builtin; (with_reducible refine wpList_append_runG Hrun.out _ _ ?_ rfl rfl ?_ ?_ ?_); (rfl); (rfl); (rfl))
                | (at_builtin; (with_reducible refine wpList_append_runG Hrun3.out _ _ ?_ rfl rfl ?_ ?_ ?_); (rfl); (rfl); (rfl)))
              go_roundw
              case rel => exact ⟨j + 1, q / 10, k + 1 + 1, A3, c3, _, by omega, by omega, by omega, by go_num, rfl, by go_num, own3, Hst, hbel3⟩
              case measure => simp [intOf]; omega
            · rw [if_neg hgr] at hst hk2
              obtain ⟨A3, c3, w3, hrun3, own3, hbel3⟩ := cons8 own hbel (lastD q) (48 + (q : Int) % 10) (lastD_int q).symm (by omega)
              have Hrun3 := hide hrun3
              have Hst := hide hst
              clear hrun3 own hbel hst
              by_cases hj0 : j = 0
              · subst hj0
                clear hgo hgr
                go_wp2_with (at_builtin; (with_reducible refine wpList_append_runG Hrun3.out _ _ ?_ rfl rfl ?_ ?_ ?_); (rfl); (rfl); (rfl))
                go_roundw
                case rel => exact ⟨1, q / 10, k + 1, A3, c3, _, by omega, by omega, by omega, by go_num, rfl, by go_num, own3, Hst, hbel3⟩
                case measure => simp [intOf]; omega
              · have hjp : 0 < j := by omega
                have hq0 : 0 < q := by omega
                have hjm : ¬ j % size = 0 := fun e => hgr ⟨hjp, e⟩
                have hmod : ((j : Int) % (size : Int) == 0) = false := by rw [beq_eq_false_iff_ne]; exact_mod_cast hjm
                have hmod2 : (((j % size : Nat) : Int) == 0) = false := by rw [beq_eq_false_iff_ne]; exact_mod_cast hjm
                have hj1 : ((j : Int) == 0) = false := by rw [beq_eq_false_iff_ne]; omega
                clear hgo hgr hjm hj0
                go_wp2_with (at_builtin; (with_reducible refine wpList_append_runG Hrun3.out _ _ ?_ rfl rfl ?_ ?_ ?_); (rfl); (rfl); (rfl))
                go_roundw
                case rel => exact ⟨j + 1, q / 10, k + 1, A3, c3, _, by omega, by omega, by omega, by go_num, rfl, by go_num, own3, Hst, hbel3⟩
                case measure => simp [intOf]; omega
          · obtain rfl : q = 0 := by omega
            have hjp : 0 < j := by omega
            have hj1 : ((j : Int) == 0) = false := by rw [beq_eq_false_iff_ne]; omega
            have hout := hat.out.done hjp
            subst hout
            have Hlen := hide hlen
            clear hat hgo hlen
            go_wp2
            go_ret
            have e : (grouped false m d size).length = k := by unfold grouped; simp [Hlen.out]
            exact ⟨A', c', by rw [e]; rfl, by rw [e]; exact own, hbel⟩
      · have hdp : 0 < d := by omega
        obtain ⟨A2, c2, w2, hrun, own2, hbel2⟩ := cons8 own hbel 46 46 rfl (by omega)
        have Hrun := hide hrun
        have Hst : Hid (IntsAt m d size 0 q (46 :: out)) := hide (by rw [Hq.out, show 46 :: out = frac m d by rw [Hfr.out, if_neg hd0]]; exact IntsAt.start m d size)
        clear hrun own hbel hd0 hl0
        go_wp2_with (at_builtin; (with_reducible refine wpList_append_runG Hrun.out _ _ ?_ rfl rfl ?_ ?_ ?_); (rfl); (rfl); (rfl))
        go_loopw [11, 12, 13] (fun t v i wr => ∃ (j q k : Nat) (A' : Option Addr) (c' : Nat) (out : List UInt8), q ≤ m ∧ k ≤ 40 ∧ j ≤ k ∧ t = .int .u64 (q : Int) ∧ v = .slice A' k c' ∧ i = .int .i64 (j : Int) ∧ OwnB wr w.heap.size A' k c' out ∧ Hid (IntsAt m d size j q out) ∧ Below w.heap.size w wr)
          (fun t _ i _ => 100 * (intOf t).toNat + 1 - (intOf i).toNat)
        case atStart => exact ⟨0, q, d + 1, A2, c2, 46 :: out, hq, by omega, Nat.zero_le _, rfl, rfl, rfl, own2, Hst, hbel2⟩
        case round =>
          clear hj hq hlt Hfr Hq
          obtain ⟨j, q, k, A', c', out, hq, hk, hjk, rfl, rfl, rfl, own, hat, hbel⟩ := hrel
          have hlen := own.len
          by_cases hgo : 0 < q ∨ j = 0
          · have hroom := hat.out.room hgo
            have hst := hat.out.step hgo
            have hk2 : k + (if 0 < j ∧ j % size = 0 then 2 else 1) ≤ 40 := by have := HG.out; omega
            have Hlen := hide hlen
            clear hat hroom hlen
            by_cases hgr : 0 < j ∧ j % size = 0
            · rw [if_pos hgr] at hst hk2
              obtain ⟨hj0, hjm⟩ := hgr
              have hq0 : 0 < q := by omega
              have hmod : ((j : Int) % (size : Int) == 0) = true := by rw [beq_iff_eq]; exact_mod_cast hjm
              have hmod2 : (((j % size : Nat) : Int) == 0) = true := by rw [beq_iff_eq]; exact_mod_cast hjm
              have hj1 : ((j : Int) == 0) = false := by rw [beq_eq_false_iff_ne]; omega
              obtain ⟨A2, c2, w2, hrun, own2, hbel2⟩ := cons8 own hbel 44 44 rfl (by omega)
              obtain ⟨A3, c3, w3, hrun3, own3, hbel3⟩ := cons8 own2 hbel2 (lastD q) (48 + (q : Int) % 10) (lastD_int q).symm (by omega)
              have Hrun := hide hrun
              have Hrun3 := hide hrun3
              have Hst := hide hst
              clear hrun hrun3 own own2 hbel hbel2 hst hgo hjm
              go_wp2_with (first
                | (at_builtin; (with_reducible refine wpList_append_runG Hrun.out _ _ ?_ rfl rfl ?_ ?_ ?_); (rfl); (rfl); (rfl))
                | (at_builtin; (with_reducible refine wpList_append_runG Hrun3.out _ _ ?_ rfl rfl ?_ ?_ ?_); (rfl); (rfl); (rfl)))
              go_roundw
              case rel => exact ⟨j + 1, q / 10, k + 1 + 1, A3, c3, _, by omega, by omega, by omega, by go_num, rfl, by go_num, own3, Hst, hbel3⟩
              case measure => simp [intOf]; omega
            · rw [if_neg hgr] at hst hk2
              obtain ⟨A3, c3, w3, hrun3, own3, hbel3⟩ := cons8 own hbel (lastD q) (48 + (q : Int) % 10) (lastD_int q).symm (by omega)
              have Hrun3 := hide hrun3
              have Hst := hide hst
              clear hrun3 own hbel hst
              by_cases hj0 : j = 0
              · subst hj0
                clear hgo hgr
                go_wp2_with (at_builtin; (with_reducible refine wpList_append_runG Hrun3.out _ _ ?_ rfl rfl ?_ ?_ ?_); (rfl); (rfl); (rfl))
                go_roundw
                case rel => exact ⟨1, q / 10, k + 1, A3, c3, _, by omega, by omega, by omega, by go_num, rfl, by go_num, own3, Hst, hbel3⟩
                case measure => simp [intOf]; omega
              · have hjp : 0 < j := by omega
                have hq0 : 0 < q := by omega
                have hjm : ¬ j % size = 0 := fun e => hgr ⟨hjp, e⟩
                have hmod : ((j : Int) % (size : Int) == 0) = false := by rw [beq_eq_false_iff_ne]; exact_mod_cast hjm
                have hmod2 : (((j % size : Nat) : Int) == 0) = false := by rw [beq_eq_false_iff_ne]; exact_mod_cast hjm
                have hj1 : ((j : Int) == 0) = false := by rw [beq_eq_false_iff_ne]; omega
                clear hgo hgr hjm hj0
                go_wp2_with (at_builtin; (with_reducible refine wpList_append_runG Hrun3.out _ _ ?_ rfl rfl ?_ ?_ ?_); (rfl); (rfl); (rfl))
                go_roundw
                case rel => exact ⟨j + 1, q / 10, k + 1, A3, c3, _, by omega, by omega, by omega, by go_num, rfl, by go_num, own3, Hst, hbel3⟩
                case measure => simp [intOf]; omega
          · obtain rfl : q = 0 := by omega
            have hjp : 0 < j := by omega
            have hj1 : ((j : Int) == 0) = false := by rw [beq_eq_false_iff_ne]; omega
            have hout := hat.out.done hjp
            subst hout
            have Hlen := hide hlen
            clear hat hgo hlen
            go_wp2
            go_ret
            have e : (grouped false m d size).length = k := by unfold grouped; simp [Hlen.out]
            exact ⟨A', c', by rw [e]; rfl, by rw [e]; exact own, hbel⟩

set_option maxRecDepth 100000 in
set_option maxHeartbeats 2000000 in
theorem grouped_neg (m d size : Nat) (w : World) (hm : m < 1000000000000000) (hd : d ≤ 6) (hs : 0 < size) (hs6 : size ≤ 6) (hm0 : 0 < m) :
    Calls Tryd.prog 6 #[.int .i64 (-(m : Int)), .int .i64 (d : Int), .int .i64 (size : Int), .int .u8 44, .int .u8 46] w (OwnRet (grouped true m d size) w) := by
  have hG := groupedU_le m d size hs hm
  have HG := hide hG
  clear hG
  have hsz1 : ((size : Int) == 0) = false := by rw [beq_eq_false_iff_ne]; omega
  have hmi : (m : Int) ≤ 9223372036854775807 := by omega
  clear hm
  go_enter Tryd.func6, Tryd.ntmps6
  go_wp2
  go_loopw [11, 12, 23] (fun t v i wr => ∃ (j q : Nat) (A' : Option Addr) (c' : Nat) (out : List UInt8), j ≤ d ∧ q ≤ m ∧ t = .int .u64 (q : Int) ∧ v = .slice A' j c' ∧ i = .int .i64 (j : Int) ∧ OwnB wr w.heap.size A' j c' out ∧ Hid (DecsAt m d j q out) ∧ Below w.heap.size w wr)
    (fun _ _ i _ => d - (intOf i).toNat)
  case atStart => exact ⟨0, m, _, _, [], Nat.zero_le _, Nat.le_refl _, by first | rfl | go_num, rfl, rfl, OwnB.empty w (Nat.le_refl _) rfl, hide (DecsAt.start m d), (Below.refl _ _).alloc (Nat.le_refl _) _⟩
  case round =>
    obtain ⟨j, q, A', c', out, hj, hq, rfl, rfl, rfl, own, hat, hbel⟩ := hrel
    by_cases hlt : j < d
    · obtain ⟨A2, c2, w2, hrun, own2, hbel2⟩ := cons8 own hbel (lastD q) (48 + (q : Int) % 10) (lastD_int q).symm (by omega)
      have Hrun := hide hrun
      have Hat2 := hide (hat.out.step hlt)
      clear hrun own hbel hat
      go_wp2_with (at_builtin; (with_reducible refine wpList_append_runG Hrun.out _ _ ?_ rfl rfl ?_ ?_ ?_); (rfl); (rfl); (rfl))
      go_roundw
      case rel => exact ⟨j + 1, q / 10, A2, c2, _, by omega, by omega, by go_num, rfl, by go_num, own2, Hat2, hbel2⟩
      case measure => simp [intOf]; omega
    · obtain rfl : d = j := by omega
      have hdn := hat.out.done
      obtain ⟨hout, hqe⟩ := hdn
      have Hfr : Hid (frac m d = if d = 0 then [] else 46 :: out) := hide (by unfold frac; rw [hout])
      have hl0 := own.len
      have Hq := hide hqe
      clear hat hout hqe
      by_cases hd0 : d = 0
      · have hout0 : out = [] := List.eq_nil_of_length_eq_zero (by omega)
        have Hst : Hid (IntsAt m d size 0 q out) := hide (by rw [Hq.out, hout0, show ([] : List UInt8) = frac m d by rw [Hfr.out, if_pos hd0]]; exact IntsAt.start m d size)
        have Hlen : Hid (out.length = d) := hide hl0
        have hdz : ¬ 0 < d := by omega
        clear hd0 hout0 hl0
        go_wp2
        go_loopw [11, 12, 13] (fun t v i wr => ∃ (j q k : Nat) (A' : Option Addr) (c' : Nat) (out : List UInt8), q ≤ m ∧ k ≤ 40 ∧ j ≤ k ∧ t = .int .u64 (q : Int) ∧ v = .slice A' k c' ∧ i = .int .i64 (j : Int) ∧ OwnB wr w.heap.size A' k c' out ∧ Hid (IntsAt m d size j q out) ∧ Below w.heap.size w wr)
          (fun t _ i _ => 100 * (intOf t).toNat + 1 - (intOf i).toNat)
        case atStart => exact ⟨0, q, d, A', c', out, hq, by omega, Nat.zero_le _, rfl, rfl, rfl, own, Hst, hbel⟩

        case round =>
          clear hj hq hlt Hfr Hq
          obtain ⟨j, q, k, A', c', out, hq, hk, hjk, rfl, rfl, rfl, own, hat, hbel⟩ := hrel
          have hlen := own.len
          by_cases hgo : 0 < q ∨ j = 0
          · have hroom := hat.out.room hgo
            have hst := hat.out.step hgo
            have hk2 : k + (if 0 < j ∧ j % size = 0 then 2 else 1) ≤ 40 := by have := HG.out; omega
            have Hlen := hide hlen
            clear hat hroom hlen
            by_cases hgr : 0 < j ∧ j % size = 0
            · rw [if_pos hgr] at hst hk2
              obtain ⟨hj0, hjm⟩ := hgr
              have hq0 : 0 < q := by omega
              have hmod : ((j : Int) % (size : Int) == 0) = true := by rw [beq_iff_eq]; exact_mod_cast hjm
              have hmod2 : (((j % size : Nat) : Int) == 0) = true := by rw [beq_iff_eq]; exact_mod_cast hjm
              have hj1 : ((j : Int) == 0) = false := by rw [beq_eq_false_iff_ne]; omega
              obtain ⟨A2, c2, w2, hrun, own2, hbel2⟩ := cons8 own hbel 44 44 rfl (by omega)
              obtain ⟨A3, c3, w3, hrun3, own3, hbel3⟩ := cons8 own2 hbel2 (lastD q) (48 + (q : Int) % 10) (lastD_int q).symm (by omega)
              have Hrun := hide hrun
              have Hrun3 := hide hrun3
              have Hst := hide hst
              clear hrun hrun3 own own2 hbel hbel2 hst hgo hjm
              go_wp2_with (first
                | (at_builtin; (with_reducible refine wpList_append_runG Hrun.out _ _ ?_ rfl rfl ?_ ?_ ?_); (rfl); (rfl); (rfl))
                | (at_builtin; (with_reducible refine wpList_append_runG Hrun3.out _ _ ?_ rfl rfl ?_ ?_ ?_); (rfl); (rfl); (rfl)))
              go_roundw
              case rel => exact ⟨j + 1, q / 10, k + 1 + 1, A3, c3, _, by omega, by omega, by omega, by go_num, rfl, by go_num, own3, Hst, hbel3⟩
              case measure => simp [intOf]; omega
            · rw [if_neg hgr] at hst hk2
              obtain ⟨A3, c3, w3, hrun3, own3, hbel3⟩ := cons8 own hbel (lastD q) (48 + (q : Int) % 10) (lastD_int q).symm (by omega)
              have Hrun3 := hide hrun3
              have Hst := hide hst
              clear hrun3 own hbel hst
              by_cases hj0 : j = 0
              · subst hj0
                clear hgo hgr
                go_wp2_with (at_builtin; (with_reducible refine wpList_append_runG Hrun3.out _ _ ?_ rfl rfl ?_ ?_ ?_); (rfl); (rfl); (rfl))
                go_roundw
                case rel => exact ⟨1, q / 10, k + 1, A3, c3, _, by omega, by omega, by omega, by go_num, rfl, by go_num, own3, Hst, hbel3⟩
                case measure => simp [intOf]; omega
              · have hjp : 0 < j := by omega
                have hq0 : 0 < q := by omega
                have hjm : ¬ j % size = 0 := fun e => hgr ⟨hjp, e⟩
                have hmod : ((j : Int) % (size : Int) == 0) = false := by rw [beq_eq_false_iff_ne]; exact_mod_cast hjm
                have hmod2 : (((j % size : Nat) : Int) == 0) = false := by rw [beq_eq_false_iff_ne]; exact_mod_cast hjm
                have hj1 : ((j : Int) == 0) = false := by rw [beq_eq_false_iff_ne]; omega
                clear hgo hgr hjm hj0
                go_wp2_with (at_builtin; (with_reducible refine wpList_append_runG Hrun3.out _ _ ?_ rfl rfl ?_ ?_ ?_); (rfl); (rfl); (rfl))
                go_roundw
                case rel => exact ⟨j + 1, q / 10, k + 1, A3, c3, _, by omega, by omega, by omega, by go_num, rfl, by go_num, own3, Hst, hbel3⟩
                case measure => simp [intOf]; omega
          · obtain rfl : q = 0 := by omega
            have hjp : 0 < j := by omega
            have hj1 : ((j : Int) == 0) = false := by rw [beq_eq_false_iff_ne]; omega
            have hout := hat.out.done hjp
            subst hout
            have Hlen := hide hlen
            clear hat hgo hlen
            obtain ⟨A2, c2, w2, hrun, own2, hbel2⟩ := cons8 own hbel 45 45 rfl (by omega)
            have Hrun := hide hrun
            clear hrun own hbel
            go_wp2_with (at_builtin; (with_reducible refine wpList_append_runG Hrun.out _ _ ?_ rfl rfl ?_ ?_ ?_); (rfl); (rfl); (rfl))
            go_ret
            have e : (grouped true m d size).length = k + 1 := by unfold grouped; simp [Hlen.out]
            exact ⟨A2, c2, by rw [e]; rfl, by rw [e]; exact own2, hbel2⟩
      · have hdp : 0 < d := by omega
        obtain ⟨A2, c2, w2, hrun, own2, hbel2⟩ := cons8 own hbel 46 46 rfl (by omega)
        have Hrun := hide hrun
        have Hst : Hid (IntsAt m d size 0 q (46 :: out)) := hide (by rw [Hq.out, show 46 :: out = frac m d by rw [Hfr.out, if_neg hd0]]; exact IntsAt.start m d size)
        clear hrun own hbel hd0 hl0
        go_wp2_with (at_builtin; (with_reducible refine wpList_append_runG Hrun.out _ _ ?_ rfl rfl ?_ ?_ ?_); (rfl); (rfl); (rfl))
        go_loopw [11, 12, 13] (fun t v i wr => ∃ (j q k : Nat) (A' : Option Addr) (c' : Nat) (out : List UInt8), q ≤ m ∧ k ≤ 40 ∧ j ≤ k ∧ t = .int .u64 (q : Int) ∧ v = .slice A' k c' ∧ i = .int .i64 (j : Int) ∧ OwnB wr w.heap.size A' k c' out ∧ Hid (IntsAt m d size j q out) ∧ Below w.heap.size w wr)
          (fun t _ i _ => 100 * (intOf t).toNat + 1 - (intOf i).toNat)
        case atStart => exact ⟨0, q, d + 1, A2, c2, 46 :: out, hq, by omega, Nat.zero_le _, rfl, rfl, rfl, own2, Hst, hbel2⟩
        case round =>
          clear hj hq hlt Hfr Hq
          obtain ⟨j, q, k, A', c', out, hq, hk, hjk, rfl, rfl, rfl, own, hat, hbel⟩ := hrel
          have hlen := own.len
          by_cases hgo : 0 < q ∨ j = 0
          · have hroom := hat.out.room hgo
            have hst := hat.out.step hgo
            have hk2 : k + (if 0 < j ∧ j % size = 0 then 2 else 1) ≤ 40 := by have := HG.out; omega
            have Hlen := hide hlen
            clear hat hroom hlen
            by_cases hgr : 0 < j ∧ j % size = 0
            · rw [if_pos hgr] at hst hk2
              obtain ⟨hj0, hjm⟩ := hgr
              have hq0 : 0 < q := by omega
              have hmod : ((j : Int) % (size : Int) == 0) = true := by rw [beq_iff_eq]; exact_mod_cast hjm
              have hmod2 : (((j % size : Nat) : Int) == 0) = true := by rw [beq_iff_eq]; exact_mod_cast hjm
              have hj1 : ((j : Int) == 0) = false := by rw [beq_eq_false_iff_ne]; omega
              obtain ⟨A2, c2, w2, hrun, own2, hbel2⟩ := cons8 own hbel 44 44 rfl (by omega)
              obtain ⟨A3, c3, w3, hrun3, own3, hbel3⟩ := cons8 own2 hbel2 (lastD q) (48 + (q : Int) % 10) (lastD_int q).symm (by omega)
              have Hrun := hide hrun
              have Hrun3 := hide hrun3
              have Hst := hide hst
              clear hrun hrun3 own own2 hbel hbel2 hst hgo hjm
              go_wp2_with (first
                | (at_builtin; (with_reducible refine wpList_append_runG Hrun.out _ _ ?_ rfl rfl ?_ ?_ ?_); (rfl); (rfl); (rfl))
                | (at_builtin; (with_reducible refine wpList_append_runG Hrun3.out _ _ ?_ rfl rfl ?_ ?_ ?_); (rfl); (rfl); (rfl)))
              go_roundw
              case rel => exact ⟨j + 1, q / 10, k + 1 + 1, A3, c3, _, by omega, by omega, by omega, by go_num, rfl, by go_num, own3, Hst, hbel3⟩
              case measure => simp [intOf]; omega
            · rw [if_neg hgr] at hst hk2
              obtain ⟨A3, c3, w3, hrun3, own3, hbel3⟩ := cons8 own hbel (lastD q) (48 + (q : Int) % 10) (lastD_int q).symm (by omega)
              have Hrun3 := hide hrun3
              have Hst := hide hst
              clear hrun3 own hbel hst
              by_cases hj0 : j = 0
              · subst hj0
                clear hgo hgr
                go_wp2_with (at_builtin; (with_reducible refine wpList_append_runG Hrun3.out _ _ ?_ rfl rfl ?_ ?_ ?_); (rfl); (rfl); (rfl))
                go_roundw
                case rel => exact ⟨1, q / 10, k + 1, A3, c3, _, by omega, by omega, by omega, by go_num, rfl, by go_num, own3, Hst, hbel3⟩
                case measure => simp [intOf]; omega
              · have hjp : 0 < j := by omega
                have hq0 : 0 < q := by omega
                have hjm : ¬ j % size = 0 := fun e => hgr ⟨hjp, e⟩
                have hmod : ((j : Int) % (size : Int) == 0) = false := by rw [beq_eq_false_iff_ne]; exact_mod_cast hjm
                have hmod2 : (((j % size : Nat) : Int) == 0) = false := by rw [beq_eq_false_iff_ne]; exact_mod_cast hjm
                have hj1 : ((j : Int) == 0) = false := by rw [beq_eq_false_iff_ne]; omega
                clear hgo hgr hjm hj0
                go_wp2_with (at_builtin; (with_reducible refine wpList_append_runG Hrun3.out _ _ ?_ rfl rfl ?_ ?_ ?_); (rfl); (rfl); (rfl))
                go_roundw
                case rel => exact ⟨j + 1, q / 10, k + 1, A3, c3, _, by omega, by omega, by omega, by go_num, rfl, by go_num, own3, Hst, hbel3⟩
                case measure => simp [intOf]; omega
          · obtain rfl : q = 0 := by omega
            have hjp : 0 < j := by omega
            have hj1 : ((j : Int) == 0) = false := by rw [beq_eq_false_iff_ne]; omega
            have hout := hat.out.done hjp
            subst hout
            have Hlen := hide hlen
            clear hat hgo hlen
            obtain ⟨A2, c2, w2, hrun, own2, hbel2⟩ := cons8 own hbel 45 45 rfl (by omega)
            have Hrun := hide hrun
            clear hrun own hbel
            go_wp2_with (at_builtin; (with_reducible refine wpList_append_runG Hrun.out _ _ ?_ rfl rfl ?_ ?_ ?_); (rfl); (rfl); (rfl))
            go_ret
            have e : (grouped true m d size).length = k + 1 := by unfold grouped; simp [Hlen.out]
            exact ⟨A2, c2, by rw [e]; rfl, by rw [e]; exact own2, hbel2⟩

end Go.Proofs.YtgalfebplancdaaDoor
