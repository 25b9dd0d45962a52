/- The package's writing of a text as the value of an attribute of HTML, the ways that write entities, case 2. Conditions: as there. (printed by gen_esch.py) -/
import Derived.Test.YtfelfbgppkiimaaDoorEscHB
namespace Go.Proofs.YtfelfbgppkiimaaDoor
open Go.RowKit
set_option linter.unusedVariables false
set_option linter.unusedSimpArgs false

set_option maxRecDepth 100000 in
set_option maxHeartbeats 8000000 in
theorem hT_34_34_2s (gp g0 : Nat) (l : List UInt8) (X : Option Addr) (w : World) (hcell : w.cell? ⟨gp, 0, none⟩ = some (.slice X 0 0)) (hfr : w.frozen? ⟨gp, 0, none⟩ = false) (bs : BS w (some ⟨g0, 0, none⟩) l) (hne : g0 ≠ gp) (hg0 : g0 < w.heap.size) (h1 : l.length ≤ 500) (ht : CtTab w) (hU : l.all noSp = false) (hq : 0 < cnt 34 l ∧ cnt 34 l ≤ cnt 39 l ∧ cnt 34 l < cnt 39 l) :
    Calls Tryd.prog 13 #[.pointer (some ⟨gp, 0, none⟩), .slice (some ⟨g0, 0, none⟩) l.length l.length, .int .u8 34, .bool true] w (ATRet gp 34 l w) := by
  have Ht := hide ht
  have HU := hide hU
  have Bs := hide bs
  have Hq := hide hq
  have hgp : gp < w.heap.size := block_lt_of_cell hcell
  obtain ⟨m, hm⟩ : ∃ m, m = cnt 34 l := ⟨_, rfl⟩
  have hm5 : m ≤ 500 := by have := cnt_le 34 l l.length; rw [List.take_length] at this; omega
  have hmk := run_make0 (l.length + 2 + m * 4) ((l.length : Int) + 2 + (m : Int) * 4) (by simp) (by omega) .i64 .i64
  have hmc := made_first (n := (l.length + 2 + m * 4)) (by omega)
  have Bl0 := hide (madeA_blk (w := w) (gp := gp) (n := (l.length + 2 + m * 4)) (ent := #[.int .u8 38, .int .u8 35, .int .u8 51, .int .u8 52, .int .u8 59]) (q := 34) rfl)
  have Bs0 := hide (madeA_bs (n := (l.length + 2 + m * 4)) (gt := w.heap.size + 1) (ent := #[.int .u8 38, .int .u8 35, .int .u8 51, .int .u8 52, .int .u8 59]) (q := 34) bs hne)
  have Be0 := hide (show BS (madeA w gp (l.length + 2 + m * 4) (w.heap.size + 1) #[.int .u8 38, .int .u8 35, .int .u8 51, .int .u8 52, .int .u8 59] 34) (some ⟨w.heap.size, 0, none⟩) ent34 from madeA_ent w gp (l.length + 2 + m * 4) (w.heap.size + 1) 34 [38, 35, 51, 52, 59])
  have Hg0 := hide hg0
  have Hm := hide hm
  have Hatt := hide (attr_len 34 l)
  have HrunT := hide (fun (A : Option Addr) (w' : World) => run_hi8 (P := Tryd.prog) (A := A) 22 Tryd.underlying22 (by kernel_rfl) 0 (l.length + 2 + m * 4) (l.length + 2 + m * 4) ((l.length : Int) + 2 + (m : Int) * 4) (by simp) (Nat.le_refl _) .i64 w')
  clear bs hne hm hq ht hU
  go_enter Tryd.func13, Tryd.ntmps13
  go_wp2
  go_loop [9, 10, 11, 25] (fun vs vd vu vi => ∃ (k a b : Nat) (u : Bool), k ≤ l.length ∧ vs = .int .i64 (a : Int) ∧ vd = .int .i64 (b : Int) ∧ vu = .bool u ∧ vi = .int .i64 (k : Int) ∧ a ≤ k ∧ b ≤ k ∧ Hid (cnt 39 (l.take k) = a) ∧ Hid (cnt 34 (l.take k) = b) ∧ Hid ((l.take k).all noSp = u)) (fun _ _ _ vi => l.length - (intOf vi).toNat)
  case atStart => exact ⟨0, 0, 0, true, Nat.zero_le _, rfl, rfl, rfl, rfl, Nat.le_refl _, Nat.le_refl _, hide rfl, hide rfl, hide rfl⟩
  case round =>
    obtain ⟨k, a, b, u, hk, rfl, rfl, rfl, rfl, hak, hbk, ha, hb, hu⟩ := hrel
    by_cases hlt : k < l.length
    · obtain ⟨d, hd⟩ : ∃ x, l[k]? = some x := ⟨_, List.getElem?_eq_getElem hlt⟩
      obtain ⟨b1, o1, e1, cell1⟩ := Bs.out.at_ hd
      simp only [Option.some.injEq, Addr.mk.injEq, and_true] at e1
      obtain ⟨rfl, rfl⟩ := e1
      rw [Nat.zero_add] at cell1
      have d256 := d.toNat_lt
      have cellT := Ht.out d
      have hna := cnt_next (q := 39) hd
      have hnb := cnt_next (q := 34) hd
      have hnu := all_next hd hu.out
      rw [ha.out] at hna
      rw [hb.out] at hnb
      cases hs : isSp d with
      | false =>
        rw [hs] at cellT
        have h3439 := noSp_quotes hs
        rw [if_neg h3439.2] at hna
        rw [if_neg h3439.1] at hnb
        rw [hs, Bool.not_false, Bool.and_true] at hnu
        have Hna := hide hna
        have Hnb := hide hnb
        have Hnu := hide hnu
        clear hd hna hnb hnu hs h3439
        go_wp2
        go_round
        case rel => exact ⟨k + 1, a, b, u, by omega, rfl, rfl, rfl, by go_num, by omega, by omega, Hna, Hnb, Hnu⟩
        case measure => simp [intOf]; omega
      | true =>
        rw [hs] at cellT
        rw [hs, Bool.not_true, Bool.and_false] at hnu
        by_cases h34 : d = 34
        · have t1 : ((d.toNat : Int) == 34) = true := by rw [h34]; rfl
          rw [if_neg (by rw [h34]; decide)] at hna
          rw [if_pos h34] at hnb
          have Hna := hide hna
          have Hnb := hide hnb
          have Hnu := hide hnu
          clear hd hna hnb hnu hs h34
          go_wp2
          go_round
          case rel => exact ⟨k + 1, a, b + 1, false, by omega, rfl, by go_num, rfl, by go_num, by omega, by omega, Hna, Hnb, Hnu⟩
          case measure => simp [intOf]; omega
        · have t1 : ((d.toNat : Int) == 34) = false := by rw [beq_eq_false_iff_ne]; intro e; exact h34 (UInt8.toNat_inj.1 (by simp; omega))
          rw [if_neg h34] at hnb
          by_cases h39 : d = 39
          · have t2 : ((d.toNat : Int) == 39) = true := by rw [h39]; rfl
            rw [if_pos h39] at hna
            have Hna := hide hna
            have Hnb := hide hnb
            have Hnu := hide hnu
            clear hd hna hnb hnu hs h34 h39
            go_wp2
            go_round
            case rel => exact ⟨k + 1, a + 1, b, false, by omega, by go_num, rfl, rfl, by go_num, by omega, by omega, Hna, Hnb, Hnu⟩
            case measure => simp [intOf]; omega
          · have t2 : ((d.toNat : Int) == 39) = false := by rw [beq_eq_false_iff_ne]; intro e; exact h39 (UInt8.toNat_inj.1 (by simp; omega))
            rw [if_neg h39] at hna
            have Hna := hide hna
            have Hnb := hide hnb
            have Hnu := hide hnu
            clear hd hna hnb hnu hs h34 h39
            go_wp2
            go_round
            case rel => exact ⟨k + 1, a, b, false, by omega, rfl, rfl, rfl, by go_num, by omega, by omega, Hna, Hnb, Hnu⟩
            case measure => simp [intOf]; omega
    · obtain rfl : k = l.length := by omega
      have hae := ha.out
      have hbe := hb.out
      have hue := hu.out
      rw [List.take_length] at hae hbe hue
      have huU := HU.out
      rw [hue] at huU
      subst huU
      have hq2 := Hq.out
      rw [hae, hbe] at hq2
      have hm2 := Hm.out
      rw [hbe] at hm2
      subst hm2
      clear hae hbe hue ha hb hu
      have z1 : ((a : Int) == 0) = false := by rw [beq_eq_false_iff_ne]; omega
      have z2 : ((m : Int) == 0) = false := by rw [beq_eq_false_iff_ne]; omega
      have hgt : decide (0 < ((l.length : Int) + 2 + (m : Int) * 4)) = true := by rw [decide_eq_true_eq]; omega
      have g1 : decide (m < a) = true := by rw [decide_eq_true_eq]; omega
      clear hq2
      go_wp2_with (first
        | (go_at_call 17; (with_reducible refine (dq_any _).mono ?_); rintro e w' ⟨rfl, rfl⟩)
        | ((with_reducible refine wpList_slice_runO (HrunT.out _ _) _ _ _ ?_ rfl ?_ ?_ ?_ ?_); (rfl); (rfl); (rfl); (rfl)))
      clear hmk hmc hgt z1 z2
      clear g1
      go_loopw [19, 20, 145] (fun vj vs vi wr => ∃ (j s i : Nat) (cur : List UInt8), vj = .int .i64 (j : Int) ∧ vs = .int .i64 (s : Int) ∧ vi = .int .i64 (i : Int) ∧ i ≤ l.length ∧ cur.length = (l.length + 2 + m * 4) ∧ Hid (EscIn (fQ 34) [34] l cur i s j) ∧ Hid (Blk8 wr (w.heap.size + 1) cur) ∧ (madeA w gp (l.length + 2 + m * 4) (w.heap.size + 1) #[.int .u8 38, .int .u8 35, .int .u8 51, .int .u8 52, .int .u8 59] 34).grownBy wr (some (w.heap.size + 1))) (fun _ _ vi _ => l.length - (intOf vi).toNat)
      case atStart => exact ⟨1, 0, 0, (List.replicate (l.length + 2 + m * 4) 0).set 0 34, rfl, rfl, rfl, Nat.zero_le _, by simp, hide (EscIn.begin_ (by have h3 := extQ_len 34 l; rw [← Hm.out] at h3; simp; omega) (by rw [show l.length + 2 + m * 4 = (l.length + 1 + m * 4) + 1 by omega, List.replicate_succ]; rfl)), Bl0, World.grownBy.refl _ _⟩
      case round =>
        obtain ⟨j, s, i, cur, rfl, rfl, rfl, hi, hcl, hin, hb, hgr⟩ := hrel
        have hbs : BS wr (some ⟨g0, 0, none⟩) l := bs_apart Bs0.out hgr (by have := Hg0.out; omega)
        have hbe : BS wr (some ⟨w.heap.size, 0, none⟩) ent34 := bs_apart Be0.out hgr (by omega)
        have hsi := hin.out.si
        have hroom := hin.out.room1
        have Hcl := hide hcl
        rw [hcl] at hroom
        have hj1 : j ≤ l.length + 1 + m * 4 := by
          have h3 := hin.out.jl
          have h4 := esc_le (fQ 34) l s
          have h5 := extQ_len 34 l
          rw [← Hm.out] at h5
          simp at h3
          omega
        clear hcl
        by_cases hlt : i < l.length
        · obtain ⟨d, hd⟩ : ∃ x, l[i]? = some x := ⟨_, List.getElem?_eq_getElem hlt⟩
          obtain ⟨b1, o1, e1, cell1⟩ := hbs.at_ hd
          simp only [Option.some.injEq, Addr.mk.injEq, and_true] at e1
          obtain ⟨rfl, rfl⟩ := e1
          rw [Nat.zero_add] at cell1
          have d256 := d.toNat_lt
          by_cases hdq : d = 34
          · have t1 : ((d.toNat : Int) == 34) = true := by rw [hdq]; rfl
            have hf : fQ 34 d = ent34 := by subst hdq; rfl
            have Hin2 := hide (hin.out.ent hd)
            have hr2 := hin.out.room hd
            rw [hf] at Hin2
            rw [Hcl.out, show (fQ 34 d).length = 5 by rw [hf]; rfl] at hr2
            obtain ⟨r, hr⟩ : ∃ r, r = i - s := ⟨_, rfl⟩
            have hsec := sec_len (l := l) hsi hi
            obtain ⟨w1, hrun1, hb1, hg1⟩ := run_put8 (w := wr.drew) (hb.out.drew) ((hbs.cut rfl s).take (i - s)).drew j (by rw [hsec, Hcl.out]; omega) ((l.length + 2 + m * 4) - j) (i - s) ((l.length + 2 + m * 4) - j) (l.length - s) r (by rw [Hcl.out]) hsec hr
            rw [Nat.zero_add] at hrun1
            have hcl1 : (put8 cur j ((l.drop s).take (i - s))).length = (l.length + 2 + m * 4) := by rw [put8_len (by rw [hsec, Hcl.out]; omega), Hcl.out]
            have g1 : (madeA w gp (l.length + 2 + m * 4) (w.heap.size + 1) #[.int .u8 38, .int .u8 35, .int .u8 51, .int .u8 52, .int .u8 59] 34).grownBy w1 (some (w.heap.size + 1)) := World.grownBy.trans (b := wr.drew) ⟨hgr.os, hgr.tape, hgr.output, hgr.size, hgr.block⟩ hg1
            obtain ⟨w2, hrun2, hb2, hg2⟩ := run_put8 (w := w1) hb1 (bs_apart (G := w.heap.size + 1) Be0.out g1 (by omega)) (j + r) (by rw [hcl1, hr]; simp [ent34]; omega) ((l.length + 2 + m * 4) - (j + r)) 5 ((l.length + 2 + m * 4) - (j + r)) 5 5 (by rw [hcl1]) rfl rfl
            have Hrun1 := hide hrun1
            have Hrun2 := hide hrun2
            have Hcl2 := hide (show (put8 (put8 cur j ((l.drop s).take (i - s))) (j + r) ent34).length = (l.length + 2 + m * 4) by rw [put8_len (by rw [hcl1, hr]; simp [ent34]; omega), hcl1])
            have Hb2 := hide hb2
            have hgr2 : (madeA w gp (l.length + 2 + m * 4) (w.heap.size + 1) #[.int .u8 38, .int .u8 35, .int .u8 51, .int .u8 52, .int .u8 59] 34).grownBy w2 (some (w.heap.size + 1)) := g1.trans hg2
            rw [← hr] at Hin2 Hb2 Hcl2
            have s1 : IntKind.i64.wrap ((j : Int) + (r : Int)) = (j : Int) + (r : Int) := IntWalk.i64_in _ (by omega)
            have S := hide s1
            have hjr : j + r + 5 ≤ (l.length + 2 + m * 4) := by omega
            clear hd hf hr hsec hrun1 hb1 hg1 hcl1 hrun2 hb2 hg2 s1 hroom hr2 hdq g1
            go_wp2
            have s1 := S.out
            have q1 : (j : Int) ≤ ((l.length : Int) + 2 + (m : Int) * 4) := by omega
            have q2 : ¬ (l.length + 2 + m * 4) = j := by omega
            have q3 : ¬ l.length = s := by omega
            have q4 : (i : Int) ≤ (l.length : Int) := by omega
            go_region_law ((with_reducible refine step_copy_runG Hrun1.out _ _ ?_ rfl rfl ?_ ?_ ?_); (rfl); (simp [Act.eval, Act.put]); (simp [Act.eval, Act.put]))
            all_goals
              clear q1 q2 q3 q4 s1
              have q2 : ¬ (l.length + 2 + m * 4) = j + r := by omega
              have q5 : (j : Int) + (r : Int) ≤ ((l.length : Int) + 2 + (m : Int) * 4) := by omega
              go_wp2_with ((with_reducible refine wpList_copy_runG Hrun2.out _ _ ?_ rfl rfl ?_ ?_ ?_); (rfl); (simp [Act.eval, Act.put]); (simp [Act.eval, Act.put]))
              clear q2 q5
              go_roundw
              case rel => exact ⟨j + r + 5, i + 1, i + 1, _, by go_num, by go_num, by go_num, by omega, Hcl2.out, Hin2, Hb2, hgr2⟩
              case measure => simp [intOf]; omega
          · have t1 : ((d.toNat : Int) == 34) = false := by rw [beq_eq_false_iff_ne]; intro e; exact hdq (UInt8.toNat_inj.1 (by simp; omega))
            have Hin2 := hide (hin.out.plain hd (by unfold fQ; rw [if_neg hdq]))
            clear hd hdq hroom
            go_wp2
            go_roundw
            case rel => exact ⟨j, s, i + 1, cur, rfl, rfl, by go_num, by omega, Hcl.out, Hin2, hb, hgr⟩
            case measure => simp [intOf]; omega
        · obtain rfl : i = l.length := by omega
          obtain ⟨r, hr⟩ : ∃ r, r = l.length - s := ⟨_, rfl⟩
          have hjx : (attr 34 l).length = j + r + 1 := by
            have h3 := hin.out.jl
            have h4 := congrArg List.length hin.out.sec
            rw [List.length_append, sec_len hsi (Nat.le_refl _), List.take_length] at h4
            simp [attr] at h3 ⊢
            omega
          have Hjx := hide hjx
          have hja := Hatt.out
          rw [← Hm.out] at hja
          have hjr : j + r + 1 ≤ (l.length + 2 + m * 4) - 0 := by omega
          have Hlast := hide (hin.out.close hr (by rw [Hcl.out]; omega))
          have HrunE := hide (run_hi8 (P := Tryd.prog) (A := some ⟨w.heap.size + 1, 0, none⟩) 22 Tryd.underlying22 (by kernel_rfl) (l.length + 2 + m * 4) (l.length + 2 + m * 4) (j + r + 1) ((j : Int) + (r : Int) + 1) (by simp) (by omega) .i64)
          have HrunE0 := hide (run_hi8 (P := Tryd.prog) (A := some ⟨w.heap.size + 1, 0, none⟩) 22 Tryd.underlying22 (by kernel_rfl) (l.length + 2 + m * 4) (l.length + 2 + m * 4) (j + 1) ((j : Int) + 1) (by simp) (by omega) .i64)
          clear hjx hja
          by_cases hsl : s = l.length
          · have hr0 : r = 0 := by omega
            subst hr0
            rw [Nat.add_zero] at Hlast Hjx
            rw [show l.drop s = [] from List.drop_of_length_le (by omega), put8_nil] at Hlast
            obtain ⟨y, hy⟩ : ∃ y, cur[j]? = some y := ⟨_, List.getElem?_eq_getElem (by have := Hcl.out; omega)⟩
            have cellJ := hb.out.cell hy
            have frzJ := hb.out.frozen j
            have hst := hb.out.set_ j 34
            have Hbs := hide (hst.bs0 (j + 1))
            have Hg := hide (madeA_grown rfl (grown_set hgr (p := ⟨w.heap.size + 1, j, none⟩) (.inl rfl) (.int .u8 34)))
            have Hrun0 := hide (fun (D B : Option Addr) (n c1 c2 : Nat) => run_put0 wr.drew D B n c1 c2)
            subst hsl
            clear hroom hr hy hst
            go_wp2
            have q1 : (j : Int) ≤ ((l.length : Int) + 2 + (m : Int) * 4) := by omega
            have q2 : ¬ (l.length + 2 + m * 4) = j := by omega
            go_region_law ((with_reducible refine step_copy_runG (Hrun0.out (some ⟨w.heap.size + 1, j, none⟩) (some ⟨g0, 0, none⟩) ((l.length + 2 + m * 4) - j) ((l.length + 2 + m * 4) - j) 0) _ _ ?_ rfl rfl ?_ ?_ ?_); (rfl); (simp [Act.eval, Act.put]); (simp [Act.eval, Act.put]))
            all_goals
              clear q1 q2
              go_wp2_with ((with_reducible refine wpList_slice_runO (HrunE0.out _) _ _ _ ?_ rfl ?_ ?_ ?_ ?_); (rfl); (rfl); (rfl); (rfl))
              go_ret
              refine ⟨some ⟨w.heap.size + 1, 0, none⟩, (l.length + 2 + m * 4), ?_, ?_, ?_, ?_⟩
              · rw [Hjx.out]; rfl
              · rw [show attr 34 l = _ from Hlast.out.symm]; exact Hbs.out
              · rw [Hjx.out]; omega
              · exact ⟨Hg.out.os, Hg.out.tape, Hg.out.output, Hg.out.size, Hg.out.block⟩
          · obtain ⟨w1, hrun1, hb1, hg1⟩ := run_put8 (w := wr.drew) (hb.out.drew) (hbs.cut rfl s).drew j (by rw [List.length_drop, Hcl.out]; omega) ((l.length + 2 + m * 4) - j) (l.length - s) ((l.length + 2 + m * 4) - j) (l.length - s) r (by rw [Hcl.out]) (by rw [List.length_drop]) hr
            rw [Nat.zero_add] at hrun1
            have Hrun1 := hide hrun1
            have hcl1 : (put8 cur j (l.drop s)).length = (l.length + 2 + m * 4) := by rw [put8_len (by rw [List.length_drop, Hcl.out]; omega), Hcl.out]
            obtain ⟨y, hy⟩ : ∃ y, (put8 cur j (l.drop s))[j + r]? = some y := ⟨_, List.getElem?_eq_getElem (by omega)⟩
            have cellJ := hb1.cell hy
            have frzJ := hb1.frozen (j + r)
            have hst := hb1.set_ (j + r) 34
            have Hbs := hide (hst.bs0 (j + r + 1))
            have g1 : (madeA w gp (l.length + 2 + m * 4) (w.heap.size + 1) #[.int .u8 38, .int .u8 35, .int .u8 51, .int .u8 52, .int .u8 59] 34).grownBy w1 (some (w.heap.size + 1)) := World.grownBy.trans (b := wr.drew) ⟨hgr.os, hgr.tape, hgr.output, hgr.size, hgr.block⟩ hg1
            have Hg := hide (madeA_grown rfl (grown_set g1 (p := ⟨w.heap.size + 1, j + r, none⟩) (.inl rfl) (.int .u8 34)))
            have s1 : IntKind.i64.wrap ((j : Int) + (r : Int)) = (j : Int) + (r : Int) := IntWalk.i64_in _ (by omega)
            have S := hide s1
            clear s1 hr hrun1 hb1 hg1 g1 hroom hy hst hcl1
            go_wp2
            have s1 := S.out
            have q1 : (j : Int) ≤ ((l.length : Int) + 2 + (m : Int) * 4) := by omega
            have q2 : ¬ (l.length + 2 + m * 4) = j := by omega
            have q3 : ¬ l.length = s := by omega
            go_region_law ((with_reducible refine step_copy_runG Hrun1.out _ _ ?_ rfl rfl ?_ ?_ ?_); (rfl); (simp [Act.eval, Act.put]); (simp [Act.eval, Act.put]))
            all_goals
              clear q1 q2 q3 s1
              go_wp2_with ((with_reducible refine wpList_slice_runO (HrunE.out _) _ _ _ ?_ rfl ?_ ?_ ?_ ?_); (rfl); (rfl); (rfl); (rfl))
              go_ret
              refine ⟨some ⟨w.heap.size + 1, 0, none⟩, (l.length + 2 + m * 4), ?_, ?_, ?_, Hg.out⟩
              · rw [Hjx.out]; rfl
              · rw [show attr 34 l = _ from Hlast.out.symm]; exact Hbs.out
              · rw [Hjx.out]; omega


set_option maxRecDepth 100000 in
set_option maxHeartbeats 8000000 in
theorem hT_34_34_2e (gp g0 : Nat) (l : List UInt8) (X : Option Addr) (w : World) (hcell : w.cell? ⟨gp, 0, none⟩ = some (.slice X 0 0)) (hfr : w.frozen? ⟨gp, 0, none⟩ = false) (bs : BS w (some ⟨g0, 0, none⟩) l) (hne : g0 ≠ gp) (hg0 : g0 < w.heap.size) (h1 : l.length ≤ 500) (ht : CtTab w) (hU : l.all noSp = false) (hq : 0 < cnt 34 l ∧ cnt 34 l ≤ cnt 39 l ∧ cnt 39 l = cnt 34 l) :
    Calls Tryd.prog 13 #[.pointer (some ⟨gp, 0, none⟩), .slice (some ⟨g0, 0, none⟩) l.length l.length, .int .u8 34, .bool true] w (ATRet gp 34 l w) := by
  have Ht := hide ht
  have HU := hide hU
  have Bs := hide bs
  have Hq := hide hq
  have hgp : gp < w.heap.size := block_lt_of_cell hcell
  obtain ⟨m, hm⟩ : ∃ m, m = cnt 34 l := ⟨_, rfl⟩
  have hm5 : m ≤ 500 := by have := cnt_le 34 l l.length; rw [List.take_length] at this; omega
  have hmk := run_make0 (l.length + 2 + m * 4) ((l.length : Int) + 2 + (m : Int) * 4) (by simp) (by omega) .i64 .i64
  have hmc := made_first (n := (l.length + 2 + m * 4)) (by omega)
  have Bl0 := hide (madeA_blk (w := w) (gp := gp) (n := (l.length + 2 + m * 4)) (ent := #[.int .u8 38, .int .u8 35, .int .u8 51, .int .u8 52, .int .u8 59]) (q := 34) rfl)
  have Bs0 := hide (madeA_bs (n := (l.length + 2 + m * 4)) (gt := w.heap.size + 1) (ent := #[.int .u8 38, .int .u8 35, .int .u8 51, .int .u8 52, .int .u8 59]) (q := 34) bs hne)
  have Be0 := hide (show BS (madeA w gp (l.length + 2 + m * 4) (w.heap.size + 1) #[.int .u8 38, .int .u8 35, .int .u8 51, .int .u8 52, .int .u8 59] 34) (some ⟨w.heap.size, 0, none⟩) ent34 from madeA_ent w gp (l.length + 2 + m * 4) (w.heap.size + 1) 34 [38, 35, 51, 52, 59])
  have Hg0 := hide hg0
  have Hm := hide hm
  have Hatt := hide (attr_len 34 l)
  have HrunT := hide (fun (A : Option Addr) (w' : World) => run_hi8 (P := Tryd.prog) (A := A) 22 Tryd.underlying22 (by kernel_rfl) 0 (l.length + 2 + m * 4) (l.length + 2 + m * 4) ((l.length : Int) + 2 + (m : Int) * 4) (by simp) (Nat.le_refl _) .i64 w')
  clear bs hne hm hq ht hU
  go_enter Tryd.func13, Tryd.ntmps13
  go_wp2
  go_loop [9, 10, 11, 25] (fun vs vd vu vi => ∃ (k a b : Nat) (u : Bool), k ≤ l.length ∧ vs = .int .i64 (a : Int) ∧ vd = .int .i64 (b : Int) ∧ vu = .bool u ∧ vi = .int .i64 (k : Int) ∧ a ≤ k ∧ b ≤ k ∧ Hid (cnt 39 (l.take k) = a) ∧ Hid (cnt 34 (l.take k) = b) ∧ Hid ((l.take k).all noSp = u)) (fun _ _ _ vi => l.length - (intOf vi).toNat)
  case atStart => exact ⟨0, 0, 0, true, Nat.zero_le _, rfl, rfl, rfl, rfl, Nat.le_refl _, Nat.le_refl _, hide rfl, hide rfl, hide rfl⟩
  case round =>
    obtain ⟨k, a, b, u, hk, rfl, rfl, rfl, rfl, hak, hbk, ha, hb, hu⟩ := hrel
    by_cases hlt : k < l.length
    · obtain ⟨d, hd⟩ : ∃ x, l[k]? = some x := ⟨_, List.getElem?_eq_getElem hlt⟩
      obtain ⟨b1, o1, e1, cell1⟩ := Bs.out.at_ hd
      simp only [Option.some.injEq, Addr.mk.injEq, and_true] at e1
      obtain ⟨rfl, rfl⟩ := e1
      rw [Nat.zero_add] at cell1
      have d256 := d.toNat_lt
      have cellT := Ht.out d
      have hna := cnt_next (q := 39) hd
      have hnb := cnt_next (q := 34) hd
      have hnu := all_next hd hu.out
      rw [ha.out] at hna
      rw [hb.out] at hnb
      cases hs : isSp d with
      | false =>
        rw [hs] at cellT
        have h3439 := noSp_quotes hs
        rw [if_neg h3439.2] at hna
        rw [if_neg h3439.1] at hnb
        rw [hs, Bool.not_false, Bool.and_true] at hnu
        have Hna := hide hna
        have Hnb := hide hnb
        have Hnu := hide hnu
        clear hd hna hnb hnu hs h3439
        go_wp2
        go_round
        case rel => exact ⟨k + 1, a, b, u, by omega, rfl, rfl, rfl, by go_num, by omega, by omega, Hna, Hnb, Hnu⟩
        case measure => simp [intOf]; omega
      | true =>
        rw [hs] at cellT
        rw [hs, Bool.not_true, Bool.and_false] at hnu
        by_cases h34 : d = 34
        · have t1 : ((d.toNat : Int) == 34) = true := by rw [h34]; rfl
          rw [if_neg (by rw [h34]; decide)] at hna
          rw [if_pos h34] at hnb
          have Hna := hide hna
          have Hnb := hide hnb
          have Hnu := hide hnu
          clear hd hna hnb hnu hs h34
          go_wp2
          go_round
          case rel => exact ⟨k + 1, a, b + 1, false, by omega, rfl, by go_num, rfl, by go_num, by omega, by omega, Hna, Hnb, Hnu⟩
          case measure => simp [intOf]; omega
        · have t1 : ((d.toNat : Int) == 34) = false := by rw [beq_eq_false_iff_ne]; intro e; exact h34 (UInt8.toNat_inj.1 (by simp; omega))
          rw [if_neg h34] at hnb
          by_cases h39 : d = 39
          · have t2 : ((d.toNat : Int) == 39) = true := by rw [h39]; rfl
            rw [if_pos h39] at hna
            have Hna := hide hna
            have Hnb := hide hnb
            have Hnu := hide hnu
            clear hd hna hnb hnu hs h34 h39
            go_wp2
            go_round
            case rel => exact ⟨k + 1, a + 1, b, false, by omega, by go_num, rfl, rfl, by go_num, by omega, by omega, Hna, Hnb, Hnu⟩
            case measure => simp [intOf]; omega
          · have t2 : ((d.toNat : Int) == 39) = false := by rw [beq_eq_false_iff_ne]; intro e; exact h39 (UInt8.toNat_inj.1 (by simp; omega))
            rw [if_neg h39] at hna
            have Hna := hide hna
            have Hnb := hide hnb
            have Hnu := hide hnu
            clear hd hna hnb hnu hs h34 h39
            go_wp2
            go_round
            case rel => exact ⟨k + 1, a, b, false, by omega, rfl, rfl, rfl, by go_num, by omega, by omega, Hna, Hnb, Hnu⟩
            case measure => simp [intOf]; omega
    · obtain rfl : k = l.length := by omega
      have hae := ha.out
      have hbe := hb.out
      have hue := hu.out
      rw [List.take_length] at hae hbe hue
      have huU := HU.out
      rw [hue] at huU
      subst huU
      have hq2 := Hq.out
      rw [hae, hbe] at hq2
      have hm2 := Hm.out
      rw [hbe] at hm2
      subst hm2
      clear hae hbe hue ha hb hu
      have z1 : ((a : Int) == 0) = false := by rw [beq_eq_false_iff_ne]; omega
      have z2 : ((m : Int) == 0) = false := by rw [beq_eq_false_iff_ne]; omega
      have hgt : decide (0 < ((l.length : Int) + 2 + (m : Int) * 4)) = true := by rw [decide_eq_true_eq]; omega
      have hem : m = a := by omega
      clear hq2
      subst hem
      go_wp2_with (first
        | (go_at_call 17; (with_reducible refine (dq_any _).mono ?_); rintro e w' ⟨rfl, rfl⟩)
        | ((with_reducible refine wpList_slice_runO (HrunT.out _ _) _ _ _ ?_ rfl ?_ ?_ ?_ ?_); (rfl); (rfl); (rfl); (rfl)))
      clear hmk hmc hgt z1 z2
      go_loopw [19, 20, 145] (fun vj vs vi wr => ∃ (j s i : Nat) (cur : List UInt8), vj = .int .i64 (j : Int) ∧ vs = .int .i64 (s : Int) ∧ vi = .int .i64 (i : Int) ∧ i ≤ l.length ∧ cur.length = (l.length + 2 + m * 4) ∧ Hid (EscIn (fQ 34) [34] l cur i s j) ∧ Hid (Blk8 wr (w.heap.size + 1) cur) ∧ (madeA w gp (l.length + 2 + m * 4) (w.heap.size + 1) #[.int .u8 38, .int .u8 35, .int .u8 51, .int .u8 52, .int .u8 59] 34).grownBy wr (some (w.heap.size + 1))) (fun _ _ vi _ => l.length - (intOf vi).toNat)
      case atStart => exact ⟨1, 0, 0, (List.replicate (l.length + 2 + m * 4) 0).set 0 34, rfl, rfl, rfl, Nat.zero_le _, by simp, hide (EscIn.begin_ (by have h3 := extQ_len 34 l; rw [← Hm.out] at h3; simp; omega) (by rw [show l.length + 2 + m * 4 = (l.length + 1 + m * 4) + 1 by omega, List.replicate_succ]; rfl)), Bl0, World.grownBy.refl _ _⟩
      case round =>
        obtain ⟨j, s, i, cur, rfl, rfl, rfl, hi, hcl, hin, hb, hgr⟩ := hrel
        have hbs : BS wr (some ⟨g0, 0, none⟩) l := bs_apart Bs0.out hgr (by have := Hg0.out; omega)
        have hbe : BS wr (some ⟨w.heap.size, 0, none⟩) ent34 := bs_apart Be0.out hgr (by omega)
        have hsi := hin.out.si
        have hroom := hin.out.room1
        have Hcl := hide hcl
        rw [hcl] at hroom
        have hj1 : j ≤ l.length + 1 + m * 4 := by
          have h3 := hin.out.jl
          have h4 := esc_le (fQ 34) l s
          have h5 := extQ_len 34 l
          rw [← Hm.out] at h5
          simp at h3
          omega
        clear hcl
        by_cases hlt : i < l.length
        · obtain ⟨d, hd⟩ : ∃ x, l[i]? = some x := ⟨_, List.getElem?_eq_getElem hlt⟩
          obtain ⟨b1, o1, e1, cell1⟩ := hbs.at_ hd
          simp only [Option.some.injEq, Addr.mk.injEq, and_true] at e1
          obtain ⟨rfl, rfl⟩ := e1
          rw [Nat.zero_add] at cell1
          have d256 := d.toNat_lt
          by_cases hdq : d = 34
          · have t1 : ((d.toNat : Int) == 34) = true := by rw [hdq]; rfl
            have hf : fQ 34 d = ent34 := by subst hdq; rfl
            have Hin2 := hide (hin.out.ent hd)
            have hr2 := hin.out.room hd
            rw [hf] at Hin2
            rw [Hcl.out, show (fQ 34 d).length = 5 by rw [hf]; rfl] at hr2
            obtain ⟨r, hr⟩ : ∃ r, r = i - s := ⟨_, rfl⟩
            have hsec := sec_len (l := l) hsi hi
            obtain ⟨w1, hrun1, hb1, hg1⟩ := run_put8 (w := wr.drew) (hb.out.drew) ((hbs.cut rfl s).take (i - s)).drew j (by rw [hsec, Hcl.out]; omega) ((l.length + 2 + m * 4) - j) (i - s) ((l.length + 2 + m * 4) - j) (l.length - s) r (by rw [Hcl.out]) hsec hr
            rw [Nat.zero_add] at hrun1
            have hcl1 : (put8 cur j ((l.drop s).take (i - s))).length = (l.length + 2 + m * 4) := by rw [put8_len (by rw [hsec, Hcl.out]; omega), Hcl.out]
            have g1 : (madeA w gp (l.length + 2 + m * 4) (w.heap.size + 1) #[.int .u8 38, .int .u8 35, .int .u8 51, .int .u8 52, .int .u8 59] 34).grownBy w1 (some (w.heap.size + 1)) := World.grownBy.trans (b := wr.drew) ⟨hgr.os, hgr.tape, hgr.output, hgr.size, hgr.block⟩ hg1
            obtain ⟨w2, hrun2, hb2, hg2⟩ := run_put8 (w := w1) hb1 (bs_apart (G := w.heap.size + 1) Be0.out g1 (by omega)) (j + r) (by rw [hcl1, hr]; simp [ent34]; omega) ((l.length + 2 + m * 4) - (j + r)) 5 ((l.length + 2 + m * 4) - (j + r)) 5 5 (by rw [hcl1]) rfl rfl
            have Hrun1 := hide hrun1
            have Hrun2 := hide hrun2
            have Hcl2 := hide (show (put8 (put8 cur j ((l.drop s).take (i - s))) (j + r) ent34).length = (l.length + 2 + m * 4) by rw [put8_len (by rw [hcl1, hr]; simp [ent34]; omega), hcl1])
            have Hb2 := hide hb2
            have hgr2 : (madeA w gp (l.length + 2 + m * 4) (w.heap.size + 1) #[.int .u8 38, .int .u8 35, .int .u8 51, .int .u8 52, .int .u8 59] 34).grownBy w2 (some (w.heap.size + 1)) := g1.trans hg2
            rw [← hr] at Hin2 Hb2 Hcl2
            have s1 : IntKind.i64.wrap ((j : Int) + (r : Int)) = (j : Int) + (r : Int) := IntWalk.i64_in _ (by omega)
            have S := hide s1
            have hjr : j + r + 5 ≤ (l.length + 2 + m * 4) := by omega
            clear hd hf hr hsec hrun1 hb1 hg1 hcl1 hrun2 hb2 hg2 s1 hroom hr2 hdq g1
            go_wp2
            have s1 := S.out
            have q1 : (j : Int) ≤ ((l.length : Int) + 2 + (m : Int) * 4) := by omega
            have q2 : ¬ (l.length + 2 + m * 4) = j := by omega
            have q3 : ¬ l.length = s := by omega
            have q4 : (i : Int) ≤ (l.length : Int) := by omega
            go_region_law ((with_reducible refine step_copy_runG Hrun1.out _ _ ?_ rfl rfl ?_ ?_ ?_); (rfl); (simp [Act.eval, Act.put]); (simp [Act.eval, Act.put]))
            all_goals
              clear q1 q2 q3 q4 s1
              have q2 : ¬ (l.length + 2 + m * 4) = j + r := by omega
              have q5 : (j : Int) + (r : Int) ≤ ((l.length : Int) + 2 + (m : Int) * 4) := by omega
              go_wp2_with ((with_reducible refine wpList_copy_runG Hrun2.out _ _ ?_ rfl rfl ?_ ?_ ?_); (rfl); (simp [Act.eval, Act.put]); (simp [Act.eval, Act.put]))
              clear q2 q5
              go_roundw
              case rel => exact ⟨j + r + 5, i + 1, i + 1, _, by go_num, by go_num, by go_num, by omega, Hcl2.out, Hin2, Hb2, hgr2⟩
              case measure => simp [intOf]; omega
          · have t1 : ((d.toNat : Int) == 34) = false := by rw [beq_eq_false_iff_ne]; intro e; exact hdq (UInt8.toNat_inj.1 (by simp; omega))
            have Hin2 := hide (hin.out.plain hd (by unfold fQ; rw [if_neg hdq]))
            clear hd hdq hroom
            go_wp2
            go_roundw
            case rel => exact ⟨j, s, i + 1, cur, rfl, rfl, by go_num, by omega, Hcl.out, Hin2, hb, hgr⟩
            case measure => simp [intOf]; omega
        · obtain rfl : i = l.length := by omega
          obtain ⟨r, hr⟩ : ∃ r, r = l.length - s := ⟨_, rfl⟩
          have hjx : (attr 34 l).length = j + r + 1 := by
            have h3 := hin.out.jl
            have h4 := congrArg List.length hin.out.sec
            rw [List.length_append, sec_len hsi (Nat.le_refl _), List.take_length] at h4
            simp [attr] at h3 ⊢
            omega
          have Hjx := hide hjx
          have hja := Hatt.out
          rw [← Hm.out] at hja
          have hjr : j + r + 1 ≤ (l.length + 2 + m * 4) - 0 := by omega
          have Hlast := hide (hin.out.close hr (by rw [Hcl.out]; omega))
          have HrunE := hide (run_hi8 (P := Tryd.prog) (A := some ⟨w.heap.size + 1, 0, none⟩) 22 Tryd.underlying22 (by kernel_rfl) (l.length + 2 + m * 4) (l.length + 2 + m * 4) (j + r + 1) ((j : Int) + (r : Int) + 1) (by simp) (by omega) .i64)
          have HrunE0 := hide (run_hi8 (P := Tryd.prog) (A := some ⟨w.heap.size + 1, 0, none⟩) 22 Tryd.underlying22 (by kernel_rfl) (l.length + 2 + m * 4) (l.length + 2 + m * 4) (j + 1) ((j : Int) + 1) (by simp) (by omega) .i64)
          clear hjx hja
          by_cases hsl : s = l.length
          · have hr0 : r = 0 := by omega
            subst hr0
            rw [Nat.add_zero] at Hlast Hjx
            rw [show l.drop s = [] from List.drop_of_length_le (by omega), put8_nil] at Hlast
            obtain ⟨y, hy⟩ : ∃ y, cur[j]? = some y := ⟨_, List.getElem?_eq_getElem (by have := Hcl.out; omega)⟩
            have cellJ := hb.out.cell hy
            have frzJ := hb.out.frozen j
            have hst := hb.out.set_ j 34
            have Hbs := hide (hst.bs0 (j + 1))
            have Hg := hide (madeA_grown rfl (grown_set hgr (p := ⟨w.heap.size + 1, j, none⟩) (.inl rfl) (.int .u8 34)))
            have Hrun0 := hide (fun (D B : Option Addr) (n c1 c2 : Nat) => run_put0 wr.drew D B n c1 c2)
            subst hsl
            clear hroom hr hy hst
            go_wp2
            have q1 : (j : Int) ≤ ((l.length : Int) + 2 + (m : Int) * 4) := by omega
            have q2 : ¬ (l.length + 2 + m * 4) = j := by omega
            go_region_law ((with_reducible refine step_copy_runG (Hrun0.out (some ⟨w.heap.size + 1, j, none⟩) (some ⟨g0, 0, none⟩) ((l.length + 2 + m * 4) - j) ((l.length + 2 + m * 4) - j) 0) _ _ ?_ rfl rfl ?_ ?_ ?_); (rfl); (simp [Act.eval, Act.put]); (simp [Act.eval, Act.put]))
            all_goals
              clear q1 q2
              go_wp2_with ((with_reducible refine wpList_slice_runO (HrunE0.out _) _ _ _ ?_ rfl ?_ ?_ ?_ ?_); (rfl); (rfl); (rfl); (rfl))
              go_ret
              refine ⟨some ⟨w.heap.size + 1, 0, none⟩, (l.length + 2 + m * 4), ?_, ?_, ?_, ?_⟩
              · rw [Hjx.out]; rfl
              · rw [show attr 34 l = _ from Hlast.out.symm]; exact Hbs.out
              · rw [Hjx.out]; omega
              · exact ⟨Hg.out.os, Hg.out.tape, Hg.out.output, Hg.out.size, Hg.out.block⟩
          · obtain ⟨w1, hrun1, hb1, hg1⟩ := run_put8 (w := wr.drew) (hb.out.drew) (hbs.cut rfl s).drew j (by rw [List.length_drop, Hcl.out]; omega) ((l.length + 2 + m * 4) - j) (l.length - s) ((l.length + 2 + m * 4) - j) (l.length - s) r (by rw [Hcl.out]) (by rw [List.length_drop]) hr
            rw [Nat.zero_add] at hrun1
            have Hrun1 := hide hrun1
            have hcl1 : (put8 cur j (l.drop s)).length = (l.length + 2 + m * 4) := by rw [put8_len (by rw [List.length_drop, Hcl.out]; omega), Hcl.out]
            obtain ⟨y, hy⟩ : ∃ y, (put8 cur j (l.drop s))[j + r]? = some y := ⟨_, List.getElem?_eq_getElem (by omega)⟩
            have cellJ := hb1.cell hy
            have frzJ := hb1.frozen (j + r)
            have hst := hb1.set_ (j + r) 34
            have Hbs := hide (hst.bs0 (j + r + 1))
            have g1 : (madeA w gp (l.length + 2 + m * 4) (w.heap.size + 1) #[.int .u8 38, .int .u8 35, .int .u8 51, .int .u8 52, .int .u8 59] 34).grownBy w1 (some (w.heap.size + 1)) := World.grownBy.trans (b := wr.drew) ⟨hgr.os, hgr.tape, hgr.output, hgr.size, hgr.block⟩ hg1
            have Hg := hide (madeA_grown rfl (grown_set g1 (p := ⟨w.heap.size + 1, j + r, none⟩) (.inl rfl) (.int .u8 34)))
            have s1 : IntKind.i64.wrap ((j : Int) + (r : Int)) = (j : Int) + (r : Int) := IntWalk.i64_in _ (by omega)
            have S := hide s1
            clear s1 hr hrun1 hb1 hg1 g1 hroom hy hst hcl1
            go_wp2
            have s1 := S.out
            have q1 : (j : Int) ≤ ((l.length : Int) + 2 + (m : Int) * 4) := by omega
            have q2 : ¬ (l.length + 2 + m * 4) = j := by omega
            have q3 : ¬ l.length = s := by omega
            go_region_law ((with_reducible refine step_copy_runG Hrun1.out _ _ ?_ rfl rfl ?_ ?_ ?_); (rfl); (simp [Act.eval, Act.put]); (simp [Act.eval, Act.put]))
            all_goals
              clear q1 q2 q3 s1
              go_wp2_with ((with_reducible refine wpList_slice_runO (HrunE.out _) _ _ _ ?_ rfl ?_ ?_ ?_ ?_); (rfl); (rfl); (rfl); (rfl))
              go_ret
              refine ⟨some ⟨w.heap.size + 1, 0, none⟩, (l.length + 2 + m * 4), ?_, ?_, ?_, Hg.out⟩
              · rw [Hjx.out]; rfl
              · rw [show attr 34 l = _ from Hlast.out.symm]; exact Hbs.out
              · rw [Hjx.out]; omega


set_option maxRecDepth 100000 in
set_option maxHeartbeats 8000000 in
theorem hT_34_390_2 (gp g0 : Nat) (l : List UInt8) (X : Option Addr) (w : World) (hcell : w.cell? ⟨gp, 0, none⟩ = some (.slice X 0 0)) (hfr : w.frozen? ⟨gp, 0, none⟩ = false) (bs : BS w (some ⟨g0, 0, none⟩) l) (hne : g0 ≠ gp) (hg0 : g0 < w.heap.size) (h1 : l.length ≤ 500) (ht : CtTab w) (hU : l.all noSp = false) (hq : 0 < cnt 34 l ∧ cnt 39 l < cnt 34 l ∧ cnt 39 l = 0) :
    Calls Tryd.prog 13 #[.pointer (some ⟨gp, 0, none⟩), .slice (some ⟨g0, 0, none⟩) l.length l.length, .int .u8 34, .bool true] w (ATRet gp 39 l w) := by
  have Ht := hide ht
  have HU := hide hU
  have Bs := hide bs
  have Hq := hide hq
  have hgp : gp < w.heap.size := block_lt_of_cell hcell
  obtain ⟨m, hm⟩ : ∃ m, m = cnt 39 l := ⟨_, rfl⟩
  have hm5 : m ≤ 500 := by have := cnt_le 39 l l.length; rw [List.take_length] at this; omega
  have hmk := run_make0 (l.length + 2 + m * 4) ((l.length : Int) + 2 + (m : Int) * 4) (by simp) (by omega) .i64 .i64
  have hmc := made_first (n := (l.length + 2 + m * 4)) (by omega)
  have Bl0 := hide (madeA_blk (w := w) (gp := gp) (n := (l.length + 2 + m * 4)) (ent := #[.int .u8 38, .int .u8 35, .int .u8 51, .int .u8 57, .int .u8 59]) (q := 39) rfl)
  have Bs0 := hide (madeA_bs (n := (l.length + 2 + m * 4)) (gt := w.heap.size + 1) (ent := #[.int .u8 38, .int .u8 35, .int .u8 51, .int .u8 57, .int .u8 59]) (q := 39) bs hne)
  have Be0 := hide (show BS (madeA w gp (l.length + 2 + m * 4) (w.heap.size + 1) #[.int .u8 38, .int .u8 35, .int .u8 51, .int .u8 57, .int .u8 59] 39) (some ⟨w.heap.size, 0, none⟩) ent39 from madeA_ent w gp (l.length + 2 + m * 4) (w.heap.size + 1) 39 [38, 35, 51, 57, 59])
  have Hg0 := hide hg0
  have Hm := hide hm
  have Hatt := hide (attr_len 39 l)
  have HrunT := hide (fun (A : Option Addr) (w' : World) => run_hi8 (P := Tryd.prog) (A := A) 22 Tryd.underlying22 (by kernel_rfl) 0 (l.length + 2 + m * 4) (l.length + 2 + m * 4) ((l.length : Int) + 2 + (m : Int) * 4) (by simp) (Nat.le_refl _) .i64 w')
  clear bs hne hm hq ht hU
  go_enter Tryd.func13, Tryd.ntmps13
  go_wp2
  go_loop [9, 10, 11, 25] (fun vs vd vu vi => ∃ (k a b : Nat) (u : Bool), k ≤ l.length ∧ vs = .int .i64 (a : Int) ∧ vd = .int .i64 (b : Int) ∧ vu = .bool u ∧ vi = .int .i64 (k : Int) ∧ a ≤ k ∧ b ≤ k ∧ Hid (cnt 39 (l.take k) = a) ∧ Hid (cnt 34 (l.take k) = b) ∧ Hid ((l.take k).all noSp = u)) (fun _ _ _ vi => l.length - (intOf vi).toNat)
  case atStart => exact ⟨0, 0, 0, true, Nat.zero_le _, rfl, rfl, rfl, rfl, Nat.le_refl _, Nat.le_refl _, hide rfl, hide rfl, hide rfl⟩
  case round =>
    obtain ⟨k, a, b, u, hk, rfl, rfl, rfl, rfl, hak, hbk, ha, hb, hu⟩ := hrel
    by_cases hlt : k < l.length
    · obtain ⟨d, hd⟩ : ∃ x, l[k]? = some x := ⟨_, List.getElem?_eq_getElem hlt⟩
      obtain ⟨b1, o1, e1, cell1⟩ := Bs.out.at_ hd
      simp only [Option.some.injEq, Addr.mk.injEq, and_true] at e1
      obtain ⟨rfl, rfl⟩ := e1
      rw [Nat.zero_add] at cell1
      have d256 := d.toNat_lt
      have cellT := Ht.out d
      have hna := cnt_next (q := 39) hd
      have hnb := cnt_next (q := 34) hd
      have hnu := all_next hd hu.out
      rw [ha.out] at hna
      rw [hb.out] at hnb
      cases hs : isSp d with
      | false =>
        rw [hs] at cellT
        have h3439 := noSp_quotes hs
        rw [if_neg h3439.2] at hna
        rw [if_neg h3439.1] at hnb
        rw [hs, Bool.not_false, Bool.and_true] at hnu
        have Hna := hide hna
        have Hnb := hide hnb
        have Hnu := hide hnu
        clear hd hna hnb hnu hs h3439
        go_wp2
        go_round
        case rel => exact ⟨k + 1, a, b, u, by omega, rfl, rfl, rfl, by go_num, by omega, by omega, Hna, Hnb, Hnu⟩
        case measure => simp [intOf]; omega
      | true =>
        rw [hs] at cellT
        rw [hs, Bool.not_true, Bool.and_false] at hnu
        by_cases h34 : d = 34
        · have t1 : ((d.toNat : Int) == 34) = true := by rw [h34]; rfl
          rw [if_neg (by rw [h34]; decide)] at hna
          rw [if_pos h34] at hnb
          have Hna := hide hna
          have Hnb := hide hnb
          have Hnu := hide hnu
          clear hd hna hnb hnu hs h34
          go_wp2
          go_round
          case rel => exact ⟨k + 1, a, b + 1, false, by omega, rfl, by go_num, rfl, by go_num, by omega, by omega, Hna, Hnb, Hnu⟩
          case measure => simp [intOf]; omega
        · have t1 : ((d.toNat : Int) == 34) = false := by rw [beq_eq_false_iff_ne]; intro e; exact h34 (UInt8.toNat_inj.1 (by simp; omega))
          rw [if_neg h34] at hnb
          by_cases h39 : d = 39
          · have t2 : ((d.toNat : Int) == 39) = true := by rw [h39]; rfl
            rw [if_pos h39] at hna
            have Hna := hide hna
            have Hnb := hide hnb
            have Hnu := hide hnu
            clear hd hna hnb hnu hs h34 h39
            go_wp2
            go_round
            case rel => exact ⟨k + 1, a + 1, b, false, by omega, by go_num, rfl, rfl, by go_num, by omega, by omega, Hna, Hnb, Hnu⟩
            case measure => simp [intOf]; omega
          · have t2 : ((d.toNat : Int) == 39) = false := by rw [beq_eq_false_iff_ne]; intro e; exact h39 (UInt8.toNat_inj.1 (by simp; omega))
            rw [if_neg h39] at hna
            have Hna := hide hna
            have Hnb := hide hnb
            have Hnu := hide hnu
            clear hd hna hnb hnu hs h34 h39
            go_wp2
            go_round
            case rel => exact ⟨k + 1, a, b, false, by omega, rfl, rfl, rfl, by go_num, by omega, by omega, Hna, Hnb, Hnu⟩
            case measure => simp [intOf]; omega
    · obtain rfl : k = l.length := by omega
      have hae := ha.out
      have hbe := hb.out
      have hue := hu.out
      rw [List.take_length] at hae hbe hue
      have huU := HU.out
      rw [hue] at huU
      subst huU
      have hq2 := Hq.out
      rw [hae, hbe] at hq2
      have hm2 := Hm.out
      rw [hae] at hm2
      subst hm2
      clear hae hbe hue ha hb hu
      have z1 : ((m : Int) == 0) = true := by rw [beq_iff_eq]; omega
      have z2 : ((b : Int) == 0) = false := by rw [beq_eq_false_iff_ne]; omega
      have hgt : decide (0 < ((l.length : Int) + 2 + (m : Int) * 4)) = true := by rw [decide_eq_true_eq]; omega
      have g1 : decide (b < m) = false := by rw [decide_eq_false_iff_not]; omega
      have g2 : (m == b) = false := by rw [beq_eq_false_iff_ne]; omega
      have g3 : m < b := by omega
      clear hq2
      go_wp2_with (first
        | (go_at_call 18; (with_reducible refine (sq_any _).mono ?_); rintro e w' ⟨rfl, rfl⟩)
        | ((with_reducible refine wpList_slice_runO (HrunT.out _ _) _ _ _ ?_ rfl ?_ ?_ ?_ ?_); (rfl); (rfl); (rfl); (rfl)))
      clear hmk hmc hgt z1 z2
      clear g1 g2
      go_loopw [19, 20, 145] (fun vj vs vi wr => ∃ (j s i : Nat) (cur : List UInt8), vj = .int .i64 (j : Int) ∧ vs = .int .i64 (s : Int) ∧ vi = .int .i64 (i : Int) ∧ i ≤ l.length ∧ cur.length = (l.length + 2 + m * 4) ∧ Hid (EscIn (fQ 39) [39] l cur i s j) ∧ Hid (Blk8 wr (w.heap.size + 1) cur) ∧ (madeA w gp (l.length + 2 + m * 4) (w.heap.size + 1) #[.int .u8 38, .int .u8 35, .int .u8 51, .int .u8 57, .int .u8 59] 39).grownBy wr (some (w.heap.size + 1))) (fun _ _ vi _ => l.length - (intOf vi).toNat)
      case atStart => exact ⟨1, 0, 0, (List.replicate (l.length + 2 + m * 4) 0).set 0 39, rfl, rfl, rfl, Nat.zero_le _, by simp, hide (EscIn.begin_ (by have h3 := extQ_len 39 l; rw [← Hm.out] at h3; simp; omega) (by rw [show l.length + 2 + m * 4 = (l.length + 1 + m * 4) + 1 by omega, List.replicate_succ]; rfl)), Bl0, World.grownBy.refl _ _⟩
      case round =>
        obtain ⟨j, s, i, cur, rfl, rfl, rfl, hi, hcl, hin, hb, hgr⟩ := hrel
        have hbs : BS wr (some ⟨g0, 0, none⟩) l := bs_apart Bs0.out hgr (by have := Hg0.out; omega)
        have hbe : BS wr (some ⟨w.heap.size, 0, none⟩) ent39 := bs_apart Be0.out hgr (by omega)
        have hsi := hin.out.si
        have hroom := hin.out.room1
        have Hcl := hide hcl
        rw [hcl] at hroom
        have hj1 : j ≤ l.length + 1 + m * 4 := by
          have h3 := hin.out.jl
          have h4 := esc_le (fQ 39) l s
          have h5 := extQ_len 39 l
          rw [← Hm.out] at h5
          simp at h3
          omega
        clear hcl
        by_cases hlt : i < l.length
        · obtain ⟨d, hd⟩ : ∃ x, l[i]? = some x := ⟨_, List.getElem?_eq_getElem hlt⟩
          obtain ⟨b1, o1, e1, cell1⟩ := hbs.at_ hd
          simp only [Option.some.injEq, Addr.mk.injEq, and_true] at e1
          obtain ⟨rfl, rfl⟩ := e1
          rw [Nat.zero_add] at cell1
          have d256 := d.toNat_lt
          by_cases hdq : d = 39
          · have t1 : ((d.toNat : Int) == 39) = true := by rw [hdq]; rfl
            have hf : fQ 39 d = ent39 := by subst hdq; rfl
            have Hin2 := hide (hin.out.ent hd)
            have hr2 := hin.out.room hd
            rw [hf] at Hin2
            rw [Hcl.out, show (fQ 39 d).length = 5 by rw [hf]; rfl] at hr2
            obtain ⟨r, hr⟩ : ∃ r, r = i - s := ⟨_, rfl⟩
            have hsec := sec_len (l := l) hsi hi
            obtain ⟨w1, hrun1, hb1, hg1⟩ := run_put8 (w := wr.drew) (hb.out.drew) ((hbs.cut rfl s).take (i - s)).drew j (by rw [hsec, Hcl.out]; omega) ((l.length + 2 + m * 4) - j) (i - s) ((l.length + 2 + m * 4) - j) (l.length - s) r (by rw [Hcl.out]) hsec hr
            rw [Nat.zero_add] at hrun1
            have hcl1 : (put8 cur j ((l.drop s).take (i - s))).length = (l.length + 2 + m * 4) := by rw [put8_len (by rw [hsec, Hcl.out]; omega), Hcl.out]
            have g1 : (madeA w gp (l.length + 2 + m * 4) (w.heap.size + 1) #[.int .u8 38, .int .u8 35, .int .u8 51, .int .u8 57, .int .u8 59] 39).grownBy w1 (some (w.heap.size + 1)) := World.grownBy.trans (b := wr.drew) ⟨hgr.os, hgr.tape, hgr.output, hgr.size, hgr.block⟩ hg1
            obtain ⟨w2, hrun2, hb2, hg2⟩ := run_put8 (w := w1) hb1 (bs_apart (G := w.heap.size + 1) Be0.out g1 (by omega)) (j + r) (by rw [hcl1, hr]; simp [ent39]; omega) ((l.length + 2 + m * 4) - (j + r)) 5 ((l.length + 2 + m * 4) - (j + r)) 5 5 (by rw [hcl1]) rfl rfl
            have Hrun1 := hide hrun1
            have Hrun2 := hide hrun2
            have Hcl2 := hide (show (put8 (put8 cur j ((l.drop s).take (i - s))) (j + r) ent39).length = (l.length + 2 + m * 4) by rw [put8_len (by rw [hcl1, hr]; simp [ent39]; omega), hcl1])
            have Hb2 := hide hb2
            have hgr2 : (madeA w gp (l.length + 2 + m * 4) (w.heap.size + 1) #[.int .u8 38, .int .u8 35, .int .u8 51, .int .u8 57, .int .u8 59] 39).grownBy w2 (some (w.heap.size + 1)) := g1.trans hg2
            rw [← hr] at Hin2 Hb2 Hcl2
            have s1 : IntKind.i64.wrap ((j : Int) + (r : Int)) = (j : Int) + (r : Int) := IntWalk.i64_in _ (by omega)
            have S := hide s1
            have hjr : j + r + 5 ≤ (l.length + 2 + m * 4) := by omega
            clear hd hf hr hsec hrun1 hb1 hg1 hcl1 hrun2 hb2 hg2 s1 hroom hr2 hdq g1
            go_wp2
            have s1 := S.out
            have q1 : (j : Int) ≤ ((l.length : Int) + 2 + (m : Int) * 4) := by omega
            have q2 : ¬ (l.length + 2 + m * 4) = j := by omega
            have q3 : ¬ l.length = s := by omega
            have q4 : (i : Int) ≤ (l.length : Int) := by omega
            go_region_law ((with_reducible refine step_copy_runG Hrun1.out _ _ ?_ rfl rfl ?_ ?_ ?_); (rfl); (simp [Act.eval, Act.put]); (simp [Act.eval, Act.put]))
            all_goals
              clear q1 q2 q3 q4 s1
              have q2 : ¬ (l.length + 2 + m * 4) = j + r := by omega
              have q5 : (j : Int) + (r : Int) ≤ ((l.length : Int) + 2 + (m : Int) * 4) := by omega
              go_wp2_with ((with_reducible refine wpList_copy_runG Hrun2.out _ _ ?_ rfl rfl ?_ ?_ ?_); (rfl); (simp [Act.eval, Act.put]); (simp [Act.eval, Act.put]))
              clear q2 q5
              go_roundw
              case rel => exact ⟨j + r + 5, i + 1, i + 1, _, by go_num, by go_num, by go_num, by omega, Hcl2.out, Hin2, Hb2, hgr2⟩
              case measure => simp [intOf]; omega
          · have t1 : ((d.toNat : Int) == 39) = false := by rw [beq_eq_false_iff_ne]; intro e; exact hdq (UInt8.toNat_inj.1 (by simp; omega))
            have Hin2 := hide (hin.out.plain hd (by unfold fQ; rw [if_neg hdq]))
            clear hd hdq hroom
            go_wp2
            go_roundw
            case rel => exact ⟨j, s, i + 1, cur, rfl, rfl, by go_num, by omega, Hcl.out, Hin2, hb, hgr⟩
            case measure => simp [intOf]; omega
        · obtain rfl : i = l.length := by omega
          obtain ⟨r, hr⟩ : ∃ r, r = l.length - s := ⟨_, rfl⟩
          have hjx : (attr 39 l).length = j + r + 1 := by
            have h3 := hin.out.jl
            have h4 := congrArg List.length hin.out.sec
            rw [List.length_append, sec_len hsi (Nat.le_refl _), List.take_length] at h4
            simp [attr] at h3 ⊢
            omega
          have Hjx := hide hjx
          have hja := Hatt.out
          rw [← Hm.out] at hja
          have hjr : j + r + 1 ≤ (l.length + 2 + m * 4) - 0 := by omega
          have Hlast := hide (hin.out.close hr (by rw [Hcl.out]; omega))
          have HrunE := hide (run_hi8 (P := Tryd.prog) (A := some ⟨w.heap.size + 1, 0, none⟩) 22 Tryd.underlying22 (by kernel_rfl) (l.length + 2 + m * 4) (l.length + 2 + m * 4) (j + r + 1) ((j : Int) + (r : Int) + 1) (by simp) (by omega) .i64)
          have HrunE0 := hide (run_hi8 (P := Tryd.prog) (A := some ⟨w.heap.size + 1, 0, none⟩) 22 Tryd.underlying22 (by kernel_rfl) (l.length + 2 + m * 4) (l.length + 2 + m * 4) (j + 1) ((j : Int) + 1) (by simp) (by omega) .i64)
          clear hjx hja
          by_cases hsl : s = l.length
          · have hr0 : r = 0 := by omega
            subst hr0
            rw [Nat.add_zero] at Hlast Hjx
            rw [show l.drop s = [] from List.drop_of_length_le (by omega), put8_nil] at Hlast
            obtain ⟨y, hy⟩ : ∃ y, cur[j]? = some y := ⟨_, List.getElem?_eq_getElem (by have := Hcl.out; omega)⟩
            have cellJ := hb.out.cell hy
            have frzJ := hb.out.frozen j
            have hst := hb.out.set_ j 39
            have Hbs := hide (hst.bs0 (j + 1))
            have Hg := hide (madeA_grown rfl (grown_set hgr (p := ⟨w.heap.size + 1, j, none⟩) (.inl rfl) (.int .u8 39)))
            have Hrun0 := hide (fun (D B : Option Addr) (n c1 c2 : Nat) => run_put0 wr.drew D B n c1 c2)
            subst hsl
            clear hroom hr hy hst
            go_wp2
            have q1 : (j : Int) ≤ ((l.length : Int) + 2 + (m : Int) * 4) := by omega
            have q2 : ¬ (l.length + 2 + m * 4) = j := by omega
            go_region_law ((with_reducible refine step_copy_runG (Hrun0.out (some ⟨w.heap.size + 1, j, none⟩) (some ⟨g0, 0, none⟩) ((l.length + 2 + m * 4) - j) ((l.length + 2 + m * 4) - j) 0) _ _ ?_ rfl rfl ?_ ?_ ?_); (rfl); (simp [Act.eval, Act.put]); (simp [Act.eval, Act.put]))
            all_goals
              clear q1 q2
              go_wp2_with ((with_reducible refine wpList_slice_runO (HrunE0.out _) _ _ _ ?_ rfl ?_ ?_ ?_ ?_); (rfl); (rfl); (rfl); (rfl))
              go_ret
              refine ⟨some ⟨w.heap.size + 1, 0, none⟩, (l.length + 2 + m * 4), ?_, ?_, ?_, ?_⟩
              · rw [Hjx.out]; rfl
              · rw [show attr 39 l = _ from Hlast.out.symm]; exact Hbs.out
              · rw [Hjx.out]; omega
              · exact ⟨Hg.out.os, Hg.out.tape, Hg.out.output, Hg.out.size, Hg.out.block⟩
          · obtain ⟨w1, hrun1, hb1, hg1⟩ := run_put8 (w := wr.drew) (hb.out.drew) (hbs.cut rfl s).drew j (by rw [List.length_drop, Hcl.out]; omega) ((l.length + 2 + m * 4) - j) (l.length - s) ((l.length + 2 + m * 4) - j) (l.length - s) r (by rw [Hcl.out]) (by rw [List.length_drop]) hr
            rw [Nat.zero_add] at hrun1
            have Hrun1 := hide hrun1
            have hcl1 : (put8 cur j (l.drop s)).length = (l.length + 2 + m * 4) := by rw [put8_len (by rw [List.length_drop, Hcl.out]; omega), Hcl.out]
            obtain ⟨y, hy⟩ : ∃ y, (put8 cur j (l.drop s))[j + r]? = some y := ⟨_, List.getElem?_eq_getElem (by omega)⟩
            have cellJ := hb1.cell hy
            have frzJ := hb1.frozen (j + r)
            have hst := hb1.set_ (j + r) 39
            have Hbs := hide (hst.bs0 (j + r + 1))
            have g1 : (madeA w gp (l.length + 2 + m * 4) (w.heap.size + 1) #[.int .u8 38, .int .u8 35, .int .u8 51, .int .u8 57, .int .u8 59] 39).grownBy w1 (some (w.heap.size + 1)) := World.grownBy.trans (b := wr.drew) ⟨hgr.os, hgr.tape, hgr.output, hgr.size, hgr.block⟩ hg1
            have Hg := hide (madeA_grown rfl (grown_set g1 (p := ⟨w.heap.size + 1, j + r, none⟩) (.inl rfl) (.int .u8 39)))
            have s1 : IntKind.i64.wrap ((j : Int) + (r : Int)) = (j : Int) + (r : Int) := IntWalk.i64_in _ (by omega)
            have S := hide s1
            clear s1 hr hrun1 hb1 hg1 g1 hroom hy hst hcl1
            go_wp2
            have s1 := S.out
            have q1 : (j : Int) ≤ ((l.length : Int) + 2 + (m : Int) * 4) := by omega
            have q2 : ¬ (l.length + 2 + m * 4) = j := by omega
            have q3 : ¬ l.length = s := by omega
            go_region_law ((with_reducible refine step_copy_runG Hrun1.out _ _ ?_ rfl rfl ?_ ?_ ?_); (rfl); (simp [Act.eval, Act.put]); (simp [Act.eval, Act.put]))
            all_goals
              clear q1 q2 q3 s1
              go_wp2_with ((with_reducible refine wpList_slice_runO (HrunE.out _) _ _ _ ?_ rfl ?_ ?_ ?_ ?_); (rfl); (rfl); (rfl); (rfl))
              go_ret
              refine ⟨some ⟨w.heap.size + 1, 0, none⟩, (l.length + 2 + m * 4), ?_, ?_, ?_, Hg.out⟩
              · rw [Hjx.out]; rfl
              · rw [show attr 39 l = _ from Hlast.out.symm]; exact Hbs.out
              · rw [Hjx.out]; omega


set_option maxRecDepth 100000 in
set_option maxHeartbeats 8000000 in
theorem hT_34_39n_2 (gp g0 : Nat) (l : List UInt8) (X : Option Addr) (w : World) (hcell : w.cell? ⟨gp, 0, none⟩ = some (.slice X 0 0)) (hfr : w.frozen? ⟨gp, 0, none⟩ = false) (bs : BS w (some ⟨g0, 0, none⟩) l) (hne : g0 ≠ gp) (hg0 : g0 < w.heap.size) (h1 : l.length ≤ 500) (ht : CtTab w) (hU : l.all noSp = false) (hq : 0 < cnt 34 l ∧ cnt 39 l < cnt 34 l ∧ 0 < cnt 39 l) :
    Calls Tryd.prog 13 #[.pointer (some ⟨gp, 0, none⟩), .slice (some ⟨g0, 0, none⟩) l.length l.length, .int .u8 34, .bool true] w (ATRet gp 39 l w) := by
  have Ht := hide ht
  have HU := hide hU
  have Bs := hide bs
  have Hq := hide hq
  have hgp : gp < w.heap.size := block_lt_of_cell hcell
  obtain ⟨m, hm⟩ : ∃ m, m = cnt 39 l := ⟨_, rfl⟩
  have hm5 : m ≤ 500 := by have := cnt_le 39 l l.length; rw [List.take_length] at this; omega
  have hmk := run_make0 (l.length + 2 + m * 4) ((l.length : Int) + 2 + (m : Int) * 4) (by simp) (by omega) .i64 .i64
  have hmc := made_first (n := (l.length + 2 + m * 4)) (by omega)
  have Bl0 := hide (madeA_blk (w := w) (gp := gp) (n := (l.length + 2 + m * 4)) (ent := #[.int .u8 38, .int .u8 35, .int .u8 51, .int .u8 57, .int .u8 59]) (q := 39) rfl)
  have Bs0 := hide (madeA_bs (n := (l.length + 2 + m * 4)) (gt := w.heap.size + 1) (ent := #[.int .u8 38, .int .u8 35, .int .u8 51, .int .u8 57, .int .u8 59]) (q := 39) bs hne)
  have Be0 := hide (show BS (madeA w gp (l.length + 2 + m * 4) (w.heap.size + 1) #[.int .u8 38, .int .u8 35, .int .u8 51, .int .u8 57, .int .u8 59] 39) (some ⟨w.heap.size, 0, none⟩) ent39 from madeA_ent w gp (l.length + 2 + m * 4) (w.heap.size + 1) 39 [38, 35, 51, 57, 59])
  have Hg0 := hide hg0
  have Hm := hide hm
  have Hatt := hide (attr_len 39 l)
  have HrunT := hide (fun (A : Option Addr) (w' : World) => run_hi8 (P := Tryd.prog) (A := A) 22 Tryd.underlying22 (by kernel_rfl) 0 (l.length + 2 + m * 4) (l.length + 2 + m * 4) ((l.length : Int) + 2 + (m : Int) * 4) (by simp) (Nat.le_refl _) .i64 w')
  clear bs hne hm hq ht hU
  go_enter Tryd.func13, Tryd.ntmps13
  go_wp2
  go_loop [9, 10, 11, 25] (fun vs vd vu vi => ∃ (k a b : Nat) (u : Bool), k ≤ l.length ∧ vs = .int .i64 (a : Int) ∧ vd = .int .i64 (b : Int) ∧ vu = .bool u ∧ vi = .int .i64 (k : Int) ∧ a ≤ k ∧ b ≤ k ∧ Hid (cnt 39 (l.take k) = a) ∧ Hid (cnt 34 (l.take k) = b) ∧ Hid ((l.take k).all noSp = u)) (fun _ _ _ vi => l.length - (intOf vi).toNat)
  case atStart => exact ⟨0, 0, 0, true, Nat.zero_le _, rfl, rfl, rfl, rfl, Nat.le_refl _, Nat.le_refl _, hide rfl, hide rfl, hide rfl⟩
  case round =>
    obtain ⟨k, a, b, u, hk, rfl, rfl, rfl, rfl, hak, hbk, ha, hb, hu⟩ := hrel
    by_cases hlt : k < l.length
    · obtain ⟨d, hd⟩ : ∃ x, l[k]? = some x := ⟨_, List.getElem?_eq_getElem hlt⟩
      obtain ⟨b1, o1, e1, cell1⟩ := Bs.out.at_ hd
      simp only [Option.some.injEq, Addr.mk.injEq, and_true] at e1
      obtain ⟨rfl, rfl⟩ := e1
      rw [Nat.zero_add] at cell1
      have d256 := d.toNat_lt
      have cellT := Ht.out d
      have hna := cnt_next (q := 39) hd
      have hnb := cnt_next (q := 34) hd
      have hnu := all_next hd hu.out
      rw [ha.out] at hna
      rw [hb.out] at hnb
      cases hs : isSp d with
      | false =>
        rw [hs] at cellT
        have h3439 := noSp_quotes hs
        rw [if_neg h3439.2] at hna
        rw [if_neg h3439.1] at hnb
        rw [hs, Bool.not_false, Bool.and_true] at hnu
        have Hna := hide hna
        have Hnb := hide hnb
        have Hnu := hide hnu
        clear hd hna hnb hnu hs h3439
        go_wp2
        go_round
        case rel => exact ⟨k + 1, a, b, u, by omega, rfl, rfl, rfl, by go_num, by omega, by omega, Hna, Hnb, Hnu⟩
        case measure => simp [intOf]; omega
      | true =>
        rw [hs] at cellT
        rw [hs, Bool.not_true, Bool.and_false] at hnu
        by_cases h34 : d = 34
        · have t1 : ((d.toNat : Int) == 34) = true := by rw [h34]; rfl
          rw [if_neg (by rw [h34]; decide)] at hna
          rw [if_pos h34] at hnb
          have Hna := hide hna
          have Hnb := hide hnb
          have Hnu := hide hnu
          clear hd hna hnb hnu hs h34
          go_wp2
          go_round
          case rel => exact ⟨k + 1, a, b + 1, false, by omega, rfl, by go_num, rfl, by go_num, by omega, by omega, Hna, Hnb, Hnu⟩
          case measure => simp [intOf]; omega
        · have t1 : ((d.toNat : Int) == 34) = false := by rw [beq_eq_false_iff_ne]; intro e; exact h34 (UInt8.toNat_inj.1 (by simp; omega))
          rw [if_neg h34] at hnb
          by_cases h39 : d = 39
          · have t2 : ((d.toNat : Int) == 39) = true := by rw [h39]; rfl
            rw [if_pos h39] at hna
            have Hna := hide hna
            have Hnb := hide hnb
            have Hnu := hide hnu
            clear hd hna hnb hnu hs h34 h39
            go_wp2
            go_round
            case rel => exact ⟨k + 1, a + 1, b, false, by omega, by go_num, rfl, rfl, by go_num, by omega, by omega, Hna, Hnb, Hnu⟩
            case measure => simp [intOf]; omega
          · have t2 : ((d.toNat : Int) == 39) = false := by rw [beq_eq_false_iff_ne]; intro e; exact h39 (UInt8.toNat_inj.1 (by simp; omega))
            rw [if_neg h39] at hna
            have Hna := hide hna
            have Hnb := hide hnb
            have Hnu := hide hnu
            clear hd hna hnb hnu hs h34 h39
            go_wp2
            go_round
            case rel => exact ⟨k + 1, a, b, false, by omega, rfl, rfl, rfl, by go_num, by omega, by omega, Hna, Hnb, Hnu⟩
            case measure => simp [intOf]; omega
    · obtain rfl : k = l.length := by omega
      have hae := ha.out
      have hbe := hb.out
      have hue := hu.out
      rw [List.take_length] at hae hbe hue
      have huU := HU.out
      rw [hue] at huU
      subst huU
      have hq2 := Hq.out
      rw [hae, hbe] at hq2
      have hm2 := Hm.out
      rw [hae] at hm2
      subst hm2
      clear hae hbe hue ha hb hu
      have z1 : ((m : Int) == 0) = false := by rw [beq_eq_false_iff_ne]; omega
      have z2 : ((b : Int) == 0) = false := by rw [beq_eq_false_iff_ne]; omega
      have hgt : decide (0 < ((l.length : Int) + 2 + (m : Int) * 4)) = true := by rw [decide_eq_true_eq]; omega
      have g1 : decide (b < m) = false := by rw [decide_eq_false_iff_not]; omega
      have g2 : (m == b) = false := by rw [beq_eq_false_iff_ne]; omega
      have g3 : m < b := by omega
      clear hq2
      go_wp2_with (first
        | (go_at_call 18; (with_reducible refine (sq_any _).mono ?_); rintro e w' ⟨rfl, rfl⟩)
        | ((with_reducible refine wpList_slice_runO (HrunT.out _ _) _ _ _ ?_ rfl ?_ ?_ ?_ ?_); (rfl); (rfl); (rfl); (rfl)))
      clear hmk hmc hgt z1 z2
      clear g1 g2
      go_loopw [19, 20, 145] (fun vj vs vi wr => ∃ (j s i : Nat) (cur : List UInt8), vj = .int .i64 (j : Int) ∧ vs = .int .i64 (s : Int) ∧ vi = .int .i64 (i : Int) ∧ i ≤ l.length ∧ cur.length = (l.length + 2 + m * 4) ∧ Hid (EscIn (fQ 39) [39] l cur i s j) ∧ Hid (Blk8 wr (w.heap.size + 1) cur) ∧ (madeA w gp (l.length + 2 + m * 4) (w.heap.size + 1) #[.int .u8 38, .int .u8 35, .int .u8 51, .int .u8 57, .int .u8 59] 39).grownBy wr (some (w.heap.size + 1))) (fun _ _ vi _ => l.length - (intOf vi).toNat)
      case atStart => exact ⟨1, 0, 0, (List.replicate (l.length + 2 + m * 4) 0).set 0 39, rfl, rfl, rfl, Nat.zero_le _, by simp, hide (EscIn.begin_ (by have h3 := extQ_len 39 l; rw [← Hm.out] at h3; simp; omega) (by rw [show l.length + 2 + m * 4 = (l.length + 1 + m * 4) + 1 by omega, List.replicate_succ]; rfl)), Bl0, World.grownBy.refl _ _⟩
      case round =>
        obtain ⟨j, s, i, cur, rfl, rfl, rfl, hi, hcl, hin, hb, hgr⟩ := hrel
        have hbs : BS wr (some ⟨g0, 0, none⟩) l := bs_apart Bs0.out hgr (by have := Hg0.out; omega)
        have hbe : BS wr (some ⟨w.heap.size, 0, none⟩) ent39 := bs_apart Be0.out hgr (by omega)
        have hsi := hin.out.si
        have hroom := hin.out.room1
        have Hcl := hide hcl
        rw [hcl] at hroom
        have hj1 : j ≤ l.length + 1 + m * 4 := by
          have h3 := hin.out.jl
          have h4 := esc_le (fQ 39) l s
          have h5 := extQ_len 39 l
          rw [← Hm.out] at h5
          simp at h3
          omega
        clear hcl
        by_cases hlt : i < l.length
        · obtain ⟨d, hd⟩ : ∃ x, l[i]? = some x := ⟨_, List.getElem?_eq_getElem hlt⟩
          obtain ⟨b1, o1, e1, cell1⟩ := hbs.at_ hd
          simp only [Option.some.injEq, Addr.mk.injEq, and_true] at e1
          obtain ⟨rfl, rfl⟩ := e1
          rw [Nat.zero_add] at cell1
          have d256 := d.toNat_lt
          by_cases hdq : d = 39
          · have t1 : ((d.toNat : Int) == 39) = true := by rw [hdq]; rfl
            have hf : fQ 39 d = ent39 := by subst hdq; rfl
            have Hin2 := hide (hin.out.ent hd)
            have hr2 := hin.out.room hd
            rw [hf] at Hin2
            rw [Hcl.out, show (fQ 39 d).length = 5 by rw [hf]; rfl] at hr2
            obtain ⟨r, hr⟩ : ∃ r, r = i - s := ⟨_, rfl⟩
            have hsec := sec_len (l := l) hsi hi
            obtain ⟨w1, hrun1, hb1, hg1⟩ := run_put8 (w := wr.drew) (hb.out.drew) ((hbs.cut rfl s).take (i - s)).drew j (by rw [hsec, Hcl.out]; omega) ((l.length + 2 + m * 4) - j) (i - s) ((l.length + 2 + m * 4) - j) (l.length - s) r (by rw [Hcl.out]) hsec hr
            rw [Nat.zero_add] at hrun1
            have hcl1 : (put8 cur j ((l.drop s).take (i - s))).length = (l.length + 2 + m * 4) := by rw [put8_len (by rw [hsec, Hcl.out]; omega), Hcl.out]
            have g1 : (madeA w gp (l.length + 2 + m * 4) (w.heap.size + 1) #[.int .u8 38, .int .u8 35, .int .u8 51, .int .u8 57, .int .u8 59] 39).grownBy w1 (some (w.heap.size + 1)) := World.grownBy.trans (b := wr.drew) ⟨hgr.os, hgr.tape, hgr.output, hgr.size, hgr.block⟩ hg1
            obtain ⟨w2, hrun2, hb2, hg2⟩ := run_put8 (w := w1) hb1 (bs_apart (G := w.heap.size + 1) Be0.out g1 (by omega)) (j + r) (by rw [hcl1, hr]; simp [ent39]; omega) ((l.length + 2 + m * 4) - (j + r)) 5 ((l.length + 2 + m * 4) - (j + r)) 5 5 (by rw [hcl1]) rfl rfl
            have Hrun1 := hide hrun1
            have Hrun2 := hide hrun2
            have Hcl2 := hide (show (put8 (put8 cur j ((l.drop s).take (i - s))) (j + r) ent39).length = (l.length + 2 + m * 4) by rw [put8_len (by rw [hcl1, hr]; simp [ent39]; omega), hcl1])
            have Hb2 := hide hb2
            have hgr2 : (madeA w gp (l.length + 2 + m * 4) (w.heap.size + 1) #[.int .u8 38, .int .u8 35, .int .u8 51, .int .u8 57, .int .u8 59] 39).grownBy w2 (some (w.heap.size + 1)) := g1.trans hg2
            rw [← hr] at Hin2 Hb2 Hcl2
            have s1 : IntKind.i64.wrap ((j : Int) + (r : Int)) = (j : Int) + (r : Int) := IntWalk.i64_in _ (by omega)
            have S := hide s1
            have hjr : j + r + 5 ≤ (l.length + 2 + m * 4) := by omega
            clear hd hf hr hsec hrun1 hb1 hg1 hcl1 hrun2 hb2 hg2 s1 hroom hr2 hdq g1
            go_wp2
            have s1 := S.out
            have q1 : (j : Int) ≤ ((l.length : Int) + 2 + (m : Int) * 4) := by omega
            have q2 : ¬ (l.length + 2 + m * 4) = j := by omega
            have q3 : ¬ l.length = s := by omega
            have q4 : (i : Int) ≤ (l.length : Int) := by omega
            go_region_law ((with_reducible refine step_copy_runG Hrun1.out _ _ ?_ rfl rfl ?_ ?_ ?_); (rfl); (simp [Act.eval, Act.put]); (simp [Act.eval, Act.put]))
            all_goals
              clear q1 q2 q3 q4 s1
              have q2 : ¬ (l.length + 2 + m * 4) = j + r := by omega
              have q5 : (j : Int) + (r : Int) ≤ ((l.length : Int) + 2 + (m : Int) * 4) := by omega
              go_wp2_with ((with_reducible refine wpList_copy_runG Hrun2.out _ _ ?_ rfl rfl ?_ ?_ ?_); (rfl); (simp [Act.eval, Act.put]); (simp [Act.eval, Act.put]))
              clear q2 q5
              go_roundw
              case rel => exact ⟨j + r + 5, i + 1, i + 1, _, by go_num, by go_num, by go_num, by omega, Hcl2.out, Hin2, Hb2, hgr2⟩
              case measure => simp [intOf]; omega
          · have t1 : ((d.toNat : Int) == 39) = false := by rw [beq_eq_false_iff_ne]; intro e; exact hdq (UInt8.toNat_inj.1 (by simp; omega))
            have Hin2 := hide (hin.out.plain hd (by unfold fQ; rw [if_neg hdq]))
            clear hd hdq hroom
            go_wp2
            go_roundw
            case rel => exact ⟨j, s, i + 1, cur, rfl, rfl, by go_num, by omega, Hcl.out, Hin2, hb, hgr⟩
            case measure => simp [intOf]; omega
        · obtain rfl : i = l.length := by omega
          obtain ⟨r, hr⟩ : ∃ r, r = l.length - s := ⟨_, rfl⟩
          have hjx : (attr 39 l).length = j + r + 1 := by
            have h3 := hin.out.jl
            have h4 := congrArg List.length hin.out.sec
            rw [List.length_append, sec_len hsi (Nat.le_refl _), List.take_length] at h4
            simp [attr] at h3 ⊢
            omega
          have Hjx := hide hjx
          have hja := Hatt.out
          rw [← Hm.out] at hja
          have hjr : j + r + 1 ≤ (l.length + 2 + m * 4) - 0 := by omega
          have Hlast := hide (hin.out.close hr (by rw [Hcl.out]; omega))
          have HrunE := hide (run_hi8 (P := Tryd.prog) (A := some ⟨w.heap.size + 1, 0, none⟩) 22 Tryd.underlying22 (by kernel_rfl) (l.length + 2 + m * 4) (l.length + 2 + m * 4) (j + r + 1) ((j : Int) + (r : Int) + 1) (by simp) (by omega) .i64)
          have HrunE0 := hide (run_hi8 (P := Tryd.prog) (A := some ⟨w.heap.size + 1, 0, none⟩) 22 Tryd.underlying22 (by kernel_rfl) (l.length + 2 + m * 4) (l.length + 2 + m * 4) (j + 1) ((j : Int) + 1) (by simp) (by omega) .i64)
          clear hjx hja
          by_cases hsl : s = l.length
          · have hr0 : r = 0 := by omega
            subst hr0
            rw [Nat.add_zero] at Hlast Hjx
            rw [show l.drop s = [] from List.drop_of_length_le (by omega), put8_nil] at Hlast
            obtain ⟨y, hy⟩ : ∃ y, cur[j]? = some y := ⟨_, List.getElem?_eq_getElem (by have := Hcl.out; omega)⟩
            have cellJ := hb.out.cell hy
            have frzJ := hb.out.frozen j
            have hst := hb.out.set_ j 39
            have Hbs := hide (hst.bs0 (j + 1))
            have Hg := hide (madeA_grown rfl (grown_set hgr (p := ⟨w.heap.size + 1, j, none⟩) (.inl rfl) (.int .u8 39)))
            have Hrun0 := hide (fun (D B : Option Addr) (n c1 c2 : Nat) => run_put0 wr.drew D B n c1 c2)
            subst hsl
            clear hroom hr hy hst
            go_wp2
            have q1 : (j : Int) ≤ ((l.length : Int) + 2 + (m : Int) * 4) := by omega
            have q2 : ¬ (l.length + 2 + m * 4) = j := by omega
            go_region_law ((with_reducible refine step_copy_runG (Hrun0.out (some ⟨w.heap.size + 1, j, none⟩) (some ⟨g0, 0, none⟩) ((l.length + 2 + m * 4) - j) ((l.length + 2 + m * 4) - j) 0) _ _ ?_ rfl rfl ?_ ?_ ?_); (rfl); (simp [Act.eval, Act.put]); (simp [Act.eval, Act.put]))
            all_goals
              clear q1 q2
              go_wp2_with ((with_reducible refine wpList_slice_runO (HrunE0.out _) _ _ _ ?_ rfl ?_ ?_ ?_ ?_); (rfl); (rfl); (rfl); (rfl))
              go_ret
              refine ⟨some ⟨w.heap.size + 1, 0, none⟩, (l.length + 2 + m * 4), ?_, ?_, ?_, ?_⟩
              · rw [Hjx.out]; rfl
              · rw [show attr 39 l = _ from Hlast.out.symm]; exact Hbs.out
              · rw [Hjx.out]; omega
              · exact ⟨Hg.out.os, Hg.out.tape, Hg.out.output, Hg.out.size, Hg.out.block⟩
          · obtain ⟨w1, hrun1, hb1, hg1⟩ := run_put8 (w := wr.drew) (hb.out.drew) (hbs.cut rfl s).drew j (by rw [List.length_drop, Hcl.out]; omega) ((l.length + 2 + m * 4) - j) (l.length - s) ((l.length + 2 + m * 4) - j) (l.length - s) r (by rw [Hcl.out]) (by rw [List.length_drop]) hr
            rw [Nat.zero_add] at hrun1
            have Hrun1 := hide hrun1
            have hcl1 : (put8 cur j (l.drop s)).length = (l.length + 2 + m * 4) := by rw [put8_len (by rw [List.length_drop, Hcl.out]; omega), Hcl.out]
            obtain ⟨y, hy⟩ : ∃ y, (put8 cur j (l.drop s))[j + r]? = some y := ⟨_, List.getElem?_eq_getElem (by omega)⟩
            have cellJ := hb1.cell hy
            have frzJ := hb1.frozen (j + r)
            have hst := hb1.set_ (j + r) 39
            have Hbs := hide (hst.bs0 (j + r + 1))
            have g1 : (madeA w gp (l.length + 2 + m * 4) (w.heap.size + 1) #[.int .u8 38, .int .u8 35, .int .u8 51, .int .u8 57, .int .u8 59] 39).grownBy w1 (some (w.heap.size + 1)) := World.grownBy.trans (b := wr.drew) ⟨hgr.os, hgr.tape, hgr.output, hgr.size, hgr.block⟩ hg1
            have Hg := hide (madeA_grown rfl (grown_set g1 (p := ⟨w.heap.size + 1, j + r, none⟩) (.inl rfl) (.int .u8 39)))
            have s1 : IntKind.i64.wrap ((j : Int) + (r : Int)) = (j : Int) + (r : Int) := IntWalk.i64_in _ (by omega)
            have S := hide s1
            clear s1 hr hrun1 hb1 hg1 g1 hroom hy hst hcl1
            go_wp2
            have s1 := S.out
            have q1 : (j : Int) ≤ ((l.length : Int) + 2 + (m : Int) * 4) := by omega
            have q2 : ¬ (l.length + 2 + m * 4) = j := by omega
            have q3 : ¬ l.length = s := by omega
            go_region_law ((with_reducible refine step_copy_runG Hrun1.out _ _ ?_ rfl rfl ?_ ?_ ?_); (rfl); (simp [Act.eval, Act.put]); (simp [Act.eval, Act.put]))
            all_goals
              clear q1 q2 q3 s1
              go_wp2_with ((with_reducible refine wpList_slice_runO (HrunE.out _) _ _ _ ?_ rfl ?_ ?_ ?_ ?_); (rfl); (rfl); (rfl); (rfl))
              go_ret
              refine ⟨some ⟨w.heap.size + 1, 0, none⟩, (l.length + 2 + m * 4), ?_, ?_, ?_, Hg.out⟩
              · rw [Hjx.out]; rfl
              · rw [show attr 39 l = _ from Hlast.out.symm]; exact Hbs.out
              · rw [Hjx.out]; omega


set_option maxRecDepth 100000 in
set_option maxHeartbeats 8000000 in
theorem hT_39_340_2 (gp g0 : Nat) (l : List UInt8) (X : Option Addr) (w : World) (hcell : w.cell? ⟨gp, 0, none⟩ = some (.slice X 0 0)) (hfr : w.frozen? ⟨gp, 0, none⟩ = false) (bs : BS w (some ⟨g0, 0, none⟩) l) (hne : g0 ≠ gp) (hg0 : g0 < w.heap.size) (h1 : l.length ≤ 500) (ht : CtTab w) (hU : l.all noSp = false) (hq : 0 < cnt 39 l ∧ cnt 34 l < cnt 39 l ∧ cnt 34 l = 0) :
    Calls Tryd.prog 13 #[.pointer (some ⟨gp, 0, none⟩), .slice (some ⟨g0, 0, none⟩) l.length l.length, .int .u8 39, .bool true] w (ATRet gp 34 l w) := by
  have Ht := hide ht
  have HU := hide hU
  have Bs := hide bs
  have Hq := hide hq
  have hgp : gp < w.heap.size := block_lt_of_cell hcell
  obtain ⟨m, hm⟩ : ∃ m, m = cnt 34 l := ⟨_, rfl⟩
  have hm5 : m ≤ 500 := by have := cnt_le 34 l l.length; rw [List.take_length] at this; omega
  have hmk := run_make0 (l.length + 2 + m * 4) ((l.length : Int) + 2 + (m : Int) * 4) (by simp) (by omega) .i64 .i64
  have hmc := made_first (n := (l.length + 2 + m * 4)) (by omega)
  have Bl0 := hide (madeA_blk (w := w) (gp := gp) (n := (l.length + 2 + m * 4)) (ent := #[.int .u8 38, .int .u8 35, .int .u8 51, .int .u8 52, .int .u8 59]) (q := 34) rfl)
  have Bs0 := hide (madeA_bs (n := (l.length + 2 + m * 4)) (gt := w.heap.size + 1) (ent := #[.int .u8 38, .int .u8 35, .int .u8 51, .int .u8 52, .int .u8 59]) (q := 34) bs hne)
  have Be0 := hide (show BS (madeA w gp (l.length + 2 + m * 4) (w.heap.size + 1) #[.int .u8 38, .int .u8 35, .int .u8 51, .int .u8 52, .int .u8 59] 34) (some ⟨w.heap.size, 0, none⟩) ent34 from madeA_ent w gp (l.length + 2 + m * 4) (w.heap.size + 1) 34 [38, 35, 51, 52, 59])
  have Hg0 := hide hg0
  have Hm := hide hm
  have Hatt := hide (attr_len 34 l)
  have HrunT := hide (fun (A : Option Addr) (w' : World) => run_hi8 (P := Tryd.prog) (A := A) 22 Tryd.underlying22 (by kernel_rfl) 0 (l.length + 2 + m * 4) (l.length + 2 + m * 4) ((l.length : Int) + 2 + (m : Int) * 4) (by simp) (Nat.le_refl _) .i64 w')
  clear bs hne hm hq ht hU
  go_enter Tryd.func13, Tryd.ntmps13
  go_wp2
  go_loop [9, 10, 11, 25] (fun vs vd vu vi => ∃ (k a b : Nat) (u : Bool), k ≤ l.length ∧ vs = .int .i64 (a : Int) ∧ vd = .int .i64 (b : Int) ∧ vu = .bool u ∧ vi = .int .i64 (k : Int) ∧ a ≤ k ∧ b ≤ k ∧ Hid (cnt 39 (l.take k) = a) ∧ Hid (cnt 34 (l.take k) = b) ∧ Hid ((l.take k).all noSp = u)) (fun _ _ _ vi => l.length - (intOf vi).toNat)
  case atStart => exact ⟨0, 0, 0, true, Nat.zero_le _, rfl, rfl, rfl, rfl, Nat.le_refl _, Nat.le_refl _, hide rfl, hide rfl, hide rfl⟩
  case round =>
    obtain ⟨k, a, b, u, hk, rfl, rfl, rfl, rfl, hak, hbk, ha, hb, hu⟩ := hrel
    by_cases hlt : k < l.length
    · obtain ⟨d, hd⟩ : ∃ x, l[k]? = some x := ⟨_, List.getElem?_eq_getElem hlt⟩
      obtain ⟨b1, o1, e1, cell1⟩ := Bs.out.at_ hd
      simp only [Option.some.injEq, Addr.mk.injEq, and_true] at e1
      obtain ⟨rfl, rfl⟩ := e1
      rw [Nat.zero_add] at cell1
      have d256 := d.toNat_lt
      have cellT := Ht.out d
      have hna := cnt_next (q := 39) hd
      have hnb := cnt_next (q := 34) hd
      have hnu := all_next hd hu.out
      rw [ha.out] at hna
      rw [hb.out] at hnb
      cases hs : isSp d with
      | false =>
        rw [hs] at cellT
        have h3439 := noSp_quotes hs
        rw [if_neg h3439.2] at hna
        rw [if_neg h3439.1] at hnb
        rw [hs, Bool.not_false, Bool.and_true] at hnu
        have Hna := hide hna
        have Hnb := hide hnb
        have Hnu := hide hnu
        clear hd hna hnb hnu hs h3439
        go_wp2
        go_round
        case rel => exact ⟨k + 1, a, b, u, by omega, rfl, rfl, rfl, by go_num, by omega, by omega, Hna, Hnb, Hnu⟩
        case measure => simp [intOf]; omega
      | true =>
        rw [hs] at cellT
        rw [hs, Bool.not_true, Bool.and_false] at hnu
        by_cases h34 : d = 34
        · have t1 : ((d.toNat : Int) == 34) = true := by rw [h34]; rfl
          rw [if_neg (by rw [h34]; decide)] at hna
          rw [if_pos h34] at hnb
          have Hna := hide hna
          have Hnb := hide hnb
          have Hnu := hide hnu
          clear hd hna hnb hnu hs h34
          go_wp2
          go_round
          case rel => exact ⟨k + 1, a, b + 1, false, by omega, rfl, by go_num, rfl, by go_num, by omega, by omega, Hna, Hnb, Hnu⟩
          case measure => simp [intOf]; omega
        · have t1 : ((d.toNat : Int) == 34) = false := by rw [beq_eq_false_iff_ne]; intro e; exact h34 (UInt8.toNat_inj.1 (by simp; omega))
          rw [if_neg h34] at hnb
          by_cases h39 : d = 39
          · have t2 : ((d.toNat : Int) == 39) = true := by rw [h39]; rfl
            rw [if_pos h39] at hna
            have Hna := hide hna
            have Hnb := hide hnb
            have Hnu := hide hnu
            clear hd hna hnb hnu hs h34 h39
            go_wp2
            go_round
            case rel => exact ⟨k + 1, a + 1, b, false, by omega, by go_num, rfl, rfl, by go_num, by omega, by omega, Hna, Hnb, Hnu⟩
            case measure => simp [intOf]; omega
          · have t2 : ((d.toNat : Int) == 39) = false := by rw [beq_eq_false_iff_ne]; intro e; exact h39 (UInt8.toNat_inj.1 (by simp; omega))
            rw [if_neg h39] at hna
            have Hna := hide hna
            have Hnb := hide hnb
            have Hnu := hide hnu
            clear hd hna hnb hnu hs h34 h39
            go_wp2
            go_round
            case rel => exact ⟨k + 1, a, b, false, by omega, rfl, rfl, rfl, by go_num, by omega, by omega, Hna, Hnb, Hnu⟩
            case measure => simp [intOf]; omega
    · obtain rfl : k = l.length := by omega
      have hae := ha.out
      have hbe := hb.out
      have hue := hu.out
      rw [List.take_length] at hae hbe hue
      have huU := HU.out
      rw [hue] at huU
      subst huU
      have hq2 := Hq.out
      rw [hae, hbe] at hq2
      have hm2 := Hm.out
      rw [hbe] at hm2
      subst hm2
      clear hae hbe hue ha hb hu
      have z1 : ((a : Int) == 0) = false := by rw [beq_eq_false_iff_ne]; omega
      have z2 : ((m : Int) == 0) = true := by rw [beq_iff_eq]; omega
      have hgt : decide (0 < ((l.length : Int) + 2 + (m : Int) * 4)) = true := by rw [decide_eq_true_eq]; omega
      have g1 : decide (m < a) = true := by rw [decide_eq_true_eq]; omega
      clear hq2
      go_wp2_with (first
        | (go_at_call 17; (with_reducible refine (dq_any _).mono ?_); rintro e w' ⟨rfl, rfl⟩)
        | ((with_reducible refine wpList_slice_runO (HrunT.out _ _) _ _ _ ?_ rfl ?_ ?_ ?_ ?_); (rfl); (rfl); (rfl); (rfl)))
      clear hmk hmc hgt z1 z2
      clear g1
      go_loopw [19, 20, 145] (fun vj vs vi wr => ∃ (j s i : Nat) (cur : List UInt8), vj = .int .i64 (j : Int) ∧ vs = .int .i64 (s : Int) ∧ vi = .int .i64 (i : Int) ∧ i ≤ l.length ∧ cur.length = (l.length + 2 + m * 4) ∧ Hid (EscIn (fQ 34) [34] l cur i s j) ∧ Hid (Blk8 wr (w.heap.size + 1) cur) ∧ (madeA w gp (l.length + 2 + m * 4) (w.heap.size + 1) #[.int .u8 38, .int .u8 35, .int .u8 51, .int .u8 52, .int .u8 59] 34).grownBy wr (some (w.heap.size + 1))) (fun _ _ vi _ => l.length - (intOf vi).toNat)
      case atStart => exact ⟨1, 0, 0, (List.replicate (l.length + 2 + m * 4) 0).set 0 34, rfl, rfl, rfl, Nat.zero_le _, by simp, hide (EscIn.begin_ (by have h3 := extQ_len 34 l; rw [← Hm.out] at h3; simp; omega) (by rw [show l.length + 2 + m * 4 = (l.length + 1 + m * 4) + 1 by omega, List.replicate_succ]; rfl)), Bl0, World.grownBy.refl _ _⟩
      case round =>
        obtain ⟨j, s, i, cur, rfl, rfl, rfl, hi, hcl, hin, hb, hgr⟩ := hrel
        have hbs : BS wr (some ⟨g0, 0, none⟩) l := bs_apart Bs0.out hgr (by have := Hg0.out; omega)
        have hbe : BS wr (some ⟨w.heap.size, 0, none⟩) ent34 := bs_apart Be0.out hgr (by omega)
        have hsi := hin.out.si
        have hroom := hin.out.room1
        have Hcl := hide hcl
        rw [hcl] at hroom
        have hj1 : j ≤ l.length + 1 + m * 4 := by
          have h3 := hin.out.jl
          have h4 := esc_le (fQ 34) l s
          have h5 := extQ_len 34 l
          rw [← Hm.out] at h5
          simp at h3
          omega
        clear hcl
        by_cases hlt : i < l.length
        · obtain ⟨d, hd⟩ : ∃ x, l[i]? = some x := ⟨_, List.getElem?_eq_getElem hlt⟩
          obtain ⟨b1, o1, e1, cell1⟩ := hbs.at_ hd
          simp only [Option.some.injEq, Addr.mk.injEq, and_true] at e1
          obtain ⟨rfl, rfl⟩ := e1
          rw [Nat.zero_add] at cell1
          have d256 := d.toNat_lt
          by_cases hdq : d = 34
          · have t1 : ((d.toNat : Int) == 34) = true := by rw [hdq]; rfl
            have hf : fQ 34 d = ent34 := by subst hdq; rfl
            have Hin2 := hide (hin.out.ent hd)
            have hr2 := hin.out.room hd
            rw [hf] at Hin2
            rw [Hcl.out, show (fQ 34 d).length = 5 by rw [hf]; rfl] at hr2
            obtain ⟨r, hr⟩ : ∃ r, r = i - s := ⟨_, rfl⟩
            have hsec := sec_len (l := l) hsi hi
            obtain ⟨w1, hrun1, hb1, hg1⟩ := run_put8 (w := wr.drew) (hb.out.drew) ((hbs.cut rfl s).take (i - s)).drew j (by rw [hsec, Hcl.out]; omega) ((l.length + 2 + m * 4) - j) (i - s) ((l.length + 2 + m * 4) - j) (l.length - s) r (by rw [Hcl.out]) hsec hr
            rw [Nat.zero_add] at hrun1
            have hcl1 : (put8 cur j ((l.drop s).take (i - s))).length = (l.length + 2 + m * 4) := by rw [put8_len (by rw [hsec, Hcl.out]; omega), Hcl.out]
            have g1 : (madeA w gp (l.length + 2 + m * 4) (w.heap.size + 1) #[.int .u8 38, .int .u8 35, .int .u8 51, .int .u8 52, .int .u8 59] 34).grownBy w1 (some (w.heap.size + 1)) := World.grownBy.trans (b := wr.drew) ⟨hgr.os, hgr.tape, hgr.output, hgr.size, hgr.block⟩ hg1
            obtain ⟨w2, hrun2, hb2, hg2⟩ := run_put8 (w := w1) hb1 (bs_apart (G := w.heap.size + 1) Be0.out g1 (by omega)) (j + r) (by rw [hcl1, hr]; simp [ent34]; omega) ((l.length + 2 + m * 4) - (j + r)) 5 ((l.length + 2 + m * 4) - (j + r)) 5 5 (by rw [hcl1]) rfl rfl
            have Hrun1 := hide hrun1
            have Hrun2 := hide hrun2
            have Hcl2 := hide (show (put8 (put8 cur j ((l.drop s).take (i - s))) (j + r) ent34).length = (l.length + 2 + m * 4) by rw [put8_len (by rw [hcl1, hr]; simp [ent34]; omega), hcl1])
            have Hb2 := hide hb2
            have hgr2 : (madeA w gp (l.length + 2 + m * 4) (w.heap.size + 1) #[.int .u8 38, .int .u8 35, .int .u8 51, .int .u8 52, .int .u8 59] 34).grownBy w2 (some (w.heap.size + 1)) := g1.trans hg2
            rw [← hr] at Hin2 Hb2 Hcl2
            have s1 : IntKind.i64.wrap ((j : Int) + (r : Int)) = (j : Int) + (r : Int) := IntWalk.i64_in _ (by omega)
            have S := hide s1
            have hjr : j + r + 5 ≤ (l.length + 2 + m * 4) := by omega
            clear hd hf hr hsec hrun1 hb1 hg1 hcl1 hrun2 hb2 hg2 s1 hroom hr2 hdq g1
            go_wp2
            have s1 := S.out
            have q1 : (j : Int) ≤ ((l.length : Int) + 2 + (m : Int) * 4) := by omega
            have q2 : ¬ (l.length + 2 + m * 4) = j := by omega
            have q3 : ¬ l.length = s := by omega
            have q4 : (i : Int) ≤ (l.length : Int) := by omega
            go_region_law ((with_reducible refine step_copy_runG Hrun1.out _ _ ?_ rfl rfl ?_ ?_ ?_); (rfl); (simp [Act.eval, Act.put]); (simp [Act.eval, Act.put]))
            all_goals
              clear q1 q2 q3 q4 s1
              have q2 : ¬ (l.length + 2 + m * 4) = j + r := by omega
              have q5 : (j : Int) + (r : Int) ≤ ((l.length : Int) + 2 + (m : Int) * 4) := by omega
              go_wp2_with ((with_reducible refine wpList_copy_runG Hrun2.out _ _ ?_ rfl rfl ?_ ?_ ?_); (rfl); (simp [Act.eval, Act.put]); (simp [Act.eval, Act.put]))
              clear q2 q5
              go_roundw
              case rel => exact ⟨j + r + 5, i + 1, i + 1, _, by go_num, by go_num, by go_num, by omega, Hcl2.out, Hin2, Hb2, hgr2⟩
              case measure => simp [intOf]; omega
          · have t1 : ((d.toNat : Int) == 34) = false := by rw [beq_eq_false_iff_ne]; intro e; exact hdq (UInt8.toNat_inj.1 (by simp; omega))
            have Hin2 := hide (hin.out.plain hd (by unfold fQ; rw [if_neg hdq]))
            clear hd hdq hroom
            go_wp2
            go_roundw
            case rel => exact ⟨j, s, i + 1, cur, rfl, rfl, by go_num, by omega, Hcl.out, Hin2, hb, hgr⟩
            case measure => simp [intOf]; omega
        · obtain rfl : i = l.length := by omega
          obtain ⟨r, hr⟩ : ∃ r, r = l.length - s := ⟨_, rfl⟩
          have hjx : (attr 34 l).length = j + r + 1 := by
            have h3 := hin.out.jl
            have h4 := congrArg List.length hin.out.sec
            rw [List.length_append, sec_len hsi (Nat.le_refl _), List.take_length] at h4
            simp [attr] at h3 ⊢
            omega
          have Hjx := hide hjx
          have hja := Hatt.out
          rw [← Hm.out] at hja
          have hjr : j + r + 1 ≤ (l.length + 2 + m * 4) - 0 := by omega
          have Hlast := hide (hin.out.close hr (by rw [Hcl.out]; omega))
          have HrunE := hide (run_hi8 (P := Tryd.prog) (A := some ⟨w.heap.size + 1, 0, none⟩) 22 Tryd.underlying22 (by kernel_rfl) (l.length + 2 + m * 4) (l.length + 2 + m * 4) (j + r + 1) ((j : Int) + (r : Int) + 1) (by simp) (by omega) .i64)
          have HrunE0 := hide (run_hi8 (P := Tryd.prog) (A := some ⟨w.heap.size + 1, 0, none⟩) 22 Tryd.underlying22 (by kernel_rfl) (l.length + 2 + m * 4) (l.length + 2 + m * 4) (j + 1) ((j : Int) + 1) (by simp) (by omega) .i64)
          clear hjx hja
          by_cases hsl : s = l.length
          · have hr0 : r = 0 := by omega
            subst hr0
            rw [Nat.add_zero] at Hlast Hjx
            rw [show l.drop s = [] from List.drop_of_length_le (by omega), put8_nil] at Hlast
            obtain ⟨y, hy⟩ : ∃ y, cur[j]? = some y := ⟨_, List.getElem?_eq_getElem (by have := Hcl.out; omega)⟩
            have cellJ := hb.out.cell hy
            have frzJ := hb.out.frozen j
            have hst := hb.out.set_ j 34
            have Hbs := hide (hst.bs0 (j + 1))
            have Hg := hide (madeA_grown rfl (grown_set hgr (p := ⟨w.heap.size + 1, j, none⟩) (.inl rfl) (.int .u8 34)))
            have Hrun0 := hide (fun (D B : Option Addr) (n c1 c2 : Nat) => run_put0 wr.drew D B n c1 c2)
            subst hsl
            clear hroom hr hy hst
            go_wp2
            have q1 : (j : Int) ≤ ((l.length : Int) + 2 + (m : Int) * 4) := by omega
            have q2 : ¬ (l.length + 2 + m * 4) = j := by omega
            go_region_law ((with_reducible refine step_copy_runG (Hrun0.out (some ⟨w.heap.size + 1, j, none⟩) (some ⟨g0, 0, none⟩) ((l.length + 2 + m * 4) - j) ((l.length + 2 + m * 4) - j) 0) _ _ ?_ rfl rfl ?_ ?_ ?_); (rfl); (simp [Act.eval, Act.put]); (simp [Act.eval, Act.put]))
            all_goals
              clear q1 q2
              go_wp2_with ((with_reducible refine wpList_slice_runO (HrunE0.out _) _ _ _ ?_ rfl ?_ ?_ ?_ ?_); (rfl); (rfl); (rfl); (rfl))
              go_ret
              refine ⟨some ⟨w.heap.size + 1, 0, none⟩, (l.length + 2 + m * 4), ?_, ?_, ?_, ?_⟩
              · rw [Hjx.out]; rfl
              · rw [show attr 34 l = _ from Hlast.out.symm]; exact Hbs.out
              · rw [Hjx.out]; omega
              · exact ⟨Hg.out.os, Hg.out.tape, Hg.out.output, Hg.out.size, Hg.out.block⟩
          · obtain ⟨w1, hrun1, hb1, hg1⟩ := run_put8 (w := wr.drew) (hb.out.drew) (hbs.cut rfl s).drew j (by rw [List.length_drop, Hcl.out]; omega) ((l.length + 2 + m * 4) - j) (l.length - s) ((l.length + 2 + m * 4) - j) (l.length - s) r (by rw [Hcl.out]) (by rw [List.length_drop]) hr
            rw [Nat.zero_add] at hrun1
            have Hrun1 := hide hrun1
            have hcl1 : (put8 cur j (l.drop s)).length = (l.length + 2 + m * 4) := by rw [put8_len (by rw [List.length_drop, Hcl.out]; omega), Hcl.out]
            obtain ⟨y, hy⟩ : ∃ y, (put8 cur j (l.drop s))[j + r]? = some y := ⟨_, List.getElem?_eq_getElem (by omega)⟩
            have cellJ := hb1.cell hy
            have frzJ := hb1.frozen (j + r)
            have hst := hb1.set_ (j + r) 34
            have Hbs := hide (hst.bs0 (j + r + 1))
            have g1 : (madeA w gp (l.length + 2 + m * 4) (w.heap.size + 1) #[.int .u8 38, .int .u8 35, .int .u8 51, .int .u8 52, .int .u8 59] 34).grownBy w1 (some (w.heap.size + 1)) := World.grownBy.trans (b := wr.drew) ⟨hgr.os, hgr.tape, hgr.output, hgr.size, hgr.block⟩ hg1
            have Hg := hide (madeA_grown rfl (grown_set g1 (p := ⟨w.heap.size + 1, j + r, none⟩) (.inl rfl) (.int .u8 34)))
            have s1 : IntKind.i64.wrap ((j : Int) + (r : Int)) = (j : Int) + (r : Int) := IntWalk.i64_in _ (by omega)
            have S := hide s1
            clear s1 hr hrun1 hb1 hg1 g1 hroom hy hst hcl1
            go_wp2
            have s1 := S.out
            have q1 : (j : Int) ≤ ((l.length : Int) + 2 + (m : Int) * 4) := by omega
            have q2 : ¬ (l.length + 2 + m * 4) = j := by omega
            have q3 : ¬ l.length = s := by omega
            go_region_law ((with_reducible refine step_copy_runG Hrun1.out _ _ ?_ rfl rfl ?_ ?_ ?_); (rfl); (simp [Act.eval, Act.put]); (simp [Act.eval, Act.put]))
            all_goals
              clear q1 q2 q3 s1
              go_wp2_with ((with_reducible refine wpList_slice_runO (HrunE.out _) _ _ _ ?_ rfl ?_ ?_ ?_ ?_); (rfl); (rfl); (rfl); (rfl))
              go_ret
              refine ⟨some ⟨w.heap.size + 1, 0, none⟩, (l.length + 2 + m * 4), ?_, ?_, ?_, Hg.out⟩
              · rw [Hjx.out]; rfl
              · rw [show attr 34 l = _ from Hlast.out.symm]; exact Hbs.out
              · rw [Hjx.out]; omega


set_option maxRecDepth 100000 in
set_option maxHeartbeats 8000000 in
theorem hT_39_34n_2 (gp g0 : Nat) (l : List UInt8) (X : Option Addr) (w : World) (hcell : w.cell? ⟨gp, 0, none⟩ = some (.slice X 0 0)) (hfr : w.frozen? ⟨gp, 0, none⟩ = false) (bs : BS w (some ⟨g0, 0, none⟩) l) (hne : g0 ≠ gp) (hg0 : g0 < w.heap.size) (h1 : l.length ≤ 500) (ht : CtTab w) (hU : l.all noSp = false) (hq : 0 < cnt 39 l ∧ cnt 34 l < cnt 39 l ∧ 0 < cnt 34 l) :
    Calls Tryd.prog 13 #[.pointer (some ⟨gp, 0, none⟩), .slice (some ⟨g0, 0, none⟩) l.length l.length, .int .u8 39, .bool true] w (ATRet gp 34 l w) := by
  have Ht := hide ht
  have HU := hide hU
  have Bs := hide bs
  have Hq := hide hq
  have hgp : gp < w.heap.size := block_lt_of_cell hcell
  obtain ⟨m, hm⟩ : ∃ m, m = cnt 34 l := ⟨_, rfl⟩
  have hm5 : m ≤ 500 := by have := cnt_le 34 l l.length; rw [List.take_length] at this; omega
  have hmk := run_make0 (l.length + 2 + m * 4) ((l.length : Int) + 2 + (m : Int) * 4) (by simp) (by omega) .i64 .i64
  have hmc := made_first (n := (l.length + 2 + m * 4)) (by omega)
  have Bl0 := hide (madeA_blk (w := w) (gp := gp) (n := (l.length + 2 + m * 4)) (ent := #[.int .u8 38, .int .u8 35, .int .u8 51, .int .u8 52, .int .u8 59]) (q := 34) rfl)
  have Bs0 := hide (madeA_bs (n := (l.length + 2 + m * 4)) (gt := w.heap.size + 1) (ent := #[.int .u8 38, .int .u8 35, .int .u8 51, .int .u8 52, .int .u8 59]) (q := 34) bs hne)
  have Be0 := hide (show BS (madeA w gp (l.length + 2 + m * 4) (w.heap.size + 1) #[.int .u8 38, .int .u8 35, .int .u8 51, .int .u8 52, .int .u8 59] 34) (some ⟨w.heap.size, 0, none⟩) ent34 from madeA_ent w gp (l.length + 2 + m * 4) (w.heap.size + 1) 34 [38, 35, 51, 52, 59])
  have Hg0 := hide hg0
  have Hm := hide hm
  have Hatt := hide (attr_len 34 l)
  have HrunT := hide (fun (A : Option Addr) (w' : World) => run_hi8 (P := Tryd.prog) (A := A) 22 Tryd.underlying22 (by kernel_rfl) 0 (l.length + 2 + m * 4) (l.length + 2 + m * 4) ((l.length : Int) + 2 + (m : Int) * 4) (by simp) (Nat.le_refl _) .i64 w')
  clear bs hne hm hq ht hU
  go_enter Tryd.func13, Tryd.ntmps13
  go_wp2
  go_loop [9, 10, 11, 25] (fun vs vd vu vi => ∃ (k a b : Nat) (u : Bool), k ≤ l.length ∧ vs = .int .i64 (a : Int) ∧ vd = .int .i64 (b : Int) ∧ vu = .bool u ∧ vi = .int .i64 (k : Int) ∧ a ≤ k ∧ b ≤ k ∧ Hid (cnt 39 (l.take k) = a) ∧ Hid (cnt 34 (l.take k) = b) ∧ Hid ((l.take k).all noSp = u)) (fun _ _ _ vi => l.length - (intOf vi).toNat)
  case atStart => exact ⟨0, 0, 0, true, Nat.zero_le _, rfl, rfl, rfl, rfl, Nat.le_refl _, Nat.le_refl _, hide rfl, hide rfl, hide rfl⟩
  case round =>
    obtain ⟨k, a, b, u, hk, rfl, rfl, rfl, rfl, hak, hbk, ha, hb, hu⟩ := hrel
    by_cases hlt : k < l.length
    · obtain ⟨d, hd⟩ : ∃ x, l[k]? = some x := ⟨_, List.getElem?_eq_getElem hlt⟩
      obtain ⟨b1, o1, e1, cell1⟩ := Bs.out.at_ hd
      simp only [Option.some.injEq, Addr.mk.injEq, and_true] at e1
      obtain ⟨rfl, rfl⟩ := e1
      rw [Nat.zero_add] at cell1
      have d256 := d.toNat_lt
      have cellT := Ht.out d
      have hna := cnt_next (q := 39) hd
      have hnb := cnt_next (q := 34) hd
      have hnu := all_next hd hu.out
      rw [ha.out] at hna
      rw [hb.out] at hnb
      cases hs : isSp d with
      | false =>
        rw [hs] at cellT
        have h3439 := noSp_quotes hs
        rw [if_neg h3439.2] at hna
        rw [if_neg h3439.1] at hnb
        rw [hs, Bool.not_false, Bool.and_true] at hnu
        have Hna := hide hna
        have Hnb := hide hnb
        have Hnu := hide hnu
        clear hd hna hnb hnu hs h3439
        go_wp2
        go_round
        case rel => exact ⟨k + 1, a, b, u, by omega, rfl, rfl, rfl, by go_num, by omega, by omega, Hna, Hnb, Hnu⟩
        case measure => simp [intOf]; omega
      | true =>
        rw [hs] at cellT
        rw [hs, Bool.not_true, Bool.and_false] at hnu
        by_cases h34 : d = 34
        · have t1 : ((d.toNat : Int) == 34) = true := by rw [h34]; rfl
          rw [if_neg (by rw [h34]; decide)] at hna
          rw [if_pos h34] at hnb
          have Hna := hide hna
          have Hnb := hide hnb
          have Hnu := hide hnu
          clear hd hna hnb hnu hs h34
          go_wp2
          go_round
          case rel => exact ⟨k + 1, a, b + 1, false, by omega, rfl, by go_num, rfl, by go_num, by omega, by omega, Hna, Hnb, Hnu⟩
          case measure => simp [intOf]; omega
        · have t1 : ((d.toNat : Int) == 34) = false := by rw [beq_eq_false_iff_ne]; intro e; exact h34 (UInt8.toNat_inj.1 (by simp; omega))
          rw [if_neg h34] at hnb
          by_cases h39 : d = 39
          · have t2 : ((d.toNat : Int) == 39) = true := by rw [h39]; rfl
            rw [if_pos h39] at hna
            have Hna := hide hna
            have Hnb := hide hnb
            have Hnu := hide hnu
            clear hd hna hnb hnu hs h34 h39
            go_wp2
            go_round
            case rel => exact ⟨k + 1, a + 1, b, false, by omega, by go_num, rfl, rfl, by go_num, by omega, by omega, Hna, Hnb, Hnu⟩
            case measure => simp [intOf]; omega
          · have t2 : ((d.toNat : Int) == 39) = false := by rw [beq_eq_false_iff_ne]; intro e; exact h39 (UInt8.toNat_inj.1 (by simp; omega))
            rw [if_neg h39] at hna
            have Hna := hide hna
            have Hnb := hide hnb
            have Hnu := hide hnu
            clear hd hna hnb hnu hs h34 h39
            go_wp2
            go_round
            case rel => exact ⟨k + 1, a, b, false, by omega, rfl, rfl, rfl, by go_num, by omega, by omega, Hna, Hnb, Hnu⟩
            case measure => simp [intOf]; omega
    · obtain rfl : k = l.length := by omega
      have hae := ha.out
      have hbe := hb.out
      have hue := hu.out
      rw [List.take_length] at hae hbe hue
      have huU := HU.out
      rw [hue] at huU
      subst huU
      have hq2 := Hq.out
      rw [hae, hbe] at hq2
      have hm2 := Hm.out
      rw [hbe] at hm2
      subst hm2
      clear hae hbe hue ha hb hu
      have z1 : ((a : Int) == 0) = false := by rw [beq_eq_false_iff_ne]; omega
      have z2 : ((m : Int) == 0) = false := by rw [beq_eq_false_iff_ne]; omega
      have hgt : decide (0 < ((l.length : Int) + 2 + (m : Int) * 4)) = true := by rw [decide_eq_true_eq]; omega
      have g1 : decide (m < a) = true := by rw [decide_eq_true_eq]; omega
      clear hq2
      go_wp2_with (first
        | (go_at_call 17; (with_reducible refine (dq_any _).mono ?_); rintro e w' ⟨rfl, rfl⟩)
        | ((with_reducible refine wpList_slice_runO (HrunT.out _ _) _ _ _ ?_ rfl ?_ ?_ ?_ ?_); (rfl); (rfl); (rfl); (rfl)))
      clear hmk hmc hgt z1 z2
      clear g1
      go_loopw [19, 20, 145] (fun vj vs vi wr => ∃ (j s i : Nat) (cur : List UInt8), vj = .int .i64 (j : Int) ∧ vs = .int .i64 (s : Int) ∧ vi = .int .i64 (i : Int) ∧ i ≤ l.length ∧ cur.length = (l.length + 2 + m * 4) ∧ Hid (EscIn (fQ 34) [34] l cur i s j) ∧ Hid (Blk8 wr (w.heap.size + 1) cur) ∧ (madeA w gp (l.length + 2 + m * 4) (w.heap.size + 1) #[.int .u8 38, .int .u8 35, .int .u8 51, .int .u8 52, .int .u8 59] 34).grownBy wr (some (w.heap.size + 1))) (fun _ _ vi _ => l.length - (intOf vi).toNat)
      case atStart => exact ⟨1, 0, 0, (List.replicate (l.length + 2 + m * 4) 0).set 0 34, rfl, rfl, rfl, Nat.zero_le _, by simp, hide (EscIn.begin_ (by have h3 := extQ_len 34 l; rw [← Hm.out] at h3; simp; omega) (by rw [show l.length + 2 + m * 4 = (l.length + 1 + m * 4) + 1 by omega, List.replicate_succ]; rfl)), Bl0, World.grownBy.refl _ _⟩
      case round =>
        obtain ⟨j, s, i, cur, rfl, rfl, rfl, hi, hcl, hin, hb, hgr⟩ := hrel
        have hbs : BS wr (some ⟨g0, 0, none⟩) l := bs_apart Bs0.out hgr (by have := Hg0.out; omega)
        have hbe : BS wr (some ⟨w.heap.size, 0, none⟩) ent34 := bs_apart Be0.out hgr (by omega)
        have hsi := hin.out.si
        have hroom := hin.out.room1
        have Hcl := hide hcl
        rw [hcl] at hroom
        have hj1 : j ≤ l.length + 1 + m * 4 := by
          have h3 := hin.out.jl
          have h4 := esc_le (fQ 34) l s
          have h5 := extQ_len 34 l
          rw [← Hm.out] at h5
          simp at h3
          omega
        clear hcl
        by_cases hlt : i < l.length
        · obtain ⟨d, hd⟩ : ∃ x, l[i]? = some x := ⟨_, List.getElem?_eq_getElem hlt⟩
          obtain ⟨b1, o1, e1, cell1⟩ := hbs.at_ hd
          simp only [Option.some.injEq, Addr.mk.injEq, and_true] at e1
          obtain ⟨rfl, rfl⟩ := e1
          rw [Nat.zero_add] at cell1
          have d256 := d.toNat_lt
          by_cases hdq : d = 34
          · have t1 : ((d.toNat : Int) == 34) = true := by rw [hdq]; rfl
            have hf : fQ 34 d = ent34 := by subst hdq; rfl
            have Hin2 := hide (hin.out.ent hd)
            have hr2 := hin.out.room hd
            rw [hf] at Hin2
            rw [Hcl.out, show (fQ 34 d).length = 5 by rw [hf]; rfl] at hr2
            obtain ⟨r, hr⟩ : ∃ r, r = i - s := ⟨_, rfl⟩
            have hsec := sec_len (l := l) hsi hi
            obtain ⟨w1, hrun1, hb1, hg1⟩ := run_put8 (w := wr.drew) (hb.out.drew) ((hbs.cut rfl s).take (i - s)).drew j (by rw [hsec, Hcl.out]; omega) ((l.length + 2 + m * 4) - j) (i - s) ((l.length + 2 + m * 4) - j) (l.length - s) r (by rw [Hcl.out]) hsec hr
            rw [Nat.zero_add] at hrun1
            have hcl1 : (put8 cur j ((l.drop s).take (i - s))).length = (l.length + 2 + m * 4) := by rw [put8_len (by rw [hsec, Hcl.out]; omega), Hcl.out]
            have g1 : (madeA w gp (l.length + 2 + m * 4) (w.heap.size + 1) #[.int .u8 38, .int .u8 35, .int .u8 51, .int .u8 52, .int .u8 59] 34).grownBy w1 (some (w.heap.size + 1)) := World.grownBy.trans (b := wr.drew) ⟨hgr.os, hgr.tape, hgr.output, hgr.size, hgr.block⟩ hg1
            obtain ⟨w2, hrun2, hb2, hg2⟩ := run_put8 (w := w1) hb1 (bs_apart (G := w.heap.size + 1) Be0.out g1 (by omega)) (j + r) (by rw [hcl1, hr]; simp [ent34]; omega) ((l.length + 2 + m * 4) - (j + r)) 5 ((l.length + 2 + m * 4) - (j + r)) 5 5 (by rw [hcl1]) rfl rfl
            have Hrun1 := hide hrun1
            have Hrun2 := hide hrun2
            have Hcl2 := hide (show (put8 (put8 cur j ((l.drop s).take (i - s))) (j + r) ent34).length = (l.length + 2 + m * 4) by rw [put8_len (by rw [hcl1, hr]; simp [ent34]; omega), hcl1])
            have Hb2 := hide hb2
            have hgr2 : (madeA w gp (l.length + 2 + m * 4) (w.heap.size + 1) #[.int .u8 38, .int .u8 35, .int .u8 51, .int .u8 52, .int .u8 59] 34).grownBy w2 (some (w.heap.size + 1)) := g1.trans hg2
            rw [← hr] at Hin2 Hb2 Hcl2
            have s1 : IntKind.i64.wrap ((j : Int) + (r : Int)) = (j : Int) + (r : Int) := IntWalk.i64_in _ (by omega)
            have S := hide s1
            have hjr : j + r + 5 ≤ (l.length + 2 + m * 4) := by omega
            clear hd hf hr hsec hrun1 hb1 hg1 hcl1 hrun2 hb2 hg2 s1 hroom hr2 hdq g1
            go_wp2
            have s1 := S.out
            have q1 : (j : Int) ≤ ((l.length : Int) + 2 + (m : Int) * 4) := by omega
            have q2 : ¬ (l.length + 2 + m * 4) = j := by omega
            have q3 : ¬ l.length = s := by omega
            have q4 : (i : Int) ≤ (l.length : Int) := by omega
            go_region_law ((with_reducible refine step_copy_runG Hrun1.out _ _ ?_ rfl rfl ?_ ?_ ?_); (rfl); (simp [Act.eval, Act.put]); (simp [Act.eval, Act.put]))
            all_goals
              clear q1 q2 q3 q4 s1
              have q2 : ¬ (l.length + 2 + m * 4) = j + r := by omega
              have q5 : (j : Int) + (r : Int) ≤ ((l.length : Int) + 2 + (m : Int) * 4) := by omega
              go_wp2_with ((with_reducible refine wpList_copy_runG Hrun2.out _ _ ?_ rfl rfl ?_ ?_ ?_); (rfl); (simp [Act.eval, Act.put]); (simp [Act.eval, Act.put]))
              clear q2 q5
              go_roundw
              case rel => exact ⟨j + r + 5, i + 1, i + 1, _, by go_num, by go_num, by go_num, by omega, Hcl2.out, Hin2, Hb2, hgr2⟩
              case measure => simp [intOf]; omega
          · have t1 : ((d.toNat : Int) == 34) = false := by rw [beq_eq_false_iff_ne]; intro e; exact hdq (UInt8.toNat_inj.1 (by simp; omega))
            have Hin2 := hide (hin.out.plain hd (by unfold fQ; rw [if_neg hdq]))
            clear hd hdq hroom
            go_wp2
            go_roundw
            case rel => exact ⟨j, s, i + 1, cur, rfl, rfl, by go_num, by omega, Hcl.out, Hin2, hb, hgr⟩
            case measure => simp [intOf]; omega
        · obtain rfl : i = l.length := by omega
          obtain ⟨r, hr⟩ : ∃ r, r = l.length - s := ⟨_, rfl⟩
          have hjx : (attr 34 l).length = j + r + 1 := by
            have h3 := hin.out.jl
            have h4 := congrArg List.length hin.out.sec
            rw [List.length_append, sec_len hsi (Nat.le_refl _), List.take_length] at h4
            simp [attr] at h3 ⊢
            omega
          have Hjx := hide hjx
          have hja := Hatt.out
          rw [← Hm.out] at hja
          have hjr : j + r + 1 ≤ (l.length + 2 + m * 4) - 0 := by omega
          have Hlast := hide (hin.out.close hr (by rw [Hcl.out]; omega))
          have HrunE := hide (run_hi8 (P := Tryd.prog) (A := some ⟨w.heap.size + 1, 0, none⟩) 22 Tryd.underlying22 (by kernel_rfl) (l.length + 2 + m * 4) (l.length + 2 + m * 4) (j + r + 1) ((j : Int) + (r : Int) + 1) (by simp) (by omega) .i64)
          have HrunE0 := hide (run_hi8 (P := Tryd.prog) (A := some ⟨w.heap.size + 1, 0, none⟩) 22 Tryd.underlying22 (by kernel_rfl) (l.length + 2 + m * 4) (l.length + 2 + m * 4) (j + 1) ((j : Int) + 1) (by simp) (by omega) .i64)
          clear hjx hja
          by_cases hsl : s = l.length
          · have hr0 : r = 0 := by omega
            subst hr0
            rw [Nat.add_zero] at Hlast Hjx
            rw [show l.drop s = [] from List.drop_of_length_le (by omega), put8_nil] at Hlast
            obtain ⟨y, hy⟩ : ∃ y, cur[j]? = some y := ⟨_, List.getElem?_eq_getElem (by have := Hcl.out; omega)⟩
            have cellJ := hb.out.cell hy
            have frzJ := hb.out.frozen j
            have hst := hb.out.set_ j 34
            have Hbs := hide (hst.bs0 (j + 1))
            have Hg := hide (madeA_grown rfl (grown_set hgr (p := ⟨w.heap.size + 1, j, none⟩) (.inl rfl) (.int .u8 34)))
            have Hrun0 := hide (fun (D B : Option Addr) (n c1 c2 : Nat) => run_put0 wr.drew D B n c1 c2)
            subst hsl
            clear hroom hr hy hst
            go_wp2
            have q1 : (j : Int) ≤ ((l.length : Int) + 2 + (m : Int) * 4) := by omega
            have q2 : ¬ (l.length + 2 + m * 4) = j := by omega
            go_region_law ((with_reducible refine step_copy_runG (Hrun0.out (some ⟨w.heap.size + 1, j, none⟩) (some ⟨g0, 0, none⟩) ((l.length + 2 + m * 4) - j) ((l.length + 2 + m * 4) - j) 0) _ _ ?_ rfl rfl ?_ ?_ ?_); (rfl); (simp [Act.eval, Act.put]); (simp [Act.eval, Act.put]))
            all_goals
              clear q1 q2
              go_wp2_with ((with_reducible refine wpList_slice_runO (HrunE0.out _) _ _ _ ?_ rfl ?_ ?_ ?_ ?_); (rfl); (rfl); (rfl); (rfl))
              go_ret
              refine ⟨some ⟨w.heap.size + 1, 0, none⟩, (l.length + 2 + m * 4), ?_, ?_, ?_, ?_⟩
              · rw [Hjx.out]; rfl
              · rw [show attr 34 l = _ from Hlast.out.symm]; exact Hbs.out
              · rw [Hjx.out]; omega
              · exact ⟨Hg.out.os, Hg.out.tape, Hg.out.output, Hg.out.size, Hg.out.block⟩
          · obtain ⟨w1, hrun1, hb1, hg1⟩ := run_put8 (w := wr.drew) (hb.out.drew) (hbs.cut rfl s).drew j (by rw [List.length_drop, Hcl.out]; omega) ((l.length + 2 + m * 4) - j) (l.length - s) ((l.length + 2 + m * 4) - j) (l.length - s) r (by rw [Hcl.out]) (by rw [List.length_drop]) hr
            rw [Nat.zero_add] at hrun1
            have Hrun1 := hide hrun1
            have hcl1 : (put8 cur j (l.drop s)).length = (l.length + 2 + m * 4) := by rw [put8_len (by rw [List.length_drop, Hcl.out]; omega), Hcl.out]
            obtain ⟨y, hy⟩ : ∃ y, (put8 cur j (l.drop s))[j + r]? = some y := ⟨_, List.getElem?_eq_getElem (by omega)⟩
            have cellJ := hb1.cell hy
            have frzJ := hb1.frozen (j + r)
            have hst := hb1.set_ (j + r) 34
            have Hbs := hide (hst.bs0 (j + r + 1))
            have g1 : (madeA w gp (l.length + 2 + m * 4) (w.heap.size + 1) #[.int .u8 38, .int .u8 35, .int .u8 51, .int .u8 52, .int .u8 59] 34).grownBy w1 (some (w.heap.size + 1)) := World.grownBy.trans (b := wr.drew) ⟨hgr.os, hgr.tape, hgr.output, hgr.size, hgr.block⟩ hg1
            have Hg := hide (madeA_grown rfl (grown_set g1 (p := ⟨w.heap.size + 1, j + r, none⟩) (.inl rfl) (.int .u8 34)))
            have s1 : IntKind.i64.wrap ((j : Int) + (r : Int)) = (j : Int) + (r : Int) := IntWalk.i64_in _ (by omega)
            have S := hide s1
            clear s1 hr hrun1 hb1 hg1 g1 hroom hy hst hcl1
            go_wp2
            have s1 := S.out
            have q1 : (j : Int) ≤ ((l.length : Int) + 2 + (m : Int) * 4) := by omega
            have q2 : ¬ (l.length + 2 + m * 4) = j := by omega
            have q3 : ¬ l.length = s := by omega
            go_region_law ((with_reducible refine step_copy_runG Hrun1.out _ _ ?_ rfl rfl ?_ ?_ ?_); (rfl); (simp [Act.eval, Act.put]); (simp [Act.eval, Act.put]))
            all_goals
              clear q1 q2 q3 s1
              go_wp2_with ((with_reducible refine wpList_slice_runO (HrunE.out _) _ _ _ ?_ rfl ?_ ?_ ?_ ?_); (rfl); (rfl); (rfl); (rfl))
              go_ret
              refine ⟨some ⟨w.heap.size + 1, 0, none⟩, (l.length + 2 + m * 4), ?_, ?_, ?_, Hg.out⟩
              · rw [Hjx.out]; rfl
              · rw [show attr 34 l = _ from Hlast.out.symm]; exact Hbs.out
              · rw [Hjx.out]; omega


set_option maxRecDepth 100000 in
set_option maxHeartbeats 8000000 in
theorem hT_39_39_2s (gp g0 : Nat) (l : List UInt8) (X : Option Addr) (w : World) (hcell : w.cell? ⟨gp, 0, none⟩ = some (.slice X 0 0)) (hfr : w.frozen? ⟨gp, 0, none⟩ = false) (bs : BS w (some ⟨g0, 0, none⟩) l) (hne : g0 ≠ gp) (hg0 : g0 < w.heap.size) (h1 : l.length ≤ 500) (ht : CtTab w) (hU : l.all noSp = false) (hq : 0 < cnt 39 l ∧ cnt 39 l ≤ cnt 34 l ∧ cnt 39 l < cnt 34 l) :
    Calls Tryd.prog 13 #[.pointer (some ⟨gp, 0, none⟩), .slice (some ⟨g0, 0, none⟩) l.length l.length, .int .u8 39, .bool true] w (ATRet gp 39 l w) := by
  have Ht := hide ht
  have HU := hide hU
  have Bs := hide bs
  have Hq := hide hq
  have hgp : gp < w.heap.size := block_lt_of_cell hcell
  obtain ⟨m, hm⟩ : ∃ m, m = cnt 39 l := ⟨_, rfl⟩
  have hm5 : m ≤ 500 := by have := cnt_le 39 l l.length; rw [List.take_length] at this; omega
  have hmk := run_make0 (l.length + 2 + m * 4) ((l.length : Int) + 2 + (m : Int) * 4) (by simp) (by omega) .i64 .i64
  have hmc := made_first (n := (l.length + 2 + m * 4)) (by omega)
  have Bl0 := hide (madeA_blk (w := w) (gp := gp) (n := (l.length + 2 + m * 4)) (ent := #[.int .u8 38, .int .u8 35, .int .u8 51, .int .u8 57, .int .u8 59]) (q := 39) rfl)
  have Bs0 := hide (madeA_bs (n := (l.length + 2 + m * 4)) (gt := w.heap.size + 1) (ent := #[.int .u8 38, .int .u8 35, .int .u8 51, .int .u8 57, .int .u8 59]) (q := 39) bs hne)
  have Be0 := hide (show BS (madeA w gp (l.length + 2 + m * 4) (w.heap.size + 1) #[.int .u8 38, .int .u8 35, .int .u8 51, .int .u8 57, .int .u8 59] 39) (some ⟨w.heap.size, 0, none⟩) ent39 from madeA_ent w gp (l.length + 2 + m * 4) (w.heap.size + 1) 39 [38, 35, 51, 57, 59])
  have Hg0 := hide hg0
  have Hm := hide hm
  have Hatt := hide (attr_len 39 l)
  have HrunT := hide (fun (A : Option Addr) (w' : World) => run_hi8 (P := Tryd.prog) (A := A) 22 Tryd.underlying22 (by kernel_rfl) 0 (l.length + 2 + m * 4) (l.length + 2 + m * 4) ((l.length : Int) + 2 + (m : Int) * 4) (by simp) (Nat.le_refl _) .i64 w')
  clear bs hne hm hq ht hU
  go_enter Tryd.func13, Tryd.ntmps13
  go_wp2
  go_loop [9, 10, 11, 25] (fun vs vd vu vi => ∃ (k a b : Nat) (u : Bool), k ≤ l.length ∧ vs = .int .i64 (a : Int) ∧ vd = .int .i64 (b : Int) ∧ vu = .bool u ∧ vi = .int .i64 (k : Int) ∧ a ≤ k ∧ b ≤ k ∧ Hid (cnt 39 (l.take k) = a) ∧ Hid (cnt 34 (l.take k) = b) ∧ Hid ((l.take k).all noSp = u)) (fun _ _ _ vi => l.length - (intOf vi).toNat)
  case atStart => exact ⟨0, 0, 0, true, Nat.zero_le _, rfl, rfl, rfl, rfl, Nat.le_refl _, Nat.le_refl _, hide rfl, hide rfl, hide rfl⟩
  case round =>
    obtain ⟨k, a, b, u, hk, rfl, rfl, rfl, rfl, hak, hbk, ha, hb, hu⟩ := hrel
    by_cases hlt : k < l.length
    · obtain ⟨d, hd⟩ : ∃ x, l[k]? = some x := ⟨_, List.getElem?_eq_getElem hlt⟩
      obtain ⟨b1, o1, e1, cell1⟩ := Bs.out.at_ hd
      simp only [Option.some.injEq, Addr.mk.injEq, and_true] at e1
      obtain ⟨rfl, rfl⟩ := e1
      rw [Nat.zero_add] at cell1
      have d256 := d.toNat_lt
      have cellT := Ht.out d
      have hna := cnt_next (q := 39) hd
      have hnb := cnt_next (q := 34) hd
      have hnu := all_next hd hu.out
      rw [ha.out] at hna
      rw [hb.out] at hnb
      cases hs : isSp d with
      | false =>
        rw [hs] at cellT
        have h3439 := noSp_quotes hs
        rw [if_neg h3439.2] at hna
        rw [if_neg h3439.1] at hnb
        rw [hs, Bool.not_false, Bool.and_true] at hnu
        have Hna := hide hna
        have Hnb := hide hnb
        have Hnu := hide hnu
        clear hd hna hnb hnu hs h3439
        go_wp2
        go_round
        case rel => exact ⟨k + 1, a, b, u, by omega, rfl, rfl, rfl, by go_num, by omega, by omega, Hna, Hnb, Hnu⟩
        case measure => simp [intOf]; omega
      | true =>
        rw [hs] at cellT
        rw [hs, Bool.not_true, Bool.and_false] at hnu
        by_cases h34 : d = 34
        · have t1 : ((d.toNat : Int) == 34) = true := by rw [h34]; rfl
          rw [if_neg (by rw [h34]; decide)] at hna
          rw [if_pos h34] at hnb
          have Hna := hide hna
          have Hnb := hide hnb
          have Hnu := hide hnu
          clear hd hna hnb hnu hs h34
          go_wp2
          go_round
          case rel => exact ⟨k + 1, a, b + 1, false, by omega, rfl, by go_num, rfl, by go_num, by omega, by omega, Hna, Hnb, Hnu⟩
          case measure => simp [intOf]; omega
        · have t1 : ((d.toNat : Int) == 34) = false := by rw [beq_eq_false_iff_ne]; intro e; exact h34 (UInt8.toNat_inj.1 (by simp; omega))
          rw [if_neg h34] at hnb
          by_cases h39 : d = 39
          · have t2 : ((d.toNat : Int) == 39) = true := by rw [h39]; rfl
            rw [if_pos h39] at hna
            have Hna := hide hna
            have Hnb := hide hnb
            have Hnu := hide hnu
            clear hd hna hnb hnu hs h34 h39
            go_wp2
            go_round
            case rel => exact ⟨k + 1, a + 1, b, false, by omega, by go_num, rfl, rfl, by go_num, by omega, by omega, Hna, Hnb, Hnu⟩
            case measure => simp [intOf]; omega
          · have t2 : ((d.toNat : Int) == 39) = false := by rw [beq_eq_false_iff_ne]; intro e; exact h39 (UInt8.toNat_inj.1 (by simp; omega))
            rw [if_neg h39] at hna
            have Hna := hide hna
            have Hnb := hide hnb
            have Hnu := hide hnu
            clear hd hna hnb hnu hs h34 h39
            go_wp2
            go_round
            case rel => exact ⟨k + 1, a, b, false, by omega, rfl, rfl, rfl, by go_num, by omega, by omega, Hna, Hnb, Hnu⟩
            case measure => simp [intOf]; omega
    · obtain rfl : k = l.length := by omega
      have hae := ha.out
      have hbe := hb.out
      have hue := hu.out
      rw [List.take_length] at hae hbe hue
      have huU := HU.out
      rw [hue] at huU
      subst huU
      have hq2 := Hq.out
      rw [hae, hbe] at hq2
      have hm2 := Hm.out
      rw [hae] at hm2
      subst hm2
      clear hae hbe hue ha hb hu
      have z1 : ((m : Int) == 0) = false := by rw [beq_eq_false_iff_ne]; omega
      have z2 : ((b : Int) == 0) = false := by rw [beq_eq_false_iff_ne]; omega
      have hgt : decide (0 < ((l.length : Int) + 2 + (m : Int) * 4)) = true := by rw [decide_eq_true_eq]; omega
      have g1 : decide (b < m) = false := by rw [decide_eq_false_iff_not]; omega
      have g2 : (m == b) = false := by rw [beq_eq_false_iff_ne]; omega
      have g3 : m < b := by omega
      clear hq2
      go_wp2_with (first
        | (go_at_call 18; (with_reducible refine (sq_any _).mono ?_); rintro e w' ⟨rfl, rfl⟩)
        | ((with_reducible refine wpList_slice_runO (HrunT.out _ _) _ _ _ ?_ rfl ?_ ?_ ?_ ?_); (rfl); (rfl); (rfl); (rfl)))
      clear hmk hmc hgt z1 z2
      clear g1 g2
      go_loopw [19, 20, 145] (fun vj vs vi wr => ∃ (j s i : Nat) (cur : List UInt8), vj = .int .i64 (j : Int) ∧ vs = .int .i64 (s : Int) ∧ vi = .int .i64 (i : Int) ∧ i ≤ l.length ∧ cur.length = (l.length + 2 + m * 4) ∧ Hid (EscIn (fQ 39) [39] l cur i s j) ∧ Hid (Blk8 wr (w.heap.size + 1) cur) ∧ (madeA w gp (l.length + 2 + m * 4) (w.heap.size + 1) #[.int .u8 38, .int .u8 35, .int .u8 51, .int .u8 57, .int .u8 59] 39).grownBy wr (some (w.heap.size + 1))) (fun _ _ vi _ => l.length - (intOf vi).toNat)
      case atStart => exact ⟨1, 0, 0, (List.replicate (l.length + 2 + m * 4) 0).set 0 39, rfl, rfl, rfl, Nat.zero_le _, by simp, hide (EscIn.begin_ (by have h3 := extQ_len 39 l; rw [← Hm.out] at h3; simp; omega) (by rw [show l.length + 2 + m * 4 = (l.length + 1 + m * 4) + 1 by omega, List.replicate_succ]; rfl)), Bl0, World.grownBy.refl _ _⟩
      case round =>
        obtain ⟨j, s, i, cur, rfl, rfl, rfl, hi, hcl, hin, hb, hgr⟩ := hrel
        have hbs : BS wr (some ⟨g0, 0, none⟩) l := bs_apart Bs0.out hgr (by have := Hg0.out; omega)
        have hbe : BS wr (some ⟨w.heap.size, 0, none⟩) ent39 := bs_apart Be0.out hgr (by omega)
        have hsi := hin.out.si
        have hroom := hin.out.room1
        have Hcl := hide hcl
        rw [hcl] at hroom
        have hj1 : j ≤ l.length + 1 + m * 4 := by
          have h3 := hin.out.jl
          have h4 := esc_le (fQ 39) l s
          have h5 := extQ_len 39 l
          rw [← Hm.out] at h5
          simp at h3
          omega
        clear hcl
        by_cases hlt : i < l.length
        · obtain ⟨d, hd⟩ : ∃ x, l[i]? = some x := ⟨_, List.getElem?_eq_getElem hlt⟩
          obtain ⟨b1, o1, e1, cell1⟩ := hbs.at_ hd
          simp only [Option.some.injEq, Addr.mk.injEq, and_true] at e1
          obtain ⟨rfl, rfl⟩ := e1
          rw [Nat.zero_add] at cell1
          have d256 := d.toNat_lt
          by_cases hdq : d = 39
          · have t1 : ((d.toNat : Int) == 39) = true := by rw [hdq]; rfl
            have hf : fQ 39 d = ent39 := by subst hdq; rfl
            have Hin2 := hide (hin.out.ent hd)
            have hr2 := hin.out.room hd
            rw [hf] at Hin2
            rw [Hcl.out, show (fQ 39 d).length = 5 by rw [hf]; rfl] at hr2
            obtain ⟨r, hr⟩ : ∃ r, r = i - s := ⟨_, rfl⟩
            have hsec := sec_len (l := l) hsi hi
            obtain ⟨w1, hrun1, hb1, hg1⟩ := run_put8 (w := wr.drew) (hb.out.drew) ((hbs.cut rfl s).take (i - s)).drew j (by rw [hsec, Hcl.out]; omega) ((l.length + 2 + m * 4) - j) (i - s) ((l.length + 2 + m * 4) - j) (l.length - s) r (by rw [Hcl.out]) hsec hr
            rw [Nat.zero_add] at hrun1
            have hcl1 : (put8 cur j ((l.drop s).take (i - s))).length = (l.length + 2 + m * 4) := by rw [put8_len (by rw [hsec, Hcl.out]; omega), Hcl.out]
            have g1 : (madeA w gp (l.length + 2 + m * 4) (w.heap.size + 1) #[.int .u8 38, .int .u8 35, .int .u8 51, .int .u8 57, .int .u8 59] 39).grownBy w1 (some (w.heap.size + 1)) := World.grownBy.trans (b := wr.drew) ⟨hgr.os, hgr.tape, hgr.output, hgr.size, hgr.block⟩ hg1
            obtain ⟨w2, hrun2, hb2, hg2⟩ := run_put8 (w := w1) hb1 (bs_apart (G := w.heap.size + 1) Be0.out g1 (by omega)) (j + r) (by rw [hcl1, hr]; simp [ent39]; omega) ((l.length + 2 + m * 4) - (j + r)) 5 ((l.length + 2 + m * 4) - (j + r)) 5 5 (by rw [hcl1]) rfl rfl
            have Hrun1 := hide hrun1
            have Hrun2 := hide hrun2
            have Hcl2 := hide (show (put8 (put8 cur j ((l.drop s).take (i - s))) (j + r) ent39).length = (l.length + 2 + m * 4) by rw [put8_len (by rw [hcl1, hr]; simp [ent39]; omega), hcl1])
            have Hb2 := hide hb2
            have hgr2 : (madeA w gp (l.length + 2 + m * 4) (w.heap.size + 1) #[.int .u8 38, .int .u8 35, .int .u8 51, .int .u8 57, .int .u8 59] 39).grownBy w2 (some (w.heap.size + 1)) := g1.trans hg2
            rw [← hr] at Hin2 Hb2 Hcl2
            have s1 : IntKind.i64.wrap ((j : Int) + (r : Int)) = (j : Int) + (r : Int) := IntWalk.i64_in _ (by omega)
            have S := hide s1
            have hjr : j + r + 5 ≤ (l.length + 2 + m * 4) := by omega
            clear hd hf hr hsec hrun1 hb1 hg1 hcl1 hrun2 hb2 hg2 s1 hroom hr2 hdq g1
            go_wp2
            have s1 := S.out
            have q1 : (j : Int) ≤ ((l.length : Int) + 2 + (m : Int) * 4) := by omega
            have q2 : ¬ (l.length + 2 + m * 4) = j := by omega
            have q3 : ¬ l.length = s := by omega
            have q4 : (i : Int) ≤ (l.length : Int) := by omega
            go_region_law ((with_reducible refine step_copy_runG Hrun1.out _ _ ?_ rfl rfl ?_ ?_ ?_); (rfl); (simp [Act.eval, Act.put]); (simp [Act.eval, Act.put]))
            all_goals
              clear q1 q2 q3 q4 s1
              have q2 : ¬ (l.length + 2 + m * 4) = j + r := by omega
              have q5 : (j : Int) + (r : Int) ≤ ((l.length : Int) + 2 + (m : Int) * 4) := by omega
              go_wp2_with ((with_reducible refine wpList_copy_runG Hrun2.out _ _ ?_ rfl rfl ?_ ?_ ?_); (rfl); (simp [Act.eval, Act.put]); (simp [Act.eval, Act.put]))
              clear q2 q5
              go_roundw
              case rel => exact ⟨j + r + 5, i + 1, i + 1, _, by go_num, by go_num, by go_num, by omega, Hcl2.out, Hin2, Hb2, hgr2⟩
              case measure => simp [intOf]; omega
          · have t1 : ((d.toNat : Int) == 39) = false := by rw [beq_eq_false_iff_ne]; intro e; exact hdq (UInt8.toNat_inj.1 (by simp; omega))
            have Hin2 := hide (hin.out.plain hd (by unfold fQ; rw [if_neg hdq]))
            clear hd hdq hroom
            go_wp2
            go_roundw
            case rel => exact ⟨j, s, i + 1, cur, rfl, rfl, by go_num, by omega, Hcl.out, Hin2, hb, hgr⟩
            case measure => simp [intOf]; omega
        · obtain rfl : i = l.length := by omega
          obtain ⟨r, hr⟩ : ∃ r, r = l.length - s := ⟨_, rfl⟩
          have hjx : (attr 39 l).length = j + r + 1 := by
            have h3 := hin.out.jl
            have h4 := congrArg List.length hin.out.sec
            rw [List.length_append, sec_len hsi (Nat.le_refl _), List.take_length] at h4
            simp [attr] at h3 ⊢
            omega
          have Hjx := hide hjx
          have hja := Hatt.out
          rw [← Hm.out] at hja
          have hjr : j + r + 1 ≤ (l.length + 2 + m * 4) - 0 := by omega
          have Hlast := hide (hin.out.close hr (by rw [Hcl.out]; omega))
          have HrunE := hide (run_hi8 (P := Tryd.prog) (A := some ⟨w.heap.size + 1, 0, none⟩) 22 Tryd.underlying22 (by kernel_rfl) (l.length + 2 + m * 4) (l.length + 2 + m * 4) (j + r + 1) ((j : Int) + (r : Int) + 1) (by simp) (by omega) .i64)
          have HrunE0 := hide (run_hi8 (P := Tryd.prog) (A := some ⟨w.heap.size + 1, 0, none⟩) 22 Tryd.underlying22 (by kernel_rfl) (l.length + 2 + m * 4) (l.length + 2 + m * 4) (j + 1) ((j : Int) + 1) (by simp) (by omega) .i64)
          clear hjx hja
          by_cases hsl : s = l.length
          · have hr0 : r = 0 := by omega
            subst hr0
            rw [Nat.add_zero] at Hlast Hjx
            rw [show l.drop s = [] from List.drop_of_length_le (by omega), put8_nil] at Hlast
            obtain ⟨y, hy⟩ : ∃ y, cur[j]? = some y := ⟨_, List.getElem?_eq_getElem (by have := Hcl.out; omega)⟩
            have cellJ := hb.out.cell hy
            have frzJ := hb.out.frozen j
            have hst := hb.out.set_ j 39
            have Hbs := hide (hst.bs0 (j + 1))
            have Hg := hide (madeA_grown rfl (grown_set hgr (p := ⟨w.heap.size + 1, j, none⟩) (.inl rfl) (.int .u8 39)))
            have Hrun0 := hide (fun (D B : Option Addr) (n c1 c2 : Nat) => run_put0 wr.drew D B n c1 c2)
            subst hsl
            clear hroom hr hy hst
            go_wp2
            have q1 : (j : Int) ≤ ((l.length : Int) + 2 + (m : Int) * 4) := by omega
            have q2 : ¬ (l.length + 2 + m * 4) = j := by omega
            go_region_law ((with_reducible refine step_copy_runG (Hrun0.out (some ⟨w.heap.size + 1, j, none⟩) (some ⟨g0, 0, none⟩) ((l.length + 2 + m * 4) - j) ((l.length + 2 + m * 4) - j) 0) _ _ ?_ rfl rfl ?_ ?_ ?_); (rfl); (simp [Act.eval, Act.put]); (simp [Act.eval, Act.put]))
            all_goals
              clear q1 q2
              go_wp2_with ((with_reducible refine wpList_slice_runO (HrunE0.out _) _ _ _ ?_ rfl ?_ ?_ ?_ ?_); (rfl); (rfl); (rfl); (rfl))
              go_ret
              refine ⟨some ⟨w.heap.size + 1, 0, none⟩, (l.length + 2 + m * 4), ?_, ?_, ?_, ?_⟩
              · rw [Hjx.out]; rfl
              · rw [show attr 39 l = _ from Hlast.out.symm]; exact Hbs.out
              · rw [Hjx.out]; omega
              · exact ⟨Hg.out.os, Hg.out.tape, Hg.out.output, Hg.out.size, Hg.out.block⟩
          · obtain ⟨w1, hrun1, hb1, hg1⟩ := run_put8 (w := wr.drew) (hb.out.drew) (hbs.cut rfl s).drew j (by rw [List.length_drop, Hcl.out]; omega) ((l.length + 2 + m * 4) - j) (l.length - s) ((l.length + 2 + m * 4) - j) (l.length - s) r (by rw [Hcl.out]) (by rw [List.length_drop]) hr
            rw [Nat.zero_add] at hrun1
            have Hrun1 := hide hrun1
            have hcl1 : (put8 cur j (l.drop s)).length = (l.length + 2 + m * 4) := by rw [put8_len (by rw [List.length_drop, Hcl.out]; omega), Hcl.out]
            obtain ⟨y, hy⟩ : ∃ y, (put8 cur j (l.drop s))[j + r]? = some y := ⟨_, List.getElem?_eq_getElem (by omega)⟩
            have cellJ := hb1.cell hy
            have frzJ := hb1.frozen (j + r)
            have hst := hb1.set_ (j + r) 39
            have Hbs := hide (hst.bs0 (j + r + 1))
            have g1 : (madeA w gp (l.length + 2 + m * 4) (w.heap.size + 1) #[.int .u8 38, .int .u8 35, .int .u8 51, .int .u8 57, .int .u8 59] 39).grownBy w1 (some (w.heap.size + 1)) := World.grownBy.trans (b := wr.drew) ⟨hgr.os, hgr.tape, hgr.output, hgr.size, hgr.block⟩ hg1
            have Hg := hide (madeA_grown rfl (grown_set g1 (p := ⟨w.heap.size + 1, j + r, none⟩) (.inl rfl) (.int .u8 39)))
            have s1 : IntKind.i64.wrap ((j : Int) + (r : Int)) = (j : Int) + (r : Int) := IntWalk.i64_in _ (by omega)
            have S := hide s1
            clear s1 hr hrun1 hb1 hg1 g1 hroom hy hst hcl1
            go_wp2
            have s1 := S.out
            have q1 : (j : Int) ≤ ((l.length : Int) + 2 + (m : Int) * 4) := by omega
            have q2 : ¬ (l.length + 2 + m * 4) = j := by omega
            have q3 : ¬ l.length = s := by omega
            go_region_law ((with_reducible refine step_copy_runG Hrun1.out _ _ ?_ rfl rfl ?_ ?_ ?_); (rfl); (simp [Act.eval, Act.put]); (simp [Act.eval, Act.put]))
            all_goals
              clear q1 q2 q3 s1
              go_wp2_with ((with_reducible refine wpList_slice_runO (HrunE.out _) _ _ _ ?_ rfl ?_ ?_ ?_ ?_); (rfl); (rfl); (rfl); (rfl))
              go_ret
              refine ⟨some ⟨w.heap.size + 1, 0, none⟩, (l.length + 2 + m * 4), ?_, ?_, ?_, Hg.out⟩
              · rw [Hjx.out]; rfl
              · rw [show attr 39 l = _ from Hlast.out.symm]; exact Hbs.out
              · rw [Hjx.out]; omega


set_option maxRecDepth 100000 in
set_option maxHeartbeats 8000000 in
theorem hT_39_39_2e (gp g0 : Nat) (l : List UInt8) (X : Option Addr) (w : World) (hcell : w.cell? ⟨gp, 0, none⟩ = some (.slice X 0 0)) (hfr : w.frozen? ⟨gp, 0, none⟩ = false) (bs : BS w (some ⟨g0, 0, none⟩) l) (hne : g0 ≠ gp) (hg0 : g0 < w.heap.size) (h1 : l.length ≤ 500) (ht : CtTab w) (hU : l.all noSp = false) (hq : 0 < cnt 39 l ∧ cnt 39 l ≤ cnt 34 l ∧ cnt 39 l = cnt 34 l) :
    Calls Tryd.prog 13 #[.pointer (some ⟨gp, 0, none⟩), .slice (some ⟨g0, 0, none⟩) l.length l.length, .int .u8 39, .bool true] w (ATRet gp 39 l w) := by
  have Ht := hide ht
  have HU := hide hU
  have Bs := hide bs
  have Hq := hide hq
  have hgp : gp < w.heap.size := block_lt_of_cell hcell
  obtain ⟨m, hm⟩ : ∃ m, m = cnt 39 l := ⟨_, rfl⟩
  have hm5 : m ≤ 500 := by have := cnt_le 39 l l.length; rw [List.take_length] at this; omega
  have hmk := run_make0 (l.length + 2 + m * 4) ((l.length : Int) + 2 + (m : Int) * 4) (by simp) (by omega) .i64 .i64
  have hmc := made_first (n := (l.length + 2 + m * 4)) (by omega)
  have Bl0 := hide (madeA_blk (w := w) (gp := gp) (n := (l.length + 2 + m * 4)) (ent := #[.int .u8 38, .int .u8 35, .int .u8 51, .int .u8 57, .int .u8 59]) (q := 39) rfl)
  have Bs0 := hide (madeA_bs (n := (l.length + 2 + m * 4)) (gt := w.heap.size + 1) (ent := #[.int .u8 38, .int .u8 35, .int .u8 51, .int .u8 57, .int .u8 59]) (q := 39) bs hne)
  have Be0 := hide (show BS (madeA w gp (l.length + 2 + m * 4) (w.heap.size + 1) #[.int .u8 38, .int .u8 35, .int .u8 51, .int .u8 57, .int .u8 59] 39) (some ⟨w.heap.size, 0, none⟩) ent39 from madeA_ent w gp (l.length + 2 + m * 4) (w.heap.size + 1) 39 [38, 35, 51, 57, 59])
  have Hg0 := hide hg0
  have Hm := hide hm
  have Hatt := hide (attr_len 39 l)
  have HrunT := hide (fun (A : Option Addr) (w' : World) => run_hi8 (P := Tryd.prog) (A := A) 22 Tryd.underlying22 (by kernel_rfl) 0 (l.length + 2 + m * 4) (l.length + 2 + m * 4) ((l.length : Int) + 2 + (m : Int) * 4) (by simp) (Nat.le_refl _) .i64 w')
  clear bs hne hm hq ht hU
  go_enter Tryd.func13, Tryd.ntmps13
  go_wp2
  go_loop [9, 10, 11, 25] (fun vs vd vu vi => ∃ (k a b : Nat) (u : Bool), k ≤ l.length ∧ vs = .int .i64 (a : Int) ∧ vd = .int .i64 (b : Int) ∧ vu = .bool u ∧ vi = .int .i64 (k : Int) ∧ a ≤ k ∧ b ≤ k ∧ Hid (cnt 39 (l.take k) = a) ∧ Hid (cnt 34 (l.take k) = b) ∧ Hid ((l.take k).all noSp = u)) (fun _ _ _ vi => l.length - (intOf vi).toNat)
  case atStart => exact ⟨0, 0, 0, true, Nat.zero_le _, rfl, rfl, rfl, rfl, Nat.le_refl _, Nat.le_refl _, hide rfl, hide rfl, hide rfl⟩
  case round =>
    obtain ⟨k, a, b, u, hk, rfl, rfl, rfl, rfl, hak, hbk, ha, hb, hu⟩ := hrel
    by_cases hlt : k < l.length
    · obtain ⟨d, hd⟩ : ∃ x, l[k]? = some x := ⟨_, List.getElem?_eq_getElem hlt⟩
      obtain ⟨b1, o1, e1, cell1⟩ := Bs.out.at_ hd
      simp only [Option.some.injEq, Addr.mk.injEq, and_true] at e1
      obtain ⟨rfl, rfl⟩ := e1
      rw [Nat.zero_add] at cell1
      have d256 := d.toNat_lt
      have cellT := Ht.out d
      have hna := cnt_next (q := 39) hd
      have hnb := cnt_next (q := 34) hd
      have hnu := all_next hd hu.out
      rw [ha.out] at hna
      rw [hb.out] at hnb
      cases hs : isSp d with
      | false =>
        rw [hs] at cellT
        have h3439 := noSp_quotes hs
        rw [if_neg h3439.2] at hna
        rw [if_neg h3439.1] at hnb
        rw [hs, Bool.not_false, Bool.and_true] at hnu
        have Hna := hide hna
        have Hnb := hide hnb
        have Hnu := hide hnu
        clear hd hna hnb hnu hs h3439
        go_wp2
        go_round
        case rel => exact ⟨k + 1, a, b, u, by omega, rfl, rfl, rfl, by go_num, by omega, by omega, Hna, Hnb, Hnu⟩
        case measure => simp [intOf]; omega
      | true =>
        rw [hs] at cellT
        rw [hs, Bool.not_true, Bool.and_false] at hnu
        by_cases h34 : d = 34
        · have t1 : ((d.toNat : Int) == 34) = true := by rw [h34]; rfl
          rw [if_neg (by rw [h34]; decide)] at hna
          rw [if_pos h34] at hnb
          have Hna := hide hna
          have Hnb := hide hnb
          have Hnu := hide hnu
          clear hd hna hnb hnu hs h34
          go_wp2
          go_round
          case rel => exact ⟨k + 1, a, b + 1, false, by omega, rfl, by go_num, rfl, by go_num, by omega, by omega, Hna, Hnb, Hnu⟩
          case measure => simp [intOf]; omega
        · have t1 : ((d.toNat : Int) == 34) = false := by rw [beq_eq_false_iff_ne]; intro e; exact h34 (UInt8.toNat_inj.1 (by simp; omega))
          rw [if_neg h34] at hnb
          by_cases h39 : d = 39
          · have t2 : ((d.toNat : Int) == 39) = true := by rw [h39]; rfl
            rw [if_pos h39] at hna
            have Hna := hide hna
            have Hnb := hide hnb
            have Hnu := hide hnu
            clear hd hna hnb hnu hs h34 h39
            go_wp2
            go_round
            case rel => exact ⟨k + 1, a + 1, b, false, by omega, by go_num, rfl, rfl, by go_num, by omega, by omega, Hna, Hnb, Hnu⟩
            case measure => simp [intOf]; omega
          · have t2 : ((d.toNat : Int) == 39) = false := by rw [beq_eq_false_iff_ne]; intro e; exact h39 (UInt8.toNat_inj.1 (by simp; omega))
            rw [if_neg h39] at hna
            have Hna := hide hna
            have Hnb := hide hnb
            have Hnu := hide hnu
            clear hd hna hnb hnu hs h34 h39
            go_wp2
            go_round
            case rel => exact ⟨k + 1, a, b, false, by omega, rfl, rfl, rfl, by go_num, by omega, by omega, Hna, Hnb, Hnu⟩
            case measure => simp [intOf]; omega
    · obtain rfl : k = l.length := by omega
      have hae := ha.out
      have hbe := hb.out
      have hue := hu.out
      rw [List.take_length] at hae hbe hue
      have huU := HU.out
      rw [hue] at huU
      subst huU
      have hq2 := Hq.out
      rw [hae, hbe] at hq2
      have hm2 := Hm.out
      rw [hae] at hm2
      subst hm2
      clear hae hbe hue ha hb hu
      have z1 : ((m : Int) == 0) = false := by rw [beq_eq_false_iff_ne]; omega
      have z2 : ((b : Int) == 0) = false := by rw [beq_eq_false_iff_ne]; omega
      have hgt : decide (0 < ((l.length : Int) + 2 + (m : Int) * 4)) = true := by rw [decide_eq_true_eq]; omega
      have hem : m = b := by omega
      clear hq2
      subst hem
      go_wp2_with (first
        | (go_at_call 18; (with_reducible refine (sq_any _).mono ?_); rintro e w' ⟨rfl, rfl⟩)
        | ((with_reducible refine wpList_slice_runO (HrunT.out _ _) _ _ _ ?_ rfl ?_ ?_ ?_ ?_); (rfl); (rfl); (rfl); (rfl)))
      clear hmk hmc hgt z1 z2
      go_loopw [19, 20, 145] (fun vj vs vi wr => ∃ (j s i : Nat) (cur : List UInt8), vj = .int .i64 (j : Int) ∧ vs = .int .i64 (s : Int) ∧ vi = .int .i64 (i : Int) ∧ i ≤ l.length ∧ cur.length = (l.length + 2 + m * 4) ∧ Hid (EscIn (fQ 39) [39] l cur i s j) ∧ Hid (Blk8 wr (w.heap.size + 1) cur) ∧ (madeA w gp (l.length + 2 + m * 4) (w.heap.size + 1) #[.int .u8 38, .int .u8 35, .int .u8 51, .int .u8 57, .int .u8 59] 39).grownBy wr (some (w.heap.size + 1))) (fun _ _ vi _ => l.length - (intOf vi).toNat)
      case atStart => exact ⟨1, 0, 0, (List.replicate (l.length + 2 + m * 4) 0).set 0 39, rfl, rfl, rfl, Nat.zero_le _, by simp, hide (EscIn.begin_ (by have h3 := extQ_len 39 l; rw [← Hm.out] at h3; simp; omega) (by rw [show l.length + 2 + m * 4 = (l.length + 1 + m * 4) + 1 by omega, List.replicate_succ]; rfl)), Bl0, World.grownBy.refl _ _⟩
      case round =>
        obtain ⟨j, s, i, cur, rfl, rfl, rfl, hi, hcl, hin, hb, hgr⟩ := hrel
        have hbs : BS wr (some ⟨g0, 0, none⟩) l := bs_apart Bs0.out hgr (by have := Hg0.out; omega)
        have hbe : BS wr (some ⟨w.heap.size, 0, none⟩) ent39 := bs_apart Be0.out hgr (by omega)
        have hsi := hin.out.si
        have hroom := hin.out.room1
        have Hcl := hide hcl
        rw [hcl] at hroom
        have hj1 : j ≤ l.length + 1 + m * 4 := by
          have h3 := hin.out.jl
          have h4 := esc_le (fQ 39) l s
          have h5 := extQ_len 39 l
          rw [← Hm.out] at h5
          simp at h3
          omega
        clear hcl
        by_cases hlt : i < l.length
        · obtain ⟨d, hd⟩ : ∃ x, l[i]? = some x := ⟨_, List.getElem?_eq_getElem hlt⟩
          obtain ⟨b1, o1, e1, cell1⟩ := hbs.at_ hd
          simp only [Option.some.injEq, Addr.mk.injEq, and_true] at e1
          obtain ⟨rfl, rfl⟩ := e1
          rw [Nat.zero_add] at cell1
          have d256 := d.toNat_lt
          by_cases hdq : d = 39
          · have t1 : ((d.toNat : Int) == 39) = true := by rw [hdq]; rfl
            have hf : fQ 39 d = ent39 := by subst hdq; rfl
            have Hin2 := hide (hin.out.ent hd)
            have hr2 := hin.out.room hd
            rw [hf] at Hin2
            rw [Hcl.out, show (fQ 39 d).length = 5 by rw [hf]; rfl] at hr2
            obtain ⟨r, hr⟩ : ∃ r, r = i - s := ⟨_, rfl⟩
            have hsec := sec_len (l := l) hsi hi
            obtain ⟨w1, hrun1, hb1, hg1⟩ := run_put8 (w := wr.drew) (hb.out.drew) ((hbs.cut rfl s).take (i - s)).drew j (by rw [hsec, Hcl.out]; omega) ((l.length + 2 + m * 4) - j) (i - s) ((l.length + 2 + m * 4) - j) (l.length - s) r (by rw [Hcl.out]) hsec hr
            rw [Nat.zero_add] at hrun1
            have hcl1 : (put8 cur j ((l.drop s).take (i - s))).length = (l.length + 2 + m * 4) := by rw [put8_len (by rw [hsec, Hcl.out]; omega), Hcl.out]
            have g1 : (madeA w gp (l.length + 2 + m * 4) (w.heap.size + 1) #[.int .u8 38, .int .u8 35, .int .u8 51, .int .u8 57, .int .u8 59] 39).grownBy w1 (some (w.heap.size + 1)) := World.grownBy.trans (b := wr.drew) ⟨hgr.os, hgr.tape, hgr.output, hgr.size, hgr.block⟩ hg1
            obtain ⟨w2, hrun2, hb2, hg2⟩ := run_put8 (w := w1) hb1 (bs_apart (G := w.heap.size + 1) Be0.out g1 (by omega)) (j + r) (by rw [hcl1, hr]; simp [ent39]; omega) ((l.length + 2 + m * 4) - (j + r)) 5 ((l.length + 2 + m * 4) - (j + r)) 5 5 (by rw [hcl1]) rfl rfl
            have Hrun1 := hide hrun1
            have Hrun2 := hide hrun2
            have Hcl2 := hide (show (put8 (put8 cur j ((l.drop s).take (i - s))) (j + r) ent39).length = (l.length + 2 + m * 4) by rw [put8_len (by rw [hcl1, hr]; simp [ent39]; omega), hcl1])
            have Hb2 := hide hb2
            have hgr2 : (madeA w gp (l.length + 2 + m * 4) (w.heap.size + 1) #[.int .u8 38, .int .u8 35, .int .u8 51, .int .u8 57, .int .u8 59] 39).grownBy w2 (some (w.heap.size + 1)) := g1.trans hg2
            rw [← hr] at Hin2 Hb2 Hcl2
            have s1 : IntKind.i64.wrap ((j : Int) + (r : Int)) = (j : Int) + (r : Int) := IntWalk.i64_in _ (by omega)
            have S := hide s1
            have hjr : j + r + 5 ≤ (l.length + 2 + m * 4) := by omega
            clear hd hf hr hsec hrun1 hb1 hg1 hcl1 hrun2 hb2 hg2 s1 hroom hr2 hdq g1
            go_wp2
            have s1 := S.out
            have q1 : (j : Int) ≤ ((l.length : Int) + 2 + (m : Int) * 4) := by omega
            have q2 : ¬ (l.length + 2 + m * 4) = j := by omega
            have q3 : ¬ l.length = s := by omega
            have q4 : (i : Int) ≤ (l.length : Int) := by omega
            go_region_law ((with_reducible refine step_copy_runG Hrun1.out _ _ ?_ rfl rfl ?_ ?_ ?_); (rfl); (simp [Act.eval, Act.put]); (simp [Act.eval, Act.put]))
            all_goals
              clear q1 q2 q3 q4 s1
              have q2 : ¬ (l.length + 2 + m * 4) = j + r := by omega
              have q5 : (j : Int) + (r : Int) ≤ ((l.length : Int) + 2 + (m : Int) * 4) := by omega
              go_wp2_with ((with_reducible refine wpList_copy_runG Hrun2.out _ _ ?_ rfl rfl ?_ ?_ ?_); (rfl); (simp [Act.eval, Act.put]); (simp [Act.eval, Act.put]))
              clear q2 q5
              go_roundw
              case rel => exact ⟨j + r + 5, i + 1, i + 1, _, by go_num, by go_num, by go_num, by omega, Hcl2.out, Hin2, Hb2, hgr2⟩
              case measure => simp [intOf]; omega
          · have t1 : ((d.toNat : Int) == 39) = false := by rw [beq_eq_false_iff_ne]; intro e; exact hdq (UInt8.toNat_inj.1 (by simp; omega))
            have Hin2 := hide (hin.out.plain hd (by unfold fQ; rw [if_neg hdq]))
            clear hd hdq hroom
            go_wp2
            go_roundw
            case rel => exact ⟨j, s, i + 1, cur, rfl, rfl, by go_num, by omega, Hcl.out, Hin2, hb, hgr⟩
            case measure => simp [intOf]; omega
        · obtain rfl : i = l.length := by omega
          obtain ⟨r, hr⟩ : ∃ r, r = l.length - s := ⟨_, rfl⟩
          have hjx : (attr 39 l).length = j + r + 1 := by
            have h3 := hin.out.jl
            have h4 := congrArg List.length hin.out.sec
            rw [List.length_append, sec_len hsi (Nat.le_refl _), List.take_length] at h4
            simp [attr] at h3 ⊢
            omega
          have Hjx := hide hjx
          have hja := Hatt.out
          rw [← Hm.out] at hja
          have hjr : j + r + 1 ≤ (l.length + 2 + m * 4) - 0 := by omega
          have Hlast := hide (hin.out.close hr (by rw [Hcl.out]; omega))
          have HrunE := hide (run_hi8 (P := Tryd.prog) (A := some ⟨w.heap.size + 1, 0, none⟩) 22 Tryd.underlying22 (by kernel_rfl) (l.length + 2 + m * 4) (l.length + 2 + m * 4) (j + r + 1) ((j : Int) + (r : Int) + 1) (by simp) (by omega) .i64)
          have HrunE0 := hide (run_hi8 (P := Tryd.prog) (A := some ⟨w.heap.size + 1, 0, none⟩) 22 Tryd.underlying22 (by kernel_rfl) (l.length + 2 + m * 4) (l.length + 2 + m * 4) (j + 1) ((j : Int) + 1) (by simp) (by omega) .i64)
          clear hjx hja
          by_cases hsl : s = l.length
          · have hr0 : r = 0 := by omega
            subst hr0
            rw [Nat.add_zero] at Hlast Hjx
            rw [show l.drop s = [] from List.drop_of_length_le (by omega), put8_nil] at Hlast
            obtain ⟨y, hy⟩ : ∃ y, cur[j]? = some y := ⟨_, List.getElem?_eq_getElem (by have := Hcl.out; omega)⟩
            have cellJ := hb.out.cell hy
            have frzJ := hb.out.frozen j
            have hst := hb.out.set_ j 39
            have Hbs := hide (hst.bs0 (j + 1))
            have Hg := hide (madeA_grown rfl (grown_set hgr (p := ⟨w.heap.size + 1, j, none⟩) (.inl rfl) (.int .u8 39)))
            have Hrun0 := hide (fun (D B : Option Addr) (n c1 c2 : Nat) => run_put0 wr.drew D B n c1 c2)
            subst hsl
            clear hroom hr hy hst
            go_wp2
            have q1 : (j : Int) ≤ ((l.length : Int) + 2 + (m : Int) * 4) := by omega
            have q2 : ¬ (l.length + 2 + m * 4) = j := by omega
            go_region_law ((with_reducible refine step_copy_runG (Hrun0.out (some ⟨w.heap.size + 1, j, none⟩) (some ⟨g0, 0, none⟩) ((l.length + 2 + m * 4) - j) ((l.length + 2 + m * 4) - j) 0) _ _ ?_ rfl rfl ?_ ?_ ?_); (rfl); (simp [Act.eval, Act.put]); (simp [Act.eval, Act.put]))
            all_goals
              clear q1 q2
              go_wp2_with ((with_reducible refine wpList_slice_runO (HrunE0.out _) _ _ _ ?_ rfl ?_ ?_ ?_ ?_); (rfl); (rfl); (rfl); (rfl))
              go_ret
              refine ⟨some ⟨w.heap.size + 1, 0, none⟩, (l.length + 2 + m * 4), ?_, ?_, ?_, ?_⟩
              · rw [Hjx.out]; rfl
              · rw [show attr 39 l = _ from Hlast.out.symm]; exact Hbs.out
              · rw [Hjx.out]; omega
              · exact ⟨Hg.out.os, Hg.out.tape, Hg.out.output, Hg.out.size, Hg.out.block⟩
          · obtain ⟨w1, hrun1, hb1, hg1⟩ := run_put8 (w := wr.drew) (hb.out.drew) (hbs.cut rfl s).drew j (by rw [List.length_drop, Hcl.out]; omega) ((l.length + 2 + m * 4) - j) (l.length - s) ((l.length + 2 + m * 4) - j) (l.length - s) r (by rw [Hcl.out]) (by rw [List.length_drop]) hr
            rw [Nat.zero_add] at hrun1
            have Hrun1 := hide hrun1
            have hcl1 : (put8 cur j (l.drop s)).length = (l.length + 2 + m * 4) := by rw [put8_len (by rw [List.length_drop, Hcl.out]; omega), Hcl.out]
            obtain ⟨y, hy⟩ : ∃ y, (put8 cur j (l.drop s))[j + r]? = some y := ⟨_, List.getElem?_eq_getElem (by omega)⟩
            have cellJ := hb1.cell hy
            have frzJ := hb1.frozen (j + r)
            have hst := hb1.set_ (j + r) 39
            have Hbs := hide (hst.bs0 (j + r + 1))
            have g1 : (madeA w gp (l.length + 2 + m * 4) (w.heap.size + 1) #[.int .u8 38, .int .u8 35, .int .u8 51, .int .u8 57, .int .u8 59] 39).grownBy w1 (some (w.heap.size + 1)) := World.grownBy.trans (b := wr.drew) ⟨hgr.os, hgr.tape, hgr.output, hgr.size, hgr.block⟩ hg1
            have Hg := hide (madeA_grown rfl (grown_set g1 (p := ⟨w.heap.size + 1, j + r, none⟩) (.inl rfl) (.int .u8 39)))
            have s1 : IntKind.i64.wrap ((j : Int) + (r : Int)) = (j : Int) + (r : Int) := IntWalk.i64_in _ (by omega)
            have S := hide s1
            clear s1 hr hrun1 hb1 hg1 g1 hroom hy hst hcl1
            go_wp2
            have s1 := S.out
            have q1 : (j : Int) ≤ ((l.length : Int) + 2 + (m : Int) * 4) := by omega
            have q2 : ¬ (l.length + 2 + m * 4) = j := by omega
            have q3 : ¬ l.length = s := by omega
            go_region_law ((with_reducible refine step_copy_runG Hrun1.out _ _ ?_ rfl rfl ?_ ?_ ?_); (rfl); (simp [Act.eval, Act.put]); (simp [Act.eval, Act.put]))
            all_goals
              clear q1 q2 q3 s1
              go_wp2_with ((with_reducible refine wpList_slice_runO (HrunE.out _) _ _ _ ?_ rfl ?_ ?_ ?_ ?_); (rfl); (rfl); (rfl); (rfl))
              go_ret
              refine ⟨some ⟨w.heap.size + 1, 0, none⟩, (l.length + 2 + m * 4), ?_, ?_, ?_, Hg.out⟩
              · rw [Hjx.out]; rfl
              · rw [show attr 39 l = _ from Hlast.out.symm]; exact Hbs.out
              · rw [Hjx.out]; omega


end Go.Proofs.YtfelfbgppkiimaaDoor
