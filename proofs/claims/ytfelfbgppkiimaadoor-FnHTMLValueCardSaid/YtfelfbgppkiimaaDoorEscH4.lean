/- The package's writing of a text as the value of an attribute of HTML, the ways that write no entities. Conditions: as there. (printed by gen_esch4.py) -/
import Derived.Test.YtfelfbgppkiimaaDoorEscHB
namespace Go.Proofs.YtfelfbgppkiimaaDoor
open Go.RowKit
set_option linter.unusedVariables false
set_option linter.unusedSimpArgs false

/-- The world behind the making of the buffer, the first quotation mark written. -/
def madeB (w : World) (gp n : Nat) (q : Int) : World := (w.setCell ⟨gp, 0, none⟩ (.slice (some ⟨w.heap.size, 0, none⟩) 0 n)).alloc (.cells ((madeCells #[.int .u8 0] n).setIfInBounds 0 (.int .u8 q)) 5)
theorem madeB_blk (w : World) (gp n : Nat) (q : UInt8) : Blk8 (madeB w gp n (q.toNat : Int)) w.heap.size ((List.replicate n 0).set 0 q) := by
  have := heap_alloc_new (w.setCell ⟨gp, 0, none⟩ (.slice (some ⟨w.heap.size, 0, none⟩) 0 n)) (.cells ((madeCells #[.int .u8 0] n).setIfInBounds 0 (.int .u8 (q.toNat : Int))) 5)
  rw [set_size] at this
  unfold Blk8 madeB
  rw [this, made_list, List.map_set, List.setIfInBounds_toArray]
theorem madeB_bs {w : World} {gp n g0 : Nat} {q : Int} {l : List UInt8} (h : BS w (some ⟨g0, 0, none⟩) l) (hne : g0 ≠ gp) : BS (madeB w gp n q) (some ⟨g0, 0, none⟩) l :=
  (h.far (p := ⟨gp, 0, none⟩) (fun b o e => by injection e with e; injection e with e1; subst e1; exact hne) _).alloc _
theorem madeB_grown {w w' : World} {gp n : Nat} {q : Int} (h : (madeB w gp n q).grownBy w' (some w.heap.size)) : w.grownBy w' (some gp) := by
  have hs : (madeB w gp n q).heap.size = w.heap.size + 1 := by simp [madeB, World.setCell]
  refine ⟨h.os, h.tape, h.output, ?_, fun i hi hne => ?_⟩
  · have := h.size
    omega
  · have e := h.block i (by omega) (fun e => by injection e with e; omega)
    rw [e]
    have e2 := Below.heap_setCell w ⟨gp, 0, none⟩ (.slice (some ⟨w.heap.size, 0, none⟩) 0 n) i (fun e => hne (by rw [e]))
    exact (Below.heap_alloc _ _ i (by rw [set_size]; exact hi)).trans e2
theorem esc_cnt0 {q : UInt8} {l : List UInt8} (h : cnt q l = 0) : esc (fQ q) l = l := by
  induction l with
  | nil => rfl
  | cons c r ih =>
    rw [show c :: r = [c] ++ r from rfl, cnt_app] at h
    rw [show c :: r = [c] ++ r from rfl, esc_app, ih (by omega)]
    have hc : c ≠ q := by
      rintro rfl
      simp [cnt] at h
    have e1 : esc (fQ q) [c] = fQ q c := by simp [esc]
    rw [e1]
    unfold fQ
    rw [if_neg hc]
theorem quoted_list {q : UInt8} {l : List UInt8} (h : cnt q l = 0) : (put8 ((List.replicate (l.length + 2) 0).set 0 q) 1 l).set (1 + l.length) q = attr q l := by
  have e1 : ((List.replicate (l.length + 2) (0 : UInt8)).set 0 q).take 1 = [q] := by rw [List.replicate_succ]; rfl
  have e2 : ((List.replicate (l.length + 2) (0 : UInt8)).set 0 q).drop (1 + l.length) = [0] := by
    rw [List.drop_set_of_lt (by omega), List.drop_replicate, show l.length + 2 - (1 + l.length) = 1 by omega]
    rfl
  unfold put8 attr
  rw [e1, e2, esc_cnt0 h, List.set_append_right _ _ (by simp; omega)]
  simp
  rw [show 1 + l.length - (l.length + 1) = 0 by omega]
  rfl

/-- The text is left as it is. -/
def BareRet (g0 : Nat) (l : List UInt8) (w : World) (e : Ending) (w' : World) : Prop := e = .returned (.slice (some ⟨g0, 0, none⟩) l.length l.length) ∧ w = w'
set_option maxRecDepth 100000 in
set_option maxHeartbeats 4000000 in
theorem hB_34 (gp g0 : Nat) (l : List UInt8) (X : Option Addr) (w : World) (hcell : w.cell? ⟨gp, 0, none⟩ = some (.slice X 0 0)) (hfr : w.frozen? ⟨gp, 0, none⟩ = false) (bs : BS w (some ⟨g0, 0, none⟩) l) (hne : g0 ≠ gp) (hg0 : g0 < w.heap.size) (h1 : l.length ≤ 500) (ht : CtTab w) (hU : l.all noSp = true) (hq : True) :
    Calls Tryd.prog 13 #[.pointer (some ⟨gp, 0, none⟩), .slice (some ⟨g0, 0, none⟩) l.length l.length, .int .u8 34, .bool false] w (BareRet g0 l w) := by
  have Ht := hide ht
  have HU := hide hU
  have Bs := hide bs
  have Hq := hide hq
  clear bs hne hq ht hU
  go_enter Tryd.func13, Tryd.ntmps13
  go_wp2
  go_loop [9, 10, 11, 25] (fun vs vd vu vi => ∃ (k a b : Nat) (u : Bool), k ≤ l.length ∧ vs = .int .i64 (a : Int) ∧ vd = .int .i64 (b : Int) ∧ vu = .bool u ∧ vi = .int .i64 (k : Int) ∧ a ≤ k ∧ b ≤ k ∧ Hid (cnt 39 (l.take k) = a) ∧ Hid (cnt 34 (l.take k) = b) ∧ Hid ((l.take k).all noSp = u)) (fun _ _ _ vi => l.length - (intOf vi).toNat)
  case atStart => exact ⟨0, 0, 0, true, Nat.zero_le _, rfl, rfl, rfl, rfl, Nat.le_refl _, Nat.le_refl _, hide rfl, hide rfl, hide rfl⟩
  case round =>
    obtain ⟨k, a, b, u, hk, rfl, rfl, rfl, rfl, hak, hbk, ha, hb, hu⟩ := hrel
    by_cases hlt : k < l.length
    · obtain ⟨d, hd⟩ : ∃ x, l[k]? = some x := ⟨_, List.getElem?_eq_getElem hlt⟩
      obtain ⟨b1, o1, e1, cell1⟩ := Bs.out.at_ hd
      simp only [Option.some.injEq, Addr.mk.injEq, and_true] at e1
      obtain ⟨rfl, rfl⟩ := e1
      rw [Nat.zero_add] at cell1
      have d256 := d.toNat_lt
      have cellT := Ht.out d
      have hna := cnt_next (q := 39) hd
      have hnb := cnt_next (q := 34) hd
      have hnu := all_next hd hu.out
      rw [ha.out] at hna
      rw [hb.out] at hnb
      cases hs : isSp d with
      | false =>
        rw [hs] at cellT
        have h3439 := noSp_quotes hs
        rw [if_neg h3439.2] at hna
        rw [if_neg h3439.1] at hnb
        rw [hs, Bool.not_false, Bool.and_true] at hnu
        have Hna := hide hna
        have Hnb := hide hnb
        have Hnu := hide hnu
        clear hd hna hnb hnu hs h3439
        go_wp2
        go_round
        case rel => exact ⟨k + 1, a, b, u, by omega, rfl, rfl, rfl, by go_num, by omega, by omega, Hna, Hnb, Hnu⟩
        case measure => simp [intOf]; omega
      | true =>
        rw [hs] at cellT
        rw [hs, Bool.not_true, Bool.and_false] at hnu
        by_cases h34 : d = 34
        · have t1 : ((d.toNat : Int) == 34) = true := by rw [h34]; rfl
          rw [if_neg (by rw [h34]; decide)] at hna
          rw [if_pos h34] at hnb
          have Hna := hide hna
          have Hnb := hide hnb
          have Hnu := hide hnu
          clear hd hna hnb hnu hs h34
          go_wp2
          go_round
          case rel => exact ⟨k + 1, a, b + 1, false, by omega, rfl, by go_num, rfl, by go_num, by omega, by omega, Hna, Hnb, Hnu⟩
          case measure => simp [intOf]; omega
        · have t1 : ((d.toNat : Int) == 34) = false := by rw [beq_eq_false_iff_ne]; intro e; exact h34 (UInt8.toNat_inj.1 (by simp; omega))
          rw [if_neg h34] at hnb
          by_cases h39 : d = 39
          · have t2 : ((d.toNat : Int) == 39) = true := by rw [h39]; rfl
            rw [if_pos h39] at hna
            have Hna := hide hna
            have Hnb := hide hnb
            have Hnu := hide hnu
            clear hd hna hnb hnu hs h34 h39
            go_wp2
            go_round
            case rel => exact ⟨k + 1, a + 1, b, false, by omega, by go_num, rfl, rfl, by go_num, by omega, by omega, Hna, Hnb, Hnu⟩
            case measure => simp [intOf]; omega
          · have t2 : ((d.toNat : Int) == 39) = false := by rw [beq_eq_false_iff_ne]; intro e; exact h39 (UInt8.toNat_inj.1 (by simp; omega))
            rw [if_neg h39] at hna
            have Hna := hide hna
            have Hnb := hide hnb
            have Hnu := hide hnu
            clear hd hna hnb hnu hs h34 h39
            go_wp2
            go_round
            case rel => exact ⟨k + 1, a, b, false, by omega, rfl, rfl, rfl, by go_num, by omega, by omega, Hna, Hnb, Hnu⟩
            case measure => simp [intOf]; omega
    · obtain rfl : k = l.length := by omega
      have hae := ha.out
      have hbe := hb.out
      have hue := hu.out
      rw [List.take_length] at hae hbe hue
      have huU := HU.out
      rw [hue] at huU
      subst huU
      go_wp2
      go_ret
      exact ⟨rfl, rfl⟩

set_option maxRecDepth 100000 in
set_option maxHeartbeats 4000000 in
theorem hQ_34_1 (gp g0 : Nat) (l : List UInt8) (X : Option Addr) (w : World) (hcell : w.cell? ⟨gp, 0, none⟩ = some (.slice X 0 0)) (hfr : w.frozen? ⟨gp, 0, none⟩ = false) (bs : BS w (some ⟨g0, 0, none⟩) l) (hne : g0 ≠ gp) (hg0 : g0 < w.heap.size) (h1 : l.length ≤ 500) (ht : CtTab w) (hU : l.all noSp = true) (hq : cnt 34 l = 0) :
    Calls Tryd.prog 13 #[.pointer (some ⟨gp, 0, none⟩), .slice (some ⟨g0, 0, none⟩) l.length l.length, .int .u8 34, .bool true] w (ATRet gp 34 l w) := by
  have Ht := hide ht
  have HU := hide hU
  have Bs := hide bs
  have Hq := hide hq
  have hgp : gp < w.heap.size := block_lt_of_cell hcell
  have hmk := run_make0 (l.length + 2) ((l.length : Int) + 2) (by simp) (by omega) .i64 .i64
  have hmc := made_first (n := l.length + 2) (by omega)
  have hb0 := madeB_blk w gp (l.length + 2) 34
  have hbs0 : BS (madeB w gp (l.length + 2) 34) (some ⟨g0, 0, none⟩) l := madeB_bs bs hne
  have hcl0 : ((List.replicate (l.length + 2) (0 : UInt8)).set 0 34).length = l.length + 2 := by simp
  obtain ⟨w1, hrun1, hb1, hg1⟩ := run_put8 (w := madeB w gp (l.length + 2) 34) hb0 hbs0 1 (by rw [hcl0]; omega) (l.length + 1) l.length (l.length + 1) l.length l.length (by rw [hcl0]; omega) rfl rfl
  obtain ⟨y, hy⟩ : ∃ y, (put8 ((List.replicate (l.length + 2) (0 : UInt8)).set 0 34) 1 l)[1 + l.length]? = some y := ⟨_, List.getElem?_eq_getElem (by rw [put8_len (by rw [hcl0]; omega), hcl0]; omega)⟩
  have cellJ := hb1.cell hy
  have frzJ := hb1.frozen (1 + l.length)
  have hst := hb1.set_ (1 + l.length) 34
  rw [quoted_list hq] at hst
  have Hbs := hide hst.all
  have Hg := hide (madeB_grown (grown_set hg1 (p := ⟨w.heap.size, 1 + l.length, none⟩) (.inl rfl) (.int .u8 34)))
  have Hrun1 := hide hrun1
  have Hlen := hide (show (attr 34 l).length = l.length + 2 by rw [attr_len, hq])
  have HrunT := hide (fun (A : Option Addr) (w' : World) => run_hi8 (P := Tryd.prog) (A := A) 22 Tryd.underlying22 (by kernel_rfl) 0 (l.length + 2) (l.length + 2) ((l.length : Int) + 2) (by simp) (Nat.le_refl _) .i64 w')
  clear hb0 hbs0 hcl0 hrun1 hb1 hg1 hy hst
  clear bs hne hq ht hU
  go_enter Tryd.func13, Tryd.ntmps13
  go_wp2
  go_loop [9, 10, 11, 25] (fun vs vd vu vi => ∃ (k a b : Nat) (u : Bool), k ≤ l.length ∧ vs = .int .i64 (a : Int) ∧ vd = .int .i64 (b : Int) ∧ vu = .bool u ∧ vi = .int .i64 (k : Int) ∧ a ≤ k ∧ b ≤ k ∧ Hid (cnt 39 (l.take k) = a) ∧ Hid (cnt 34 (l.take k) = b) ∧ Hid ((l.take k).all noSp = u)) (fun _ _ _ vi => l.length - (intOf vi).toNat)
  case atStart => exact ⟨0, 0, 0, true, Nat.zero_le _, rfl, rfl, rfl, rfl, Nat.le_refl _, Nat.le_refl _, hide rfl, hide rfl, hide rfl⟩
  case round =>
    obtain ⟨k, a, b, u, hk, rfl, rfl, rfl, rfl, hak, hbk, ha, hb, hu⟩ := hrel
    by_cases hlt : k < l.length
    · obtain ⟨d, hd⟩ : ∃ x, l[k]? = some x := ⟨_, List.getElem?_eq_getElem hlt⟩
      obtain ⟨b1, o1, e1, cell1⟩ := Bs.out.at_ hd
      simp only [Option.some.injEq, Addr.mk.injEq, and_true] at e1
      obtain ⟨rfl, rfl⟩ := e1
      rw [Nat.zero_add] at cell1
      have d256 := d.toNat_lt
      have cellT := Ht.out d
      have hna := cnt_next (q := 39) hd
      have hnb := cnt_next (q := 34) hd
      have hnu := all_next hd hu.out
      rw [ha.out] at hna
      rw [hb.out] at hnb
      cases hs : isSp d with
      | false =>
        rw [hs] at cellT
        have h3439 := noSp_quotes hs
        rw [if_neg h3439.2] at hna
        rw [if_neg h3439.1] at hnb
        rw [hs, Bool.not_false, Bool.and_true] at hnu
        have Hna := hide hna
        have Hnb := hide hnb
        have Hnu := hide hnu
        clear hd hna hnb hnu hs h3439
        go_wp2
        go_round
        case rel => exact ⟨k + 1, a, b, u, by omega, rfl, rfl, rfl, by go_num, by omega, by omega, Hna, Hnb, Hnu⟩
        case measure => simp [intOf]; omega
      | true =>
        rw [hs] at cellT
        rw [hs, Bool.not_true, Bool.and_false] at hnu
        by_cases h34 : d = 34
        · have t1 : ((d.toNat : Int) == 34) = true := by rw [h34]; rfl
          rw [if_neg (by rw [h34]; decide)] at hna
          rw [if_pos h34] at hnb
          have Hna := hide hna
          have Hnb := hide hnb
          have Hnu := hide hnu
          clear hd hna hnb hnu hs h34
          go_wp2
          go_round
          case rel => exact ⟨k + 1, a, b + 1, false, by omega, rfl, by go_num, rfl, by go_num, by omega, by omega, Hna, Hnb, Hnu⟩
          case measure => simp [intOf]; omega
        · have t1 : ((d.toNat : Int) == 34) = false := by rw [beq_eq_false_iff_ne]; intro e; exact h34 (UInt8.toNat_inj.1 (by simp; omega))
          rw [if_neg h34] at hnb
          by_cases h39 : d = 39
          · have t2 : ((d.toNat : Int) == 39) = true := by rw [h39]; rfl
            rw [if_pos h39] at hna
            have Hna := hide hna
            have Hnb := hide hnb
            have Hnu := hide hnu
            clear hd hna hnb hnu hs h34 h39
            go_wp2
            go_round
            case rel => exact ⟨k + 1, a + 1, b, false, by omega, by go_num, rfl, rfl, by go_num, by omega, by omega, Hna, Hnb, Hnu⟩
            case measure => simp [intOf]; omega
          · have t2 : ((d.toNat : Int) == 39) = false := by rw [beq_eq_false_iff_ne]; intro e; exact h39 (UInt8.toNat_inj.1 (by simp; omega))
            rw [if_neg h39] at hna
            have Hna := hide hna
            have Hnb := hide hnb
            have Hnu := hide hnu
            clear hd hna hnb hnu hs h34 h39
            go_wp2
            go_round
            case rel => exact ⟨k + 1, a, b, false, by omega, rfl, rfl, rfl, by go_num, by omega, by omega, Hna, Hnb, Hnu⟩
            case measure => simp [intOf]; omega
    · obtain rfl : k = l.length := by omega
      have hae := ha.out
      have hbe := hb.out
      have hue := hu.out
      rw [List.take_length] at hae hbe hue
      have huU := HU.out
      rw [hue] at huU
      subst huU
      have hq2 := Hq.out
      rw [hbe] at hq2
      have z1 : ((b : Int) == 0) = true := by rw [beq_iff_eq]; omega
      clear hq2 hae hbe hue ha hb hu
      have hgt : decide (0 < (l.length : Int) + 2) = true := by rw [decide_eq_true_eq]; omega
      by_cases hz : a = 0
      · have z0 : ((a : Int) == 0) = true := by rw [beq_iff_eq]; omega
        clear hz
        go_wp2_with (first
          | ((with_reducible refine wpList_slice_runO (HrunT.out _ _) _ _ _ ?_ rfl ?_ ?_ ?_ ?_); (rfl); (rfl); (rfl); (rfl))
          | ((with_reducible refine wpList_copy_runG Hrun1.out _ _ ?_ rfl rfl ?_ ?_ ?_); (rfl); (simp [Act.eval, Act.put]); (simp [Act.eval, Act.put])))
        go_ret
        refine ⟨some ⟨w.heap.size, 0, none⟩, l.length + 2, ?_, Hbs.out, ?_, Hg.out⟩
        · rw [Hlen.out]; rfl
        · rw [Hlen.out]; exact Nat.le_refl _
      · have z0 : ((a : Int) == 0) = false := by rw [beq_eq_false_iff_ne]; omega
        clear hz
        go_wp2_with (first
          | ((with_reducible refine wpList_slice_runO (HrunT.out _ _) _ _ _ ?_ rfl ?_ ?_ ?_ ?_); (rfl); (rfl); (rfl); (rfl))
          | ((with_reducible refine wpList_copy_runG Hrun1.out _ _ ?_ rfl rfl ?_ ?_ ?_); (rfl); (simp [Act.eval, Act.put]); (simp [Act.eval, Act.put])))
        go_ret
        refine ⟨some ⟨w.heap.size, 0, none⟩, l.length + 2, ?_, Hbs.out, ?_, Hg.out⟩
        · rw [Hlen.out]; rfl
        · rw [Hlen.out]; exact Nat.le_refl _

set_option maxRecDepth 100000 in
set_option maxHeartbeats 4000000 in
theorem hQ_34_2 (gp g0 : Nat) (l : List UInt8) (X : Option Addr) (w : World) (hcell : w.cell? ⟨gp, 0, none⟩ = some (.slice X 0 0)) (hfr : w.frozen? ⟨gp, 0, none⟩ = false) (bs : BS w (some ⟨g0, 0, none⟩) l) (hne : g0 ≠ gp) (hg0 : g0 < w.heap.size) (h1 : l.length ≤ 500) (ht : CtTab w) (hU : l.all noSp = false) (hq : cnt 34 l = 0) :
    Calls Tryd.prog 13 #[.pointer (some ⟨gp, 0, none⟩), .slice (some ⟨g0, 0, none⟩) l.length l.length, .int .u8 34, .bool true] w (ATRet gp 34 l w) := by
  have Ht := hide ht
  have HU := hide hU
  have Bs := hide bs
  have Hq := hide hq
  have hgp : gp < w.heap.size := block_lt_of_cell hcell
  have hmk := run_make0 (l.length + 2) ((l.length : Int) + 2) (by simp) (by omega) .i64 .i64
  have hmc := made_first (n := l.length + 2) (by omega)
  have hb0 := madeB_blk w gp (l.length + 2) 34
  have hbs0 : BS (madeB w gp (l.length + 2) 34) (some ⟨g0, 0, none⟩) l := madeB_bs bs hne
  have hcl0 : ((List.replicate (l.length + 2) (0 : UInt8)).set 0 34).length = l.length + 2 := by simp
  obtain ⟨w1, hrun1, hb1, hg1⟩ := run_put8 (w := madeB w gp (l.length + 2) 34) hb0 hbs0 1 (by rw [hcl0]; omega) (l.length + 1) l.length (l.length + 1) l.length l.length (by rw [hcl0]; omega) rfl rfl
  obtain ⟨y, hy⟩ : ∃ y, (put8 ((List.replicate (l.length + 2) (0 : UInt8)).set 0 34) 1 l)[1 + l.length]? = some y := ⟨_, List.getElem?_eq_getElem (by rw [put8_len (by rw [hcl0]; omega), hcl0]; omega)⟩
  have cellJ := hb1.cell hy
  have frzJ := hb1.frozen (1 + l.length)
  have hst := hb1.set_ (1 + l.length) 34
  rw [quoted_list hq] at hst
  have Hbs := hide hst.all
  have Hg := hide (madeB_grown (grown_set hg1 (p := ⟨w.heap.size, 1 + l.length, none⟩) (.inl rfl) (.int .u8 34)))
  have Hrun1 := hide hrun1
  have Hlen := hide (show (attr 34 l).length = l.length + 2 by rw [attr_len, hq])
  have HrunT := hide (fun (A : Option Addr) (w' : World) => run_hi8 (P := Tryd.prog) (A := A) 22 Tryd.underlying22 (by kernel_rfl) 0 (l.length + 2) (l.length + 2) ((l.length : Int) + 2) (by simp) (Nat.le_refl _) .i64 w')
  clear hb0 hbs0 hcl0 hrun1 hb1 hg1 hy hst
  clear bs hne hq ht hU
  go_enter Tryd.func13, Tryd.ntmps13
  go_wp2
  go_loop [9, 10, 11, 25] (fun vs vd vu vi => ∃ (k a b : Nat) (u : Bool), k ≤ l.length ∧ vs = .int .i64 (a : Int) ∧ vd = .int .i64 (b : Int) ∧ vu = .bool u ∧ vi = .int .i64 (k : Int) ∧ a ≤ k ∧ b ≤ k ∧ Hid (cnt 39 (l.take k) = a) ∧ Hid (cnt 34 (l.take k) = b) ∧ Hid ((l.take k).all noSp = u)) (fun _ _ _ vi => l.length - (intOf vi).toNat)
  case atStart => exact ⟨0, 0, 0, true, Nat.zero_le _, rfl, rfl, rfl, rfl, Nat.le_refl _, Nat.le_refl _, hide rfl, hide rfl, hide rfl⟩
  case round =>
    obtain ⟨k, a, b, u, hk, rfl, rfl, rfl, rfl, hak, hbk, ha, hb, hu⟩ := hrel
    by_cases hlt : k < l.length
    · obtain ⟨d, hd⟩ : ∃ x, l[k]? = some x := ⟨_, List.getElem?_eq_getElem hlt⟩
      obtain ⟨b1, o1, e1, cell1⟩ := Bs.out.at_ hd
      simp only [Option.some.injEq, Addr.mk.injEq, and_true] at e1
      obtain ⟨rfl, rfl⟩ := e1
      rw [Nat.zero_add] at cell1
      have d256 := d.toNat_lt
      have cellT := Ht.out d
      have hna := cnt_next (q := 39) hd
      have hnb := cnt_next (q := 34) hd
      have hnu := all_next hd hu.out
      rw [ha.out] at hna
      rw [hb.out] at hnb
      cases hs : isSp d with
      | false =>
        rw [hs] at cellT
        have h3439 := noSp_quotes hs
        rw [if_neg h3439.2] at hna
        rw [if_neg h3439.1] at hnb
        rw [hs, Bool.not_false, Bool.and_true] at hnu
        have Hna := hide hna
        have Hnb := hide hnb
        have Hnu := hide hnu
        clear hd hna hnb hnu hs h3439
        go_wp2
        go_round
        case rel => exact ⟨k + 1, a, b, u, by omega, rfl, rfl, rfl, by go_num, by omega, by omega, Hna, Hnb, Hnu⟩
        case measure => simp [intOf]; omega
      | true =>
        rw [hs] at cellT
        rw [hs, Bool.not_true, Bool.and_false] at hnu
        by_cases h34 : d = 34
        · have t1 : ((d.toNat : Int) == 34) = true := by rw [h34]; rfl
          rw [if_neg (by rw [h34]; decide)] at hna
          rw [if_pos h34] at hnb
          have Hna := hide hna
          have Hnb := hide hnb
          have Hnu := hide hnu
          clear hd hna hnb hnu hs h34
          go_wp2
          go_round
          case rel => exact ⟨k + 1, a, b + 1, false, by omega, rfl, by go_num, rfl, by go_num, by omega, by omega, Hna, Hnb, Hnu⟩
          case measure => simp [intOf]; omega
        · have t1 : ((d.toNat : Int) == 34) = false := by rw [beq_eq_false_iff_ne]; intro e; exact h34 (UInt8.toNat_inj.1 (by simp; omega))
          rw [if_neg h34] at hnb
          by_cases h39 : d = 39
          · have t2 : ((d.toNat : Int) == 39) = true := by rw [h39]; rfl
            rw [if_pos h39] at hna
            have Hna := hide hna
            have Hnb := hide hnb
            have Hnu := hide hnu
            clear hd hna hnb hnu hs h34 h39
            go_wp2
            go_round
            case rel => exact ⟨k + 1, a + 1, b, false, by omega, by go_num, rfl, rfl, by go_num, by omega, by omega, Hna, Hnb, Hnu⟩
            case measure => simp [intOf]; omega
          · have t2 : ((d.toNat : Int) == 39) = false := by rw [beq_eq_false_iff_ne]; intro e; exact h39 (UInt8.toNat_inj.1 (by simp; omega))
            rw [if_neg h39] at hna
            have Hna := hide hna
            have Hnb := hide hnb
            have Hnu := hide hnu
            clear hd hna hnb hnu hs h34 h39
            go_wp2
            go_round
            case rel => exact ⟨k + 1, a, b, false, by omega, rfl, rfl, rfl, by go_num, by omega, by omega, Hna, Hnb, Hnu⟩
            case measure => simp [intOf]; omega
    · obtain rfl : k = l.length := by omega
      have hae := ha.out
      have hbe := hb.out
      have hue := hu.out
      rw [List.take_length] at hae hbe hue
      have huU := HU.out
      rw [hue] at huU
      subst huU
      have hq2 := Hq.out
      rw [hbe] at hq2
      have z1 : ((b : Int) == 0) = true := by rw [beq_iff_eq]; omega
      clear hq2 hae hbe hue ha hb hu
      have hgt : decide (0 < (l.length : Int) + 2) = true := by rw [decide_eq_true_eq]; omega
      by_cases hz : a = 0
      · have z0 : ((a : Int) == 0) = true := by rw [beq_iff_eq]; omega
        clear hz
        go_wp2_with (first
          | ((with_reducible refine wpList_slice_runO (HrunT.out _ _) _ _ _ ?_ rfl ?_ ?_ ?_ ?_); (rfl); (rfl); (rfl); (rfl))
          | ((with_reducible refine wpList_copy_runG Hrun1.out _ _ ?_ rfl rfl ?_ ?_ ?_); (rfl); (simp [Act.eval, Act.put]); (simp [Act.eval, Act.put])))
        go_ret
        refine ⟨some ⟨w.heap.size, 0, none⟩, l.length + 2, ?_, Hbs.out, ?_, Hg.out⟩
        · rw [Hlen.out]; rfl
        · rw [Hlen.out]; exact Nat.le_refl _
      · have z0 : ((a : Int) == 0) = false := by rw [beq_eq_false_iff_ne]; omega
        clear hz
        go_wp2_with (first
          | ((with_reducible refine wpList_slice_runO (HrunT.out _ _) _ _ _ ?_ rfl ?_ ?_ ?_ ?_); (rfl); (rfl); (rfl); (rfl))
          | ((with_reducible refine wpList_copy_runG Hrun1.out _ _ ?_ rfl rfl ?_ ?_ ?_); (rfl); (simp [Act.eval, Act.put]); (simp [Act.eval, Act.put])))
        go_ret
        refine ⟨some ⟨w.heap.size, 0, none⟩, l.length + 2, ?_, Hbs.out, ?_, Hg.out⟩
        · rw [Hlen.out]; rfl
        · rw [Hlen.out]; exact Nat.le_refl _

set_option maxRecDepth 100000 in
set_option maxHeartbeats 4000000 in
theorem hQ_34_3 (gp g0 : Nat) (l : List UInt8) (X : Option Addr) (w : World) (hcell : w.cell? ⟨gp, 0, none⟩ = some (.slice X 0 0)) (hfr : w.frozen? ⟨gp, 0, none⟩ = false) (bs : BS w (some ⟨g0, 0, none⟩) l) (hne : g0 ≠ gp) (hg0 : g0 < w.heap.size) (h1 : l.length ≤ 500) (ht : CtTab w) (hU : l.all noSp = false) (hq : cnt 34 l = 0) :
    Calls Tryd.prog 13 #[.pointer (some ⟨gp, 0, none⟩), .slice (some ⟨g0, 0, none⟩) l.length l.length, .int .u8 34, .bool false] w (ATRet gp 34 l w) := by
  have Ht := hide ht
  have HU := hide hU
  have Bs := hide bs
  have Hq := hide hq
  have hgp : gp < w.heap.size := block_lt_of_cell hcell
  have hmk := run_make0 (l.length + 2) ((l.length : Int) + 2) (by simp) (by omega) .i64 .i64
  have hmc := made_first (n := l.length + 2) (by omega)
  have hb0 := madeB_blk w gp (l.length + 2) 34
  have hbs0 : BS (madeB w gp (l.length + 2) 34) (some ⟨g0, 0, none⟩) l := madeB_bs bs hne
  have hcl0 : ((List.replicate (l.length + 2) (0 : UInt8)).set 0 34).length = l.length + 2 := by simp
  obtain ⟨w1, hrun1, hb1, hg1⟩ := run_put8 (w := madeB w gp (l.length + 2) 34) hb0 hbs0 1 (by rw [hcl0]; omega) (l.length + 1) l.length (l.length + 1) l.length l.length (by rw [hcl0]; omega) rfl rfl
  obtain ⟨y, hy⟩ : ∃ y, (put8 ((List.replicate (l.length + 2) (0 : UInt8)).set 0 34) 1 l)[1 + l.length]? = some y := ⟨_, List.getElem?_eq_getElem (by rw [put8_len (by rw [hcl0]; omega), hcl0]; omega)⟩
  have cellJ := hb1.cell hy
  have frzJ := hb1.frozen (1 + l.length)
  have hst := hb1.set_ (1 + l.length) 34
  rw [quoted_list hq] at hst
  have Hbs := hide hst.all
  have Hg := hide (madeB_grown (grown_set hg1 (p := ⟨w.heap.size, 1 + l.length, none⟩) (.inl rfl) (.int .u8 34)))
  have Hrun1 := hide hrun1
  have Hlen := hide (show (attr 34 l).length = l.length + 2 by rw [attr_len, hq])
  have HrunT := hide (fun (A : Option Addr) (w' : World) => run_hi8 (P := Tryd.prog) (A := A) 22 Tryd.underlying22 (by kernel_rfl) 0 (l.length + 2) (l.length + 2) ((l.length : Int) + 2) (by simp) (Nat.le_refl _) .i64 w')
  clear hb0 hbs0 hcl0 hrun1 hb1 hg1 hy hst
  clear bs hne hq ht hU
  go_enter Tryd.func13, Tryd.ntmps13
  go_wp2
  go_loop [9, 10, 11, 25] (fun vs vd vu vi => ∃ (k a b : Nat) (u : Bool), k ≤ l.length ∧ vs = .int .i64 (a : Int) ∧ vd = .int .i64 (b : Int) ∧ vu = .bool u ∧ vi = .int .i64 (k : Int) ∧ a ≤ k ∧ b ≤ k ∧ Hid (cnt 39 (l.take k) = a) ∧ Hid (cnt 34 (l.take k) = b) ∧ Hid ((l.take k).all noSp = u)) (fun _ _ _ vi => l.length - (intOf vi).toNat)
  case atStart => exact ⟨0, 0, 0, true, Nat.zero_le _, rfl, rfl, rfl, rfl, Nat.le_refl _, Nat.le_refl _, hide rfl, hide rfl, hide rfl⟩
  case round =>
    obtain ⟨k, a, b, u, hk, rfl, rfl, rfl, rfl, hak, hbk, ha, hb, hu⟩ := hrel
    by_cases hlt : k < l.length
    · obtain ⟨d, hd⟩ : ∃ x, l[k]? = some x := ⟨_, List.getElem?_eq_getElem hlt⟩
      obtain ⟨b1, o1, e1, cell1⟩ := Bs.out.at_ hd
      simp only [Option.some.injEq, Addr.mk.injEq, and_true] at e1
      obtain ⟨rfl, rfl⟩ := e1
      rw [Nat.zero_add] at cell1
      have d256 := d.toNat_lt
      have cellT := Ht.out d
      have hna := cnt_next (q := 39) hd
      have hnb := cnt_next (q := 34) hd
      have hnu := all_next hd hu.out
      rw [ha.out] at hna
      rw [hb.out] at hnb
      cases hs : isSp d with
      | false =>
        rw [hs] at cellT
        have h3439 := noSp_quotes hs
        rw [if_neg h3439.2] at hna
        rw [if_neg h3439.1] at hnb
        rw [hs, Bool.not_false, Bool.and_true] at hnu
        have Hna := hide hna
        have Hnb := hide hnb
        have Hnu := hide hnu
        clear hd hna hnb hnu hs h3439
        go_wp2
        go_round
        case rel => exact ⟨k + 1, a, b, u, by omega, rfl, rfl, rfl, by go_num, by omega, by omega, Hna, Hnb, Hnu⟩
        case measure => simp [intOf]; omega
      | true =>
        rw [hs] at cellT
        rw [hs, Bool.not_true, Bool.and_false] at hnu
        by_cases h34 : d = 34
        · have t1 : ((d.toNat : Int) == 34) = true := by rw [h34]; rfl
          rw [if_neg (by rw [h34]; decide)] at hna
          rw [if_pos h34] at hnb
          have Hna := hide hna
          have Hnb := hide hnb
          have Hnu := hide hnu
          clear hd hna hnb hnu hs h34
          go_wp2
          go_round
          case rel => exact ⟨k + 1, a, b + 1, false, by omega, rfl, by go_num, rfl, by go_num, by omega, by omega, Hna, Hnb, Hnu⟩
          case measure => simp [intOf]; omega
        · have t1 : ((d.toNat : Int) == 34) = false := by rw [beq_eq_false_iff_ne]; intro e; exact h34 (UInt8.toNat_inj.1 (by simp; omega))
          rw [if_neg h34] at hnb
          by_cases h39 : d = 39
          · have t2 : ((d.toNat : Int) == 39) = true := by rw [h39]; rfl
            rw [if_pos h39] at hna
            have Hna := hide hna
            have Hnb := hide hnb
            have Hnu := hide hnu
            clear hd hna hnb hnu hs h34 h39
            go_wp2
            go_round
            case rel => exact ⟨k + 1, a + 1, b, false, by omega, by go_num, rfl, rfl, by go_num, by omega, by omega, Hna, Hnb, Hnu⟩
            case measure => simp [intOf]; omega
          · have t2 : ((d.toNat : Int) == 39) = false := by rw [beq_eq_false_iff_ne]; intro e; exact h39 (UInt8.toNat_inj.1 (by simp; omega))
            rw [if_neg h39] at hna
            have Hna := hide hna
            have Hnb := hide hnb
            have Hnu := hide hnu
            clear hd hna hnb hnu hs h34 h39
            go_wp2
            go_round
            case rel => exact ⟨k + 1, a, b, false, by omega, rfl, rfl, rfl, by go_num, by omega, by omega, Hna, Hnb, Hnu⟩
            case measure => simp [intOf]; omega
    · obtain rfl : k = l.length := by omega
      have hae := ha.out
      have hbe := hb.out
      have hue := hu.out
      rw [List.take_length] at hae hbe hue
      have huU := HU.out
      rw [hue] at huU
      subst huU
      have hq2 := Hq.out
      rw [hbe] at hq2
      have z1 : ((b : Int) == 0) = true := by rw [beq_iff_eq]; omega
      clear hq2 hae hbe hue ha hb hu
      have hgt : decide (0 < (l.length : Int) + 2) = true := by rw [decide_eq_true_eq]; omega
      by_cases hz : a = 0
      · have z0 : ((a : Int) == 0) = true := by rw [beq_iff_eq]; omega
        clear hz
        go_wp2_with (first
          | ((with_reducible refine wpList_slice_runO (HrunT.out _ _) _ _ _ ?_ rfl ?_ ?_ ?_ ?_); (rfl); (rfl); (rfl); (rfl))
          | ((with_reducible refine wpList_copy_runG Hrun1.out _ _ ?_ rfl rfl ?_ ?_ ?_); (rfl); (simp [Act.eval, Act.put]); (simp [Act.eval, Act.put])))
        go_ret
        refine ⟨some ⟨w.heap.size, 0, none⟩, l.length + 2, ?_, Hbs.out, ?_, Hg.out⟩
        · rw [Hlen.out]; rfl
        · rw [Hlen.out]; exact Nat.le_refl _
      · have z0 : ((a : Int) == 0) = false := by rw [beq_eq_false_iff_ne]; omega
        clear hz
        go_wp2_with (first
          | ((with_reducible refine wpList_slice_runO (HrunT.out _ _) _ _ _ ?_ rfl ?_ ?_ ?_ ?_); (rfl); (rfl); (rfl); (rfl))
          | ((with_reducible refine wpList_copy_runG Hrun1.out _ _ ?_ rfl rfl ?_ ?_ ?_); (rfl); (simp [Act.eval, Act.put]); (simp [Act.eval, Act.put])))
        go_ret
        refine ⟨some ⟨w.heap.size, 0, none⟩, l.length + 2, ?_, Hbs.out, ?_, Hg.out⟩
        · rw [Hlen.out]; rfl
        · rw [Hlen.out]; exact Nat.le_refl _

set_option maxRecDepth 100000 in
set_option maxHeartbeats 4000000 in
theorem hB_39 (gp g0 : Nat) (l : List UInt8) (X : Option Addr) (w : World) (hcell : w.cell? ⟨gp, 0, none⟩ = some (.slice X 0 0)) (hfr : w.frozen? ⟨gp, 0, none⟩ = false) (bs : BS w (some ⟨g0, 0, none⟩) l) (hne : g0 ≠ gp) (hg0 : g0 < w.heap.size) (h1 : l.length ≤ 500) (ht : CtTab w) (hU : l.all noSp = true) (hq : True) :
    Calls Tryd.prog 13 #[.pointer (some ⟨gp, 0, none⟩), .slice (some ⟨g0, 0, none⟩) l.length l.length, .int .u8 39, .bool false] w (BareRet g0 l w) := by
  have Ht := hide ht
  have HU := hide hU
  have Bs := hide bs
  have Hq := hide hq
  clear bs hne hq ht hU
  go_enter Tryd.func13, Tryd.ntmps13
  go_wp2
  go_loop [9, 10, 11, 25] (fun vs vd vu vi => ∃ (k a b : Nat) (u : Bool), k ≤ l.length ∧ vs = .int .i64 (a : Int) ∧ vd = .int .i64 (b : Int) ∧ vu = .bool u ∧ vi = .int .i64 (k : Int) ∧ a ≤ k ∧ b ≤ k ∧ Hid (cnt 39 (l.take k) = a) ∧ Hid (cnt 34 (l.take k) = b) ∧ Hid ((l.take k).all noSp = u)) (fun _ _ _ vi => l.length - (intOf vi).toNat)
  case atStart => exact ⟨0, 0, 0, true, Nat.zero_le _, rfl, rfl, rfl, rfl, Nat.le_refl _, Nat.le_refl _, hide rfl, hide rfl, hide rfl⟩
  case round =>
    obtain ⟨k, a, b, u, hk, rfl, rfl, rfl, rfl, hak, hbk, ha, hb, hu⟩ := hrel
    by_cases hlt : k < l.length
    · obtain ⟨d, hd⟩ : ∃ x, l[k]? = some x := ⟨_, List.getElem?_eq_getElem hlt⟩
      obtain ⟨b1, o1, e1, cell1⟩ := Bs.out.at_ hd
      simp only [Option.some.injEq, Addr.mk.injEq, and_true] at e1
      obtain ⟨rfl, rfl⟩ := e1
      rw [Nat.zero_add] at cell1
      have d256 := d.toNat_lt
      have cellT := Ht.out d
      have hna := cnt_next (q := 39) hd
      have hnb := cnt_next (q := 34) hd
      have hnu := all_next hd hu.out
      rw [ha.out] at hna
      rw [hb.out] at hnb
      cases hs : isSp d with
      | false =>
        rw [hs] at cellT
        have h3439 := noSp_quotes hs
        rw [if_neg h3439.2] at hna
        rw [if_neg h3439.1] at hnb
        rw [hs, Bool.not_false, Bool.and_true] at hnu
        have Hna := hide hna
        have Hnb := hide hnb
        have Hnu := hide hnu
        clear hd hna hnb hnu hs h3439
        go_wp2
        go_round
        case rel => exact ⟨k + 1, a, b, u, by omega, rfl, rfl, rfl, by go_num, by omega, by omega, Hna, Hnb, Hnu⟩
        case measure => simp [intOf]; omega
      | true =>
        rw [hs] at cellT
        rw [hs, Bool.not_true, Bool.and_false] at hnu
        by_cases h34 : d = 34
        · have t1 : ((d.toNat : Int) == 34) = true := by rw [h34]; rfl
          rw [if_neg (by rw [h34]; decide)] at hna
          rw [if_pos h34] at hnb
          have Hna := hide hna
          have Hnb := hide hnb
          have Hnu := hide hnu
          clear hd hna hnb hnu hs h34
          go_wp2
          go_round
          case rel => exact ⟨k + 1, a, b + 1, false, by omega, rfl, by go_num, rfl, by go_num, by omega, by omega, Hna, Hnb, Hnu⟩
          case measure => simp [intOf]; omega
        · have t1 : ((d.toNat : Int) == 34) = false := by rw [beq_eq_false_iff_ne]; intro e; exact h34 (UInt8.toNat_inj.1 (by simp; omega))
          rw [if_neg h34] at hnb
          by_cases h39 : d = 39
          · have t2 : ((d.toNat : Int) == 39) = true := by rw [h39]; rfl
            rw [if_pos h39] at hna
            have Hna := hide hna
            have Hnb := hide hnb
            have Hnu := hide hnu
            clear hd hna hnb hnu hs h34 h39
            go_wp2
            go_round
            case rel => exact ⟨k + 1, a + 1, b, false, by omega, by go_num, rfl, rfl, by go_num, by omega, by omega, Hna, Hnb, Hnu⟩
            case measure => simp [intOf]; omega
          · have t2 : ((d.toNat : Int) == 39) = false := by rw [beq_eq_false_iff_ne]; intro e; exact h39 (UInt8.toNat_inj.1 (by simp; omega))
            rw [if_neg h39] at hna
            have Hna := hide hna
            have Hnb := hide hnb
            have Hnu := hide hnu
            clear hd hna hnb hnu hs h34 h39
            go_wp2
            go_round
            case rel => exact ⟨k + 1, a, b, false, by omega, rfl, rfl, rfl, by go_num, by omega, by omega, Hna, Hnb, Hnu⟩
            case measure => simp [intOf]; omega
    · obtain rfl : k = l.length := by omega
      have hae := ha.out
      have hbe := hb.out
      have hue := hu.out
      rw [List.take_length] at hae hbe hue
      have huU := HU.out
      rw [hue] at huU
      subst huU
      go_wp2
      go_ret
      exact ⟨rfl, rfl⟩

set_option maxRecDepth 100000 in
set_option maxHeartbeats 4000000 in
theorem hQ_39_1 (gp g0 : Nat) (l : List UInt8) (X : Option Addr) (w : World) (hcell : w.cell? ⟨gp, 0, none⟩ = some (.slice X 0 0)) (hfr : w.frozen? ⟨gp, 0, none⟩ = false) (bs : BS w (some ⟨g0, 0, none⟩) l) (hne : g0 ≠ gp) (hg0 : g0 < w.heap.size) (h1 : l.length ≤ 500) (ht : CtTab w) (hU : l.all noSp = true) (hq : cnt 39 l = 0) :
    Calls Tryd.prog 13 #[.pointer (some ⟨gp, 0, none⟩), .slice (some ⟨g0, 0, none⟩) l.length l.length, .int .u8 39, .bool true] w (ATRet gp 39 l w) := by
  have Ht := hide ht
  have HU := hide hU
  have Bs := hide bs
  have Hq := hide hq
  have hgp : gp < w.heap.size := block_lt_of_cell hcell
  have hmk := run_make0 (l.length + 2) ((l.length : Int) + 2) (by simp) (by omega) .i64 .i64
  have hmc := made_first (n := l.length + 2) (by omega)
  have hb0 := madeB_blk w gp (l.length + 2) 39
  have hbs0 : BS (madeB w gp (l.length + 2) 39) (some ⟨g0, 0, none⟩) l := madeB_bs bs hne
  have hcl0 : ((List.replicate (l.length + 2) (0 : UInt8)).set 0 39).length = l.length + 2 := by simp
  obtain ⟨w1, hrun1, hb1, hg1⟩ := run_put8 (w := madeB w gp (l.length + 2) 39) hb0 hbs0 1 (by rw [hcl0]; omega) (l.length + 1) l.length (l.length + 1) l.length l.length (by rw [hcl0]; omega) rfl rfl
  obtain ⟨y, hy⟩ : ∃ y, (put8 ((List.replicate (l.length + 2) (0 : UInt8)).set 0 39) 1 l)[1 + l.length]? = some y := ⟨_, List.getElem?_eq_getElem (by rw [put8_len (by rw [hcl0]; omega), hcl0]; omega)⟩
  have cellJ := hb1.cell hy
  have frzJ := hb1.frozen (1 + l.length)
  have hst := hb1.set_ (1 + l.length) 39
  rw [quoted_list hq] at hst
  have Hbs := hide hst.all
  have Hg := hide (madeB_grown (grown_set hg1 (p := ⟨w.heap.size, 1 + l.length, none⟩) (.inl rfl) (.int .u8 39)))
  have Hrun1 := hide hrun1
  have Hlen := hide (show (attr 39 l).length = l.length + 2 by rw [attr_len, hq])
  have HrunT := hide (fun (A : Option Addr) (w' : World) => run_hi8 (P := Tryd.prog) (A := A) 22 Tryd.underlying22 (by kernel_rfl) 0 (l.length + 2) (l.length + 2) ((l.length : Int) + 2) (by simp) (Nat.le_refl _) .i64 w')
  clear hb0 hbs0 hcl0 hrun1 hb1 hg1 hy hst
  clear bs hne hq ht hU
  go_enter Tryd.func13, Tryd.ntmps13
  go_wp2
  go_loop [9, 10, 11, 25] (fun vs vd vu vi => ∃ (k a b : Nat) (u : Bool), k ≤ l.length ∧ vs = .int .i64 (a : Int) ∧ vd = .int .i64 (b : Int) ∧ vu = .bool u ∧ vi = .int .i64 (k : Int) ∧ a ≤ k ∧ b ≤ k ∧ Hid (cnt 39 (l.take k) = a) ∧ Hid (cnt 34 (l.take k) = b) ∧ Hid ((l.take k).all noSp = u)) (fun _ _ _ vi => l.length - (intOf vi).toNat)
  case atStart => exact ⟨0, 0, 0, true, Nat.zero_le _, rfl, rfl, rfl, rfl, Nat.le_refl _, Nat.le_refl _, hide rfl, hide rfl, hide rfl⟩
  case round =>
    obtain ⟨k, a, b, u, hk, rfl, rfl, rfl, rfl, hak, hbk, ha, hb, hu⟩ := hrel
    by_cases hlt : k < l.length
    · obtain ⟨d, hd⟩ : ∃ x, l[k]? = some x := ⟨_, List.getElem?_eq_getElem hlt⟩
      obtain ⟨b1, o1, e1, cell1⟩ := Bs.out.at_ hd
      simp only [Option.some.injEq, Addr.mk.injEq, and_true] at e1
      obtain ⟨rfl, rfl⟩ := e1
      rw [Nat.zero_add] at cell1
      have d256 := d.toNat_lt
      have cellT := Ht.out d
      have hna := cnt_next (q := 39) hd
      have hnb := cnt_next (q := 34) hd
      have hnu := all_next hd hu.out
      rw [ha.out] at hna
      rw [hb.out] at hnb
      cases hs : isSp d with
      | false =>
        rw [hs] at cellT
        have h3439 := noSp_quotes hs
        rw [if_neg h3439.2] at hna
        rw [if_neg h3439.1] at hnb
        rw [hs, Bool.not_false, Bool.and_true] at hnu
        have Hna := hide hna
        have Hnb := hide hnb
        have Hnu := hide hnu
        clear hd hna hnb hnu hs h3439
        go_wp2
        go_round
        case rel => exact ⟨k + 1, a, b, u, by omega, rfl, rfl, rfl, by go_num, by omega, by omega, Hna, Hnb, Hnu⟩
        case measure => simp [intOf]; omega
      | true =>
        rw [hs] at cellT
        rw [hs, Bool.not_true, Bool.and_false] at hnu
        by_cases h34 : d = 34
        · have t1 : ((d.toNat : Int) == 34) = true := by rw [h34]; rfl
          rw [if_neg (by rw [h34]; decide)] at hna
          rw [if_pos h34] at hnb
          have Hna := hide hna
          have Hnb := hide hnb
          have Hnu := hide hnu
          clear hd hna hnb hnu hs h34
          go_wp2
          go_round
          case rel => exact ⟨k + 1, a, b + 1, false, by omega, rfl, by go_num, rfl, by go_num, by omega, by omega, Hna, Hnb, Hnu⟩
          case measure => simp [intOf]; omega
        · have t1 : ((d.toNat : Int) == 34) = false := by rw [beq_eq_false_iff_ne]; intro e; exact h34 (UInt8.toNat_inj.1 (by simp; omega))
          rw [if_neg h34] at hnb
          by_cases h39 : d = 39
          · have t2 : ((d.toNat : Int) == 39) = true := by rw [h39]; rfl
            rw [if_pos h39] at hna
            have Hna := hide hna
            have Hnb := hide hnb
            have Hnu := hide hnu
            clear hd hna hnb hnu hs h34 h39
            go_wp2
            go_round
            case rel => exact ⟨k + 1, a + 1, b, false, by omega, by go_num, rfl, rfl, by go_num, by omega, by omega, Hna, Hnb, Hnu⟩
            case measure => simp [intOf]; omega
          · have t2 : ((d.toNat : Int) == 39) = false := by rw [beq_eq_false_iff_ne]; intro e; exact h39 (UInt8.toNat_inj.1 (by simp; omega))
            rw [if_neg h39] at hna
            have Hna := hide hna
            have Hnb := hide hnb
            have Hnu := hide hnu
            clear hd hna hnb hnu hs h34 h39
            go_wp2
            go_round
            case rel => exact ⟨k + 1, a, b, false, by omega, rfl, rfl, rfl, by go_num, by omega, by omega, Hna, Hnb, Hnu⟩
            case measure => simp [intOf]; omega
    · obtain rfl : k = l.length := by omega
      have hae := ha.out
      have hbe := hb.out
      have hue := hu.out
      rw [List.take_length] at hae hbe hue
      have huU := HU.out
      rw [hue] at huU
      subst huU
      have hq2 := Hq.out
      rw [hae] at hq2
      have z1 : ((a : Int) == 0) = true := by rw [beq_iff_eq]; omega
      clear hq2 hae hbe hue ha hb hu
      have hgt : decide (0 < (l.length : Int) + 2) = true := by rw [decide_eq_true_eq]; omega
      go_wp2_with (first
        | ((with_reducible refine wpList_slice_runO (HrunT.out _ _) _ _ _ ?_ rfl ?_ ?_ ?_ ?_); (rfl); (rfl); (rfl); (rfl))
        | ((with_reducible refine wpList_copy_runG Hrun1.out _ _ ?_ rfl rfl ?_ ?_ ?_); (rfl); (simp [Act.eval, Act.put]); (simp [Act.eval, Act.put])))
      go_ret
      refine ⟨some ⟨w.heap.size, 0, none⟩, l.length + 2, ?_, Hbs.out, ?_, Hg.out⟩
      · rw [Hlen.out]; rfl
      · rw [Hlen.out]; exact Nat.le_refl _

set_option maxRecDepth 100000 in
set_option maxHeartbeats 4000000 in
theorem hQ_39_2 (gp g0 : Nat) (l : List UInt8) (X : Option Addr) (w : World) (hcell : w.cell? ⟨gp, 0, none⟩ = some (.slice X 0 0)) (hfr : w.frozen? ⟨gp, 0, none⟩ = false) (bs : BS w (some ⟨g0, 0, none⟩) l) (hne : g0 ≠ gp) (hg0 : g0 < w.heap.size) (h1 : l.length ≤ 500) (ht : CtTab w) (hU : l.all noSp = false) (hq : cnt 39 l = 0) :
    Calls Tryd.prog 13 #[.pointer (some ⟨gp, 0, none⟩), .slice (some ⟨g0, 0, none⟩) l.length l.length, .int .u8 39, .bool true] w (ATRet gp 39 l w) := by
  have Ht := hide ht
  have HU := hide hU
  have Bs := hide bs
  have Hq := hide hq
  have hgp : gp < w.heap.size := block_lt_of_cell hcell
  have hmk := run_make0 (l.length + 2) ((l.length : Int) + 2) (by simp) (by omega) .i64 .i64
  have hmc := made_first (n := l.length + 2) (by omega)
  have hb0 := madeB_blk w gp (l.length + 2) 39
  have hbs0 : BS (madeB w gp (l.length + 2) 39) (some ⟨g0, 0, none⟩) l := madeB_bs bs hne
  have hcl0 : ((List.replicate (l.length + 2) (0 : UInt8)).set 0 39).length = l.length + 2 := by simp
  obtain ⟨w1, hrun1, hb1, hg1⟩ := run_put8 (w := madeB w gp (l.length + 2) 39) hb0 hbs0 1 (by rw [hcl0]; omega) (l.length + 1) l.length (l.length + 1) l.length l.length (by rw [hcl0]; omega) rfl rfl
  obtain ⟨y, hy⟩ : ∃ y, (put8 ((List.replicate (l.length + 2) (0 : UInt8)).set 0 39) 1 l)[1 + l.length]? = some y := ⟨_, List.getElem?_eq_getElem (by rw [put8_len (by rw [hcl0]; omega), hcl0]; omega)⟩
  have cellJ := hb1.cell hy
  have frzJ := hb1.frozen (1 + l.length)
  have hst := hb1.set_ (1 + l.length) 39
  rw [quoted_list hq] at hst
  have Hbs := hide hst.all
  have Hg := hide (madeB_grown (grown_set hg1 (p := ⟨w.heap.size, 1 + l.length, none⟩) (.inl rfl) (.int .u8 39)))
  have Hrun1 := hide hrun1
  have Hlen := hide (show (attr 39 l).length = l.length + 2 by rw [attr_len, hq])
  have HrunT := hide (fun (A : Option Addr) (w' : World) => run_hi8 (P := Tryd.prog) (A := A) 22 Tryd.underlying22 (by kernel_rfl) 0 (l.length + 2) (l.length + 2) ((l.length : Int) + 2) (by simp) (Nat.le_refl _) .i64 w')
  clear hb0 hbs0 hcl0 hrun1 hb1 hg1 hy hst
  clear bs hne hq ht hU
  go_enter Tryd.func13, Tryd.ntmps13
  go_wp2
  go_loop [9, 10, 11, 25] (fun vs vd vu vi => ∃ (k a b : Nat) (u : Bool), k ≤ l.length ∧ vs = .int .i64 (a : Int) ∧ vd = .int .i64 (b : Int) ∧ vu = .bool u ∧ vi = .int .i64 (k : Int) ∧ a ≤ k ∧ b ≤ k ∧ Hid (cnt 39 (l.take k) = a) ∧ Hid (cnt 34 (l.take k) = b) ∧ Hid ((l.take k).all noSp = u)) (fun _ _ _ vi => l.length - (intOf vi).toNat)
  case atStart => exact ⟨0, 0, 0, true, Nat.zero_le _, rfl, rfl, rfl, rfl, Nat.le_refl _, Nat.le_refl _, hide rfl, hide rfl, hide rfl⟩
  case round =>
    obtain ⟨k, a, b, u, hk, rfl, rfl, rfl, rfl, hak, hbk, ha, hb, hu⟩ := hrel
    by_cases hlt : k < l.length
    · obtain ⟨d, hd⟩ : ∃ x, l[k]? = some x := ⟨_, List.getElem?_eq_getElem hlt⟩
      obtain ⟨b1, o1, e1, cell1⟩ := Bs.out.at_ hd
      simp only [Option.some.injEq, Addr.mk.injEq, and_true] at e1
      obtain ⟨rfl, rfl⟩ := e1
      rw [Nat.zero_add] at cell1
      have d256 := d.toNat_lt
      have cellT := Ht.out d
      have hna := cnt_next (q := 39) hd
      have hnb := cnt_next (q := 34) hd
      have hnu := all_next hd hu.out
      rw [ha.out] at hna
      rw [hb.out] at hnb
      cases hs : isSp d with
      | false =>
        rw [hs] at cellT
        have h3439 := noSp_quotes hs
        rw [if_neg h3439.2] at hna
        rw [if_neg h3439.1] at hnb
        rw [hs, Bool.not_false, Bool.and_true] at hnu
        have Hna := hide hna
        have Hnb := hide hnb
        have Hnu := hide hnu
        clear hd hna hnb hnu hs h3439
        go_wp2
        go_round
        case rel => exact ⟨k + 1, a, b, u, by omega, rfl, rfl, rfl, by go_num, by omega, by omega, Hna, Hnb, Hnu⟩
        case measure => simp [intOf]; omega
      | true =>
        rw [hs] at cellT
        rw [hs, Bool.not_true, Bool.and_false] at hnu
        by_cases h34 : d = 34
        · have t1 : ((d.toNat : Int) == 34) = true := by rw [h34]; rfl
          rw [if_neg (by rw [h34]; decide)] at hna
          rw [if_pos h34] at hnb
          have Hna := hide hna
          have Hnb := hide hnb
          have Hnu := hide hnu
          clear hd hna hnb hnu hs h34
          go_wp2
          go_round
          case rel => exact ⟨k + 1, a, b + 1, false, by omega, rfl, by go_num, rfl, by go_num, by omega, by omega, Hna, Hnb, Hnu⟩
          case measure => simp [intOf]; omega
        · have t1 : ((d.toNat : Int) == 34) = false := by rw [beq_eq_false_iff_ne]; intro e; exact h34 (UInt8.toNat_inj.1 (by simp; omega))
          rw [if_neg h34] at hnb
          by_cases h39 : d = 39
          · have t2 : ((d.toNat : Int) == 39) = true := by rw [h39]; rfl
            rw [if_pos h39] at hna
            have Hna := hide hna
            have Hnb := hide hnb
            have Hnu := hide hnu
            clear hd hna hnb hnu hs h34 h39
            go_wp2
            go_round
            case rel => exact ⟨k + 1, a + 1, b, false, by omega, by go_num, rfl, rfl, by go_num, by omega, by omega, Hna, Hnb, Hnu⟩
            case measure => simp [intOf]; omega
          · have t2 : ((d.toNat : Int) == 39) = false := by rw [beq_eq_false_iff_ne]; intro e; exact h39 (UInt8.toNat_inj.1 (by simp; omega))
            rw [if_neg h39] at hna
            have Hna := hide hna
            have Hnb := hide hnb
            have Hnu := hide hnu
            clear hd hna hnb hnu hs h34 h39
            go_wp2
            go_round
            case rel => exact ⟨k + 1, a, b, false, by omega, rfl, rfl, rfl, by go_num, by omega, by omega, Hna, Hnb, Hnu⟩
            case measure => simp [intOf]; omega
    · obtain rfl : k = l.length := by omega
      have hae := ha.out
      have hbe := hb.out
      have hue := hu.out
      rw [List.take_length] at hae hbe hue
      have huU := HU.out
      rw [hue] at huU
      subst huU
      have hq2 := Hq.out
      rw [hae] at hq2
      have z1 : ((a : Int) == 0) = true := by rw [beq_iff_eq]; omega
      clear hq2 hae hbe hue ha hb hu
      have hgt : decide (0 < (l.length : Int) + 2) = true := by rw [decide_eq_true_eq]; omega
      go_wp2_with (first
        | ((with_reducible refine wpList_slice_runO (HrunT.out _ _) _ _ _ ?_ rfl ?_ ?_ ?_ ?_); (rfl); (rfl); (rfl); (rfl))
        | ((with_reducible refine wpList_copy_runG Hrun1.out _ _ ?_ rfl rfl ?_ ?_ ?_); (rfl); (simp [Act.eval, Act.put]); (simp [Act.eval, Act.put])))
      go_ret
      refine ⟨some ⟨w.heap.size, 0, none⟩, l.length + 2, ?_, Hbs.out, ?_, Hg.out⟩
      · rw [Hlen.out]; rfl
      · rw [Hlen.out]; exact Nat.le_refl _

set_option maxRecDepth 100000 in
set_option maxHeartbeats 4000000 in
theorem hQ_39_3 (gp g0 : Nat) (l : List UInt8) (X : Option Addr) (w : World) (hcell : w.cell? ⟨gp, 0, none⟩ = some (.slice X 0 0)) (hfr : w.frozen? ⟨gp, 0, none⟩ = false) (bs : BS w (some ⟨g0, 0, none⟩) l) (hne : g0 ≠ gp) (hg0 : g0 < w.heap.size) (h1 : l.length ≤ 500) (ht : CtTab w) (hU : l.all noSp = false) (hq : cnt 39 l = 0) :
    Calls Tryd.prog 13 #[.pointer (some ⟨gp, 0, none⟩), .slice (some ⟨g0, 0, none⟩) l.length l.length, .int .u8 39, .bool false] w (ATRet gp 39 l w) := by
  have Ht := hide ht
  have HU := hide hU
  have Bs := hide bs
  have Hq := hide hq
  have hgp : gp < w.heap.size := block_lt_of_cell hcell
  have hmk := run_make0 (l.length + 2) ((l.length : Int) + 2) (by simp) (by omega) .i64 .i64
  have hmc := made_first (n := l.length + 2) (by omega)
  have hb0 := madeB_blk w gp (l.length + 2) 39
  have hbs0 : BS (madeB w gp (l.length + 2) 39) (some ⟨g0, 0, none⟩) l := madeB_bs bs hne
  have hcl0 : ((List.replicate (l.length + 2) (0 : UInt8)).set 0 39).length = l.length + 2 := by simp
  obtain ⟨w1, hrun1, hb1, hg1⟩ := run_put8 (w := madeB w gp (l.length + 2) 39) hb0 hbs0 1 (by rw [hcl0]; omega) (l.length + 1) l.length (l.length + 1) l.length l.length (by rw [hcl0]; omega) rfl rfl
  obtain ⟨y, hy⟩ : ∃ y, (put8 ((List.replicate (l.length + 2) (0 : UInt8)).set 0 39) 1 l)[1 + l.length]? = some y := ⟨_, List.getElem?_eq_getElem (by rw [put8_len (by rw [hcl0]; omega), hcl0]; omega)⟩
  have cellJ := hb1.cell hy
  have frzJ := hb1.frozen (1 + l.length)
  have hst := hb1.set_ (1 + l.length) 39
  rw [quoted_list hq] at hst
  have Hbs := hide hst.all
  have Hg := hide (madeB_grown (grown_set hg1 (p := ⟨w.heap.size, 1 + l.length, none⟩) (.inl rfl) (.int .u8 39)))
  have Hrun1 := hide hrun1
  have Hlen := hide (show (attr 39 l).length = l.length + 2 by rw [attr_len, hq])
  have HrunT := hide (fun (A : Option Addr) (w' : World) => run_hi8 (P := Tryd.prog) (A := A) 22 Tryd.underlying22 (by kernel_rfl) 0 (l.length + 2) (l.length + 2) ((l.length : Int) + 2) (by simp) (Nat.le_refl _) .i64 w')
  clear hb0 hbs0 hcl0 hrun1 hb1 hg1 hy hst
  clear bs hne hq ht hU
  go_enter Tryd.func13, Tryd.ntmps13
  go_wp2
  go_loop [9, 10, 11, 25] (fun vs vd vu vi => ∃ (k a b : Nat) (u : Bool), k ≤ l.length ∧ vs = .int .i64 (a : Int) ∧ vd = .int .i64 (b : Int) ∧ vu = .bool u ∧ vi = .int .i64 (k : Int) ∧ a ≤ k ∧ b ≤ k ∧ Hid (cnt 39 (l.take k) = a) ∧ Hid (cnt 34 (l.take k) = b) ∧ Hid ((l.take k).all noSp = u)) (fun _ _ _ vi => l.length - (intOf vi).toNat)
  case atStart => exact ⟨0, 0, 0, true, Nat.zero_le _, rfl, rfl, rfl, rfl, Nat.le_refl _, Nat.le_refl _, hide rfl, hide rfl, hide rfl⟩
  case round =>
    obtain ⟨k, a, b, u, hk, rfl, rfl, rfl, rfl, hak, hbk, ha, hb, hu⟩ := hrel
    by_cases hlt : k < l.length
    · obtain ⟨d, hd⟩ : ∃ x, l[k]? = some x := ⟨_, List.getElem?_eq_getElem hlt⟩
      obtain ⟨b1, o1, e1, cell1⟩ := Bs.out.at_ hd
      simp only [Option.some.injEq, Addr.mk.injEq, and_true] at e1
      obtain ⟨rfl, rfl⟩ := e1
      rw [Nat.zero_add] at cell1
      have d256 := d.toNat_lt
      have cellT := Ht.out d
      have hna := cnt_next (q := 39) hd
      have hnb := cnt_next (q := 34) hd
      have hnu := all_next hd hu.out
      rw [ha.out] at hna
      rw [hb.out] at hnb
      cases hs : isSp d with
      | false =>
        rw [hs] at cellT
        have h3439 := noSp_quotes hs
        rw [if_neg h3439.2] at hna
        rw [if_neg h3439.1] at hnb
        rw [hs, Bool.not_false, Bool.and_true] at hnu
        have Hna := hide hna
        have Hnb := hide hnb
        have Hnu := hide hnu
        clear hd hna hnb hnu hs h3439
        go_wp2
        go_round
        case rel => exact ⟨k + 1, a, b, u, by omega, rfl, rfl, rfl, by go_num, by omega, by omega, Hna, Hnb, Hnu⟩
        case measure => simp [intOf]; omega
      | true =>
        rw [hs] at cellT
        rw [hs, Bool.not_true, Bool.and_false] at hnu
        by_cases h34 : d = 34
        · have t1 : ((d.toNat : Int) == 34) = true := by rw [h34]; rfl
          rw [if_neg (by rw [h34]; decide)] at hna
          rw [if_pos h34] at hnb
          have Hna := hide hna
          have Hnb := hide hnb
          have Hnu := hide hnu
          clear hd hna hnb hnu hs h34
          go_wp2
          go_round
          case rel => exact ⟨k + 1, a, b + 1, false, by omega, rfl, by go_num, rfl, by go_num, by omega, by omega, Hna, Hnb, Hnu⟩
          case measure => simp [intOf]; omega
        · have t1 : ((d.toNat : Int) == 34) = false := by rw [beq_eq_false_iff_ne]; intro e; exact h34 (UInt8.toNat_inj.1 (by simp; omega))
          rw [if_neg h34] at hnb
          by_cases h39 : d = 39
          · have t2 : ((d.toNat : Int) == 39) = true := by rw [h39]; rfl
            rw [if_pos h39] at hna
            have Hna := hide hna
            have Hnb := hide hnb
            have Hnu := hide hnu
            clear hd hna hnb hnu hs h34 h39
            go_wp2
            go_round
            case rel => exact ⟨k + 1, a + 1, b, false, by omega, by go_num, rfl, rfl, by go_num, by omega, by omega, Hna, Hnb, Hnu⟩
            case measure => simp [intOf]; omega
          · have t2 : ((d.toNat : Int) == 39) = false := by rw [beq_eq_false_iff_ne]; intro e; exact h39 (UInt8.toNat_inj.1 (by simp; omega))
            rw [if_neg h39] at hna
            have Hna := hide hna
            have Hnb := hide hnb
            have Hnu := hide hnu
            clear hd hna hnb hnu hs h34 h39
            go_wp2
            go_round
            case rel => exact ⟨k + 1, a, b, false, by omega, rfl, rfl, rfl, by go_num, by omega, by omega, Hna, Hnb, Hnu⟩
            case measure => simp [intOf]; omega
    · obtain rfl : k = l.length := by omega
      have hae := ha.out
      have hbe := hb.out
      have hue := hu.out
      rw [List.take_length] at hae hbe hue
      have huU := HU.out
      rw [hue] at huU
      subst huU
      have hq2 := Hq.out
      rw [hae] at hq2
      have z1 : ((a : Int) == 0) = true := by rw [beq_iff_eq]; omega
      clear hq2 hae hbe hue ha hb hu
      have hgt : decide (0 < (l.length : Int) + 2) = true := by rw [decide_eq_true_eq]; omega
      go_wp2_with (first
        | ((with_reducible refine wpList_slice_runO (HrunT.out _ _) _ _ _ ?_ rfl ?_ ?_ ?_ ?_); (rfl); (rfl); (rfl); (rfl))
        | ((with_reducible refine wpList_copy_runG Hrun1.out _ _ ?_ rfl rfl ?_ ?_ ?_); (rfl); (simp [Act.eval, Act.put]); (simp [Act.eval, Act.put])))
      go_ret
      refine ⟨some ⟨w.heap.size, 0, none⟩, l.length + 2, ?_, Hbs.out, ?_, Hg.out⟩
      · rw [Hlen.out]; rfl
      · rw [Hlen.out]; exact Nat.le_refl _

end Go.Proofs.YtfelfbgppkiimaaDoor
