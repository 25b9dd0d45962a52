/- The package's writing of a section of characters as a text. Conditions: the buffer is empty, the text lies elsewhere and has at most 500 bytes. (printed by gen_escx.py) -/
import Derived.Test.YtfelfbgppkiimaaPut
namespace Go.Proofs.Ytfelfbgppkiimaa
open Go.RowKit
set_option linter.unusedVariables false
set_option linter.unusedSimpArgs false

theorem lt_any (w : World) :
    Calls Try.prog 16 #[] w fun e w' => e = .returned (.slice (some ⟨w.heap.size, 0, none⟩) 4 4) ∧ w.alloc (.cells #[.int .u8 38, .int .u8 108, .int .u8 116, .int .u8 59] 5 (4, 5)) = w' := by
  have kc := fun n c C => run_bytes_lit (P := Try.prog) 22 5 Try.underlying22 Try.underlying5 w w.heap.size n c C rfl
  go_enter Try.func16, Try.ntmps16
  go_wp2
  go_ret
  exact ⟨rfl, rfl⟩
theorem amp_any (w : World) :
    Calls Try.prog 17 #[] w fun e w' => e = .returned (.slice (some ⟨w.heap.size, 0, none⟩) 5 5) ∧ w.alloc (.cells #[.int .u8 38, .int .u8 97, .int .u8 109, .int .u8 112, .int .u8 59] 5 (5, 6)) = w' := by
  have kc := fun n c C => run_bytes_lit (P := Try.prog) 22 5 Try.underlying22 Try.underlying5 w w.heap.size n c C rfl
  go_enter Try.func17, Try.ntmps17
  go_wp2
  go_ret
  exact ⟨rfl, rfl⟩
/-- What is returned where the text is written. -/
def XTRet (gp : Nat) (l : List UInt8) (w : World) (e : Ending) (w' : World) : Prop := ∃ A' c', e = .returned (.tuple #[.slice A' (esc fX l).length c', .bool true]) ∧ BS w' A' (esc fX l) ∧ (esc fX l).length ≤ c' ∧ w.grownBy w' (some gp)
/-- The world behind the making of the buffer. -/
def madeW (w : World) (gp n : Nat) : World := (w.setCell ⟨gp, 0, none⟩ (.slice (some ⟨w.heap.size, 0, none⟩) 0 n)).alloc (.cells (madeCells #[.int .u8 0] n) 5)
theorem set_size (w : World) (p : Addr) (v : Value) : (w.setCell p v).heap.size = w.heap.size := by simp [World.setCell]
theorem madeW_blk (w : World) (gp n : Nat) : Blk8 (madeW w gp n) w.heap.size (List.replicate n 0) := by
  have := made8 (w.setCell ⟨gp, 0, none⟩ (.slice (some ⟨w.heap.size, 0, none⟩) 0 n)) n
  rw [set_size] at this
  exact this
theorem madeW_bs {w : World} {gp n g0 : Nat} {l : List UInt8} (h : BS w (some ⟨g0, 0, none⟩) l) (hne : g0 ≠ gp) : BS (madeW w gp n) (some ⟨g0, 0, none⟩) l := (h.far (p := ⟨gp, 0, none⟩) (fun b o e => by injection e with e; injection e with e1; subst e1; exact hne) _).alloc _
theorem madeW_size (w : World) (gp n : Nat) : (madeW w gp n).heap.size = w.heap.size + 1 := by simp [madeW, World.setCell]
theorem madeW_grown {w w' : World} {gp n : Nat} (h : (madeW w gp n).grownBy w' (some w.heap.size)) : w.grownBy w' (some gp) := by
  refine ⟨h.os, h.tape, h.output, ?_, fun i hi hne => ?_⟩
  · have := h.size
    rw [madeW_size] at this
    omega
  · have e := h.block i (by rw [madeW_size]; omega) (fun e => by injection e with e; omega)
    rw [e]
    have e2 := Below.heap_setCell w ⟨gp, 0, none⟩ (.slice (some ⟨w.heap.size, 0, none⟩) 0 n) i (fun e => hne (by rw [e]))
    exact (Below.heap_alloc _ _ i (by rw [set_size]; exact hi)).trans e2

theorem bs_apart {w w' : World} {g0 G : Nat} {l : List UInt8} (h : BS w (some ⟨g0, 0, none⟩) l) (hg : w.grownBy w' (some G)) (hne : g0 < G) : BS w' (some ⟨g0, 0, none⟩) l :=
  h.grown hg (fun k hk e => by
    have hk' : g0 = k := by simpa [blk] using hk
    injection e with e
    omega)

set_option maxRecDepth 100000 in
set_option maxHeartbeats 8000000 in
theorem xT_yes (gp g0 : Nat) (l : List UInt8) (X : Option Addr) (w : World) (hcell : w.cell? ⟨gp, 0, none⟩ = some (.slice X 0 0)) (hfr : w.frozen? ⟨gp, 0, none⟩ = false) (bs : BS w (some ⟨g0, 0, none⟩) l) (hne : g0 ≠ gp) (hg0 : g0 < w.heap.size) (h1 : l.length ≤ 500) (hx : extX l ≤ 12) (hpos : 0 < l.length) :
    Calls Try.prog 12 #[.pointer (some ⟨gp, 0, none⟩), .slice (some ⟨g0, 0, none⟩) l.length l.length] w (XTRet gp l w) := by
  have hgp : gp < w.heap.size := block_lt_of_cell hcell
  have hmk := run_make0 (l.length + extX l) ((l.length : Int) + ((extX l : Nat) : Int)) (by simp) (by omega) .i64 .i64
  have Bl0 := hide (madeW_blk w gp (l.length + extX l))
  have Bs0 := hide (madeW_bs (n := l.length + extX l) bs hne)
  have Bs := hide bs
  have Hsz := hide (madeW_size w gp (l.length + extX l))
  have Hg0 := hide hg0
  have Hne := hide hne
  have Hx := hide hx
  have Hlen := hide (extX_len l)
  generalize hxe : extX l = x at *
  have Hxe := hide hxe
  have hx12 := Hx.out
  have HrunT := hide (fun (A : Option Addr) (w' : World) => run_hi8 (P := Try.prog) (A := A) 22 Try.underlying22 (by kernel_rfl) 0 (l.length + x) (l.length + x) ((l.length : Int) + (x : Int)) (by simp) (Nat.le_refl _) .i64 w')
  clear bs hne hxe hx
  go_enter Try.func12, Try.ntmps12
  go_wp2
  go_loop [6, 16] (fun vn vi => ∃ k y : Nat, k ≤ l.length ∧ vn = .int .i64 (y : Int) ∧ vi = .int .i64 (k : Int) ∧ y ≤ 12 ∧ Hid (extX (l.take k) = y)) (fun _ vi => l.length - (intOf vi).toNat)
  case atStart => exact ⟨0, 0, Nat.zero_le _, rfl, rfl, by omega, hide rfl⟩
  case round =>
    obtain ⟨k, y, hk, rfl, rfl, hy, hky⟩ := hrel
    by_cases hlt : k < l.length
    · obtain ⟨d, hd⟩ : ∃ x, l[k]? = some x := ⟨_, List.getElem?_eq_getElem hlt⟩
      obtain ⟨b1, o1, e1, cell1⟩ := Bs.out.at_ hd
      simp only [Option.some.injEq, Addr.mk.injEq, and_true] at e1
      obtain ⟨rfl, rfl⟩ := e1
      rw [Nat.zero_add] at cell1
      have hnx := extX_next hd
      have hle := extX_le l (k + 1)
      rw [Hxe.out] at hle
      rw [hky.out] at hnx
      by_cases h60 : d = 60
      · have t1 : ((d.toNat : Int) == 60) = true := by rw [h60]; rfl
        rw [if_pos h60] at hnx
        have hy2 : y + 3 ≤ 12 := by omega
        have Hnx := hide hnx
        clear hd hnx hle h60
        go_wp2
        go_round
        case rel => exact ⟨k + 1, y + 3, by omega, by go_num, by go_num, by omega, Hnx⟩
        case measure => simp [intOf]; omega
      · have t1 : ((d.toNat : Int) == 60) = false := by rw [beq_eq_false_iff_ne]; intro e; exact h60 (UInt8.toNat_inj.1 (by simp; omega))
        rw [if_neg h60] at hnx
        by_cases h38 : d = 38
        · have t2 : ((d.toNat : Int) == 38) = true := by rw [h38]; rfl
          rw [if_pos h38] at hnx
          have hy2 : y + 4 ≤ 12 := by omega
          have Hnx := hide hnx
          clear hd hnx hle h60 h38
          go_wp2
          go_round
          case rel => exact ⟨k + 1, y + 4, by omega, by go_num, by go_num, by omega, Hnx⟩
          case measure => simp [intOf]; omega
        · have t2 : ((d.toNat : Int) == 38) = false := by rw [beq_eq_false_iff_ne]; intro e; exact h38 (UInt8.toNat_inj.1 (by simp; omega))
          rw [if_neg h38] at hnx
          have Hnx := hide hnx
          clear hd hnx hle h60 h38
          go_wp2
          go_round
          case rel => exact ⟨k + 1, y, by omega, rfl, by go_num, by omega, Hnx⟩
          case measure => simp [intOf]; omega
    · obtain rfl : k = l.length := by omega
      have hyx := hky.out
      rw [List.take_length, Hxe.out] at hyx
      subst hyx
      clear hky
      have hgt : decide (0 < (l.length : Int) + (x : Int)) = true := by rw [decide_eq_true_eq]; omega
      go_wp2_with ((with_reducible refine wpList_slice_runO (HrunT.out _ _) _ _ _ ?_ rfl ?_ ?_ ?_ ?_); (rfl); (rfl); (rfl); (rfl))
      clear hgt hmk
      go_loopw [10, 11, 62] (fun vj vs vi wr => ∃ (j s i : Nat) (cur : List UInt8), vj = .int .i64 (j : Int) ∧ vs = .int .i64 (s : Int) ∧ vi = .int .i64 (i : Int) ∧ i ≤ l.length ∧ cur.length = l.length + x ∧ Hid (EscIn fX [] l cur i s j) ∧ Hid (Blk8 wr w.heap.size cur) ∧ (madeW w gp (l.length + x)).grownBy wr (some w.heap.size)) (fun _ _ vi _ => l.length - (intOf vi).toNat)
      case atStart => exact ⟨0, 0, 0, List.replicate (l.length + x) 0, rfl, rfl, rfl, Nat.zero_le _, by simp, hide (EscIn.begin_ (by have := Hlen.out; simp; omega) (by simp)), Bl0, World.grownBy.refl _ _⟩
      case round =>
        obtain ⟨j, s, i, cur, rfl, rfl, rfl, hi, hcl, hin, hb, hgr⟩ := hrel
        have hbs : BS wr (some ⟨g0, 0, none⟩) l := bs_apart Bs0.out hgr Hg0.out
        have hsi := hin.out.si
        have hroom := hin.out.room1
        have Hcl := hide hcl
        rw [hcl] at hroom
        clear hcl
        by_cases hlt : i < l.length
        · obtain ⟨d, hd⟩ : ∃ x, l[i]? = some x := ⟨_, List.getElem?_eq_getElem hlt⟩
          obtain ⟨b1, o1, e1, cell1⟩ := hbs.at_ hd
          simp only [Option.some.injEq, Addr.mk.injEq, and_true] at e1
          obtain ⟨rfl, rfl⟩ := e1
          rw [Nat.zero_add] at cell1
          have d256 := d.toNat_lt
          by_cases h60 : d = 60
          · have t1 : ((d.toNat : Int) == 60) = true := by rw [h60]; rfl
            have hf : fX d = entLt := by subst h60; rfl
            have hne2 : (fX d).length = 4 := by rw [hf]; rfl
            have Hin2 := hide (hin.out.ent hd)
            have hr2 := hin.out.room hd
            rw [hf] at Hin2
            rw [Hcl.out, hne2] at hr2
            obtain ⟨r, hr⟩ : ∃ r, r = i - s := ⟨_, rfl⟩
            have hsec := sec_len (l := l) hsi hi
            obtain ⟨w1, hrun1, hb1, hg1⟩ := run_put8 (w := wr.drew) (hb.out.drew) ((hbs.cut rfl s).take (i - s)).drew j (by rw [hsec, Hcl.out]; omega) (l.length + x - j) (i - s) (l.length + x - j) (l.length - s) r (by rw [Hcl.out]) hsec hr
            rw [Nat.zero_add] at hrun1
            have hcl1 : (put8 cur j ((l.drop s).take (i - s))).length = l.length + x := by rw [put8_len (by rw [hsec, Hcl.out]; omega), Hcl.out]
            obtain ⟨w2, hrun2, hb2, hg2⟩ := run_put8 (w := (w1.alloc (.cells #[.int .u8 38, .int .u8 108, .int .u8 116, .int .u8 59] 5 (4, 5))).drew) ((hb1.alloc _).drew) (BS.lit (w := w1) rfl [38, 108, 116, 59] _ 5 (4, 5) rfl).drew (j + r) (by rw [hcl1, hr]; simp; omega) (l.length + x - (j + r)) 4 (l.length + x - (j + r)) 4 4 (by rw [hcl1]) rfl rfl
            have Hrun1 := hide hrun1
            have Hrun2 := hide hrun2
            have Hcl2 := hide (show (put8 (put8 cur j ((l.drop s).take (i - s))) (j + r) entLt).length = l.length + x by rw [put8_len (by rw [hcl1, hr]; simp [entLt]; omega), hcl1])
            have Hb2 := hide hb2
            have hgr2 : (madeW w gp (l.length + x)).grownBy w2 (some w.heap.size) := by
              have g1 : (madeW w gp (l.length + x)).grownBy w1 (some w.heap.size) := World.grownBy.trans (b := wr.drew) ⟨hgr.os, hgr.tape, hgr.output, hgr.size, hgr.block⟩ hg1
              have g2 : (madeW w gp (l.length + x)).grownBy (w1.alloc (.cells #[.int .u8 38, .int .u8 108, .int .u8 116, .int .u8 59] 5 (4, 5))).drew (some w.heap.size) := World.grownBy.trans g1 (b := w1) ⟨rfl, rfl, rfl, by show w1.heap.size ≤ _; simp [World.drew], fun k hk _ => Below.heap_alloc w1 _ k hk⟩
              exact g2.trans hg2
            rw [← hr] at Hin2 Hb2 Hcl2
            have s1 : IntKind.i64.wrap ((j : Int) + (r : Int)) = (j : Int) + (r : Int) := IntWalk.i64_in _ (by omega)
            have s2 : IntKind.i64.wrap ((j : Int) + (r : Int) + 4) = (j : Int) + (r : Int) + 4 := IntWalk.i64_in _ (by omega)
            have S := hide (And.intro s1 s2)
            have Hr := hide hr
            have hjr : j + r + 4 ≤ l.length + x := by omega
            clear hd hf hne2 hr hsec hrun1 hb1 hg1 hcl1 hrun2 hb2 hg2 s1 s2 hroom hr2 h60
            go_wp2
            obtain ⟨s1, s2⟩ := S.out
            have q1 : (j : Int) ≤ (l.length : Int) + (x : Int) := by omega
            have q2 : ¬ l.length + x = j := by omega
            have q3 : ¬ l.length = s := by omega
            have q4 : (i : Int) ≤ (l.length : Int) := by omega
            go_region_law ((with_reducible refine step_copy_runG Hrun1.out _ _ ?_ rfl rfl ?_ ?_ ?_); (rfl); (simp [Act.eval, Act.put]); (simp [Act.eval, Act.put]))
            all_goals
              clear q1 q2 q3 q4
              go_wp2
              have q1 : j + r ≤ l.length + x := by omega
              have q2 : ¬ l.length + x = j + r := by omega
              have q3 : 0 ≤ (j : Int) + (r : Int) := by omega
              have q4 : ((j : Int) + (r : Int)).toNat = j + r := by omega
              have q5 : (j : Int) + (r : Int) ≤ (l.length : Int) + (x : Int) := by omega
              go_region_law (first
                | ((with_reducible refine step_copy_runG Hrun2.out _ _ ?_ rfl rfl ?_ ?_ ?_); (rfl); (simp [Act.eval, Act.put]); (simp [Act.eval, Act.put]))
                | (go_simp; go_at_call 16; (with_reducible refine (lt_any _).mono ?_); rintro e w' ⟨rfl, rfl⟩))
              all_goals
                clear q1 q2 q3 q4 q5 s1 s2
                go_wp2
                go_roundw
                case rel => exact ⟨j + r + 4, i + 1, i + 1, _, by go_num, by go_num, by go_num, by omega, Hcl2.out, Hin2, Hb2, hgr2⟩
                case measure => simp [intOf]; omega
          · have t1 : ((d.toNat : Int) == 60) = false := by rw [beq_eq_false_iff_ne]; intro e; exact h60 (UInt8.toNat_inj.1 (by simp; omega))
            by_cases h38 : d = 38
            · have t2 : ((d.toNat : Int) == 38) = true := by rw [h38]; rfl
              have hf : fX d = entAmp := by subst h38; rfl
              have hne2 : (fX d).length = 5 := by rw [hf]; rfl
              have Hin2 := hide (hin.out.ent hd)
              have hr2 := hin.out.room hd
              rw [hf] at Hin2
              rw [Hcl.out, hne2] at hr2
              obtain ⟨r, hr⟩ : ∃ r, r = i - s := ⟨_, rfl⟩
              have hsec := sec_len (l := l) hsi hi
              obtain ⟨w1, hrun1, hb1, hg1⟩ := run_put8 (w := wr.drew) (hb.out.drew) ((hbs.cut rfl s).take (i - s)).drew j (by rw [hsec, Hcl.out]; omega) (l.length + x - j) (i - s) (l.length + x - j) (l.length - s) r (by rw [Hcl.out]) hsec hr
              rw [Nat.zero_add] at hrun1
              have hcl1 : (put8 cur j ((l.drop s).take (i - s))).length = l.length + x := by rw [put8_len (by rw [hsec, Hcl.out]; omega), Hcl.out]
              obtain ⟨w2, hrun2, hb2, hg2⟩ := run_put8 (w := (w1.alloc (.cells #[.int .u8 38, .int .u8 97, .int .u8 109, .int .u8 112, .int .u8 59] 5 (5, 6))).drew) ((hb1.alloc _).drew) (BS.lit (w := w1) rfl [38, 97, 109, 112, 59] _ 5 (5, 6) rfl).drew (j + r) (by rw [hcl1, hr]; simp; omega) (l.length + x - (j + r)) 5 (l.length + x - (j + r)) 5 5 (by rw [hcl1]) rfl rfl
              have Hrun1 := hide hrun1
              have Hrun2 := hide hrun2
              have Hcl2 := hide (show (put8 (put8 cur j ((l.drop s).take (i - s))) (j + r) entAmp).length = l.length + x by rw [put8_len (by rw [hcl1, hr]; simp [entAmp]; omega), hcl1])
              have Hb2 := hide hb2
              have hgr2 : (madeW w gp (l.length + x)).grownBy w2 (some w.heap.size) := by
                have g1 : (madeW w gp (l.length + x)).grownBy w1 (some w.heap.size) := World.grownBy.trans (b := wr.drew) ⟨hgr.os, hgr.tape, hgr.output, hgr.size, hgr.block⟩ hg1
                have g2 : (madeW w gp (l.length + x)).grownBy (w1.alloc (.cells #[.int .u8 38, .int .u8 97, .int .u8 109, .int .u8 112, .int .u8 59] 5 (5, 6))).drew (some w.heap.size) := World.grownBy.trans g1 (b := w1) ⟨rfl, rfl, rfl, by show w1.heap.size ≤ _; simp [World.drew], fun k hk _ => Below.heap_alloc w1 _ k hk⟩
                exact g2.trans hg2
              rw [← hr] at Hin2 Hb2 Hcl2
              have s1 : IntKind.i64.wrap ((j : Int) + (r : Int)) = (j : Int) + (r : Int) := IntWalk.i64_in _ (by omega)
              have s2 : IntKind.i64.wrap ((j : Int) + (r : Int) + 5) = (j : Int) + (r : Int) + 5 := IntWalk.i64_in _ (by omega)
              have S := hide (And.intro s1 s2)
              have Hr := hide hr
              have hjr : j + r + 5 ≤ l.length + x := by omega
              clear hd hf hne2 hr hsec hrun1 hb1 hg1 hcl1 hrun2 hb2 hg2 s1 s2 hroom hr2 h60 h38
              go_wp2
              obtain ⟨s1, s2⟩ := S.out
              have q1 : (j : Int) ≤ (l.length : Int) + (x : Int) := by omega
              have q2 : ¬ l.length + x = j := by omega
              have q3 : ¬ l.length = s := by omega
              have q4 : (i : Int) ≤ (l.length : Int) := by omega
              go_region_law ((with_reducible refine step_copy_runG Hrun1.out _ _ ?_ rfl rfl ?_ ?_ ?_); (rfl); (simp [Act.eval, Act.put]); (simp [Act.eval, Act.put]))
              all_goals
                clear q1 q2 q3 q4
                go_wp2
                have q1 : j + r ≤ l.length + x := by omega
                have q2 : ¬ l.length + x = j + r := by omega
                have q3 : 0 ≤ (j : Int) + (r : Int) := by omega
                have q4 : ((j : Int) + (r : Int)).toNat = j + r := by omega
                have q5 : (j : Int) + (r : Int) ≤ (l.length : Int) + (x : Int) := by omega
                go_region_law (first
                  | ((with_reducible refine step_copy_runG Hrun2.out _ _ ?_ rfl rfl ?_ ?_ ?_); (rfl); (simp [Act.eval, Act.put]); (simp [Act.eval, Act.put]))
                  | (go_simp; go_at_call 17; (with_reducible refine (amp_any _).mono ?_); rintro e w' ⟨rfl, rfl⟩))
                all_goals
                  clear q1 q2 q3 q4 q5 s1 s2
                  go_wp2
                  go_roundw
                  case rel => exact ⟨j + r + 5, i + 1, i + 1, _, by go_num, by go_num, by go_num, by omega, Hcl2.out, Hin2, Hb2, hgr2⟩
                  case measure => simp [intOf]; omega
            · have t2 : ((d.toNat : Int) == 38) = false := by rw [beq_eq_false_iff_ne]; intro e; exact h38 (UInt8.toNat_inj.1 (by simp; omega))
              have Hin2 := hide (hin.out.plain hd (by unfold fX; rw [if_neg h60, if_neg h38]))
              clear hd h60 h38 hroom
              go_wp2
              go_roundw
              case rel => exact ⟨j, s, i + 1, cur, rfl, rfl, by go_num, by omega, Hcl.out, Hin2, hb, hgr⟩
              case measure => simp [intOf]; omega
        · obtain rfl : i = l.length := by omega
          have Hlast := hide hin.out.last
          rw [List.nil_append] at Hlast
          have hjx : (esc fX l).length = j + (l.length - s) := by
            have h3 := hin.out.jl
            have h4 := congrArg List.length hin.out.sec
            rw [List.length_append, sec_len hsi (Nat.le_refl _), List.take_length] at h4
            simp at h3
            omega
          obtain ⟨r, hr⟩ : ∃ r, r = l.length - s := ⟨_, rfl⟩
          rw [← hr] at hjx Hlast
          have Hjx := hide hjx
          have hjr : j + r ≤ l.length + x := by omega
          have HrunE := hide (run_hi8 (P := Try.prog) (A := some ⟨w.heap.size, 0, none⟩) 22 Try.underlying22 (by kernel_rfl) (l.length + x) (l.length + x) (j + r) ((j : Int) + (r : Int)) (by simp) (by omega) .i64)
          have HrunE0 := hide (run_hi8 (P := Try.prog) (A := some ⟨w.heap.size, 0, none⟩) 22 Try.underlying22 (by kernel_rfl) (l.length + x) (l.length + x) j (j : Int) rfl (by omega) .i64)
          clear hjx
          by_cases hsl : s = l.length
          · have hr0 : r = 0 := by omega
            subst hr0
            rw [Nat.add_zero] at Hlast Hjx
            rw [show l.drop s = [] from List.drop_of_length_le (by omega), put8_nil] at Hlast
            have Hbs := hide (hb.out.bs0 j)
            have Hg := hide (madeW_grown hgr)
            have Hrun0 := hide (fun (D B : Option Addr) (n c1 c2 : Nat) => run_put0 wr.drew D B n c1 c2)
            subst hsl
            clear hroom hr
            have HrunE1 := hide (run_hi8 (P := Try.prog) (A := some ⟨w.heap.size, 0, none⟩) 22 Try.underlying22 (by kernel_rfl) (l.length + x) (l.length + x) (l.length + x) ((l.length : Int) + (x : Int)) (by simp) (by omega) .i64)
            by_cases hjn : l.length + x = j
            · subst hjn
              go_wp2
              have q1 : (l.length : Int) + (x : Int) ≤ (l.length : Int) + (x : Int) := Int.le_refl _
              have q3 : 0 ≤ (l.length : Int) + (x : Int) := by omega
              have q4 : ((l.length : Int) + (x : Int)).toNat = l.length + x := by omega
              go_region_law ((with_reducible refine step_copy_runG (Hrun0.out (some ⟨w.heap.size, 0, none⟩) (some ⟨g0, 0, none⟩) 0 0 0) _ _ ?_ rfl rfl ?_ ?_ ?_); (rfl); (simp [Act.eval, Act.put]); (simp [Act.eval, Act.put]))
              all_goals
                clear q1 q3 q4
                go_wp2_with (first
                  | ((with_reducible refine wpList_slice_runO (HrunE0.out _) _ _ _ ?_ rfl ?_ ?_ ?_ ?_); (rfl); (rfl); (rfl); (rfl))
                  | ((with_reducible refine wpList_slice_runO (HrunE1.out _) _ _ _ ?_ rfl ?_ ?_ ?_ ?_); (rfl); (rfl); (rfl); (rfl)))
                go_ret2
                refine ⟨some ⟨w.heap.size, 0, none⟩, l.length + x, ?_, ?_, ?_, ?_⟩
                · rw [Hjx.out]; rfl
                · rw [← Hlast.out]; exact Hbs.out
                · rw [Hjx.out]; omega
                · exact ⟨Hg.out.os, Hg.out.tape, Hg.out.output, Hg.out.size, Hg.out.block⟩
            · skip
              go_wp2
              have q1 : (j : Int) ≤ (l.length : Int) + (x : Int) := by omega
              go_region_law ((with_reducible refine step_copy_runG (Hrun0.out (some ⟨w.heap.size, j, none⟩) (some ⟨g0, 0, none⟩) (l.length + x - j) (l.length + x - j) 0) _ _ ?_ rfl rfl ?_ ?_ ?_); (rfl); (simp [Act.eval, Act.put]); (simp [Act.eval, Act.put]))
              all_goals
                clear q1
                go_wp2_with (first
                  | ((with_reducible refine wpList_slice_runO (HrunE0.out _) _ _ _ ?_ rfl ?_ ?_ ?_ ?_); (rfl); (rfl); (rfl); (rfl))
                  | ((with_reducible refine wpList_slice_runO (HrunE1.out _) _ _ _ ?_ rfl ?_ ?_ ?_ ?_); (rfl); (rfl); (rfl); (rfl)))
                go_ret2
                refine ⟨some ⟨w.heap.size, 0, none⟩, l.length + x, ?_, ?_, ?_, ?_⟩
                · rw [Hjx.out]; rfl
                · rw [← Hlast.out]; exact Hbs.out
                · rw [Hjx.out]; omega
                · exact ⟨Hg.out.os, Hg.out.tape, Hg.out.output, Hg.out.size, Hg.out.block⟩
          · obtain ⟨w1, hrun1, hb1, hg1⟩ := run_put8 (w := wr.drew) (hb.out.drew) (hbs.cut rfl s).drew j (by rw [List.length_drop, Hcl.out]; omega) (l.length + x - j) (l.length - s) (l.length + x - j) (l.length - s) r (by rw [Hcl.out]) (by rw [List.length_drop]) hr
            rw [Nat.zero_add] at hrun1
            have Hrun1 := hide hrun1
            have Hbs := hide (hb1.bs0 (j + r))
            have g1 : (madeW w gp (l.length + x)).grownBy w1 (some w.heap.size) := World.grownBy.trans (b := wr.drew) ⟨hgr.os, hgr.tape, hgr.output, hgr.size, hgr.block⟩ hg1
            have Hg := hide (madeW_grown g1)
            have s1 : IntKind.i64.wrap ((j : Int) + (r : Int)) = (j : Int) + (r : Int) := IntWalk.i64_in _ (by omega)
            have S := hide s1
            have hjn : j < l.length + x := by omega
            clear s1 hr hrun1 hb1 hg1 g1 hroom
            go_wp2
            have s1 := S.out
            have q1 : (j : Int) ≤ (l.length : Int) + (x : Int) := by omega
            have q2 : ¬ l.length + x = j := by omega
            have q3 : ¬ l.length = s := by omega
            go_region_law ((with_reducible refine step_copy_runG Hrun1.out _ _ ?_ rfl rfl ?_ ?_ ?_); (rfl); (simp [Act.eval, Act.put]); (simp [Act.eval, Act.put]))
            all_goals
              clear q1 q2 q3 s1
              go_wp2_with ((with_reducible refine wpList_slice_runO (HrunE.out _) _ _ _ ?_ rfl ?_ ?_ ?_ ?_); (rfl); (rfl); (rfl); (rfl))
              go_ret2
              refine ⟨some ⟨w.heap.size, 0, none⟩, l.length + x, ?_, ?_, ?_, Hg.out⟩
              · rw [Hjx.out]; rfl
              · rw [← Hlast.out]; exact Hbs.out
              · rw [Hjx.out]; omega
end Go.Proofs.Ytfelfbgppkiimaa
