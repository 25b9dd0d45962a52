/- The lexer of CSS, step by step (part 5; printed by gen_css.py). Conditions: as for its first steps. -/
import Derived.Test.YtngmdgefecebmaaDoorLxB
import Derived.Deep.DeepCutAuto
namespace Go.Proofs.YtngmdgefecebmaaDoor
open Go.RowKit
set_option linter.unusedVariables false
set_option linter.unusedSimpArgs false
section
variable {w w' : World} {gl g c pos start : Nat} {A : Option Addr} {l : List UInt8}
set_option maxRecDepth 100000 in
set_option maxHeartbeats 4000000 in
theorem numbertoken_eats (h : Lx w gl g A c l pos start) :
    Calls Tryd.prog 38 #[.pointer (some ⟨gl, 0, none⟩)] w (Eats gl g A c l pos start w) := by
  have c0 := h.cell
  have np := h.np
  have sp := h.sp
  have hL := h
  have hG := World.grownBy.refl w (some g)
  clear h
  go_enter Tryd.func38, Tryd.ntmps38
  go_upto_region 3 with (first
    | (go_at_call 34; (with_reducible refine (lpos hL).mono ?_); rintro e w2 ⟨rfl, n2, rfl⟩; replace hG := hG.trans (grown_drewN _ n2 (some g)); replace hL := hL.drewN n2; have c0 := hL.cell)
    | (go_at_call 16; (with_reducible refine (lpeek0 hL (by have := hL.np; first | omega | ((try unfold Seen at *); (try simp only [beq_iff_eq, beq_eq_false_iff_ne, bne_iff_ne, bne_eq_false_iff_eq, ne_eq, Bool.or_eq_true] at *); omega))).mono ?_); rintro e w2 ⟨x0, rfl, hs0, rfl⟩))
  go_cut [4, 21] from 7 (fun xv sv wx => ∃ (y : Int) (b : Bool), xv = .int .u8 y ∧ sv = .bool b ∧ (b = true → pos + 1 ≤ l.length) ∧ Lx wx gl g A c l (pos) start ∧ w.grownBy wx (some g))
  case first =>
    go_wp2_with fail
    all_goals (go_meet; exact ⟨_, _, rfl, rfl, by first | (intro h; cases h; done) | (intro _; unfold Seen at *; omega) | (intro hh; (try simp at hh); unfold Seen at *; (try simp only [beq_iff_eq, beq_eq_false_iff_ne, bne_iff_ne, bne_eq_false_iff_eq, ne_eq, Bool.or_eq_true] at *); omega), hL, hG⟩)
  case rest =>
    obtain ⟨y, b, rfl, rfl, hb, hL, hG⟩ := hcut
    have c0 := hL.cell
    have hlp := hL.np
    go_upto_if 21 with fail
    go_cut [] from 7 (fun wx => ∃ q : Nat, pos ≤ q ∧ Lx wx gl g A c l q start ∧ w.grownBy wx (some g))
    case first =>
      cases b
      · go_wp2_with fail
        all_goals (go_meet; exact ⟨_, by omega, hL, hG⟩)
      · have hb1 := hb rfl
        go_wp2_with (first
          | (go_at_call 17; (with_reducible refine (lmove1 hL (by have := hL.np; first | omega | ((try unfold Seen at *); (try simp only [beq_iff_eq, beq_eq_false_iff_ne, bne_iff_ne, bne_eq_false_iff_eq, ne_eq, Bool.or_eq_true] at *); omega))).mono ?_); rintro e w2 ⟨rfl, hL, hg⟩; replace hG := hG.trans hg; have c0 := hL.cell))
        all_goals (go_meet; exact ⟨_, by omega, hL, hG⟩)
    case rest =>
      obtain ⟨q, hq, hL, hG⟩ := hcut
      have c0 := hL.cell
      have hlp := hL.np
      go_upto_region 5 with fail
      clear hb
      go_cut [5] from 7 (fun v wx => ∃ (b : Bool) (q2 : Nat), v = .bool b ∧ q ≤ q2 ∧ (b = true → pos < q2) ∧ Lx wx gl g A c l q2 start ∧ w.grownBy wx (some g))
      case first =>
        go_wp2_with (first
          | (go_at_call 49; (with_reducible refine ((two (digit_eats hL)).mono ?_)); rintro e w2 (⟨rfl, hL, hg⟩ | ⟨p2, ht2, rfl, hL, hg⟩); all_goals (replace hG := hG.trans hg; have c0 := hL.cell; have hle := hL.np)))
        all_goals (go_meet; exact ⟨_, _, rfl, by omega, fun h => by first | (cases h; done) | omega, hL, hG⟩)
      case rest =>
        obtain ⟨b, q2, rfl, hq2, hb, hL, hG⟩ := hcut
        have c0 := hL.cell
        have hlq2 := hL.np
        go_upto_if 29 with fail
        go_cut [] from 7 (fun wx => ∃ q3 : Nat, q ≤ q3 ∧ (b = true → pos < q3) ∧ Lx wx gl g A c l q3 start ∧ w.grownBy wx (some g))
        case first =>
          cases b
          · go_wp2_with fail
            go_meet
            exact ⟨_, hq2, (fun h => by cases h), hL, hG⟩
          · have hb2 := hb rfl
            clear hb
            go_wp2_with fail
            go_loopg [] (l.length) (fun gk wr => ∃ p : Nat, l.length - p ≤ gk ∧ Lx wr gl g A c l p start ∧ w.grownBy wr (some g) ∧ q2 ≤ p)
            case atStart => exact ⟨_, by omega, hL, hG, by omega⟩
            case round =>
              obtain ⟨p, hgk, hL, hG, hp⟩ := hrel
              have c0 := hL.cell
              have hlp := hL.np
              go_wp2_with (first
                | (go_at_call 49; (with_reducible refine ((two (digit_eats hL)).mono ?_)); rintro e w2 (⟨rfl, hL, hg⟩ | ⟨p2, ht2, rfl, hL, hg⟩); all_goals (replace hG := hG.trans hg; have c0 := hL.cell; have hle := hL.np)))
              all_goals first
                | (go_meet; exact ⟨_, by omega, (fun _ => by omega), hL, hG⟩)
                | (go_roundg (l.length - (p2)); (case rel => exact ⟨_, Nat.le_refl _, hL, hG, by omega⟩); (case measure => (have := hL.np; omega)))
        case rest =>
          obtain ⟨q3, hq3, hb3, hL, hG⟩ := hcut
          have c0 := hL.cell
          have hlp := hL.np
          clear hb
          have hb := hb3
          go_upto_if 37 with (first
            | (go_at_call 16; (with_reducible refine (lpeek0 hL (by have := hL.np; first | omega | ((try unfold Seen at *); (try simp only [beq_iff_eq, beq_eq_false_iff_ne, bne_iff_ne, bne_eq_false_iff_eq, ne_eq, Bool.or_eq_true] at *); omega))).mono ?_); rintro e w2 ⟨x0, rfl, hs0, rfl⟩))
          go_cut [] from 7 (fun wx => ∃ q4 : Nat, pos < q4 ∧ Lx wx gl g A c l q4 start ∧ w.grownBy wx (some g))
          case first =>
            cases b
            · have hb2 := trivial
              clear hb
              go_wp2_with (first
                | (go_at_call 17; (with_reducible refine (lmove1 hL (by have := hL.np; first | omega | ((try unfold Seen at *); (try simp only [beq_iff_eq, beq_eq_false_iff_ne, bne_iff_ne, bne_eq_false_iff_eq, ne_eq, Bool.or_eq_true] at *); omega))).mono ?_); rintro e w2 ⟨rfl, hL, hg⟩; replace hG := hG.trans hg; have c0 := hL.cell)
                | (go_at_call 49; (with_reducible refine ((two (digit_eats hL)).mono ?_)); rintro e w2 (⟨rfl, hL, hg⟩ | ⟨p2, ht2, rfl, hL, hg⟩); all_goals (replace hG := hG.trans hg; have c0 := hL.cell; have hle := hL.np))
                | (go_at_call 17; (with_reducible refine (lback hL (by omega)).mono ?_); rintro e w2 ⟨rfl, hL, hg⟩; replace hG := hG.trans hg; have c0 := hL.cell)
                | (go_at_call 36; (with_reducible refine (lrewind pos _ hL (by omega) (by omega) (by omega)).mono ?_); rintro e w2 ⟨rfl, hL, hg⟩; replace hG := hG.trans hg; have c0 := hL.cell))
              all_goals first
                | (go_ret; exact ⟨_, _, rfl, hL, hG, fun h => by first | (cases h; done) | rfl | omega, fun h => by first | (cases h; done) | omega⟩)
                | (go_meet; exact ⟨_, by omega, hL, hG⟩)
                | skip
              go_loopg [] (l.length) (fun gk wr => ∃ p : Nat, l.length - p ≤ gk ∧ Lx wr gl g A c l p start ∧ w.grownBy wr (some g) ∧ q3 < p)
              case atStart => exact ⟨_, by omega, hL, hG, by omega⟩
              case round =>
                obtain ⟨p, hgk, hL, hG, hp⟩ := hrel
                have c0 := hL.cell
                have hlp := hL.np
                go_wp2_with (first
                  | (go_at_call 49; (with_reducible refine ((two (digit_eats hL)).mono ?_)); rintro e w2 (⟨rfl, hL, hg⟩ | ⟨p2, ht2, rfl, hL, hg⟩); all_goals (replace hG := hG.trans hg; have c0 := hL.cell; have hle := hL.np)))
                all_goals first
                  | (go_meet; exact ⟨_, by omega, hL, hG⟩)
                  | (go_roundg (l.length - (p2)); (case rel => exact ⟨_, Nat.le_refl _, hL, hG, by omega⟩); (case measure => (have := hL.np; omega)))
            · have hb2 := hb rfl
              clear hb
              go_wp2_with (first
                | (go_at_call 17; (with_reducible refine (lmove1 hL (by have := hL.np; first | omega | ((try unfold Seen at *); (try simp only [beq_iff_eq, beq_eq_false_iff_ne, bne_iff_ne, bne_eq_false_iff_eq, ne_eq, Bool.or_eq_true] at *); omega))).mono ?_); rintro e w2 ⟨rfl, hL, hg⟩; replace hG := hG.trans hg; have c0 := hL.cell)
                | (go_at_call 49; (with_reducible refine ((two (digit_eats hL)).mono ?_)); rintro e w2 (⟨rfl, hL, hg⟩ | ⟨p2, ht2, rfl, hL, hg⟩); all_goals (replace hG := hG.trans hg; have c0 := hL.cell; have hle := hL.np))
                | (go_at_call 17; (with_reducible refine (lback hL (by omega)).mono ?_); rintro e w2 ⟨rfl, hL, hg⟩; replace hG := hG.trans hg; have c0 := hL.cell)
                | (go_at_call 36; (with_reducible refine (lrewind pos _ hL (by omega) (by omega) (by omega)).mono ?_); rintro e w2 ⟨rfl, hL, hg⟩; replace hG := hG.trans hg; have c0 := hL.cell))
              all_goals first
                | (go_ret; exact ⟨_, _, rfl, hL, hG, fun h => by first | (cases h; done) | rfl | omega, fun h => by first | (cases h; done) | omega⟩)
                | (go_meet; exact ⟨_, by omega, hL, hG⟩)
                | skip
              go_loopg [] (l.length) (fun gk wr => ∃ p : Nat, l.length - p ≤ gk ∧ Lx wr gl g A c l p start ∧ w.grownBy wr (some g) ∧ q3 < p)
              case atStart => exact ⟨_, by omega, hL, hG, by omega⟩
              case round =>
                obtain ⟨p, hgk, hL, hG, hp⟩ := hrel
                have c0 := hL.cell
                have hlp := hL.np
                go_wp2_with (first
                  | (go_at_call 49; (with_reducible refine ((two (digit_eats hL)).mono ?_)); rintro e w2 (⟨rfl, hL, hg⟩ | ⟨p2, ht2, rfl, hL, hg⟩); all_goals (replace hG := hG.trans hg; have c0 := hL.cell; have hle := hL.np)))
                all_goals first
                  | (go_meet; exact ⟨_, by omega, hL, hG⟩)
                  | (go_roundg (l.length - (p2)); (case rel => exact ⟨_, Nat.le_refl _, hL, hG, by omega⟩); (case measure => (have := hL.np; omega)))
          case rest =>
            obtain ⟨q4, hq4, hL, hG⟩ := hcut
            have c0 := hL.cell
            have hlp := hL.np
            clear hb
            go_upto_region 22 with (first
              | (go_at_call 34; (with_reducible refine (lpos hL).mono ?_); rintro e w2 ⟨rfl, n2, rfl⟩; replace hG := hG.trans (grown_drewN _ n2 (some g)); replace hL := hL.drewN n2; have c0 := hL.cell)
              | (go_at_call 16; (with_reducible refine (lpeek0 hL (by have := hL.np; first | omega | ((try unfold Seen at *); (try simp only [beq_iff_eq, beq_eq_false_iff_ne, bne_iff_ne, bne_eq_false_iff_eq, ne_eq, Bool.or_eq_true] at *); omega))).mono ?_); rintro e w2 ⟨x0, rfl, hs0, rfl⟩))
            go_cut [4, 82] from 7 (fun xv sv wx => ∃ (y : Int) (b : Bool), xv = .int .u8 y ∧ sv = .bool b ∧ (b = true → q4 + 1 ≤ l.length) ∧ Lx wx gl g A c l (q4) start ∧ w.grownBy wx (some g))
            case first =>
              go_wp2_with fail
              all_goals (go_meet; exact ⟨_, _, rfl, rfl, by first | (intro h; cases h; done) | (intro _; unfold Seen at *; omega) | (intro hh; (try simp at hh); unfold Seen at *; (try simp only [beq_iff_eq, beq_eq_false_iff_ne, bne_iff_ne, bne_eq_false_iff_eq, ne_eq, Bool.or_eq_true] at *); omega), hL, hG⟩)
            case rest =>
              obtain ⟨y, b, rfl, rfl, hb, hL, hG⟩ := hcut
              have c0 := hL.cell
              have hlp := hL.np
              cases b
              · go_wp2_with fail
                all_goals (go_ret; exact ⟨_, _, rfl, hL, hG, fun h => by first | (cases h; done) | rfl | omega, fun h => by first | (cases h; done) | omega⟩)
              · have hb1 := hb rfl
                clear hb
                go_upto_region 25 with (first
                  | (go_at_call 17; (with_reducible refine (lmove1 hL (by have := hL.np; first | omega | ((try unfold Seen at *); (try simp only [beq_iff_eq, beq_eq_false_iff_ne, bne_iff_ne, bne_eq_false_iff_eq, ne_eq, Bool.or_eq_true] at *); omega))).mono ?_); rintro e w2 ⟨rfl, hL, hg⟩; replace hG := hG.trans hg; have c0 := hL.cell)
                  | (go_at_call 16; (with_reducible refine (lpeek0 hL (by have := hL.np; first | omega | ((try unfold Seen at *); (try simp only [beq_iff_eq, beq_eq_false_iff_ne, bne_iff_ne, bne_eq_false_iff_eq, ne_eq, Bool.or_eq_true] at *); omega))).mono ?_); rintro e w2 ⟨x0, rfl, hs0, rfl⟩))
                go_cut [4, 98] from 7 (fun xv sv wx => ∃ (y : Int) (b : Bool), xv = .int .u8 y ∧ sv = .bool b ∧ (b = true → q4 + 1 + 1 ≤ l.length) ∧ Lx wx gl g A c l (q4 + 1) start ∧ w.grownBy wx (some g))
                case first =>
                  go_wp2_with fail
                  all_goals (go_meet; exact ⟨_, _, rfl, rfl, by first | (intro h; cases h; done) | (intro _; unfold Seen at *; omega) | (intro hh; (try simp at hh); unfold Seen at *; (try simp only [beq_iff_eq, beq_eq_false_iff_ne, bne_iff_ne, bne_eq_false_iff_eq, ne_eq, Bool.or_eq_true] at *); omega), hL, hG⟩)
                case rest =>
                  obtain ⟨y, b, rfl, rfl, hb, hL, hG⟩ := hcut
                  have c0 := hL.cell
                  have hlp := hL.np
                  go_upto_if 98 with fail
                  go_cut [] from 7 (fun wx => ∃ q5 : Nat, q4 ≤ q5 ∧ Lx wx gl g A c l q5 start ∧ w.grownBy wx (some g))
                  case first =>
                    cases b
                    · go_wp2_with fail
                      all_goals (go_meet; exact ⟨_, by omega, hL, hG⟩)
                    · have hb1 := hb rfl
                      go_wp2_with (first
                        | (go_at_call 17; (with_reducible refine (lmove1 hL (by have := hL.np; first | omega | ((try unfold Seen at *); (try simp only [beq_iff_eq, beq_eq_false_iff_ne, bne_iff_ne, bne_eq_false_iff_eq, ne_eq, Bool.or_eq_true] at *); omega))).mono ?_); rintro e w2 ⟨rfl, hL, hg⟩; replace hG := hG.trans hg; have c0 := hL.cell))
                      all_goals (go_meet; exact ⟨_, by omega, hL, hG⟩)
                  case rest =>
                    obtain ⟨q5, hq5, hL, hG⟩ := hcut
                    have c0 := hL.cell
                    have hlp := hL.np
                    go_wp2_with (first
                      | (go_at_call 49; (with_reducible refine ((two (digit_eats hL)).mono ?_)); rintro e w2 (⟨rfl, hL, hg⟩ | ⟨p2, ht2, rfl, hL, hg⟩); all_goals (replace hG := hG.trans hg; have c0 := hL.cell; have hle := hL.np))
                      | (go_at_call 36; (with_reducible refine (lrewind q4 _ hL (by omega) (by omega) (by omega)).mono ?_); rintro e w2 ⟨rfl, hL, hg⟩; replace hG := hG.trans hg; have c0 := hL.cell))
                    all_goals first
                      | (go_ret; exact ⟨_, _, rfl, hL, hG, fun h => by first | (cases h; done) | rfl | omega, fun h => by first | (cases h; done) | omega⟩)
                      | skip
                    go_loopg [] (l.length) (fun gk wr => ∃ p : Nat, l.length - p ≤ gk ∧ Lx wr gl g A c l p start ∧ w.grownBy wr (some g) ∧ q4 < p)
                    case atStart => exact ⟨_, by omega, hL, hG, by omega⟩
                    case round =>
                      obtain ⟨p, hgk, hL, hG, hp⟩ := hrel
                      have c0 := hL.cell
                      have hlp := hL.np
                      go_wp2_with (first
                        | (go_at_call 49; (with_reducible refine ((two (digit_eats hL)).mono ?_)); rintro e w2 (⟨rfl, hL, hg⟩ | ⟨p2, ht2, rfl, hL, hg⟩); all_goals (replace hG := hG.trans hg; have c0 := hL.cell; have hle := hL.np)))
                      all_goals first
                        | (go_ret; exact ⟨_, _, rfl, hL, hG, fun h => by first | (cases h; done) | rfl | omega, fun h => by first | (cases h; done) | omega⟩)
                        | (go_roundg (l.length - (p2)); (case rel => exact ⟨_, Nat.le_refl _, hL, hG, by omega⟩); (case measure => (have := hL.np; omega)))
end
end Go.Proofs.YtngmdgefecebmaaDoor
